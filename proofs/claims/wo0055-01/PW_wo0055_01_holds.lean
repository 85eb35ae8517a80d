import PyProof.Rows.All
import Wide.All
import OpenK.AllK
import Wide.FinOn
import Lean
import PySem.Challenge.RW_wo0055_01
open PySem PySem.W PyProof.Rows
set_option Elab.async false
set_option maxRecDepth 100000
set_option linter.unusedVariables false
set_option linter.unusedSimpArgs false
set_option linter.unusedSectionVars false
set_option maxHeartbeats 200000
namespace Mine

structure Cx where
  prog : Program
  w : World
  K : Frag
  mg : Str → Option Value
  mb : Str → Option Value

abbrev vis (h : Heap) (P : List Addr) : Heap := hideAll h P

theorem vis_get {h : Heap} {P : List Addr} {b : Addr} {o : Obj} : (vis h P).get? b = some o ↔ h.get? b = some o ∧ b ∉ P := by
  constructor
  · intro e
    refine ⟨of_hideAll P e, fun hm => ?_⟩
    have := hideAll_none (h := h) P hm
    rw [this] at e; cases e
  · rintro ⟨e, n⟩; exact hideAll_get P e n

structure Sx (c : Cx) (P : List Addr) (h : Heap) : Prop where
  g : (vis h P).Ns mainGlobals c.mg
  b : (vis h P).Ns builtinsNs c.mb
  lim : (vis h P).NoLimit
  k : c.K.In (vis h P)
  ex : ∀ p ∈ P, ∃ o, h.get? p = some o

structure Ext (P : List Addr) (s s' : Shared) : Prop where
  keep : ∀ b o, b ∉ P → s.heap.get? b = some o → s'.heap.get? b = some o
  priv : ∀ b o, s.heap.get? b = some o → ∃ sl, s'.heap.get? b = some { o with slots := sl }
  rest : ∀ b o, (∀ es n, o.data ≠ .dict es n) → s.heap.get? b = some o → s'.heap.get? b = some o
  gens : s'.gens = s.gens
  os : s'.os = s.os

theorem Ext.refl (P : List Addr) (s : Shared) : Ext P s s := ⟨fun _ _ _ e => e, fun _ o e => ⟨o.slots, e⟩, fun _ _ _ e => e, rfl, rfl⟩
theorem Ext.trans {P : List Addr} {a b c : Shared} (x : Ext P a b) (y : Ext P b c) : Ext P a c where
  keep := fun q o n e => y.keep q o n (x.keep q o n e)
  priv := fun q o e => by
    obtain ⟨sl, e1⟩ := x.priv q o e
    obtain ⟨sl2, e2⟩ := y.priv q _ e1
    exact ⟨sl2, e2⟩
  rest := fun q o n e => y.rest q o n (x.rest q o n e)
  gens := y.gens.trans x.gens
  os := y.os.trans x.os
theorem Ext.of_keeps {P : List Addr} {s s' : Shared} (k : ∀ b o, s.heap.get? b = some o → s'.heap.get? b = some o) (g : s'.gens = s.gens) (os : s'.os = s.os) : Ext P s s' :=
  ⟨fun b o _ e => k b o e, fun b o e => ⟨o.slots, k b o e⟩, fun b o _ e => k b o e, g, os⟩
theorem Ext.toks {P : List Addr} {s : Shared} {tk : Nat} : Ext P s { s with toks := tk } := .of_keeps (fun _ _ e => e) rfl rfl
theorem Ext.push {P : List Addr} {s : Shared} (o : Obj) : Ext P s { s with heap := s.heap.push o } := .of_keeps (fun _ _ e => Heap.get?_push_of_some _ e) rfl rfl

theorem Ext.vis {P : List Addr} {s s' : Shared} (x : Ext P s s') : ∀ b o, (vis s.heap P).get? b = some o → (vis s'.heap P).get? b = some o := fun b o e => by
  obtain ⟨e, n⟩ := vis_get.mp e
  exact vis_get.mpr ⟨x.keep b o n e, n⟩

theorem Sx.ext {c : Cx} {P : List Addr} {s s' : Shared} (x : Sx c P s.heap) (e : Ext P s s') : Sx c P s'.heap where
  g := x.g.keeps e.vis
  b := x.b.keeps e.vis
  lim := x.lim.keeps e.vis
  k := x.k.keeps e.vis
  ex := fun p hp => by
    obtain ⟨o, ho⟩ := x.ex p hp
    obtain ⟨sl, h⟩ := e.priv p o ho
    exact ⟨_, h⟩
theorem Sx.here {c : Cx} {P : List Addr} {h : Heap} (x : Sx c P h) : ∀ b o, (vis h P).get? b = some o → h.get? b = some o := fun _ _ e => of_hideAll P e
theorem Sx.limit {c : Cx} {P : List Addr} {h : Heap} (x : Sx c P h) : h.NoLimit := x.lim.keeps x.here
theorem Sx.lt {c : Cx} {P : List Addr} {h : Heap} (x : Sx c P h) : ∀ p ∈ P, p < h.objs.size := fun p hp => by
  obtain ⟨o, ho⟩ := x.ex p hp; exact Heap.lt_size ho

/-- v reads d in the visible part -/
def Rd (h : Heap) (P : List Addr) (v : Value) (d : PyData) : Prop := ∃ as, Reads (vis h P) v d as
def RdAll (h : Heap) (P : List Addr) (vs : List Value) (ds : List PyData) : Prop := ∃ as, ReadsAll (vis h P) vs ds as

theorem Rd.mono {h h' : Heap} {P P' : List Addr} {v : Value} {d : PyData} (r : Rd h P v d) (k : ∀ b o, (vis h P).get? b = some o → (vis h' P').get? b = some o) : Rd h' P' v d := by
  obtain ⟨as, r⟩ := r; exact ⟨as, PyProof.Rows.Reads.keeps k r⟩
theorem RdAll.mono {h h' : Heap} {P P' : List Addr} {v : List Value} {d : List PyData} (r : RdAll h P v d) (k : ∀ b o, (vis h P).get? b = some o → (vis h' P').get? b = some o) : RdAll h' P' v d := by
  obtain ⟨as, r⟩ := r; exact ⟨as, PyProof.Rows.ReadsAll.keeps k r⟩
theorem Rd.ext {s s' : Shared} {P : List Addr} {v : Value} {d : PyData} (r : Rd s.heap P v d) (e : Ext P s s') : Rd s'.heap P v d := r.mono e.vis
theorem RdAll.ext {s s' : Shared} {P : List Addr} {v : List Value} {d : List PyData} (r : RdAll s.heap P v d) (e : Ext P s s') : RdAll s'.heap P v d := r.mono e.vis
theorem RdAll.nil {h : Heap} {P : List Addr} : RdAll h P [] [] := ⟨_, .nil⟩
theorem RdAll.cons {h : Heap} {P : List Addr} {v : Value} {d : PyData} {vs : List Value} {ds : List PyData} (a : Rd h P v d) (b : RdAll h P vs ds) : RdAll h P (v :: vs) (d :: ds) := by
  obtain ⟨as, a⟩ := a; obtain ⟨bs, b⟩ := b; exact ⟨_, .cons a b⟩
theorem RdAll.cons_inv {h : Heap} {P : List Addr} {vs : List Value} {d : PyData} {ds : List PyData} (a : RdAll h P vs (d :: ds)) : ∃ v vs', vs = v :: vs' ∧ Rd h P v d ∧ RdAll h P vs' ds := by
  obtain ⟨as, a⟩ := a
  cases a with
  | cons a b => exact ⟨_, _, rfl, ⟨_, a⟩, ⟨_, b⟩⟩
theorem RdAll.nil_inv {h : Heap} {P : List Addr} {vs : List Value} (a : RdAll h P vs []) : vs = [] := by
  obtain ⟨as, a⟩ := a
  cases a; rfl
theorem RdAll.len {h : Heap} {P : List Addr} {vs : List Value} {ds : List PyData} (a : RdAll h P vs ds) : vs.length = ds.length := by
  obtain ⟨as, a⟩ := a
  exact SeqAt.ReadsAll.length _ _ _ a
theorem RdAll.append {h : Heap} {P : List Addr} : ∀ {vs ws : List Value} {ds es : List PyData}, RdAll h P vs ds → RdAll h P ws es → RdAll h P (vs ++ ws) (ds ++ es)
  | vs, _, [], _, a, b => by rw [a.nil_inv]; exact b
  | vs, _, d :: ds, _, a, b => by
    obtain ⟨v, vs', rfl, x, y⟩ := a.cons_inv
    exact .cons x (y.append b)
theorem RdAll.get {h : Heap} {P : List Addr} : ∀ {vs : List Value} {ds : List PyData}, RdAll h P vs ds → ∀ (i : Nat) {d : PyData}, ds[i]? = some d → ∃ v, vs[i]? = some v ∧ Rd h P v d
  | vs, [], a, i, d, e => by simp at e
  | vs, x :: ds, a, i, d, e => by
    obtain ⟨v, vs', rfl, x, y⟩ := a.cons_inv
    cases i with
    | zero => simp at e; subst e; exact ⟨v, by simp, x⟩
    | succ i => simp at e; obtain ⟨u, h1, h2⟩ := y.get i e; exact ⟨u, by simpa using h1, h2⟩
theorem RdAll.get' {h : Heap} {P : List Addr} : ∀ {vs : List Value} {ds : List PyData}, RdAll h P vs ds → ∀ (i : Nat) {v : Value}, vs[i]? = some v → ∃ d, ds[i]? = some d ∧ Rd h P v d
  | vs, [], a, i, d, e => by rw [a.nil_inv] at e; simp at e
  | vs, x :: ds, a, i, d, e => by
    obtain ⟨v, vs', rfl, x, y⟩ := a.cons_inv
    cases i with
    | zero => simp at e; subst e; exact ⟨_, by simp, x⟩
    | succ i => simp at e; obtain ⟨u, h1, h2⟩ := y.get' i e; exact ⟨u, by simpa using h1, h2⟩

theorem Rd.int {h : Heap} {P : List Addr} (i : Int) (t : Tok) : Rd h P (.int i t) (.int i) := ⟨_, .int i t⟩
theorem Rd.str {h : Heap} {P : List Addr} (x : Str) (t : Tok) : Rd h P (.str x t) (.str x) := ⟨_, .str x t⟩
theorem Rd.bool {h : Heap} {P : List Addr} (b : Bool) : Rd h P (.bool b) (.bool b) := ⟨_, .bool b⟩
theorem Rd.noneR {h : Heap} {P : List Addr} : Rd h P .none .none := ⟨_, .none⟩
theorem Rd.int_inv {h : Heap} {P : List Addr} {v : Value} {i : Int} (r : Rd h P v (.int i)) : ∃ t, v = .int i t := by
  obtain ⟨as, r⟩ := r; cases r; exact ⟨_, rfl⟩
theorem Rd.str_inv {h : Heap} {P : List Addr} {v : Value} {x : Str} (r : Rd h P v (.str x)) : ∃ t, v = .str x t := by
  obtain ⟨as, r⟩ := r; cases r; exact ⟨_, rfl⟩
theorem Rd.bool_inv {h : Heap} {P : List Addr} {v : Value} {b : Bool} (r : Rd h P v (.bool b)) : v = .bool b := by
  obtain ⟨as, r⟩ := r; cases r; rfl
theorem Rd.none_inv {h : Heap} {P : List Addr} {v : Value} (r : Rd h P v .none) : v = .none := by
  obtain ⟨as, r⟩ := r; cases r; rfl
theorem Rd.list_inv {h : Heap} {P : List Addr} {v : Value} {ds : List PyData} (r : Rd h P v (.list ds)) : ∃ a vs, v = .ref a ∧ (vis h P).IsList a vs ∧ RdAll h P vs.toList ds := by
  obtain ⟨as, r⟩ := r
  cases r with
  | list h1 h2 h3 h4 => exact ⟨_, _, rfl, ⟨_, h1, h2, _, h3⟩, ⟨_, h4⟩⟩
theorem Rd.tuple_inv {h : Heap} {P : List Addr} {v : Value} {ds : List PyData} (r : Rd h P v (.tuple ds)) : ∃ a vs, v = .ref a ∧ (vis h P).IsTuple a vs ∧ RdAll h P vs.toList ds := by
  obtain ⟨as, r⟩ := r
  cases r with
  | tuple h1 h2 h3 h4 => exact ⟨_, _, rfl, ⟨_, h1, h2, _, h3⟩, ⟨_, h4⟩⟩
theorem Rd.list {h : Heap} {P : List Addr} {a : Addr} {vs : Array Value} {ds : List PyData} (l : (vis h P).IsList a vs) (r : RdAll h P vs.toList ds) : Rd h P (.ref a) (.list ds) := by
  obtain ⟨o, h1, h2, n, h3⟩ := l
  obtain ⟨as, r⟩ := r
  exact ⟨_, .list h1 h2 h3 r⟩
theorem Rd.tuple {h : Heap} {P : List Addr} {a : Addr} {vs : Array Value} {ds : List PyData} (l : (vis h P).IsTuple a vs) (r : RdAll h P vs.toList ds) : Rd h P (.ref a) (.tuple ds) := by
  obtain ⟨o, h1, h2, n, h3⟩ := l
  obtain ⟨as, r⟩ := r
  exact ⟨_, .tuple h1 h2 h3 r⟩
theorem isList_of_vis {h : Heap} {P : List Addr} {a : Addr} {vs : Array Value} (l : (vis h P).IsList a vs) : h.IsList a vs := by
  obtain ⟨o, h1, r⟩ := l; exact ⟨o, of_hideAll P h1, r⟩
theorem isTuple_of_vis {h : Heap} {P : List Addr} {a : Addr} {vs : Array Value} (l : (vis h P).IsTuple a vs) : h.IsTuple a vs := by
  obtain ⟨o, h1, r⟩ := l; exact ⟨o, of_hideAll P h1, r⟩
theorem Rd.here {h : Heap} {P : List Addr} {v : Value} {d : PyData} (r : Rd h P v d) : ∃ as, Reads h v d as := by
  obtain ⟨as, r⟩ := r; exact ⟨as, PyProof.Rows.Reads.keeps (fun _ _ e => of_hideAll P e) r⟩

/-- a new object, pushed -/
theorem vis_push {c : Cx} {P : List Addr} {h : Heap} (x : Sx c P h) {o : Obj} (ho : o.isFreed = false) : (vis (h.push o) P).get? h.objs.size = some o :=
  vis_get.mpr ⟨Heap.get?_push_size _ ho, fun hm => Nat.lt_irrefl _ (x.lt _ hm)⟩

abbrev Tab := List (Str × NameKind)
abbrev Vars := List (Str × PyData)

def Look (h : Heap) (env : Env) (x : Str) (v : Value) : Prop :=
  (env.kindOf x = some .local ∧ ∃ m, h.Ns env.locals m ∧ m x = some v) ∨
  ((env.kindOf x = some .cell ∨ env.kindOf x = some .free) ∧ ∃ a, env.cells.lookup x = some a ∧ h.IsCell a (some v))

def Frs (A : Around) (P : List Addr) (h : Heap) : Prop :=
  ∃ l, A.frames = some l ∧ ∀ env ∈ l, env.scope.kind ≠ .module ∧ ∃ L o, env.frame = some L ∧ L ∈ P ∧ h.get? L = some o ∧ ∃ es n, o.data = .dict es n

structure Go (c : Cx) (m : Nat) (A : Around) (P : List Addr) (s : Shared) : Prop where
  sx : Sx c P s.heap
  hd : A.handled = none
  depth : A.depth + m < 1000
  units : A.units + 8 * m + 200 < 9900
  frs : Frs A P s.heap

structure Fx (c : Cx) (m : Nat) (A : Around) (P : List Addr) (T : Tab) (env : Env) (ρ : Vars) (s : Shared) : Prop extends Go c m A P s where
  vars : ∀ p ∈ ρ, ∃ v, Look s.heap env p.1 v ∧ Rd s.heap P v p.2
  tab : env.scope.names = T
  kind : env.scope.kind = .function
  gl : env.globals = mainGlobals
  bl : env.builtins = builtinsNs

theorem ns_priv {P : List Addr} {s s' : Shared} (e : Ext P s s') {a : Addr} {m : Str → Option Value} (h : s.heap.Ns a m) : s'.heap.Ns a m := by
  obtain ⟨o, es, ep, h1, h2, h3⟩ := h
  obtain ⟨sl, h4⟩ := e.priv a o h1
  exact ⟨_, es, ep, h4, h2, h3⟩
theorem cell_priv {P : List Addr} {s s' : Shared} (e : Ext P s s') {a : Addr} {v : Option Value} (h : s.heap.IsCell a v) : s'.heap.IsCell a v := by
  obtain ⟨o, h1, h2⟩ := h
  obtain ⟨sl, h4⟩ := e.priv a o h1
  exact ⟨_, h4, h2⟩
theorem list_priv {P : List Addr} {s s' : Shared} (e : Ext P s s') {a : Addr} {v : Array Value} (h : s.heap.IsList a v) : s'.heap.IsList a v := by
  obtain ⟨o, h1, h2⟩ := h
  obtain ⟨sl, h4⟩ := e.priv a o h1
  exact ⟨_, h4, h2⟩
theorem Look.ext {P : List Addr} {s s' : Shared} (e : Ext P s s') {env : Env} {x : Str} {v : Value} (h : Look s.heap env x v) : Look s'.heap env x v := by
  rcases h with ⟨k, m, n, q⟩ | ⟨k, a, n, q⟩
  · exact .inl ⟨k, m, ns_priv e n, q⟩
  · exact .inr ⟨k, a, n, cell_priv e q⟩
theorem Frs.ext {A : Around} {P : List Addr} {s s' : Shared} (e : Ext P s s') (h : Frs A P s.heap) : Frs A P s'.heap := by
  obtain ⟨l, h1, h2⟩ := h
  refine ⟨l, h1, fun env he => ?_⟩
  obtain ⟨k, L, o, a1, a2, a3, a4⟩ := h2 env he
  obtain ⟨sl, h4⟩ := e.priv L o a3
  exact ⟨k, L, _, a1, a2, h4, a4⟩
theorem Go.ext {c : Cx} {m : Nat} {A : Around} {P : List Addr} {s s' : Shared} (F : Go c m A P s) (e : Ext P s s') : Go c m A P s' where
  sx := F.sx.ext e
  hd := F.hd
  depth := F.depth
  units := F.units
  frs := F.frs.ext e
theorem Go.u60 {c : Cx} {m : Nat} {A : Around} {P : List Addr} {s : Shared} (F : Go c m A P s) : A.units + 60 < cLine := by
  have := F.units; unfold cLine; omega
theorem Fx.ext {c : Cx} {m : Nat} {A : Around} {P : List Addr} {T : Tab} {env : Env} {ρ : Vars} {s s' : Shared} (F : Fx c m A P T env ρ s) (e : Ext P s s') : Fx c m A P T env ρ s' where
  toGo := F.toGo.ext e
  vars := fun p hp => by
    obtain ⟨v, a, b⟩ := F.vars p hp
    exact ⟨v, a.ext e, b.ext e⟩
  tab := F.tab
  kind := F.kind
  gl := F.gl
  bl := F.bl
theorem Fx.sub {c : Cx} {m : Nat} {A : Around} {P : List Addr} {T : Tab} {env : Env} {ρ ρ' : Vars} {s : Shared} (F : Fx c m A P T env ρ s) (h : ∀ p ∈ ρ', p ∈ ρ) : Fx c m A P T env ρ' s :=
  { F with vars := fun p hp => F.vars p (h p hp) }

/-- expression e has the value d -/
def REv (c : Cx) (m : Nat) (T : Tab) (ρ : Vars) (e : PySem.Expr) (d : PyData) : Prop :=
  ∀ {A : Around} {P : List Addr} {env : Env} {s : Shared} {E : Value → Shared → Prop} {Q : Value → Shared → Prop}, Fx c m A P T env ρ s →
    (∀ v s', Ext P s s' → Rd s'.heap P v d → Q v s') → wpAny (model c.prog c.w) A (eval e env) Q E s
/-- test e comes out b -/
def RTs (c : Cx) (m : Nat) (T : Tab) (ρ : Vars) (e : PySem.Expr) (b : Bool) : Prop :=
  ∀ {A : Around} {P : List Addr} {env : Env} {s : Shared} {E : Value → Shared → Prop} {Q : Bool → Shared → Prop}, Fx c m A P T env ρ s →
    (∀ s', Ext P s s' → Q b s') → wpAny (model c.prog c.w) A (isTrue e env (eval e env)) Q E s

section
variable {c : Cx} {m : Nat} {T : Tab} {ρ ρ' : Vars}

theorem REv.sub {e : PySem.Expr} {d : PyData} (h : REv c m T ρ' e d) (q : ∀ p ∈ ρ', p ∈ ρ) : REv c m T ρ e d := fun F k => h (F.sub q) k
theorem RTs.sub {e : PySem.Expr} {d : Bool} (h : RTs c m T ρ' e d) (q : ∀ p ∈ ρ', p ∈ ρ) : RTs c m T ρ e d := fun F k => h (F.sub q) k

theorem REv.name {x : Str} {pos : Pos} {d : PyData} (h : (x, d) ∈ ρ) (hd : (x == ("__debug__" : Str)) = false := by decide) (hc : (x == ("__classdict__" : Str)) = false := by decide) : REv c m T ρ (.Name x pos) d := fun {A P env s E Q} F k => by
  obtain ⟨v, a, b⟩ := F.vars _ h
  have q := k v s (.refl _ _) b
  rcases a with ⟨kk, mm, n, e⟩ | ⟨kk | kk, a, n, e⟩
  · exact wpAny_Name (wpAny_loadName_local F.kind kk n e q) hd
  · exact wpAny_Name (wpAny_loadName_cell F.kind kk n e q) hd
  · exact wpAny_Name (wpAny_loadName_free F.kind kk n e q hc) hd
theorem REv.int {i : Int} {k pos} : REv c m T ρ (.Constant (.int i) k pos) (.int i) := fun F q => wpAny_Constant_int (q _ _ .toks (.int _ _))
theorem REv.str {x : Str} {k pos} : REv c m T ρ (.Constant (.str x) k pos) (.str x) := fun F q => wpAny_Constant_str (q _ _ .toks (.str _ _))
theorem REv.bool {b : Bool} {k pos} : REv c m T ρ (.Constant (.bool b) k pos) (.bool b) := fun F q => wpAny_Constant_bool (q _ _ (.refl _ _) (.bool _))
theorem REv.noneE {k pos} : REv c m T ρ (.Constant .none k pos) .none := fun F q => wpAny_Constant_none (q _ _ (.refl _ _) .noneR)

/-- an operation on two values -/
def ROp2 (c : Cx) (m : Nat) (f : Value → Value → Sem Value) (a b d : PyData) : Prop :=
  ∀ {A : Around} {P : List Addr} {s : Shared} {E : Value → Shared → Prop} {Q : Value → Shared → Prop} {v u : Value}, Go c m A P s → Rd s.heap P v a → Rd s.heap P u b →
    (∀ r s', Ext P s s' → Rd s'.heap P r d → Q r s') → wpAny (model c.prog c.w) A (f v u) Q E s
/-- a value's truth -/
def RTr (c : Cx) (m : Nat) (a : PyData) (b : Bool) : Prop :=
  ∀ {A : Around} {P : List Addr} {s : Shared} {E : Value → Shared → Prop} {Q : Bool → Shared → Prop} {v : Value}, Go c m A P s → Rd s.heap P v a →
    (∀ s', Ext P s s' → Q b s') → wpAny (model c.prog c.w) A (truthy v) Q E s

theorem REv.bin {l r : PySem.Expr} {op : Operator} {pos : Pos} {a b d : PyData} (h1 : REv c m T ρ l a) (h2 : REv c m T ρ r b) (h : ROp2 c m (binaryOp op) a b d) : REv c m T ρ (.BinOp l op r pos) d := fun F k =>
  wpAny_BinOp (h1 F fun v s₁ e₁ r₁ => h2 (F.ext e₁) fun u s₂ e₂ r₂ => h (F.ext (e₁.trans e₂)).toGo (r₁.ext e₂) r₂ fun r s₃ e₃ r₃ => k r s₃ ((e₁.trans e₂).trans e₃) r₃)
theorem REv.cmp {l r : PySem.Expr} {op : CmpOp} {pos : Pos} {a b d : PyData} (h1 : REv c m T ρ l a) (h2 : REv c m T ρ r b) (h : ROp2 c m (compareOp op) a b d)
    (hm : behindInMarks op r = false := by with_unfolding_all rfl) : REv c m T ρ (.Compare l [op] [r] pos) d := fun F k =>
  wpAny_Compare1 (h1 F fun v s₁ e₁ r₁ => h2 (F.ext e₁) fun u s₂ e₂ r₂ => h (F.ext (e₁.trans e₂)).toGo (r₁.ext e₂) r₂ fun r s₃ e₃ r₃ => k r s₃ ((e₁.trans e₂).trans e₃) r₃) hm
theorem RTs.cmp {l r : PySem.Expr} {op : CmpOp} {pos : Pos} {a b : PyData} {d : Bool} (h1 : REv c m T ρ l a) (h2 : REv c m T ρ r b) (h : ROp2 c m (compareOp op) a b (.bool d))
    (hm : behindInMarks op r = false := by with_unfolding_all rfl) : RTs c m T ρ (.Compare l [op] [r] pos) d := fun F k =>
  wpAny_isTrue_Compare1 (h1 F fun v s₁ e₁ r₁ => h2 (F.ext e₁) fun u s₂ e₂ r₂ => h (F.ext (e₁.trans e₂)).toGo (r₁.ext e₂) r₂ fun r s₃ e₃ r₃ => by
    rw [r₃.bool_inv]; exact wpAny_truthy_bool (k s₃ ((e₁.trans e₂).trans e₃))) hm
theorem RTs.val {e : PySem.Expr} {a : PyData} {b : Bool} (h : REv c m T ρ e a) (t : RTr c m a b)
    (hs : ∀ env : Env, isTrue e env (eval e env) = (eval e env >>= fun v => standAt e.pos >>= fun _ => holding [v] (truthy v)) := by intro _; rfl) : RTs c m T ρ e b := fun F k =>
  wpAny_isTrue_value (h F fun v s₁ e₁ r₁ => t (F.ext e₁).toGo r₁ fun s₂ e₂ => k s₂ (e₁.trans e₂)) (hs _)
theorem RTs.not {e : PySem.Expr} {pos : Pos} {b : Bool} (h : RTs c m T ρ e b) : RTs c m T ρ (.UnaryOp .Not e pos) (!b) := fun F k =>
  wpAny_isTrue_Not (h F fun s₁ e₁ => k s₁ e₁)
theorem REv.not {e : PySem.Expr} {pos : Pos} {a : PyData} {b : Bool} (h : REv c m T ρ e a) (t : RTr c m a b) : REv c m T ρ (.UnaryOp .Not e pos) (.bool (!b)) := fun F k =>
  wpAny_UnaryOp (h F fun v s₁ e₁ r₁ => not_of (t (F.ext e₁).toGo r₁ fun s₂ e₂ => k _ s₂ (e₁.trans e₂) (.bool _)))
theorem REv.ite {t x y : PySem.Expr} {pos : Pos} {b : Bool} {d : PyData} (h : RTs c m T ρ t b) (h1 : b = true → REv c m T ρ x d) (h2 : b = false → REv c m T ρ y d) : REv c m T ρ (.IfExp t x y pos) d := fun F k =>
  IfExp_ (h F fun s₁ e₁ => by
    cases b with
    | true => exact h1 rfl (F.ext e₁) fun v s₂ e₂ r => k v s₂ (e₁.trans e₂) r
    | false => exact h2 rfl (F.ext e₁) fun v s₂ e₂ r => k v s₂ (e₁.trans e₂) r)

theorem RTr.bool {b : Bool} : RTr c m (.bool b) b := fun F r k => by rw [r.bool_inv]; exact wpAny_truthy_bool (k _ (.refl _ _))
theorem RTr.noneT : RTr c m .none false := fun F r k => by rw [r.none_inv]; exact PyProof.Rows.truthy_none (k _ (.refl _ _))
theorem RTr.int {i : Int} : RTr c m (.int i) (i != 0) := fun F r k => by obtain ⟨t, rfl⟩ := r.int_inv; exact PyProof.Rows.truthy_int (k _ (.refl _ _))
theorem RTr.str {x : Str} (hx : x.length < 2 ^ 62) : RTr c m (.str x) ((x.length : Int) != 0) := fun F r k => by
  obtain ⟨t, rfl⟩ := r.str_inv; exact PySem.P.truthy_str (by omega) (k _ .toks)
end
end Mine
namespace Mine

section
variable {c : Cx} {m : Nat}

/-! ints -/
theorem ROp2.add {a b : Int} : ROp2 c m (binaryOp .Add) (.int a) (.int b) (.int (a + b)) := fun F r1 r2 k => by
  obtain ⟨t, rfl⟩ := r1.int_inv; obtain ⟨u, rfl⟩ := r2.int_inv; exact add_int (k _ _ .toks (.int _ _))
theorem ROp2.sub {a b : Int} : ROp2 c m (binaryOp .Sub) (.int a) (.int b) (.int (a - b)) := fun F r1 r2 k => by
  obtain ⟨t, rfl⟩ := r1.int_inv; obtain ⟨u, rfl⟩ := r2.int_inv; exact sub_int (k _ _ .toks (.int _ _))
theorem ROp2.mul {a b : Int} (h : IntMulOk a b) : ROp2 c m (binaryOp .Mult) (.int a) (.int b) (.int (a * b)) := fun F r1 r2 k => by
  obtain ⟨t, rfl⟩ := r1.int_inv; obtain ⟨u, rfl⟩ := r2.int_inv; exact mul_int (k _ _ .toks (.int _ _)) h
theorem ROp2.div {a b : Int} (h : b ≠ 0) (hb : Builtin.divisionGoesByPylong a b = false) : ROp2 c m (binaryOp .FloorDiv) (.int a) (.int b) (.int (a.fdiv b)) := fun F r1 r2 k => by
  obtain ⟨t, rfl⟩ := r1.int_inv; obtain ⟨u, rfl⟩ := r2.int_inv
  exact floordiv_int_or F.hd (fun e => absurd e h) (fun _ => k _ _ .toks (.int _ _)) (fun _ => .inl hb)
theorem ROp2.mod {a b : Int} (h : b ≠ 0) : ROp2 c m (binaryOp .Mod) (.int a) (.int b) (.int (a.fmod b)) := fun F r1 r2 k => by
  obtain ⟨t, rfl⟩ := r1.int_inv; obtain ⟨u, rfl⟩ := r2.int_inv; exact mod_int' h (k _ _ .toks (.int _ _))
theorem ROp2.and {a b : Int} : ROp2 c m (binaryOp .BitAnd) (.int a) (.int b) (.int (Builtin.bitAnd a b)) := fun F r1 r2 k => by
  obtain ⟨t, rfl⟩ := r1.int_inv; obtain ⟨u, rfl⟩ := r2.int_inv; exact and_int (k _ _ .toks (.int _ _))
theorem ROp2.or {a b : Int} : ROp2 c m (binaryOp .BitOr) (.int a) (.int b) (.int (Builtin.bitOr a b)) := fun F r1 r2 k => by
  obtain ⟨t, rfl⟩ := r1.int_inv; obtain ⟨u, rfl⟩ := r2.int_inv; exact or_int (k _ _ .toks (.int _ _))
theorem ROp2.pow {a n : Int} (h0 : 0 ≤ n) (h1 : (Builtin.Int.intBits a : Int) * n ≤ 2 ^ 27) : ROp2 c m (binaryOp .Pow) (.int a) (.int n) (.int (a ^ n.toNat)) := fun F r1 r2 k => by
  obtain ⟨t, rfl⟩ := r1.int_inv; obtain ⟨u, rfl⟩ := r2.int_inv; exact pow_int h0 h1 (k _ _ .toks (.int _ _))
theorem ROp2.lt {a b : Int} : ROp2 c m (compareOp .Lt) (.int a) (.int b) (.bool (decide (a < b))) := fun F r1 r2 k => by
  obtain ⟨t, rfl⟩ := r1.int_inv; obtain ⟨u, rfl⟩ := r2.int_inv; exact lt_int (k _ _ (.refl _ _) (.bool _))
theorem ROp2.le {a b : Int} : ROp2 c m (compareOp .LtE) (.int a) (.int b) (.bool (decide (a ≤ b))) := fun F r1 r2 k => by
  obtain ⟨t, rfl⟩ := r1.int_inv; obtain ⟨u, rfl⟩ := r2.int_inv; exact le_int (k _ _ (.refl _ _) (.bool _))
theorem ROp2.gt {a b : Int} : ROp2 c m (compareOp .Gt) (.int a) (.int b) (.bool (decide (b < a))) := fun F r1 r2 k => by
  obtain ⟨t, rfl⟩ := r1.int_inv; obtain ⟨u, rfl⟩ := r2.int_inv; exact gt_int (k _ _ (.refl _ _) (.bool _))
theorem ROp2.ge {a b : Int} : ROp2 c m (compareOp .GtE) (.int a) (.int b) (.bool (decide (b ≤ a))) := fun F r1 r2 k => by
  obtain ⟨t, rfl⟩ := r1.int_inv; obtain ⟨u, rfl⟩ := r2.int_inv; exact ge_int (k _ _ (.refl _ _) (.bool _))

/-! equality, of any data -/
theorem ROp2.eq {a b : PyData} (ha : SeqAt.shaped a = true) (hb : SeqAt.shaped b = true) : ROp2 c m (compareOp .Eq) a b (.bool (PyData.eqv a b)) := fun F r1 r2 k => by
  obtain ⟨as, r1⟩ := r1.here; obtain ⟨bs, r2⟩ := r2.here
  exact eq_dataH r1 r2 ha hb (by have := F.units; unfold cLine; omega) (k _ _ (.refl _ _) (.bool _))
theorem ROp2.ne {a b : PyData} (ha : SeqAt.shaped a = true) (hb : SeqAt.shaped b = true) : ROp2 c m (compareOp .NotEq) a b (.bool (!PyData.eqv a b)) := fun F r1 r2 k => by
  obtain ⟨as, r1⟩ := r1.here; obtain ⟨bs, r2⟩ := r2.here
  exact ne_dataH r1 r2 ha hb (by have := F.units; unfold cLine; omega) (k _ _ (.refl _ _) (.bool _))
theorem ROp2.inList {x : PyData} {xs : List PyData} (ha : SeqAt.shaped (.list xs) = true) (hb : SeqAt.shaped x = true) : ROp2 c m (compareOp .In) x (.list xs) (.bool (xs.any fun y => PyData.eqv y x)) := fun F r1 r2 k => by
  obtain ⟨as, r1⟩ := r1.here; obtain ⟨bs, r2⟩ := r2.here
  have hd := SeqAt.depth_of_shaped hb
  exact SeqAt.in_list_reads r2 r1 (SeqAt.canLay_of_shaped ha) (SeqAt.canLay_of_shaped hb) (by have := F.units; unfold cLine; omega) (k _ _ (.refl _ _) (.bool _))
theorem ROp2.inTuple {x : PyData} {xs : List PyData} (ha : SeqAt.shaped (.tuple xs) = true) (hb : SeqAt.shaped x = true) : ROp2 c m (compareOp .In) x (.tuple xs) (.bool (xs.any fun y => PyData.eqv y x)) := fun F r1 r2 k => by
  obtain ⟨as, r1⟩ := r1.here; obtain ⟨bs, r2⟩ := r2.here
  have hd := SeqAt.depth_of_shaped hb
  exact SeqAt.in_tuple_reads r2 r1 (SeqAt.canLay_of_shaped ha) (SeqAt.canLay_of_shaped hb) (by have := F.units; unfold cLine; omega) (k _ _ (.refl _ _) (.bool _))

/-! texts -/
theorem ROp2.addStr {x y : Str} (h : x.length + y.length ≤ sizeLine) : ROp2 c m (binaryOp .Add) (.str x) (.str y) (.str (x ++ y)) := fun F r1 r2 k => by
  obtain ⟨t, rfl⟩ := r1.str_inv; obtain ⟨u, rfl⟩ := r2.str_inv; exact add_str (fun _ _ => k _ _ .toks (.str _ _)) h
theorem ROp2.mulStr {x : Str} {n : Int} (h : MulOk x n) : ROp2 c m (binaryOp .Mult) (.str x) (.int n) (.str (Txt.mul x n)) := fun F r1 r2 k => by
  obtain ⟨t, rfl⟩ := r1.str_inv; obtain ⟨u, rfl⟩ := r2.int_inv; exact SB.mul h (fun _ _ => k _ _ .toks (.str _ _))

/-! new lists and tuples -/
theorem rd_newList {c : Cx} {P : List Addr} {s : Shared} (x : Sx c P s.heap) {vs : List Value} {ds : List PyData} (r : RdAll s.heap P vs ds) :
    Rd (s.heap.push { cls := .type "list", data := .seq vs.toArray }) P (.ref s.heap.objs.size) (.list ds) :=
  Rd.list (vs := vs.toArray) ⟨_, vis_push x rfl, rfl, _, rfl⟩ (by simpa using r.ext (Ext.push _))
theorem rd_newTuple {c : Cx} {P : List Addr} {s : Shared} (x : Sx c P s.heap) {vs : List Value} {ds : List PyData} (r : RdAll s.heap P vs ds) :
    Rd (s.heap.push { cls := .type "tuple", data := .seq vs.toArray }) P (.ref s.heap.objs.size) (.tuple ds) :=
  Rd.tuple (vs := vs.toArray) ⟨_, vis_push x rfl, rfl, _, rfl⟩ (by simpa using r.ext (Ext.push _))

theorem ROp2.addList {xs ys : List PyData} (hsz : xs.length + ys.length ≤ sizeLine) : ROp2 c m (binaryOp .Add) (.list xs) (.list ys) (.list (xs ++ ys)) := fun {A P s E Q v u} F r1 r2 k => by
  obtain ⟨l, vs, rfl, hl, ra⟩ := r1.list_inv
  obtain ⟨b, ws, rfl, hb, rb⟩ := r2.list_inv
  have hl' := isList_of_vis hl
  have hb' := isList_of_vis hb
  have hv := ra.len
  have hw := rb.len
  obtain ⟨⟨cls, dd, data, sl⟩, ho, hc, n, hd⟩ := id hl'
  obtain ⟨⟨cls2, dd2, data2, sl2⟩, ho2, hc2, n2, hd2⟩ := id hb'
  simp only at hc hd hc2 hd2
  subst hc hd hc2 hd2
  refine concat_meets ⟨_, ho, rfl⟩ ⟨_, ho2, rfl⟩ noFill_list_add seq_list_add PySem.F.slot_list_add PySem.F.entry_list_add (PySem.F.args_list_add_2 _ _) (list_addW l b vs ws n n2 dd dd2 sl sl2 (by simp at hv hw ⊢; omega)) ⟨ho, ho2, ?_⟩
  have e : vs ++ ws = (vs.toList ++ ws.toList).toArray := by simp
  rw [e]
  exact k _ _ (Ext.push _) (rd_newList F.sx (ra.append rb))
end
end Mine
namespace Mine

/-- several expressions -/
def REvL (c : Cx) (m : Nat) (T : Tab) (ρ : Vars) (es : List PySem.Expr) (ds : List PyData) : Prop :=
  ∀ {A : Around} {P : List Addr} {env : Env} {s : Shared} {E : Value → Shared → Prop} {Q : List Value → Shared → Prop} {pos : Pos}, Fx c m A P T env ρ s →
    (∀ vs s', Ext P s s' → RdAll s'.heap P vs ds → Q vs s') → wpAny (model c.prog c.w) A (spliced (backTo pos (starEach es env))) Q E s
/-- a call of the value f -/
def RBi (c : Cx) (m : Nat) (f : Value) (ds : List PyData) (d : PyData) : Prop :=
  ∀ {A : Around} {P : List Addr} {s : Shared} {E : Value → Shared → Prop} {Q : Value → Shared → Prop} {vs : List Value}, Go c m A P s → RdAll s.heap P vs ds →
    (∀ r s', Ext P s s' → Rd s'.heap P r d → Q r s') → wpAny (model c.prog c.w) A (call f vs) Q E s
/-- a call of the text's own def -/
def RFn (c : Cx) (m : Nat) (x : Str) (ds : List PyData) (d : PyData) : Prop :=
  ∃ f o fd, c.mg x = some (.ref f) ∧ c.K.lookup f = some o ∧ o.data = .func fd ∧ RBi c m (.ref f) ds d

section
variable {c : Cx} {m m' : Nat} {T : Tab} {ρ ρ' : Vars}

theorem Go.le {A : Around} {P : List Addr} {s : Shared} (F : Go c m' A P s) (h : m ≤ m') : Go c m A P s where
  sx := F.sx
  hd := F.hd
  depth := by have := F.depth; omega
  units := by have := F.units; omega
  frs := F.frs
theorem RBi.le {f : Value} {ds : List PyData} {d : PyData} (h : RBi c m f ds d) (q : m ≤ m') : RBi c m' f ds d := fun F => h (F.le q)
theorem RFn.le {x : Str} {ds : List PyData} {d : PyData} (h : RFn c m x ds d) (q : m ≤ m') : RFn c m' x ds d := by
  obtain ⟨f, o, fd, a, b, e, h⟩ := h; exact ⟨f, o, fd, a, b, e, h.le q⟩

theorem REvL.nil : REvL c m T ρ [] [] := fun F k => args_nil (k _ _ (.refl _ _) .nil)
theorem REvL.cons {e : PySem.Expr} {es : List PySem.Expr} {d : PyData} {ds : List PyData} (h : REv c m T ρ e d) (hs : REvL c m T ρ es ds)
    (he : ∀ env : Env, starEach (e :: es) env = (false, eval e env) :: starEach es env := by intro _; rfl) : REvL c m T ρ (e :: es) (d :: ds) := fun F k =>
  args_cons (h F fun v s₁ e₁ r₁ => hs (F.ext e₁) fun vs s₂ e₂ r₂ => k _ _ (e₁.trans e₂) (.cons (r₁.ext e₂) r₂)) (he _)

theorem REv.list {es : List PySem.Expr} {ds : List PyData} {pos : Pos} (h : REvL c m T ρ es ds) (hl : es.length ≤ 1000 := by exact Nat.le_of_ble_eq_true rfl) (hd : es.length = ds.length := by exact rfl) : REv c m T ρ (.List es pos) (.list ds) := fun F k =>
  List_ (h F fun vs s₁ e₁ r₁ => wpAny_newList (k _ _ (e₁.trans (Ext.push _)) (rd_newList (F.ext e₁).sx r₁)) (by have := r₁.len; have e : sizeLine = 16777216 := rfl; omega))
theorem REv.tuple {es : List PySem.Expr} {ds : List PyData} {k : Nat} {pos : Pos} (h : REvL c m T ρ es ds) (hl : es.length ≤ 1000 := by exact Nat.le_of_ble_eq_true rfl) (hd : es.length = ds.length := by exact rfl) : REv c m T ρ (.Tuple es k pos) (.tuple ds) := fun F k =>
  Tuple_ (h F fun vs s₁ e₁ r₁ => wpAny_newTuple (k _ _ (e₁.trans (Ext.push _)) (rd_newTuple (F.ext e₁).sx r₁)) (by have := r₁.len; have e : sizeLine = 16777216 := rfl; omega))

/-- a global name's value -/
theorem gname {A : Around} {P : List Addr} {env : Env} {s : Shared} {E : Value → Shared → Prop} {Q : Value → Shared → Prop} {x : Str} {pos : Pos} {v : Value} (F : Fx c m A P T env ρ s)
    (hx : T.lookup x = some .globalImplicit) (hv : c.mg x = some v) (hd : (x == ("__debug__" : Str)) = false) (k : Q v s) : wpAny (model c.prog c.w) A (eval (.Name x pos) env) Q E s :=
  PySem.Calls.Name_function_global F.kind (by rw [Env.kindOf, F.tab]; exact hx) (PySem.Calls.loadGlobal_global (by rw [F.gl]; exact F.sx.g.keeps F.sx.here) hv k) hd
theorem bname {A : Around} {P : List Addr} {env : Env} {s : Shared} {E : Value → Shared → Prop} {Q : Value → Shared → Prop} {x : Str} {pos : Pos} {v : Value} (F : Fx c m A P T env ρ s)
    (hx : T.lookup x = some .globalImplicit) (hn : c.mg x = Option.none) (hv : c.mb x = some v) (hd : (x == ("__debug__" : Str)) = false) (k : Q v s) : wpAny (model c.prog c.w) A (eval (.Name x pos) env) Q E s :=
  PySem.Calls.Name_function_global F.kind (by rw [Env.kindOf, F.tab]; exact hx) (PySem.Calls.loadGlobal_builtin (by rw [F.gl]; exact F.sx.g.keeps F.sx.here) hn (by rw [F.bl]; exact F.sx.b.keeps F.sx.here) hv k) hd

theorem REv.call {x : Str} {p pos : Pos} {e : PySem.Expr} {es : List PySem.Expr} {ds : List PyData} {d : PyData} (h : REvL c m T ρ (e :: es) ds) (hf : RFn c m x ds d)
    (hx : T.lookup x = some .globalImplicit := by kernel_rfl) (hd : (x == ("__debug__" : Str)) = false := by decide)
    (he : ∀ env : Env, starEach (e :: es) env = (false, eval e env) :: starEach es env := by intro _; rfl) : REv c m T ρ (.Call (.Name x p) (e :: es) [] pos) d := fun F k => by
  obtain ⟨f, o, fd, a, b, dd, hf⟩ := hf
  refine Call_ (gname F hx a hd (callWith_def dd (h F fun vs s₁ e₁ r₁ => ⟨?_, ?_⟩) (he _)))
  · exact (F.ext e₁).sx.here _ _ ((F.ext e₁).sx.k _ _ b)
  · exact hf (F.ext e₁).toGo r₁ fun r s₂ e₂ r₂ => k r s₂ (e₁.trans e₂) r₂
theorem REv.callB {x : Str} {id : String} {p pos : Pos} {e : PySem.Expr} {es : List PySem.Expr} {ds : List PyData} {d : PyData} (h : REvL c m T ρ (e :: es) ds) (hn : c.mg x = Option.none) (hv : c.mb x = some (.builtin id)) (hf : RBi c m (.builtin id) ds d)
    (hx : T.lookup x = some .globalImplicit := by kernel_rfl) (hd : (x == ("__debug__" : Str)) = false := by decide)
    (he : ∀ env : Env, starEach (e :: es) env = (false, eval e env) :: starEach es env := by intro _; rfl) (hp : ∀ env : Env, (backTo pos (starEach es env)).any (·.1) = false := by intro _; rfl) : REv c m T ρ (.Call (.Name x p) (e :: es) [] pos) d := fun F k =>
  Call_ (bname F hx hn hv hd (callWith_builtin1 (h F fun vs s₁ e₁ r₁ => hf (F.ext e₁).toGo r₁ fun r s₂ e₂ r₂ => k r s₂ (e₁.trans e₂) r₂) (he _) (hp _)))
theorem REv.callT {x : Str} {id : String} {p pos : Pos} {e : PySem.Expr} {es : List PySem.Expr} {ds : List PyData} {d : PyData} (h : REvL c m T ρ (e :: es) ds) (hn : c.mg x = Option.none) (hv : c.mb x = some (.type id)) (hf : RBi c m (.type id) ds d)
    (hx : T.lookup x = some .globalImplicit := by kernel_rfl) (hd : (x == ("__debug__" : Str)) = false := by decide)
    (he : ∀ env : Env, starEach (e :: es) env = (false, eval e env) :: starEach es env := by intro _; rfl) (hp : ∀ env : Env, (backTo pos (starEach es env)).any (·.1) = false := by intro _; rfl) : REv c m T ρ (.Call (.Name x p) (e :: es) [] pos) d := fun F k =>
  Call_ (bname F hx hn hv hd (PyProof.Rows.callWith_type1 (h F fun vs s₁ e₁ r₁ => hf (F.ext e₁).toGo r₁ fun r s₂ e₂ r₂ => k r s₂ (e₁.trans e₂) r₂) (he _) (hp _)))

/-! the built-ins -/
theorem one_inv {h : Heap} {P : List Addr} {vs : List Value} {d : PyData} (r : RdAll h P vs [d]) : ∃ v, vs = [v] ∧ Rd h P v d := by
  obtain ⟨v, vs', rfl, a, b⟩ := r.cons_inv; rw [b.nil_inv]; exact ⟨v, rfl, a⟩
theorem two_inv {h : Heap} {P : List Addr} {vs : List Value} {d e : PyData} (r : RdAll h P vs [d, e]) : ∃ v u, vs = [v, u] ∧ Rd h P v d ∧ Rd h P u e := by
  obtain ⟨v, vs', rfl, a, b⟩ := r.cons_inv; obtain ⟨u, rfl, e⟩ := one_inv b; exact ⟨v, u, rfl, a, e⟩
theorem three_inv {h : Heap} {P : List Addr} {vs : List Value} {d e f : PyData} (r : RdAll h P vs [d, e, f]) : ∃ v u w, vs = [v, u, w] ∧ Rd h P v d ∧ Rd h P u e ∧ Rd h P w f := by
  obtain ⟨v, vs', rfl, a, b⟩ := r.cons_inv; obtain ⟨u, w, rfl, e⟩ := two_inv b; exact ⟨v, u, w, rfl, a, e⟩

theorem RBi.abs {a : Int} : RBi c m (.builtin "abs") [.int a] (.int (if a < 0 then -a else a)) := fun F r k => by
  obtain ⟨v, rfl, r1⟩ := one_inv r; obtain ⟨t, rfl⟩ := r1.int_inv
  exact call_abs_int fun _ _ => k _ _ .toks (.int _ _)
theorem RBi.max {a b : Int} : RBi c m (.builtin "max") [.int a, .int b] (.int (if b > a then b else a)) := fun F r k => by
  obtain ⟨v, u, rfl, r1, r2⟩ := two_inv r; obtain ⟨t, rfl⟩ := r1.int_inv; obtain ⟨t', rfl⟩ := r2.int_inv
  refine max_two_ints F.hd fun h' tk hk => k _ _ (.of_keeps hk rfl rfl) ?_
  split <;> exact .int _ _
theorem RBi.min {a b : Int} : RBi c m (.builtin "min") [.int a, .int b] (.int (if b < a then b else a)) := fun F r k => by
  obtain ⟨v, u, rfl, r1, r2⟩ := two_inv r; obtain ⟨t, rfl⟩ := r1.int_inv; obtain ⟨t', rfl⟩ := r2.int_inv
  refine min_two_ints F.hd fun h' tk hk => k _ _ (.of_keeps hk rfl rfl) ?_
  split <;> exact .int _ _
theorem RBi.lenStr {x : Str} (hx : x.length < 2 ^ 62) : RBi c m (.builtin "len") [.str x] (.int x.length) := fun F r k => by
  obtain ⟨v, rfl, r1⟩ := one_inv r; obtain ⟨t, rfl⟩ := r1.str_inv
  exact len_str (by omega) (k _ _ .toks (.int _ _))
theorem RBi.lenList {xs : List PyData} (hx : xs.length < 2 ^ 62) : RBi c m (.builtin "len") [.list xs] (.int xs.length) := fun F r k => by
  obtain ⟨v, rfl, r1⟩ := one_inv r; obtain ⟨l, vs, rfl, hl, ra⟩ := r1.list_inv
  have e : vs.size = xs.length := by have := ra.len; simpa using this
  refine PySem.Calls.call_len_list (isList_of_vis hl) (by rw [e]; omega) ?_
  rw [e]; exact k _ _ .toks (.int _ _)
theorem ints_items {h : Heap} {P : List Addr} : ∀ {vs : List Value} {ns : List Int}, RdAll h P vs (ns.map .int) → ∃ xs : List (Int × Tok), vs = xs.map (fun p => Value.int p.1 p.2) ∧ xs.map (·.1) = ns
  | vs, [], r => ⟨[], by rw [r.nil_inv]; rfl, rfl⟩
  | vs, n :: ns, r => by
    obtain ⟨v, vs', rfl, a, b⟩ := r.cons_inv
    obtain ⟨t, rfl⟩ := a.int_inv
    obtain ⟨xs, e, f⟩ := ints_items b
    exact ⟨(n, t) :: xs, by rw [e]; rfl, by rw [← f]; rfl⟩
theorem RBi.sum {ns : List Int} : RBi c m (.builtin "sum") [.list (ns.map .int)] (.int ns.sum) := fun F r k => by
  obtain ⟨v, rfl, r1⟩ := one_inv r; obtain ⟨l, vs, rfl, hl, ra⟩ := r1.list_inv
  obtain ⟨xs, e, f⟩ := ints_items ra
  have hv : vs = intItems xs.toArray := by
    unfold intItems
    apply Array.toList_inj.mp
    simpa using e
  have hl' := isList_of_vis hl
  rw [hv] at hl'
  refine sum_intListG F.hd hl' fun h' tk t' hk => ?_
  have q : preSum (numAt xs.toArray) xs.toArray.size = ns.sum := by
    rw [preSum_eq]; simp [f]
    rw [List.take_of_length_le (by rw [← f]; simp)]
  rw [q]
  exact k _ _ (.of_keeps hk rfl rfl) (.int _ _)
theorem RBi.strInt {a : Int} (h : a.natAbs.log2 < 1920) : RBi c m (.type "str") [.int a] (.str (toString a)) := fun F r k => by
  obtain ⟨v, rfl, r1⟩ := one_inv r; obtain ⟨t, rfl⟩ := r1.int_inv
  exact PySem.P.str_of_int h (k _ _ .toks (.str _ _))
theorem RBi.intStr {x : Str} {n : Int} (hn : PySem.intText? x = some n) (hl : x.length ≤ 640) : RBi c m (.type "int") [.str x] (.int n) := fun F r k => by
  obtain ⟨v, rfl, r1⟩ := one_inv r; obtain ⟨t, rfl⟩ := r1.str_inv
  exact PySem.W.KIN.call_text hn hl (k _ _ .toks (.int _ _))
end
end Mine
namespace Mine

def RTsA (c : Cx) (m : Nat) (T : Tab) (ρ : Vars) (op : PySem.BoolOp) (es : List PySem.Expr) (b : Bool) : Prop :=
  ∀ {A : Around} {P : List Addr} {env : Env} {s : Shared} {E : Value → Shared → Prop} {Q : Bool → Shared → Prop}, Fx c m A P T env ρ s →
    (∀ s', Ext P s s' → Q b s') → wpAny (model c.prog c.w) A (allTrue op es env) Q E s
/-- a slice's part -/
def REvP (c : Cx) (m : Nat) (T : Tab) (ρ : Vars) (e : Option PySem.Expr) (p : Option Int) : Prop :=
  ∀ {A : Around} {P : List Addr} {env : Env} {s : Shared} {E : Value → Shared → Prop} {Q : Value → Shared → Prop}, Fx c m A P T env ρ s →
    (∀ (q : Option (Int × Tok)) s', q.map (·.1) = p → Ext P s s' → Q (partValue q) s') → wpAny (model c.prog c.w) A (evalPart e env) Q E s

section
variable {c : Cx} {m : Nat} {T : Tab} {ρ ρ' : Vars}

theorem RTsA.nilA : RTsA c m T ρ .And [] true := fun F k => wpAny_pure (k _ (.refl _ _))
theorem RTsA.nilO : RTsA c m T ρ .Or [] false := fun F k => wpAny_pure (k _ (.refl _ _))
theorem RTsA.and {e : PySem.Expr} {es : List PySem.Expr} {a b : Bool} (h : RTs c m T ρ e a) (hs : a = true → RTsA c m T ρ .And es b) : RTsA c m T ρ .And (e :: es) (a && b) := fun F k => by
  unfold allTrue
  refine wpAny_bind (h F fun s₁ e₁ => ?_)
  cases a with
  | true => exact hs rfl (F.ext e₁) fun s₂ e₂ => k _ (e₁.trans e₂)
  | false => exact wpAny_pure (k _ e₁)
theorem RTsA.or {e : PySem.Expr} {es : List PySem.Expr} {a b : Bool} (h : RTs c m T ρ e a) (hs : a = false → RTsA c m T ρ .Or es b) : RTsA c m T ρ .Or (e :: es) (a || b) := fun F k => by
  unfold allTrue
  refine wpAny_bind (h F fun s₁ e₁ => ?_)
  cases a with
  | false => exact hs rfl (F.ext e₁) fun s₂ e₂ => k _ (e₁.trans e₂)
  | true => exact wpAny_pure (k _ e₁)
theorem RTs.bool {op : PySem.BoolOp} {es : List PySem.Expr} {pos : Pos} {b : Bool} (h : RTsA c m T ρ op es b) : RTs c m T ρ (.BoolOp op es pos) b := fun F k => wpAny_isTrue_BoolOp (h F k)
theorem RTs.ite {t x y : PySem.Expr} {pos : Pos} {b d : Bool} (h : RTs c m T ρ t b) (h1 : b = true → RTs c m T ρ x d) (h2 : b = false → RTs c m T ρ y d) : RTs c m T ρ (.IfExp t x y pos) d := fun F k => by
  unfold PySem.isTrue
  refine wpAny_bind (h F fun s₁ e₁ => ?_)
  cases b with
  | true => exact h1 rfl (F.ext e₁) fun s₂ e₂ => k _ (e₁.trans e₂)
  | false => exact h2 rfl (F.ext e₁) fun s₂ e₂ => k _ (e₁.trans e₂)
/-- x or y, as a value -/
theorem REv.or2 {x y : PySem.Expr} {pos : Pos} {a d : PyData} {b : Bool} (h : REv c m T ρ x a) (t : RTr c m a b) (h1 : b = true → d = a) (h2 : b = false → REv c m T ρ y d) : REv c m T ρ (.BoolOp .Or [x, y] pos) d := fun {A P env s E Q} F k => by
  show wpAny _ A (boolOp pos .Or [eval x env, eval y env]) Q E s
  unfold boolOp
  refine wpAny_bind (h F fun v s₁ e₁ r₁ => wpAny_bind (wpAny_standAt (wpAny_bind (wpAny_holding (t (F.ext e₁).toGo r₁ fun s₂ e₂ => ?_)))))
  cases b with
  | true => exact wpAny_pure (k _ _ (e₁.trans e₂) (h1 rfl ▸ r₁.ext e₂))
  | false =>
    show wpAny _ A (boolOp pos .Or [eval y env]) Q E s₂
    unfold boolOp
    exact h2 rfl (F.ext (e₁.trans e₂)) fun v s₃ e₃ r₃ => k _ _ ((e₁.trans e₂).trans e₃) r₃

/-! places -/
theorem REv.item {value slice : PySem.Expr} {pos : Pos} {o i d : PyData} (h1 : REv c m T ρ value o) (h2 : REv c m T ρ slice i)
    (h : ∀ {A : Around} {P : List Addr} {s : Shared} {E : Value → Shared → Prop} {Q : Value → Shared → Prop} {v u : Value}, Go c m A P s → Rd s.heap P v o → Rd s.heap P u i →
      (∀ r s', Ext P s s' → Rd s'.heap P r d → Q r s') → wpAny (model c.prog c.w) A (subscriptTail value slice v u) Q E s) : REv c m T ρ (.Subscript value slice pos) d := fun F k =>
  Subscript_ (h1 F fun v s₁ e₁ r₁ => h2 (F.ext e₁) fun u s₂ e₂ r₂ => h (F.ext (e₁.trans e₂)).toGo (r₁.ext e₂) r₂ fun r s₃ e₃ r₃ => k _ _ ((e₁.trans e₂).trans e₃) r₃)
theorem REv.itemL {value slice : PySem.Expr} {pos : Pos} {xs : List PyData} {i : Int} {d : PyData} {j : Nat} (h1 : REv c m T ρ value (.list xs)) (h2 : REv c m T ρ slice (.int i))
    (hj : seqIndex? i xs.length = some j) (hd : xs[j]? = some d) (hl : xs.length < 2 ^ 62)
    (hs : ∀ o i, subscripted slice false o i = operate [o, i] (getItem o i) := by intro _ _; rfl) : REv c m T ρ (.Subscript value slice pos) d :=
  REv.item h1 h2 fun {A P s E Q v u} F r1 r2 k => by
    obtain ⟨l, vs, rfl, hl', ra⟩ := r1.list_inv
    obtain ⟨t, rfl⟩ := r2.int_inv
    have e : vs.size = xs.length := by have := ra.len; simpa using this
    obtain ⟨v, hv, rv⟩ := ra.get j hd
    have hl2 := isList_of_vis hl'
    have hv' : vs[j]? = some v := by simpa using hv
    unfold seqIndex? at hj
    refine tail_any hl2.typeIs slot_list_getitem.lookup ?_ (hs _ _)
    by_cases h0 : i < 0
    · simp only [h0, if_true] at hj
      split at hj
      · rename_i hc
        cases hj
        simp at hc
        exact wpAny_getItem_list_neg hl2 h0 (by rw [e]; omega) (by omega) (by rw [e]; exact hv') (k _ _ (.refl _ _) rv)
      · cases hj
    · simp only [h0, if_false] at hj
      split at hj
      · rename_i hc
        cases hj
        simp at hc
        exact wpAny_getItem_list hl2 (by omega) (by omega) hv' (k _ _ (.refl _ _) rv)
      · cases hj
theorem REv.itemT {value slice : PySem.Expr} {pos : Pos} {xs : List PyData} {i : Int} {d : PyData} {j : Nat} (h1 : REv c m T ρ value (.tuple xs)) (h2 : REv c m T ρ slice (.int i))
    (hj : seqIndex? i xs.length = some j) (hd : xs[j]? = some d) (h0 : 0 ≤ i) (hl : i < 2 ^ 62)
    (hs : ∀ o i, subscripted slice false o i = operate [o, i] (getItem o i) := by intro _ _; rfl) : REv c m T ρ (.Subscript value slice pos) d :=
  REv.item h1 h2 fun {A P s E Q v u} F r1 r2 k => by
    obtain ⟨l, vs, rfl, hl', ra⟩ := r1.tuple_inv
    obtain ⟨t, rfl⟩ := r2.int_inv
    have e : vs.size = xs.length := by have := ra.len; simpa using this
    obtain ⟨v, hv, rv⟩ := ra.get j hd
    have hl2 := isTuple_of_vis hl'
    have hv' : vs[j]? = some v := by simpa using hv
    exact tail_any hl2.typeIs slot_tuple_getitem.lookup (getItem_tuple hl2 (by omega) (by omega) (by rw [e]; exact hj) hv' (k _ _ (.refl _ _) rv)) (hs _ _)
theorem REv.itemS {value slice : PySem.Expr} {pos : Pos} {x : Str} {i : Int} {n : Nat} (h1 : REv c m T ρ value (.str x)) (h2 : REv c m T ρ slice (.int i))
    (hj : ((seqIndex? i x.length).bind fun j => x.cps[j]?) = some n) (h0 : -(2 ^ 62) ≤ i) (hl : i < 2 ^ 62)
    (hs : ∀ o i, subscripted slice false o i = operate [o, i] (getItem o i) := by intro _ _; rfl) : REv c m T ρ (.Subscript value slice pos) (.str ⟨#[n]⟩) :=
  REv.item h1 h2 fun {A P s E Q v u} F r1 r2 k => by
    obtain ⟨t, rfl⟩ := r1.str_inv
    obtain ⟨t', rfl⟩ := r2.int_inv
    refine tail_any (typeIs_str _ _ _) PySem.F.slot_str_getitem.lookup (getItem_str ?_ hj (k _ _ .toks (.str _ _))) (hs _ _)
    simp; omega

theorem REvP.no : REvP c m T ρ none none := fun F k => wpAny_pure (k none _ rfl (.refl _ _))
theorem REvP.at {e : PySem.Expr} {i : Int} (h : REv c m T ρ e (.int i)) : REvP c m T ρ (some e) (some i) := fun F k => h F fun v s₁ e₁ r₁ => by
  obtain ⟨t, rfl⟩ := r₁.int_inv; exact k (some (i, t)) _ rfl e₁
theorem REvP.nil {e : PySem.Expr} (h : REv c m T ρ e .none) : REvP c m T ρ (some e) none := fun F k => h F fun v s₁ e₁ r₁ => by
  rw [r₁.none_inv]; exact k none _ rfl e₁

theorem REv.sliceS {value : PySem.Expr} {lower upper : Option PySem.Expr} {p pos : Pos} {x : Str} {l u : Option Int} (h : REv c m T ρ value (.str x)) (hl : REvP c m T ρ lower l) (hu : REvP c m T ρ upper u) (hx : x.length ≤ sizeLine)
    (ht : ∀ o r, letTemporaryGo value o r = pure () := by intro _ _; rfl) : REv c m T ρ (.Subscript value (.Slice lower upper none p) pos) (.str (Txt.slice x l u)) := fun F k =>
  wpAny_Subscript_str_slice (h F fun v s₁ e₁ r₁ => hl (F.ext e₁) fun a s₂ ha e₂ => hu (F.ext (e₁.trans e₂)) fun b s₃ hb e₃ => by
    obtain ⟨t, rfl⟩ := r₁.str_inv
    refine ⟨x, t, a, b, rfl, rfl, rfl, ?_⟩
    have q : sliceMade x t a b none = if ((1 : Int) == 1 && (Builtin.Str.strSliceIndices l u 1 x.length).length == x.length) = true then .val (.str x t) else .str ⟨((Builtin.Str.strSliceIndices l u 1 x.length).filterMap (x.cps[·]?)).toArray⟩ := by
      rw [← ha, ← hb]; rfl
    rw [q]
    refine post_val_or_str ⟨Nat.le_trans (Txt.slice_le x l u) hx, fun t' kk => k _ _ (((e₁.trans e₂).trans e₃).trans ((Ext.push _).trans Ext.toks)) (.str _ _)⟩) ht

def pickL {α : Type} (xs : List α) (lo hi st : Option Int) : List α :=
  (sliceRange (sliceBounds lo hi st xs.length).1 (sliceBounds lo hi st xs.length).2.1 (sliceBounds lo hi st xs.length).2.2).filterMap (xs[·]?)
theorem rd_filterMap {h : Heap} {P : List Addr} {vs : List Value} {ds : List PyData} (r : RdAll h P vs ds) : ∀ is : List Nat, RdAll h P (is.filterMap (vs[·]?)) (is.filterMap (ds[·]?))
  | [] => .nil
  | i :: is => by
    have ih := rd_filterMap r is
    cases hd : ds[i]? with
    | none =>
      have hv : vs[i]? = none := by
        cases q : vs[i]? with
        | none => rfl
        | some v => obtain ⟨d, h1, _⟩ := r.get' i q; rw [hd] at h1; cases h1
      simpa [List.filterMap_cons, hd, hv] using ih
    | some d =>
      obtain ⟨v, hv, rv⟩ := r.get i hd
      simpa [List.filterMap_cons, hd, hv] using RdAll.cons rv ih
theorem rd_pick {h : Heap} {P : List Addr} {vs : Array Value} {ds : List PyData} (r : RdAll h P vs.toList ds) (lo hi st : Option Int) : RdAll h P (slicePick vs lo hi st).toList (pickL ds lo hi st) := by
  have e : vs.size = ds.length := by have := r.len; simpa using this
  have q := rd_filterMap r (sliceRange (sliceBounds lo hi st ds.length).1 (sliceBounds lo hi st ds.length).2.1 (sliceBounds lo hi st ds.length).2.2)
  unfold slicePick pickL
  rw [e]
  simpa using q
theorem isPart_of {q : Option (Int × Tok)} : IsPart (partValue q) (q.map (·.1)) := by
  cases q with
  | none => exact .none
  | some p => exact .int _ _
theorem REv.sliceL {value : PySem.Expr} {lower upper : Option PySem.Expr} {p pos : Pos} {xs : List PyData} {l u : Option Int} (h : REv c m T ρ value (.list xs)) (hl : REvP c m T ρ lower l) (hu : REvP c m T ρ upper u) (hx : xs.length ≤ sizeLine)
    (ht : ∀ o r, letTemporaryGo value o r = pure () := by intro _ _; rfl) : REv c m T ρ (.Subscript value (.Slice lower upper none p) pos) (.list (pickL xs l u none)) := fun F k =>
  wpAny_Subscript_list_slice (h F fun v s₁ e₁ r₁ => hl (F.ext e₁) fun a s₂ ha e₂ => hu (F.ext (e₁.trans e₂)) fun b s₃ hb e₃ => by
    have r₃ := (r₁.ext e₂).ext e₃
    have F₃ := (F.ext ((e₁.trans e₂).trans e₃)).sx
    obtain ⟨o, vs, rfl, hl', ra⟩ := r₃.list_inv
    have e : vs.size = xs.length := by have := ra.len; simpa using this
    refine ⟨o, vs, l, u, rfl, isList_of_vis hl', by rw [e]; exact hx, ha ▸ isPart_of, hb ▸ isPart_of, ?_⟩
    have q := rd_newList (s := { s₃ with heap := s₃.heap.push { cls := .type "slice", data := .fields #[partValue a, partValue b, .none] } }) (F₃.ext (Ext.push (s := s₃) _)) ((rd_pick ra l u none).ext (Ext.push (s := s₃) { cls := .type "slice", data := .fields #[partValue a, partValue b, .none] }))
    simp only [Heap.size_push, Array.toArray_toList] at q
    exact k _ _ (((e₁.trans e₂).trans e₃).trans (.of_keeps (fun _ _ e => Heap.get?_push_of_some _ (Heap.get?_push_of_some _ e)) rfl rfl)) q) ht
theorem REv.sliceLS {value st : PySem.Expr} {lower upper : Option PySem.Expr} {p pos : Pos} {xs : List PyData} {l u : Option Int} {k : Int} (h : REv c m T ρ value (.list xs)) (hl : REvP c m T ρ lower l) (hu : REvP c m T ρ upper u) (hst : REv c m T ρ st (.int k)) (hk : k ≠ 0) (hx : xs.length ≤ sizeLine)
    (ht : ∀ o r, letTemporaryGo value o r = pure () := by intro _ _; rfl) : REv c m T ρ (.Subscript value (.Slice lower upper (some st) p) pos) (.list (pickL xs l u (some k))) := fun {A P env s E Q} F kk =>
  wpAny_Subscript_Slice_step (T := "list") list_getitem_lookup (h F fun v s₁ e₁ r₁ => wpAny_Slice (hl (F.ext e₁) fun a s₂ ha e₂ => hu (F.ext (e₁.trans e₂)) fun b s₃ hb e₃ => (hst (F.ext ((e₁.trans e₂).trans e₃)) fun w s₄ e₄ r₄ => by
    have eall := ((e₁.trans e₂).trans e₃).trans e₄
    have r₅ := ((r₁.ext e₂).ext e₃).ext e₄
    obtain ⟨t, rfl⟩ := r₄.int_inv
    obtain ⟨o, vs, rfl, hl', ra⟩ := r₅.list_inv
    have e : vs.size = xs.length := by have := ra.len; simpa using this
    have e5 : Ext P s₄ { s₄ with heap := s₄.heap.push { cls := .type "slice", data := .fields #[partValue a, partValue b, .int k t] } } := Ext.push _
    have hl5 : (s₄.heap.push { cls := .type "slice", data := .fields #[partValue a, partValue b, .int k t] }).IsList o vs := list_priv e5 (isList_of_vis hl')
    refine ⟨hl5.typeIs, wpAny_getItem_list_slice hl5 (Heap.IsSliceOf.new _ _ _ _) (ha ▸ isPart_of) (hb ▸ isPart_of) (.int k t) (by simpa using hk) ?_ (by rw [e]; exact hx)⟩
    have q := rd_newList (s := { s₄ with heap := s₄.heap.push { cls := .type "slice", data := .fields #[partValue a, partValue b, .int k t] } }) ((F.ext eall).sx.ext e5) ((rd_pick ra l u (some k)).ext e5)
    simp only [Array.toArray_toList] at q
    exact kk _ _ (eall.trans (.of_keeps (fun _ _ e => Heap.get?_push_of_some _ (Heap.get?_push_of_some _ e)) rfl rfl)) q))) ht
end
end Mine
namespace Mine

section
variable {c : Cx} {m : Nat} {T : Tab} {ρ ρ' : Vars}

/-! methods of texts -/
theorem REv.meth0 {o : PySem.Expr} {name : Str} {id : String} {apos pos : Pos} {x : Str} {d : PyData} (h : REv c m T ρ o (.str x)) (slot : Slot "str" name id) (ty : typeOf (.builtin id) = pure (.type "method_descriptor"))
    (hf : RBi c m (.builtin id) [.str x] d) (hp : (apos.endLine == pos.line) = true := by exact rfl)
    (ha : ∀ env : Env, attributeBase o name env (eval o env) = eval o env := by intro _; rfl) : REv c m T ρ (.Call (.Attribute o name apos) [] [] pos) d := fun F k =>
  wpAny_Call_method (ha _) rfl hp PySem.F.plainAttrs_str slot ty (h F fun v s₁ e₁ r₁ => by
    obtain ⟨t, rfl⟩ := r₁.str_inv
    exact ⟨typeIs_str _ _ _, (fun _ e => (nomatch e)), callWith_method0 (hf (F.ext e₁).toGo (.cons (.str _ _) .nil) fun r s₂ e₂ r₂ => k _ _ (e₁.trans e₂) r₂)⟩)
theorem REv.meth {o e : PySem.Expr} {es : List PySem.Expr} {name : Str} {id : String} {apos pos : Pos} {x : Str} {ds : List PyData} {d : PyData} (h : REv c m T ρ o (.str x)) (hs : REvL c m T ρ (e :: es) ds) (slot : Slot "str" name id) (ty : typeOf (.builtin id) = pure (.type "method_descriptor"))
    (hf : RBi c m (.builtin id) (.str x :: ds) d) (hp : (apos.endLine == pos.line) = true := by exact rfl)
    (ha : ∀ env : Env, attributeBase o name env (eval o env) = eval o env := by intro _; rfl)
    (he : ∀ env : Env, starEach (e :: es) env = (false, eval e env) :: starEach es env := by intro _; rfl) (hpl : ∀ env : Env, (backTo pos (starEach es env)).any (·.1) = false := by intro _; rfl)
    (hform : ∀ env : Env, ((((backTo pos (starEach (e :: es) env)).all fun x => !x.fst) && (backToKw pos (keywordEach [] env)).all fun x => x.fst.isSome) && decide (((e :: es).length + ([] : List Keyword).length + if ([] : List Keyword).isEmpty = true then 0 else 1) < 30)) = true := by intro _; rfl) :
    REv c m T ρ (.Call (.Attribute o name apos) (e :: es) [] pos) d := fun F k =>
  wpAny_Call_method (prog := c.prog) (w := c.w) (ha _) (hform _) hp PySem.F.plainAttrs_str slot ty (h F fun v s₁ e₁ r₁ => by
    obtain ⟨t, rfl⟩ := r₁.str_inv
    exact ⟨typeIs_str _ _ _, (fun _ e => (nomatch e)), callWith_method1 (first := [.str x t]) (hs (F.ext e₁) fun vs s₂ e₂ r₂ => hf (F.ext (e₁.trans e₂)).toGo (.cons (.str x t) r₂) fun r s₃ e₃ r₃ => k _ _ ((e₁.trans e₂).trans e₃) r₃) (he _) (hpl _)⟩)

theorem RBi.lower {x : Str} (hx : x.length ≤ 5592405) : RBi c m (.builtin "str.lower") [.str x] (.str (Txt.lower x)) := fun F r k => by
  obtain ⟨v, rfl, r1⟩ := one_inv r; obtain ⟨t, rfl⟩ := r1.str_inv
  exact SCL.lower hx fun _ => k _ _ .toks (.str _ _)
theorem RBi.find {x y : Str} : RBi c m (.builtin "str.find") [.str x, .str y] (.int (Txt.find x y)) := fun F r k => by
  obtain ⟨v, u, rfl, r1, r2⟩ := two_inv r; obtain ⟨t, rfl⟩ := r1.str_inv; obtain ⟨t', rfl⟩ := r2.str_inv
  exact SC.find (k _ _ .toks (.int _ _))
theorem RBi.find3 {x y : Str} {i : Int} : RBi c m (.builtin "str.find") [.str x, .str y, .int i] (.int (Txt.find3 x y i)) := fun F r k => by
  obtain ⟨v, u, w, rfl, r1, r2, r3⟩ := three_inv r; obtain ⟨t, rfl⟩ := r1.str_inv; obtain ⟨t', rfl⟩ := r2.str_inv; obtain ⟨t'', rfl⟩ := r3.int_inv
  exact SC.find3 (k _ _ .toks (.int _ _))
theorem rd_strs {h : Heap} {P : List Addr} : ∀ l : List (Str × Tok), RdAll h P (strValues l) ((l.map (·.1)).map .str)
  | [] => .nil
  | p :: l => by
    have := rd_strs (h := h) (P := P) l
    simpa [strValues] using RdAll.cons (Rd.str p.1 p.2) this
theorem RBi.split {x y : Str} (hy : (y.length == 0) = false) (hx : x.length ≤ sizeLine)
    (hn : (Builtin.Str.partsBetween x (Builtin.Str.occurrences x y 0 x.length (x.length + 1)) y.length).length ≤ sizeLine) : RBi c m (.builtin "str.split") [.str x, .str y] (.list ((Txt.split x y).map .str)) := fun {A P s E Q vs} F r k => by
  obtain ⟨v, w, rfl, r1, r2⟩ := two_inv r; obtain ⟨t, rfl⟩ := r1.str_inv; obtain ⟨u, rfl⟩ := r2.str_inv
  have fin : ∀ (l : List (Str × Tok)) (tk : Nat), l.map (·.1) = Txt.split x y → Q (.ref s.heap.objs.size) { s with heap := s.heap.push { cls := .type "list", data := .seq (strValues l).toArray }, toks := tk } := fun l tk hl => by
    refine k _ _ (.of_keeps (fun _ _ e => Heap.get?_push_of_some _ e) rfl rfl) ?_
    have := rd_newList (s := s) F.sx (rd_strs (h := s.heap) (P := P) l)
    rw [hl] at this
    exact this
  cases h1 : (decide (x.length < y.length) || decide (Builtin.Str.strKind x < Builtin.Str.strKind y))
  · cases hf : (Builtin.Str.occurrences x y 0 x.length (x.length + 1)).isEmpty
    · refine call_meets PySem.F.slot_str_split (typeIs_str _ _ _) PySem.F.entry_str_split (PySem.F.args_str_split_2 _ _) (meets_str_split_sep x y t u h1 hy hf hx hn) ?_
      show wants Q E _ { s with toks := _, heap := s.heap.push { cls := .type "list", data := .seq (strsFrom s.toks (Builtin.Str.partsBetween x (Builtin.Str.occurrences x y 0 x.length (x.length + 1)) y.length)).toArray } }
      rw [strsFrom_eq]
      exact fin (numbered s.toks _) _ ((numbered_texts _ _).trans ((if_neg (ne_true_of_eq_false h1)).trans (if_neg (ne_true_of_eq_false hf))).symm)
    · exact call_meets PySem.F.slot_str_split (typeIs_str _ _ _) PySem.F.entry_str_split (PySem.F.args_str_split_2 _ _) (meets_str_split_not_found x y t u h1 hy hf) (fin [(x, t)] _ ((if_neg (ne_true_of_eq_false h1)).trans (if_pos hf)).symm)
  · exact call_meets PySem.F.slot_str_split (typeIs_str _ _ _) PySem.F.entry_str_split (PySem.F.args_str_split_2 _ _) (meets_str_split_cannot_occur x y t u h1) (fin [(x, t)] _ (if_pos h1).symm)

/-! a global that holds an int -/
theorem REv.gint {x : Str} {pos : Pos} {n : Int} {t : Tok} (hv : c.mg x = some (.int n t)) (hx : T.lookup x = some .globalImplicit := by kernel_rfl) (hd : (x == ("__debug__" : Str)) = false := by decide) : REv c m T ρ (.Name x pos) (.int n) := fun F k =>
  gname F hx hv hd (k _ _ (.refl _ _) (.int _ _))

/-! is -/
theorem ROp2.isBool {a b : Bool} : ROp2 c m (compareOp .Is) (.bool a) (.bool b) (.bool (a == b)) := fun F r1 r2 k => by
  rw [r1.bool_inv, r2.bool_inv]; exact is_bool (k _ _ (.refl _ _) (.bool _))

/-! isinstance of an int or a bool -/
theorem REv.isi {x y : Str} {K : String} {p p' pos : Pos} {e : PySem.Expr} {d : PyData} {b : Bool} (h : REv c m T ρ e d) (hn : c.mg x = Option.none) (hv : c.mb x = some (.builtin "isinstance")) (hn' : c.mg y = Option.none) (hv' : c.mb y = some (.type K))
    (hf : ∀ {A : Around} {P : List Addr} {s : Shared} {E : Value → Shared → Prop} {Q : Value → Shared → Prop} {v : Value}, Go c m A P s → Rd s.heap P v d →
      (∀ s', Ext P s s' → Q (.bool b) s') → wpAny (model c.prog c.w) A (PySem.call (.builtin "isinstance") [v, .type K]) Q E s)
    (hx : T.lookup x = some .globalImplicit := by kernel_rfl) (hd : (x == ("__debug__" : Str)) = false := by decide) (hx' : T.lookup y = some .globalImplicit := by kernel_rfl) (hd' : (y == ("__debug__" : Str)) = false := by decide)
    (he : ∀ env : Env, starEach [e, .Name y p'] env = (false, eval e env) :: starEach [.Name y p'] env := by intro _; rfl) : REv c m T ρ (.Call (.Name x p) [e, .Name y p'] [] pos) (.bool b) := fun F k =>
  Call_ (bname F hx hn hv hd (PyProof.Rows.callWith_builtin1 (args_cons (h F fun v s₁ e₁ r₁ => args_cons (bname (F.ext e₁) hx' hn' hv' hd' (args_nil (hf (F.ext e₁).toGo r₁ fun s₂ e₂ => k _ _ (e₁.trans e₂) (.bool _))))) (he _)) (he _)))
theorem isi_int_int {n : Int} {A : Around} {P : List Addr} {s : Shared} {E : Value → Shared → Prop} {Q : Value → Shared → Prop} {v : Value} (F : Go c m A P s) (r : Rd s.heap P v (.int n))
      (k : ∀ s', Ext P s s' → Q (.bool true) s') : wpAny (model c.prog c.w) A (call (.builtin "isinstance") [v, .type "int"]) Q E s := by
  obtain ⟨t, rfl⟩ := r.int_inv; exact IsiPair.int_int (k _ (.refl _ _))
theorem isi_int_bool {n : Int} {A : Around} {P : List Addr} {s : Shared} {E : Value → Shared → Prop} {Q : Value → Shared → Prop} {v : Value} (F : Go c m A P s) (r : Rd s.heap P v (.int n))
      (k : ∀ s', Ext P s s' → Q (.bool false) s') : wpAny (model c.prog c.w) A (call (.builtin "isinstance") [v, .type "bool"]) Q E s := by
  obtain ⟨t, rfl⟩ := r.int_inv; exact IsiPair.int_bool (k _ .toks)
end
end Mine
namespace Mine

theorem no_both {h : Addr → Prop} {a : Addr} (l : h a) (n : ¬ h a) : False := n l
abbrev Ow := Option (Str × List PyData)

structure Own (n₀ : Addr → Prop) (O P₀ : List Addr) (C : List Str) (env : Env) (ρ : Vars) (ω : Ow) (s : Shared) : Prop where
  above : ∀ a ∈ O, ¬ n₀ a
  old : ∀ a ∈ P₀, n₀ a
  still : ∀ b, n₀ b → ∃ o, s.heap.get? b = some o
  loc : env.locals ∈ O
  ns : ∃ m, s.heap.Ns env.locals m
  cells : ∀ x ∈ C, env.kindOf x = some .cell ∧ ∃ a v, env.cells.lookup x = some a ∧ a ∈ O ∧ s.heap.IsCell a v
  inj : ∀ x ∈ C, ∀ y a, env.cells.lookup x = some a → env.cells.lookup y = some a → x = y
  owned : ∀ x ds, ω = some (x, ds) → (∀ p ∈ ρ, p.1 ≠ x) ∧ ∃ a ob items k, Look s.heap env x (.ref a) ∧ a ∈ O ∧ s.heap.get? a = some ob ∧ ob.cls = .type "list" ∧ ob.dict = none ∧ ob.data = .seq items k ∧ RdAll s.heap (O ++ P₀) items.toList ds

/-- a list that bears no dict of its own -/
def IsListD (h : Heap) (a : Addr) (vs : Array Value) : Prop := ∃ o, h.get? a = some o ∧ o.cls = .type "list" ∧ o.dict = none ∧ ∃ n, o.data = .seq vs n
theorem IsListD.l {h : Heap} {a : Addr} {vs : Array Value} (x : IsListD h a vs) : h.IsList a vs := by
  obtain ⟨o, h1, h2, _, h3⟩ := x; exact ⟨o, h1, h2, h3⟩
theorem listD_priv {P : List Addr} {s s' : Shared} (e : Ext P s s') {a : Addr} {v : Array Value} (h : IsListD s.heap a v) : IsListD s'.heap a v := by
  obtain ⟨o, h1, h2⟩ := h
  obtain ⟨sl, h4⟩ := e.priv a o h1
  exact ⟨_, h4, h2⟩

def FS (c : Cx) (m : Nat) (A : Around) (n₀ : Addr → Prop) (P₀ : List Addr) (T : Tab) (C : List Str) (env : Env) (ρ : Vars) (ω : Ow) (s : Shared) : Prop :=
  ∃ O, Fx c m A (O ++ P₀) T env ρ s ∧ Own n₀ O P₀ C env ρ ω s

structure Kb (n₀ : Addr → Prop) (P₀ : List Addr) (s s' : Shared) : Prop where
  keep : ∀ b o, n₀ b → b ∉ P₀ → s.heap.get? b = some o → s'.heap.get? b = some o
  priv : ∀ b o, n₀ b → s.heap.get? b = some o → ∃ sl, s'.heap.get? b = some { o with slots := sl }
  rest : ∀ b o, n₀ b → (∀ es n, o.data ≠ .dict es n) → s.heap.get? b = some o → s'.heap.get? b = some o
  gens : s'.gens = s.gens
  os : s'.os = s.os
theorem Kb.refl (n₀ : Addr → Prop) (P₀ : List Addr) (s : Shared) : Kb n₀ P₀ s s := ⟨fun _ _ _ _ e => e, fun _ o _ e => ⟨o.slots, e⟩, fun _ _ _ _ e => e, rfl, rfl⟩
theorem Kb.trans {n₀ : Addr → Prop} {P : List Addr} {a b c : Shared} (x : Kb n₀ P a b) (y : Kb n₀ P b c) : Kb n₀ P a c where
  keep := fun q o l n e => y.keep q o l n (x.keep q o l n e)
  priv := fun q o l e => by
    obtain ⟨sl, e1⟩ := x.priv q o l e
    obtain ⟨sl2, e2⟩ := y.priv q _ l e1
    exact ⟨sl2, e2⟩
  rest := fun q o l n e => y.rest q o l n (x.rest q o l n e)
  gens := y.gens.trans x.gens
  os := y.os.trans x.os
theorem Ext.kb {n₀ : Addr → Prop} {O P₀ : List Addr} {s s' : Shared} (e : Ext (O ++ P₀) s s') (h : ∀ a ∈ O, ¬ n₀ a) : Kb n₀ P₀ s s' where
  keep := fun b o l n q => e.keep b o (fun hm => (List.mem_append.mp hm).elim (fun ho => no_both l (h b ho)) n) q
  priv := fun b o _ q => e.priv b o q
  rest := fun b o _ n q => e.rest b o n q
  gens := e.gens
  os := e.os

theorem Own.ext {n₀ : Addr → Prop} {O P₀ : List Addr} {C : List Str} {env : Env} {ρ : Vars} {ω : Ow} {s s' : Shared} (W : Own n₀ O P₀ C env ρ ω s) (e : Ext (O ++ P₀) s s') : Own n₀ O P₀ C env ρ ω s' where
  above := W.above
  old := W.old
  still := fun b l => by
    obtain ⟨o, q⟩ := W.still b l
    obtain ⟨sl, q⟩ := e.priv b o q
    exact ⟨_, q⟩
  loc := W.loc
  ns := by obtain ⟨m, h⟩ := W.ns; exact ⟨m, ns_priv e h⟩
  cells := fun x hx => by
    obtain ⟨k, a, v, h1, h2, h3⟩ := W.cells x hx
    exact ⟨k, a, v, h1, h2, cell_priv e h3⟩
  inj := W.inj
  owned := fun x ds h => by
    obtain ⟨h0, a, ob, items, k, h1, h2, h3, h4, h5, h6, h7⟩ := W.owned x ds h
    obtain ⟨sl, h8⟩ := e.priv a ob h3
    exact ⟨h0, a, _, items, k, h1.ext e, h2, h8, h4, h5, h6, h7.ext e⟩
theorem Own.sub {n₀ : Addr → Prop} {O P₀ : List Addr} {C : List Str} {env : Env} {ρ ρ' : Vars} {ω : Ow} {s : Shared} (W : Own n₀ O P₀ C env ρ ω s) (h : ∀ p ∈ ρ', p ∈ ρ) : Own n₀ O P₀ C env ρ' ω s :=
  { W with owned := fun x ds e => by obtain ⟨h0, r⟩ := W.owned x ds e; exact ⟨fun p hp => h0 p (h p hp), r⟩ }
theorem FS.sub {c : Cx} {m : Nat} {A : Around} {n₀ : Addr → Prop} {P₀ : List Addr} {T : Tab} {C : List Str} {env : Env} {ρ ρ' : Vars} {ω : Ow} {s : Shared} (F : FS c m A n₀ P₀ T C env ρ ω s) (h : ∀ p ∈ ρ', p ∈ ρ) : FS c m A n₀ P₀ T C env ρ' ω s := by
  obtain ⟨O, F, W⟩ := F; exact ⟨O, F.sub h, W.sub h⟩
theorem FS.drop {c : Cx} {m : Nat} {A : Around} {n₀ : Addr → Prop} {P₀ : List Addr} {T : Tab} {C : List Str} {env : Env} {ρ : Vars} {ω : Ow} {s : Shared} (F : FS c m A n₀ P₀ T C env ρ ω s) : FS c m A n₀ P₀ T C env ρ none s := by
  obtain ⟨O, F, W⟩ := F; exact ⟨O, F, { W with owned := fun _ _ e => nomatch e }⟩

/-- one private object's turn: what is visible stays -/
theorem vis_but {h h' : Heap} {P : List Addr} {a : Addr} (ha : a ∈ P) (hs : Heap.SameBut a h h') : ∀ b o, (vis h P).get? b = some o → (vis h' P).get? b = some o := fun b o e => by
  obtain ⟨e, n⟩ := vis_get.mp e
  exact vis_get.mpr ⟨(hs.2 b fun q => n (q ▸ ha)).trans e, n⟩

theorem Look.but {h h' : Heap} {env : Env} {x : Str} {v : Value} {a : Addr} (l : Look h env x v) (hs : Heap.SameBut a h h') (h1 : env.kindOf x = some .local → env.locals ≠ a) (h2 : ∀ b, env.cells.lookup x = some b → h.IsCell b (some v) → b ≠ a) : Look h' env x v := by
  rcases l with ⟨k, m, n, q⟩ | ⟨k, b, n, q⟩
  · exact .inl ⟨k, m, n.sameBut hs (h1 k), q⟩
  · exact .inr ⟨k, b, n, q.sameBut hs (h2 b n q)⟩

theorem ns_not_cell {h : Heap} {a : Addr} {m : Str → Option Value} {v : Option Value} (n : h.Ns a m) (q : h.IsCell a v) : False := by
  obtain ⟨o, es, ep, h1, h2, _⟩ := n
  obtain ⟨o', h3, h4⟩ := q
  rw [h1] at h3; cases h3; rw [h2] at h4; cases h4
theorem ns_not_list {h : Heap} {a : Addr} {m : Str → Option Value} {ob : Obj} {items : Array Value} {k : Nat} (n : h.Ns a m) (q : h.get? a = some ob) (d : ob.data = .seq items k) : False := by
  obtain ⟨o, es, ep, h1, h2, _⟩ := n
  rw [h1] at q; cases q; rw [h2] at d; cases d
theorem cell_not_list {h : Heap} {a : Addr} {v : Option Value} {ob : Obj} {items : Array Value} {k : Nat} (n : h.IsCell a v) (q : h.get? a = some ob) (d : ob.data = .seq items k) : False := by
  obtain ⟨o, h1, h2⟩ := n
  rw [h1] at q; cases q; rw [h2] at d; cases d

/-- the store of a name -/
theorem store_raw {c : Cx} {m : Nat} {A : Around} {n₀ : Addr → Prop} {O P₀ : List Addr} {T : Tab} {C : List Str} {env : Env} {ρ ρ' : Vars} {ω : Ow} {s : Shared} {x : Str} {v : Value} {E : Value → Shared → Prop} {Q : Unit → Shared → Prop}
    (F : Fx c m A (O ++ P₀) T env ρ s) (W : Own n₀ O P₀ C env ρ ω s) (hk : T.lookup x = some .local ∨ x ∈ C) (hs : ∀ p ∈ ρ', p ∈ ρ) (hx : ∀ p ∈ ρ', p.1 ≠ x) (ho : ∀ y ds, ω = some (y, ds) → y ≠ x)
    (k : ∀ s', Kb n₀ P₀ s s' → (∀ b o, (vis s.heap (O ++ P₀)).get? b = some o → (vis s'.heap (O ++ P₀)).get? b = some o) → (∀ b ob, s.heap.get? b = some ob → ((∃ items k, ob.data = .seq items k) ∨ (∃ vs, ob.data = .fields vs) ∨ (b ≠ env.locals ∧ ∃ es n, ob.data = .dict es n)) → s'.heap.get? b = some ob) → Look s'.heap env x v → Fx c m A (O ++ P₀) T env ρ' s' → Own n₀ O P₀ C env ρ' ω s' → Q () s') : wpAny (model c.prog c.w) A (storeName env x v) Q E s := by
  have mO : ∀ a ∈ O, a ∈ O ++ P₀ := fun a h => List.mem_append_left _ h
  -- what any turn of one object of ours leaves
  have gen : ∀ (a : Addr) (h' : Heap) (tk : Nat), a ∈ O → Heap.SameBut a s.heap h' → (∃ o, h'.get? a = some o) → (∀ es n, (∃ o, s.heap.get? a = some o ∧ o.data = .dict es n) → ∃ o es n, h'.get? a = some o ∧ o.data = .dict es n) →
      (∃ m', h'.Ns env.locals m') → (∀ y ∈ C, ∃ b w, env.cells.lookup y = some b ∧ b ∈ O ∧ h'.IsCell b w) → Look h' env x v → (∀ y u, y ≠ x → (∃ e, (y, e) ∈ ρ) ∨ (∃ ds, ω = some (y, ds)) → Look s.heap env y u → Look h' env y u) →
      (∀ b ob, s.heap.get? b = some ob → ((∃ items k, ob.data = .seq items k) ∨ (∃ vs, ob.data = .fields vs) ∨ (b ≠ env.locals ∧ ∃ es n, ob.data = .dict es n)) → h'.get? b = some ob) → Q () { s with heap := h', toks := tk } := by
    intro a h' tk ha hsb hex hdict hns hcells hlx hlo hlist
    have vk := vis_but (mO a ha) hsb
    refine k _ ⟨fun b o l n e => (hsb.2 b fun q => ?_).trans e, fun b o l e => ⟨o.slots, (hsb.2 b fun q => ?_).trans e⟩, fun b o l _ e => (hsb.2 b fun q => ?_).trans e, rfl, rfl⟩ vk hlist hlx ?_ ?_
    · exact no_both l (q ▸ W.above a ha)
    · exact no_both l (q ▸ W.above a ha)
    · exact no_both l (q ▸ W.above a ha)
    · refine { sx := ⟨F.sx.g.keeps vk, F.sx.b.keeps vk, F.sx.lim.keeps vk, F.sx.k.keeps vk, fun p hp => ?_⟩, hd := F.hd, depth := F.depth, units := F.units, frs := ?_, vars := fun p hp => ?_, tab := F.tab, kind := F.kind, gl := F.gl, bl := F.bl }
      · by_cases q : p = a
        · subst q; exact hex
        · obtain ⟨o, ho⟩ := F.sx.ex p hp; exact ⟨o, (hsb.2 p q).trans ho⟩
      · obtain ⟨l, h1, h2⟩ := F.frs
        refine ⟨l, h1, fun env' he => ?_⟩
        obtain ⟨kk, L, o, a1, a2, a3, es, n, a4⟩ := h2 env' he
        by_cases q : L = a
        · subst q
          obtain ⟨o', es', n', b1, b2⟩ := hdict es n ⟨o, a3, a4⟩
          exact ⟨kk, L, o', a1, a2, b1, es', n', b2⟩
        · exact ⟨kk, L, o, a1, a2, (hsb.2 L q).trans a3, es, n, a4⟩
      · obtain ⟨u, l, ru⟩ := F.vars p (hs p hp)
        exact ⟨u, hlo p.1 u (hx p hp) (.inl ⟨p.2, hs p hp⟩) l, ru.mono vk⟩
    · refine { above := W.above, old := W.old, still := fun b l => (W.still b l).imp fun o e => (hsb.2 b fun q => no_both l (q ▸ W.above a ha)).trans e, loc := W.loc, ns := hns, cells := fun y hy => ⟨(W.cells y hy).1, hcells y hy⟩, inj := W.inj, owned := fun y ds e => ?_ }
      obtain ⟨h0, b, ob, items, kk, h1, h2, h3, h4, h5, h6, h7⟩ := W.owned y ds e
      have hyx := ho y ds e
      refine ⟨fun p hp => ?_, b, ob, items, kk, hlo y _ hyx (.inr ⟨ds, e⟩) h1, h2, hlist b ob h3 (.inl ⟨items, kk, h6⟩), h4, h5, h6, h7.mono vk⟩
      exact h0 p (hs p hp)
  obtain ⟨mm, hns⟩ := W.ns
  have kx : env.scope.kind = .function := F.kind
  rcases hk with hk | hk
  · have hl : env.kindOf x = some .local := by rw [Env.kindOf, F.tab]; exact hk
    refine wpAny_storeName_local hl hns (fun h' hn hsb => ?_) (by rw [kx]; rfl)
    refine gen env.locals h' _ W.loc hsb ?_ ?_ ⟨_, hn⟩ (fun y hy => ?_) (.inl ⟨hl, _, hn, by simp⟩) (fun y u hyx _ l => ?_) fun b ob h1 h2 => ?_
    · obtain ⟨o, _, _, h1, _⟩ := hn; exact ⟨o, h1⟩
    · intro es n _; obtain ⟨o, es, n, h1, h2, _⟩ := hn; exact ⟨o, es, n, h1, h2⟩
    · obtain ⟨_, b, w, h1, h2, h3⟩ := W.cells y hy
      exact ⟨b, w, h1, h2, h3.sameBut hsb fun q => ns_not_cell hns (q ▸ h3)⟩
    · rcases l with ⟨ky, m2, n2, q2⟩ | ⟨ky, b, n2, q2⟩
      · refine .inl ⟨ky, _, hn, ?_⟩
        rw [if_neg hyx]
        obtain ⟨o1, es1, ep1, a1, a2, _, a4⟩ := hns
        obtain ⟨o2, es2, ep2, b1, b2, _, b4⟩ := n2
        rw [a1] at b1; cases b1; rw [a2] at b2; cases b2
        rw [← a4 y, b4 y]; exact q2
      · exact .inr ⟨ky, b, n2, q2.sameBut hsb fun q => ns_not_cell hns (q ▸ q2)⟩
    · refine (hsb.2 b fun q => ?_).trans h1
      obtain ⟨o, es, ep, a1, a2, _⟩ := hns
      rw [q, a1] at h1; cases h1; rw [a2] at h2
      rcases h2 with ⟨_, _, h2⟩ | ⟨_, h2⟩ | ⟨h2, _⟩
      · cases h2
      · cases h2
      · exact h2 q
  · obtain ⟨hl, a, w, h1, h2, h3⟩ := W.cells x hk
    refine wpAny_storeName_cell kx hl h1 h3 fun h' hc hsb => ?_
    refine gen a h' s.toks h2 hsb ?_ ?_ ⟨mm, hns.sameBut hsb fun q => ns_not_cell hns (q ▸ h3)⟩ (fun y hy => ?_) (.inr ⟨.inl hl, a, h1, hc⟩) (fun y u hyx _ l => ?_) fun b ob q1 q2 => ?_
    · obtain ⟨o, h1, _⟩ := hc; exact ⟨o, h1⟩
    · rintro es n ⟨o, q1, q2⟩; obtain ⟨o', p1, p2⟩ := h3; rw [q1] at p1; cases p1; rw [q2] at p2; cases p2
    · by_cases q : y = x
      · subst q; exact ⟨a, some v, h1, h2, hc⟩
      · obtain ⟨_, b, w', p1, p2, p3⟩ := W.cells y hy
        exact ⟨b, w', p1, p2, p3.sameBut hsb fun e => q (W.inj x hk y a h1 (e ▸ p1)).symm⟩
    · rcases l with ⟨ky, m2, n2, q2⟩ | ⟨ky, b, n2, q2⟩
      · exact .inl ⟨ky, m2, n2.sameBut hsb fun q => ns_not_cell n2 (q ▸ h3), q2⟩
      · exact .inr ⟨ky, b, n2, q2.sameBut hsb fun e => hyx (W.inj x hk y a h1 (e ▸ n2)).symm⟩
    · refine (hsb.2 b fun q => ?_).trans q1
      obtain ⟨o, a1, a2⟩ := h3
      rw [q, a1] at q1; cases q1; rw [a2] at q2
      rcases q2 with ⟨_, _, q2⟩ | ⟨_, q2⟩ | ⟨_, _, _, q2⟩ <;> cases q2

theorem store_wpd {c : Cx} {m : Nat} {A : Around} {n₀ : Addr → Prop} {O P₀ : List Addr} {T : Tab} {C : List Str} {env : Env} {ρ ρ' : Vars} {ω : Ow} {s : Shared} {x : Str} {v : Value} {d : PyData} {E : Value → Shared → Prop} {Q : Unit → Shared → Prop}
    (F : Fx c m A (O ++ P₀) T env ρ s) (W : Own n₀ O P₀ C env ρ ω s) (hk : T.lookup x = some .local ∨ x ∈ C) (r : Rd s.heap (O ++ P₀) v d) (hs : ∀ p ∈ ρ', p ∈ ρ) (hx : ∀ p ∈ ρ', p.1 ≠ x) (ho : ∀ y ds, ω = some (y, ds) → y ≠ x)
    (k : ∀ s', Kb n₀ P₀ s s' → (∀ b o, (vis s.heap (O ++ P₀)).get? b = some o → (vis s'.heap (O ++ P₀)).get? b = some o) → (∀ b ob, s.heap.get? b = some ob → ((∃ items k, ob.data = .seq items k) ∨ (∃ vs, ob.data = .fields vs) ∨ (b ≠ env.locals ∧ ∃ es n, ob.data = .dict es n)) → s'.heap.get? b = some ob) → Fx c m A (O ++ P₀) T env ((x, d) :: ρ') s' → Own n₀ O P₀ C env ((x, d) :: ρ') ω s' → Q () s') : wpAny (model c.prog c.w) A (storeName env x v) Q E s :=
  store_raw F W hk hs hx ho fun s' kb vk sf l F' W' => k s' kb vk sf { F' with vars := fun p hp => (List.mem_cons.mp hp).elim (fun e => e ▸ ⟨v, l, r.mono vk⟩) (F'.vars p) }
    { W' with owned := fun y ds e => ⟨fun p hp => (List.mem_cons.mp hp).elim (fun q => q ▸ fun q => ho y ds e q.symm) ((W'.owned y ds e).1 p), (W'.owned y ds e).2⟩ }
theorem store_wp {c : Cx} {m : Nat} {A : Around} {n₀ : Addr → Prop} {O P₀ : List Addr} {T : Tab} {C : List Str} {env : Env} {ρ ρ' : Vars} {ω : Ow} {s : Shared} {x : Str} {v : Value} {d : PyData} {E : Value → Shared → Prop} {Q : Unit → Shared → Prop}
    (F : Fx c m A (O ++ P₀) T env ρ s) (W : Own n₀ O P₀ C env ρ ω s) (hk : T.lookup x = some .local ∨ x ∈ C) (r : Rd s.heap (O ++ P₀) v d) (hs : ∀ p ∈ ρ', p ∈ ρ) (hx : ∀ p ∈ ρ', p.1 ≠ x) (ho : ∀ y ds, ω = some (y, ds) → y ≠ x)
    (k : ∀ s', Kb n₀ P₀ s s' → (∀ b o, (vis s.heap (O ++ P₀)).get? b = some o → (vis s'.heap (O ++ P₀)).get? b = some o) → (∀ b ob, s.heap.get? b = some ob → ((∃ items k, ob.data = .seq items k) ∨ ∃ vs, ob.data = .fields vs) → s'.heap.get? b = some ob) → Fx c m A (O ++ P₀) T env ((x, d) :: ρ') s' → Own n₀ O P₀ C env ((x, d) :: ρ') ω s' → Q () s') : wpAny (model c.prog c.w) A (storeName env x v) Q E s :=
  store_wpd F W hk r hs hx ho fun s' kb vk sf F' W' => k s' kb vk (fun b ob h1 h2 => sf b ob h1 (h2.elim .inl fun h => .inr (.inl h))) F' W'
/-- a list of ours gets a name -/
theorem store_ownd {c : Cx} {m : Nat} {A : Around} {n₀ : Addr → Prop} {O P₀ : List Addr} {T : Tab} {C : List Str} {env : Env} {ρ ρ' : Vars} {s : Shared} {x : Str} {D : Addr} {ds : List PyData} {E : Value → Shared → Prop} {Q : Unit → Shared → Prop} {ob : Obj} {items : Array Value} {n : Nat}
    (F : Fx c m A (O ++ P₀) T env ρ s) (W : Own n₀ O P₀ C env ρ none s) (hk : T.lookup x = some .local ∨ x ∈ C) (hs : ∀ p ∈ ρ', p ∈ ρ) (hx : ∀ p ∈ ρ', p.1 ≠ x)
    (hD : D ∈ O) (h1 : s.heap.get? D = some ob) (h2 : ob.cls = .type "list") (h3 : ob.dict = none) (h4 : ob.data = .seq items n) (r : RdAll s.heap (O ++ P₀) items.toList ds)
    (k : ∀ s', Kb n₀ P₀ s s' → (∀ b o, (vis s.heap (O ++ P₀)).get? b = some o → (vis s'.heap (O ++ P₀)).get? b = some o) → (∀ b ob, s.heap.get? b = some ob → ((∃ items k, ob.data = .seq items k) ∨ (∃ vs, ob.data = .fields vs) ∨ (b ≠ env.locals ∧ ∃ es n, ob.data = .dict es n)) → s'.heap.get? b = some ob) → Fx c m A (O ++ P₀) T env ρ' s' → Own n₀ O P₀ C env ρ' (some (x, ds)) s' → Q () s') : wpAny (model c.prog c.w) A (storeName env x (.ref D)) Q E s :=
  store_raw F W hk hs hx (fun _ _ e => nomatch e) fun s' kb vk sf l F' W' => k s' kb vk sf F' { W' with owned := fun y es e => by cases e; exact ⟨hx, D, ob, items, n, l, hD, sf D ob h1 (.inl ⟨_, _, h4⟩), h2, h3, h4, r.mono vk⟩ }

end Mine
namespace Mine

inductive Out
  | next (ρ : Vars) (ω : Ow)
  | brk (ρ : Vars) (ω : Ow)
  | ret (d : PyData)
  | exc (cls : Addr) (args : List PyData)

def After (c : Cx) (m : Nat) (A : Around) (n₀ : Addr → Prop) (P₀ : List Addr) (T : Tab) (C : List Str) (env : Env) : Out → Flow → Shared → Prop
  | .next ρ ω, .next, s => FS c m A n₀ P₀ T C env ρ ω s
  | .brk ρ ω, .brk, s => FS c m A n₀ P₀ T C env ρ ω s
  | .ret d, .ret v, s => Rd s.heap P₀ v d
  | _, _, _ => False
def Raised (c : Cx) (m : Nat) (A : Around) (n₀ : Addr → Prop) (P₀ : List Addr) (T : Tab) (C : List Str) (env : Env) (s : Shared) : Out → Value → Shared → Prop
  | .exc cls args, .ref e, s' => ∃ s₁ ρ ω vs, Kb n₀ P₀ s s₁ ∧ FS c m A n₀ P₀ T C env ρ ω s₁ ∧ Heap.MadeExcOf s₁.heap s'.heap e (.ref cls) vs ∧ RdAll s₁.heap P₀ vs args ∧ s'.gens = s₁.gens ∧ s'.os = s₁.os
  | _, _, _ => False

def REx (c : Cx) (m : Nat) (T : Tab) (C : List Str) (ρ : Vars) (ω : Ow) (ss : List PySem.Stmt) (out : Out) : Prop :=
  ∀ {A : Around} {n₀ : Addr → Prop} {P₀ : List Addr} {env : Env} {s : Shared} {E : Value → Shared → Prop} {Q : Flow → Shared → Prop}, FS c m A n₀ P₀ T C env ρ ω s →
    (∀ fl s', Kb n₀ P₀ s s' → After c m A n₀ P₀ T C env out fl s' → Q fl s') → (∀ e s', Raised c m A n₀ P₀ T C env s out e s' → E e s') → wpAny (model c.prog c.w) A (execs ss env) Q E s
def RX1 (c : Cx) (m : Nat) (T : Tab) (C : List Str) (ρ : Vars) (ω : Ow) (st : PySem.Stmt) (out : Out) : Prop :=
  ∀ {A : Around} {n₀ : Addr → Prop} {P₀ : List Addr} {env : Env} {s : Shared} {E : Value → Shared → Prop} {Q : Flow → Shared → Prop}, FS c m A n₀ P₀ T C env ρ ω s →
    (∀ fl s', Kb n₀ P₀ s s' → After c m A n₀ P₀ T C env out fl s' → Q fl s') → (∀ e s', Raised c m A n₀ P₀ T C env s out e s' → E e s') → wpAny (model c.prog c.w) A (exec st env) Q E s

theorem Raised.from {c : Cx} {m : Nat} {A : Around} {n₀ : Addr → Prop} {P₀ : List Addr} {T : Tab} {C : List Str} {env : Env} {s s₀ : Shared} {out : Out} {e : Value} {s' : Shared} (k : Kb n₀ P₀ s₀ s) (r : Raised c m A n₀ P₀ T C env s out e s') : Raised c m A n₀ P₀ T C env s₀ out e s' := by
  cases out <;> cases e <;> first | exact r.elim | skip
  obtain ⟨s₁, ρ, ω, vs, h, r⟩ := r
  exact ⟨s₁, ρ, ω, vs, k.trans h, r⟩
theorem Rd.wide {h : Heap} {O P : List Addr} {v : Value} {d : PyData} (r : Rd h (O ++ P) v d) : Rd h P v d :=
  r.mono fun b o e => by obtain ⟨e, n⟩ := vis_get.mp e; exact vis_get.mpr ⟨e, fun q => n (List.mem_append_right _ q)⟩
theorem RdAll.wide {h : Heap} {O P : List Addr} {v : List Value} {d : List PyData} (r : RdAll h (O ++ P) v d) : RdAll h P v d :=
  r.mono fun b o e => by obtain ⟨e, n⟩ := vis_get.mp e; exact vis_get.mpr ⟨e, fun q => n (List.mem_append_right _ q)⟩

section
variable {c : Cx} {m : Nat} {T : Tab} {C : List Str} {ρ ρ' ρ₁ : Vars} {ω ω₁ : Ow} {out : Out}

theorem REx.sub {ss : List PySem.Stmt} (h : REx c m T C ρ' ω ss out) (q : ∀ p ∈ ρ', p ∈ ρ) : REx c m T C ρ ω ss out := fun F => h (F.sub q)
theorem RX1.sub {ss : PySem.Stmt} (h : RX1 c m T C ρ' ω ss out) (q : ∀ p ∈ ρ', p ∈ ρ) : RX1 c m T C ρ ω ss out := fun F => h (F.sub q)

theorem REx.nil : REx c m T C ρ ω [] (.next ρ ω) := fun F k _ => wpAny_execs_nil (k _ _ (.refl _ _ _) F)
theorem REx.cons {st : PySem.Stmt} {ss : List PySem.Stmt} (h : RX1 c m T C ρ ω st (.next ρ₁ ω₁)) (hs : REx c m T C ρ₁ ω₁ ss out) : REx c m T C ρ ω (st :: ss) out := fun {A n₀ P₀ env s E Q} F k e =>
  wpAny_execs_cons (h F (fun fl s₁ k₁ a => by
    cases fl <;> first | exact a.elim | skip
    exact hs a (fun fl s₂ k₂ a₂ => k fl s₂ (k₁.trans k₂) a₂) fun x s₂ r => e x s₂ (r.from k₁)) fun x s' r => r.elim)
theorem REx.stop {st : PySem.Stmt} {ss : List PySem.Stmt} (h : RX1 c m T C ρ ω st out) (ho : ∀ ρ ω, out ≠ .next ρ ω) : REx c m T C ρ ω (st :: ss) out := fun {A n₀ P₀ env s E Q} F k e =>
  wpAny_execs_cons (h F (fun fl s₁ k₁ a => by
    cases fl with
    | next => cases out <;> first | exact absurd rfl (ho _ _) | exact a.elim
    | brk => exact k _ _ k₁ a
    | cont => exact k _ _ k₁ a
    | ret v => exact k _ _ k₁ a) e)
theorem RX1.ifT {t : PySem.Expr} {b e : List PySem.Stmt} {pos : Pos} (ht : RTs c m T ρ t true) (h : REx c m T C ρ ω b out) : RX1 c m T C ρ ω (.If t b e pos) out := fun {A n₀ P₀ env s E Q} ⟨O, F, W⟩ k x =>
  wpAny_If (ht F fun s₁ e₁ => h ⟨O, F.ext e₁, W.ext e₁⟩ (fun fl s₂ k₂ a => k fl s₂ ((e₁.kb W.above).trans k₂) a) fun y s₂ r => x y s₂ (r.from (e₁.kb W.above)))
theorem RX1.ifF {t : PySem.Expr} {b e : List PySem.Stmt} {pos : Pos} (ht : RTs c m T ρ t false) (h : REx c m T C ρ ω e out) : RX1 c m T C ρ ω (.If t b e pos) out := fun {A n₀ P₀ env s E Q} ⟨O, F, W⟩ k x =>
  wpAny_If (ht F fun s₁ e₁ => h ⟨O, F.ext e₁, W.ext e₁⟩ (fun fl s₂ k₂ a => k fl s₂ ((e₁.kb W.above).trans k₂) a) fun y s₂ r => x y s₂ (r.from (e₁.kb W.above)))
theorem RX1.ite {t : PySem.Expr} {b e : List PySem.Stmt} {pos : Pos} {v : Bool} (ht : RTs c m T ρ t v) (h1 : v = true → REx c m T C ρ ω b out) (h2 : v = false → REx c m T C ρ ω e out) : RX1 c m T C ρ ω (.If t b e pos) out := by
  cases v with
  | true => exact RX1.ifT ht (h1 rfl)
  | false => exact RX1.ifF ht (h2 rfl)
theorem RX1.ret {e : PySem.Expr} {pos : Pos} {d : PyData} (h : REv c m T ρ e d) : RX1 c m T C ρ ω (.Return (some e) pos) (.ret d) := fun {A n₀ P₀ env s E Q} ⟨O, F, W⟩ k x =>
  wpAny_Return_some (h F fun v s₁ e₁ r₁ => k _ _ (e₁.kb W.above) r₁.wide)
theorem RX1.brk {pos : Pos} : RX1 c m T C ρ ω (.Break pos) (.brk ρ ω) := fun {A n₀ P₀ env s E Q} F k x => by
  show wpAny _ A (standAt pos >>= fun _ => pure .brk) Q E s
  exact wpAny_bind (wpAny_standAt (wpAny_pure (k _ _ (.refl _ _ _) F)))

theorem RX1.assign {x : Str} {np pos : Pos} {e : PySem.Expr} {d : PyData} (h : REv c m T ρ e d) (hk : T.lookup x = some .local ∨ x ∈ C) (hs : ∀ p ∈ ρ', p ∈ ρ) (hx : ∀ p ∈ ρ', p.1 ≠ x) (ho : ∀ y ds, ω = some (y, ds) → y ≠ x)
    (hsw : ∀ env : Env, swapsWith e (some (.Name x np)) pos.line env = pure false := by intro _; rfl) : RX1 c m T C ρ ω (.Assign [.Name x np] e pos) (.next ((x, d) :: ρ') ω) := fun {A n₀ P₀ env s E Q} ⟨O, F, W⟩ k _ =>
  wpAny_Assign_Name (h F fun v s₁ e₁ r₁ => store_wp (F.ext e₁) (W.ext e₁) hk r₁ hs hx ho fun s₂ k₂ _ _ F₂ W₂ => k _ _ ((e₁.kb W.above).trans k₂) ⟨O, F₂, W₂⟩) (hsw _)
theorem RX1.assign2 {x y : Str} {np np' pos : Pos} {e : PySem.Expr} {d : PyData} (h : REv c m T ρ e d) (hk : T.lookup x = some .local ∨ x ∈ C) (hk' : T.lookup y = some .local ∨ y ∈ C) (hs : ∀ p ∈ ρ', p ∈ ρ) (hx : ∀ p ∈ ρ', p.1 ≠ x) (hx' : ∀ p ∈ ρ', p.1 ≠ y) (hxy : x ≠ y)
    (ho : ∀ z ds, ω = some (z, ds) → z ≠ x ∧ z ≠ y)
    (hsw : ∀ env : Env, swapsWithSole [.Name x np, .Name y np'] e pos.line env = pure false := by intro _; rfl) (hst : ∀ env : Env, swappedStores [.Name x np, .Name y np'] e env = pure none := by intro _; rfl) : RX1 c m T C ρ ω (.Assign [.Name x np, .Name y np'] e pos) (.next ((y, d) :: (x, d) :: ρ') ω) := fun {A n₀ P₀ env s E Q} ⟨O, F, W⟩ k _ => by
  show wpAny _ A (standAt pos >>= fun _ => swapsWithSole [.Name x np, .Name y np'] e pos.line env >>= fun b => if b then _ else _) Q E s
  rw [hsw]
  refine wpAny_bind (wpAny_standAt (wpAny_bind (wpAny_pure ?_)))
  show wpAny _ A (eval e env >>= fun v => swappedStores [.Name x np, .Name y np'] e env >>= fun q => assignStores env v q ((assignEach [.Name x np, .Name y np'] env).map (·.2))) Q E s
  rw [hst]
  refine wpAny_bind (h F fun v s₁ e₁ r₁ => wpAny_bind (wpAny_pure ?_))
  show wpAny _ A (assignAll v [PySem.assign (.Name x np) env, PySem.assign (.Name y np') env] >>= fun _ => pure .next) Q E s₁
  refine wpAny_bind ?_
  show wpAny _ A (holding [v] (PySem.assign (.Name x np) env v) >>= fun _ => PySem.assign (.Name y np') env v) _ E s₁
  refine wpAny_bind (wpAny_holding (wpAny_assign_Name (store_wp (F.ext e₁) (W.ext e₁) hk r₁ hs hx (fun z ds q => (ho z ds q).1) fun s₂ k₂ vk _ F₂ W₂ => wpAny_assign_Name
    (store_wp F₂ W₂ hk' (d := d) (r₁.mono vk) (fun p hp => hp) (fun p hp => ?_) (fun z ds q => (ho z ds q).2) fun s₃ k₃ _ _ F₃ W₃ => wpAny_pure (k _ _ (((e₁.kb W.above).trans k₂).trans k₃) ⟨O, F₃, W₃⟩)))))
  rcases List.mem_cons.mp hp with rfl | hp
  · exact hxy
  · exact hx' p hp
end
end Mine
namespace Mine

theorem cellsFrom_acc {x : Str} : ∀ (T : Tab) (n : Nat) (acc : List (Str × Addr)), (acc.lookup x).isSome = true → ((cellsFrom n T acc).lookup x).isSome = true
  | [], _, _, h => h
  | (y, k) :: r, n, acc, h => by
    unfold cellsFrom
    split
    · refine cellsFrom_acc r _ _ ?_
      rw [List.lookup_cons]
      split
      · rfl
      · exact h
    · exact cellsFrom_acc r _ _ h
theorem cellsFrom_some {x : Str} : ∀ (T : Tab) (n : Nat) (acc : List (Str × Addr)), (x, NameKind.cell) ∈ T → ((cellsFrom n T acc).lookup x).isSome = true
  | [], _, _, h => by cases h
  | (y, k) :: r, n, acc, h => by
    unfold cellsFrom
    rcases List.mem_cons.mp h with e | h
    · cases e
      simp only [beq_self_eq_true, if_true]
      exact cellsFrom_acc r _ _ (by simp [List.lookup_cons])
    · split
      · exact cellsFrom_some r _ _ h
      · exact cellsFrom_some r _ _ h

theorem bindL_at {kindOf : Str → Option NameKind} {x : Str} {v : Value} (hk : kindOf x = some .local) : ∀ (binds : List (Str × Value)) (m : Str → Option Value), (binds.map (·.1)).Nodup →
    ((x, v) ∈ binds ∨ (m x = some v ∧ x ∉ binds.map (·.1))) → bindL kindOf binds m x = some v
  | [], m, _, h => by
    rcases h with h | h
    · cases h
    · exact h.1
  | (n, u) :: r, m, nd, h => by
    unfold bindL
    simp only [List.map_cons, List.nodup_cons] at nd
    refine bindL_at hk r _ nd.2 ?_
    rcases h with h | ⟨h1, h2⟩
    · rcases List.mem_cons.mp h with e | h
      · cases e
        exact .inr ⟨by simp [hk], nd.1⟩
      · exact .inl h
    · simp only [List.map_cons, List.mem_cons, not_or] at h2
      refine .inr ⟨?_, h2.2⟩
      split
      · dsimp only; rw [if_neg h2.1]; exact h1
      · exact h1
theorem bindC_at {kindOf : Str → Option NameKind} {x : Str} {v : Value} (hk : kindOf x ≠ some .local) : ∀ (binds : List (Str × Value)) (m : Str → Option Value), (binds.map (·.1)).Nodup →
    ((x, v) ∈ binds ∨ (m x = some v ∧ x ∉ binds.map (·.1))) → bindC kindOf binds m x = some v
  | [], m, _, h => by
    rcases h with h | h
    · cases h
    · exact h.1
  | (n, u) :: r, m, nd, h => by
    unfold bindC
    simp only [List.map_cons, List.nodup_cons] at nd
    refine bindC_at hk r _ nd.2 ?_
    rcases h with h | ⟨h1, h2⟩
    · rcases List.mem_cons.mp h with e | h
      · cases e
        exact .inr ⟨by rw [if_neg hk]; simp, nd.1⟩
      · exact .inl h
    · simp only [List.map_cons, List.mem_cons, not_or] at h2
      refine .inr ⟨?_, h2.2⟩
      split
      · exact h1
      · dsimp only; rw [if_neg h2.1]; exact h1

theorem zip_reads {h : Heap} {P : List Addr} : ∀ {names : List Str} {vs : List Value} {ds : List PyData}, RdAll h P vs ds → ∀ p ∈ names.zip ds, ∃ v, (p.1, v) ∈ names.zip vs ∧ Rd h P v p.2
  | [], _, _, _, p, hp => by simp at hp
  | n :: names, _, [], _, p, hp => by simp at hp
  | n :: names, vs, d :: ds, r, p, hp => by
    obtain ⟨v, vs', rfl, a, b⟩ := r.cons_inv
    rw [List.zip_cons_cons] at hp
    rcases List.mem_cons.mp hp with rfl | hp
    · exact ⟨v, by simp, a⟩
    · obtain ⟨u, h1, h2⟩ := zip_reads b p hp
      exact ⟨u, by rw [List.zip_cons_cons]; exact .tail _ h1, h2⟩


theorem none_at {h : Heap} {a : Addr} (q : h.objs.size ≤ a) : h.get? a = none := by
  cases e : h.get? a with
  | none => rfl
  | some o => exact absurd (Heap.lt_size e) (Nat.not_lt.mpr q)
/-- what a call of a def starts with -/
theorem call_start {c : Cx} {m : Nat} {A : Around} {P : List Addr} {s s₁ : Shared} {f : Addr} {fd : FuncData} {T : Tab} {C : List Str} {names : List Str} {vs : List Value} {ds : List PyData} (F : Go c (m + 1) A P s)
    (hT : fd.scope.names = T) (hk : fd.scope.kind = .function) (hg : fd.globals = mainGlobals) (hb : fd.builtins = builtinsNs) (hnd : names.Nodup) (hlen : vs.length = names.length)
    (hn : ∀ x ∈ names, T.lookup x = some .local ∨ T.lookup x = some .cell) (hC : ∀ x ∈ C, T.lookup x = some .cell) (r : RdAll s.heap P vs ds)
    (X : InCallC s (callEnvC fd s.heap.objs.size f).locals (bindL (callEnvC fd s.heap.objs.size f).kindOf (names.zip vs) fun _ => none) (callEnvC fd s.heap.objs.size f).cells (bindC (callEnvC fd s.heap.objs.size f).kindOf (names.zip vs) fun _ => none) s₁) :
    FS c m (A.deeper (callEnvC fd s.heap.objs.size f)) (fun b => ∃ o, s.heap.get? b = some o) P T C (callEnvC fd s.heap.objs.size f) (names.zip ds) none s₁ := by
  have hmem : ∀ {x : Str}, T.lookup x = some .cell → (x, NameKind.cell) ∈ fd.scope.names := fun h => by rw [hT]; exact mem_of_lookup h
  have kO : ∀ x, (callEnvC fd s.heap.objs.size f).kindOf x = T.lookup x := fun x => by rw [← hT]; rfl
  have hex : ∀ {x : Str}, T.lookup x = some .cell → ∃ a, (callEnvC fd s.heap.objs.size f).cells.lookup x = some a := fun {x} h => by
    have := cellsFrom_some fd.scope.names (s.heap.objs.size + 1) [] (hmem h)
    exact Option.isSome_iff_exists.mp this
  have hL : (callEnvC fd s.heap.objs.size f).locals = s.heap.objs.size := rfl
  let O : List Addr := s.heap.objs.size :: T.filterMap fun p => (callEnvC fd s.heap.objs.size f).cells.lookup p.1
  have above : ∀ a ∈ O, s.heap.objs.size ≤ a := fun a ha => by
    rcases List.mem_cons.mp ha with rfl | ha
    · exact Nat.le_refl _
    · obtain ⟨p, hp, q⟩ := List.mem_filterMap.mp ha
      exact Nat.le_of_lt (X.above p.1 a (mem_of_lookup q))
  have notP : ∀ b o, s.heap.get? b = some o → b ∉ P → b ∉ O ++ P := fun b o e n q => by
    rcases List.mem_append.mp q with q | q
    · exact Nat.lt_irrefl _ (Nat.lt_of_lt_of_le (Heap.lt_size e) (above b q))
    · exact n q
  have vk : ∀ b o, (vis s.heap P).get? b = some o → (vis s₁.heap (O ++ P)).get? b = some o := fun b o e => by
    obtain ⟨e, n⟩ := vis_get.mp e
    exact vis_get.mpr ⟨X.toInCall.keep b o e, notP b o e n⟩
  obtain ⟨oL, esL, epL, hoL, hdL, hL3⟩ := X.toInCall.ns
  have nsL : s₁.heap.Ns s.heap.objs.size _ := ⟨oL, esL, epL, hoL, hdL, hL3⟩
  refine ⟨O, { sx := ⟨F.sx.g.keeps vk, F.sx.b.keeps vk, F.sx.lim.keeps vk, F.sx.k.keeps vk, fun p hp => ?_⟩, hd := F.hd, depth := ?_, units := ?_, frs := ?_, vars := fun p hp => ?_, tab := hT, kind := hk, gl := hg, bl := hb },
    { above := fun a ha ⟨o, l⟩ => Nat.lt_irrefl _ (Nat.lt_of_lt_of_le (Heap.lt_size l) (above a ha)), old := F.sx.ex, still := fun b ⟨o, l⟩ => ⟨o, X.toInCall.keep b o l⟩, loc := .head _, ns := ⟨_, nsL⟩, cells := fun x hx => ?_, inj := fun x hx y a h1 h2 => ?_, owned := fun _ _ e => nomatch e }⟩
  · rcases List.mem_append.mp hp with hp | hp
    · rcases List.mem_cons.mp hp with rfl | hp
      · exact ⟨oL, hoL⟩
      · obtain ⟨q, _, hq⟩ := List.mem_filterMap.mp hp
        obtain ⟨o, ho, _⟩ := X.cell q.1 p hq
        exact ⟨o, ho⟩
    · obtain ⟨o, ho⟩ := F.sx.ex p hp; exact ⟨o, X.toInCall.keep _ _ ho⟩
  · have := F.depth; show A.depth + 1 + m < 1000; omega
  · have := F.units; show A.units + 3 + 8 * m + 200 < 9900; omega
  · obtain ⟨l, h1, h2⟩ := F.frs
    refine ⟨callEnvC fd s.heap.objs.size f :: l, by show A.frames.map _ = _; rw [h1]; rfl, fun env he => ?_⟩
    rcases List.mem_cons.mp he with rfl | he
    · exact ⟨by show fd.scope.kind ≠ .module; rw [hk]; decide, s.heap.objs.size, oL, rfl, List.mem_append_left _ (.head _), hoL, esL, epL, hdL⟩
    · obtain ⟨kk, L, o, a1, a2, a3, a4⟩ := h2 env he
      exact ⟨kk, L, o, a1, List.mem_append_right _ a2, X.toInCall.keep _ _ a3, a4⟩
  · obtain ⟨v, hv, rv⟩ := zip_reads r p hp
    have hpn : p.1 ∈ names := (List.of_mem_zip hv).1
    have nd : ((names.zip vs).map (·.1)).Nodup := by rw [List.map_fst_zip (Nat.le_of_eq hlen.symm)]; exact hnd
    refine ⟨v, ?_, rv.mono vk⟩
    rcases hn _ hpn with h | h
    · exact .inl ⟨by rw [kO]; exact h, _, nsL, bindL_at (by rw [kO]; exact h) _ _ nd (.inl hv)⟩
    · obtain ⟨a, ha⟩ := hex h
      refine .inr ⟨.inl (by rw [kO]; exact h), a, ha, ?_⟩
      have := X.cell _ a ha
      rw [bindC_at (v := v) (by rw [kO, h]; decide) _ _ nd (.inl hv)] at this
      exact this
  · obtain ⟨a, ha⟩ := hex (hC x hx)
    exact ⟨by rw [kO]; exact hC x hx, a, _, ha, .tail _ (List.mem_filterMap.mpr ⟨(x, .cell), mem_of_lookup (hC x hx), ha⟩), X.cell x a ha⟩
  · exact name_of_addr X.apart (mem_of_lookup h1) (mem_of_lookup h2)

section
variable {c : Cx} {m : Nat} {T : Tab} {C : List Str} {ρ ρ' : Vars} {ω : Ow} {out : Out}

/-- a def's contract, from its body -/
theorem RBi.ofDef {f : Addr} {o : Obj} {fd : FuncData} {body : List PySem.Stmt} {names : List Str} {ds : List PyData} {d : PyData} (ho : c.K.lookup f = some o) (hd : o.data = .func fd) (hb : fd.body = .stmts body)
    (hT : fd.scope.names = T) (hk : fd.scope.kind = .function) (hg : fd.globals = mainGlobals) (hbn : fd.builtins = builtinsNs) (hcl : fd.closure = [])
    (hco : fd.scope.isCoroutine = false) (hgen : fd.scope.isGenerator = false) (hcr : ∀ h : Heap, c.K.In h → h.CodeRec fd.code fd.qualname) (hnd : names.Nodup) (hlen : ds.length = names.length)
    (hn : ∀ x ∈ names, T.lookup x = some .local ∨ T.lookup x = some .cell) (hC : ∀ x ∈ C, T.lookup x = some .cell)
    (hbind : ∀ vs : List Value, vs.length = names.length → bindArgs fd ⟨vs, []⟩ = pure (names.zip vs))
    (h : REx c m T C (names.zip ds) none body (.ret d)) : RBi c (m + 1) (.ref f) ds d := fun {A P s E Q vs} F r k => by
  have hv : vs.length = names.length := r.len.trans hlen
  have kin := F.sx.k _ _ ho
  refine wpAny_call (codeAny_call_cells (fd := fd) (body := body) (binds := names.zip vs) (by have := F.depth; show A.depth < 1000; omega) (F.sx.here _ _ kin) hd F.sx.limit ?_ hb (hbind vs hv) hcl ?_ (fun s₁ X => ?_) hco hgen hk)
  · obtain ⟨c', o', vs', t, h1, h2, h3, h4⟩ := hcr _ F.sx.k
    exact ⟨c', o', vs', t, h1, F.sx.here _ _ h2, h3, h4⟩
  · intro x hx
    have hx' : x.1 ∈ names := (List.of_mem_zip hx).1
    rcases hn _ hx' with q | q
    · exact .inl (by rw [hT]; exact q)
    · exact .inr ⟨by rw [hT]; exact q, cellsFrom_some _ _ _ (by rw [hT]; exact mem_of_lookup q)⟩
  · have S := call_start F hT hk hg hbn hnd hv hn hC r X
    obtain ⟨h', tk, e1, e2⟩ := X.done
    refine h S (fun fl s' kb a => ?_) fun e s' q => q.elim
    cases fl <;> first | exact a.elim | skip
    refine k _ _ ⟨fun b o n q => ?_, fun b o q => ?_, fun b o n q => ?_, ?_, ?_⟩ a
    · exact kb.keep b o ⟨o, q⟩ n (X.toInCall.keep b o q)
    · exact kb.priv b o ⟨o, q⟩ (X.toInCall.keep b o q)
    · exact kb.rest b o ⟨o, q⟩ n (X.toInCall.keep b o q)
    · rw [kb.gens, e1]
    · rw [kb.os, e1]

/-! x += n, x -= n -/
theorem aug_int {x : Str} {np pos : Pos} {op : Operator} {e : PySem.Expr} {a b r : Int} (ha : (x, PyData.int a) ∈ ρ) (h : REv c m T ρ e (.int b)) (hk : T.lookup x = some .local ∨ x ∈ C) (hs : ∀ p ∈ ρ', p ∈ ρ) (hx : ∀ p ∈ ρ', p.1 ≠ x) (ho : ∀ y ds, ω = some (y, ds) → y ≠ x)
    (hop : ∀ {A : Around} {s : Shared} {E : Value → Shared → Prop} {Q : Value → Shared → Prop} {t u : Tok}, Q (.int r s.toks) { s with toks := s.toks + 1 } → wpAny (model c.prog c.w) A (inplaceOp op (.int a t) (.int b u)) Q E s)
    (hc : (x == ("__classdict__" : Str)) = false := by decide) : RX1 c m T C ρ ω (.AugAssign (.Name x np) op e pos) (.next ((x, .int r) :: ρ') ω) := fun {A n₀ P₀ env s E Q} ⟨O, F, W⟩ k _ => by
  obtain ⟨v, l, rv⟩ := F.vars _ ha
  obtain ⟨t, rfl⟩ := rv.int_inv
  have kx : env.scope.kind = .function := F.kind
  have go : wpAny (model c.prog c.w) A (eval e env) (fun v' s₂ => wpAny (model c.prog c.w) A (inplaceOp op (.int a t) v') (fun r s₃ => wpAny (model c.prog c.w) A (storeName env x r) (fun _ => Q .next) E s₃) E s₂) E s :=
    h F fun u s₁ e₁ r₁ => by
      obtain ⟨t', rfl⟩ := r₁.int_inv
      have e₂ : Ext (O ++ P₀) s { s₁ with toks := s₁.toks + 1 } := e₁.trans Ext.toks
      exact hop (store_wp (F.ext e₂) (W.ext e₂) hk (.int r _) hs hx ho fun s₂ k₂ _ _ F₂ W₂ => k _ _ ((e₂.kb W.above).trans k₂) ⟨O, F₂, W₂⟩)
  rcases l with ⟨kk, mm, n, q⟩ | ⟨kk | kk, a', n, q⟩
  · exact wpAny_AugAssign_Name (wpAny_loadName_local kx kk n q go)
  · exact wpAny_AugAssign_Name (wpAny_loadName_cell kx kk n q go)
  · exact wpAny_AugAssign_Name (wpAny_loadName_free kx kk n q go hc)
theorem RX1.augAdd {x : Str} {np pos : Pos} {e : PySem.Expr} {a b : Int} (ha : (x, PyData.int a) ∈ ρ) (h : REv c m T ρ e (.int b)) (hk : T.lookup x = some .local ∨ x ∈ C) (hs : ∀ p ∈ ρ', p ∈ ρ) (hx : ∀ p ∈ ρ', p.1 ≠ x) (ho : ∀ y ds, ω = some (y, ds) → y ≠ x)
    (hc : (x == ("__classdict__" : Str)) = false := by decide) : RX1 c m T C ρ ω (.AugAssign (.Name x np) .Add e pos) (.next ((x, .int (a + b)) :: ρ') ω) := aug_int ha h hk hs hx ho (fun q => iadd_int q) hc
theorem RX1.augSub {x : Str} {np pos : Pos} {e : PySem.Expr} {a b : Int} (ha : (x, PyData.int a) ∈ ρ) (h : REv c m T ρ e (.int b)) (hk : T.lookup x = some .local ∨ x ∈ C) (hs : ∀ p ∈ ρ', p ∈ ρ) (hx : ∀ p ∈ ρ', p.1 ≠ x) (ho : ∀ y ds, ω = some (y, ds) → y ≠ x)
    (hc : (x == ("__classdict__" : Str)) = false := by decide) : RX1 c m T C ρ ω (.AugAssign (.Name x np) .Sub e pos) (.next ((x, .int (a - b)) :: ρ') ω) := aug_int ha h hk hs hx ho (fun q => isub_int q) hc
end
end Mine
namespace Mine

def SF (o : Obj) : Prop := (∃ items k, o.data = .seq items k) ∨ ∃ vs, o.data = .fields vs
def NoTup (T : String) : Prop := T = "list_iterator" ∨ T = "range_iterator"

/-- an iterator over values that read ds -/
structure ItW (c : Cx) (A : Around) (P : List Addr) (h₀ : Heap) (I : Addr) (fp wr : List Addr) (Pi : Nat → Value → Prop) (St : Nat → Heap → Prop) (ds : List PyData) : Prop where
  W : Walks c.prog c.w A I fp wr ds.length Pi St
  wr : ∀ b ∈ wr, b = I
  fv : ∀ b ∈ fp, b = I ∨ b ∉ P
  sf : ∀ i h, St i h → ∀ b ∈ fp, ∃ o, h.get? b = some o ∧ SF o
  it : ∀ i h, St i h → ∃ o vs T, h.get? I = some o ∧ o.data = .fields vs ∧ o.cls = .type T ∧ NoTup T
  vals : ∀ i v d, Pi i v → ds[i]? = some d → Rd h₀ P v d

/-- e is something to go over -/
def RIts (c : Cx) (m : Nat) (T : Tab) (ρ : Vars) (e : PySem.Expr) (ds : List PyData) : Prop :=
  ∀ {A : Around} {P : List Addr} {env : Env} {s : Shared} {E : Value → Shared → Prop} {Q : Value → Shared → Prop}, Fx c m A P T env ρ s →
    (∀ I fp wr Pi St s', Ext P s s' → s.heap.get? I = none → ItW c A (I :: P) s'.heap I fp wr Pi St ds → St 0 s'.heap → Q (.ref I) s') →
    wpAny (model c.prog c.w) A (eval e env) (fun x s₁ => wpAny (model c.prog c.w) A (pyIter x) Q E s₁) E s

theorem Rd.hide {s s' : Shared} {P : List Addr} {I : Addr} {v : Value} {d : PyData} (r : Rd s.heap P v d) (e : Ext P s s') (n : s.heap.get? I = none) : Rd s'.heap (I :: P) v d :=
  r.mono fun b o q => by
    obtain ⟨q, m⟩ := vis_get.mp q
    refine vis_get.mpr ⟨e.keep b o m q, fun h => ?_⟩
    rcases List.mem_cons.mp h with rfl | h
    · rw [n] at q; cases q
    · exact m h
theorem RdAll.hide {s s' : Shared} {P : List Addr} {I : Addr} {v : List Value} {d : List PyData} (r : RdAll s.heap P v d) (e : Ext P s s') (n : s.heap.get? I = none) : RdAll s'.heap (I :: P) v d :=
  r.mono fun b o q => by
    obtain ⟨q, m⟩ := vis_get.mp q
    refine vis_get.mpr ⟨e.keep b o m q, fun h => ?_⟩
    rcases List.mem_cons.mp h with rfl | h
    · rw [n] at q; cases q
    · exact m h
theorem none_ext {P : List Addr} {s s' : Shared} (e : Ext P s s') : s.heap.get? s'.heap.objs.size = none := by
  cases q : s.heap.get? s'.heap.objs.size with
  | none => rfl
  | some o => obtain ⟨sl, h⟩ := e.priv _ o q; exact absurd (Heap.lt_size h) (Nat.lt_irrefl _)

section
variable {c : Cx} {m : Nat} {T : Tab} {ρ ρ' : Vars}

theorem RIts.sub {e : PySem.Expr} {ds : List PyData} (h : RIts c m T ρ' e ds) (q : ∀ p ∈ ρ', p ∈ ρ) : RIts c m T ρ e ds := fun F k => h (F.sub q) k
theorem RIts.list {e : PySem.Expr} {ds : List PyData} (h : REv c m T ρ e (.list ds)) : RIts c m T ρ e ds := fun {A P env s E Q} F k => h F fun v s₁ e₁ r₁ => by
  obtain ⟨l, vs, rfl, hl, ra⟩ := r₁.list_inv
  have hl' := isList_of_vis hl
  have hsz : vs.size = ds.length := by have := ra.len; simpa using this
  have hlI : l ≠ s₁.heap.objs.size := by
    obtain ⟨o, ho, _⟩ := hl'; exact Nat.ne_of_lt (Heap.lt_size ho)
  refine wpAny_pyIter_list hl' ?_
  have e₂ : Ext P s₁ { s₁ with heap := s₁.heap.push { cls := .type "list_iterator", data := .fields #[.ref l, .int 0 0] } } := Ext.push _
  refine k s₁.heap.objs.size [s₁.heap.objs.size, l] [s₁.heap.objs.size] (fun i v => vs[i]? = some v) (fun i h => h.IsListIter s₁.heap.objs.size l i ∧ h.IsList l vs) _ (e₁.trans e₂) (none_ext e₁) ⟨?_, ?_, ?_, ?_, ?_, ?_⟩ ⟨⟨_, Heap.get?_push_size _ rfl, rfl, rfl⟩, list_priv e₂ hl'⟩
  · rw [← hsz]; exact Walks.list F.hd _ l hlI vs
  · intro b hb; simpa using hb
  · intro b hb
    rcases List.mem_cons.mp hb with rfl | hb
    · exact .inl rfl
    · rcases List.mem_cons.mp hb with rfl | hb
      · refine .inr fun h => ?_
        rcases List.mem_cons.mp h with h | h
        · exact hlI h
        · obtain ⟨o, ho, _⟩ := hl; exact (vis_get.mp ho).2 h
      · cases hb
  · intro i h st b hb
    rcases List.mem_cons.mp hb with rfl | hb
    · obtain ⟨o, h1, h2, h3⟩ := st.1; exact ⟨o, h1, .inr ⟨_, h3⟩⟩
    · rcases List.mem_cons.mp hb with rfl | hb
      · obtain ⟨o, h1, h2, n, h3⟩ := st.2; exact ⟨o, h1, .inl ⟨_, _, h3⟩⟩
      · cases hb
  · intro i h st
    obtain ⟨o, h1, h2, h3⟩ := st.1; exact ⟨o, _, _, h1, h3, h2, .inl rfl⟩
  · intro i v d hv hd
    obtain ⟨u, h1, h2⟩ := ra.get i hd
    have : v = u := by
      have h3 : vs.toList[i]? = some v := by simpa using hv
      rw [h3] at h1; exact Option.some.inj h1
    subst this
    exact h2.hide e₂ (none_at (Nat.le_refl _))

theorem range_from {A : Around} {P : List Addr} {s : Shared} {E : Value → Shared → Prop} {Q : Value → Shared → Prop} {r : Addr} {a b : Int} {t u v : Tok} {n : Nat} (F : Go c m A P s) (hr : IsRange s.heap r a b 1 t u v)
    (hs : Builtin.Range.small a b 1 = true) (hz : Builtin.Range.rangeSize a b 1 = n)
    (k : ∀ I fp wr Pi St s', Ext P s s' → s.heap.get? I = none → ItW c A (I :: P) s'.heap I fp wr Pi St ((List.range n).map fun i : Nat => PyData.int (a + i)) → St 0 s'.heap → Q (.ref I) s') :
    wpAny (model c.prog c.w) A (pyIter (.ref r)) Q E s := by
  refine wpAny_pyIter_range hr hs ?_
  refine k s.heap.objs.size [s.heap.objs.size] [s.heap.objs.size] (fun i v => ∃ t, v = .int (a + (i : Int) * 1) t) (fun i h => IsRangeIter h s.heap.objs.size (a + (i : Int) * 1) ((n : Int) - i) 1) _ (Ext.push _) (none_at (Nat.le_refl _)) ⟨?_, ?_, ?_, ?_, ?_, ?_⟩ ?_
  · have := Walks.range (prog := c.prog) (w := c.w) F.hd s.heap.objs.size a 1 n
    rw [List.length_map, List.length_range]; exact this
  · intro b hb; simpa using hb
  · intro b hb; exact .inl (by simpa using hb)
  · intro i h st b hb
    rw [List.mem_singleton] at hb; subst hb
    exact ⟨_, st, .inr ⟨_, rfl⟩⟩
  · intro i h st
    exact ⟨_, _, _, st, rfl, rfl, .inr rfl⟩
  · rintro i v d ⟨t, rfl⟩ hd
    simp only [List.getElem?_map] at hd
    cases hq : (List.range n)[i]? with
    | none => rw [hq] at hd; cases hd
    | some j =>
      rw [hq] at hd
      obtain ⟨hlt, rfl⟩ := List.getElem?_eq_some_iff.mp hq
      cases hd
      simp only [List.getElem_range, Int.mul_one]
      exact .int _ _
  · have := Heap.get?_push_size s.heap (o := { cls := .type "range_iterator", data := .fields #[rawInt a, rawInt (Builtin.Range.rangeSize a b 1), rawInt 1] }) rfl
    rw [hz] at this
    show Heap.get? _ _ = _
    rw [hz]
    simpa using this
end
end Mine
namespace Mine

def testIfs (ifs : List PySem.Expr) (env : Env) : Sem Bool :=
  forIn ifs true fun c r => if r = true then do let ok ← PySem.isTrue c env (eval c env); pure (ForInStep.yield ok) else pure (ForInStep.yield r)

def innerOf (e : PySem.Expr) (k : Nat) (acc : Value) (env : Env) (g : Comprehension) : Sem Unit := do
  let x ← eval g.iter env
  standAt g.iter.pos
  let x ← foldedSetIterable g.iter env x
  let _ ← runOwn (.compStart e (k + 1) (← holding [x] (pyIter x)) acc env) env

theorem compTurn_last (elt : PySem.Expr) (gens : List Comprehension) (sc : Scope) (pos : Pos) (k : Nat) (it acc : Value) (env : Env) {target iter : PySem.Expr} {ifs : List PySem.Expr}
    (hg : gens[k]? = some ⟨target, iter, ifs, 0⟩) (hn : gens[k + 1]? = none) :
    compTurn (.ListComp elt gens sc pos) k it acc env = (standAt iter.pos >>= fun _ => pyNext it >>= fun r => match r with
      | none => pure (.done .next)
      | some v => letOwnedTupleGo target it v >>= fun _ => PySem.assign target env v >>= fun _ => testIfs ifs env >>= fun ok =>
        (if ok = true then (eval elt env >>= fun x => PySem.call (.builtin "list.append") [acc, x] >>= fun _ => pure ()) >>= fun _ => again (.compLoop (.ListComp elt gens sc pos) k it acc env)
         else again (.compLoop (.ListComp elt gens sc pos) k it acc env))) := by
  unfold compTurn
  simp only [hg, hn]
  rfl
theorem compTurn_inner (elt : PySem.Expr) (gens : List Comprehension) (sc : Scope) (pos : Pos) (k : Nat) (it acc : Value) (env : Env) {target iter target' iter' : PySem.Expr} {ifs ifs' : List PySem.Expr}
    (hg : gens[k]? = some ⟨target, iter, ifs, 0⟩) (hn : gens[k + 1]? = some ⟨target', iter', ifs', 0⟩) :
    compTurn (.ListComp elt gens sc pos) k it acc env = (standAt iter.pos >>= fun _ => pyNext it >>= fun r => match r with
      | none => pure (.done .next)
      | some v => letOwnedTupleGo target it v >>= fun _ => PySem.assign target env v >>= fun _ => testIfs ifs env >>= fun ok =>
        (if ok = true then innerOf (.ListComp elt gens sc pos) k acc env ⟨target', iter', ifs', 0⟩ >>= fun _ => again (.compLoop (.ListComp elt gens sc pos) k it acc env)
         else again (.compLoop (.ListComp elt gens sc pos) k it acc env))) := by
  unfold compTurn innerOf
  simp only [hg, hn, bind_assoc]
  rfl
end Mine
namespace Mine

/-- a target takes a value -/
def RBd (c : Cx) (m : Nat) (T : Tab) (C : List Str) (target : PySem.Expr) (d : PyData) (β : Vars) : Prop :=
  ∀ {A : Around} {n₀ : Addr → Prop} {P₀ O : List Addr} {env : Env} {ρ : Vars} {s : Shared} {v : Value} {E : Value → Shared → Prop} {Q : Unit → Shared → Prop}, Fx c m A (O ++ P₀) T env ρ s → Own n₀ O P₀ C env ρ none s →
    Rd s.heap (O ++ P₀) v d → (∀ p ∈ ρ, ∀ q ∈ β, p.1 ≠ q.1) →
    (∀ s', Kb n₀ P₀ s s' → (∀ b o, (vis s.heap (O ++ P₀)).get? b = some o → (vis s'.heap (O ++ P₀)).get? b = some o) → (∀ b o, s.heap.get? b = some o → SF o → s'.heap.get? b = some o) → Fx c m A (O ++ P₀) T env (β ++ ρ) s' → Own n₀ O P₀ C env (β ++ ρ) none s' → Q () s') →
    wpAny (model c.prog c.w) A (PySem.assign target env v) Q E s

section
variable {c : Cx} {m : Nat} {T : Tab} {C : List Str}

theorem RBd.name {x : Str} {p : Pos} {d : PyData} (hk : T.lookup x = some .local ∨ x ∈ C) : RBd c m T C (.Name x p) d [(x, d)] := fun F W r hx k =>
  wpAny_assign_Name (store_wp F W hk r (fun p hp => hp) (fun p hp => hx p hp _ (.head _)) (fun _ _ e => nomatch e) fun s' k₁ vk sf F' W' => k s' k₁ vk sf F' W')
theorem RBd.pair {x y : Str} {p q pos : Pos} {n : Nat} {a b : PyData} (hk : T.lookup x = some .local ∨ x ∈ C) (hk' : T.lookup y = some .local ∨ y ∈ C) (hxy : x ≠ y) : RBd c m T C (.Tuple [.Name x p, .Name y q] n pos) (.tuple [a, b]) [(y, b), (x, a)] := fun {A n₀ P₀ O env ρ s v E Q} F W r hx k => by
  obtain ⟨t, vs, rfl, ht, ra⟩ := r.tuple_inv
  obtain ⟨u, w, e, ru, rw'⟩ := two_inv ra
  have ht' := isTuple_of_vis ht
  have hsz : vs.size = 2 := by rw [← Array.length_toList, e]; rfl
  refine wpAny_assign_Tuple F.hd ht' (by rw [hsz]; rfl) rfl fun h' he => ?_
  have e₁ : Ext (O ++ P₀) s { s with heap := h' } := .of_keeps (fun b o q => he b o (Nat.ne_of_lt (Heap.lt_size q)) q) rfl rfl
  rw [e]
  show wpAny _ A (holding [w] (PySem.assign (.Name x p) env u) >>= fun _ => holding [] (PySem.assign (.Name y q) env w) >>= fun _ => pure ()) Q E _
  refine wpAny_bind (wpAny_holding (wpAny_assign_Name (store_wp (F.ext e₁) (W.ext e₁) hk (ru.ext e₁) (fun p hp => hp) (fun p hp => hx p hp _ (.tail _ (.head _))) (fun _ _ e => nomatch e) fun s₂ k₂ vk sf F₂ W₂ =>
    wpAny_bind (wpAny_holding (wpAny_assign_Name (store_wp F₂ W₂ hk' ((rw'.ext e₁).mono vk) (fun p hp => hp) (fun p hp => ?_) (fun _ _ e => nomatch e) fun s₃ k₃ vk₃ sf₃ F₃ W₃ =>
      wpAny_pure (k s₃ (((e₁.kb W.above).trans k₂).trans k₃) (fun b o q => vk₃ _ _ (vk _ _ (e₁.vis b o q))) (fun b o q hq => sf₃ _ _ (sf _ _ (e₁.rest b o (fun es n => ?_) q) hq) hq) F₃ W₃)))))))
  · rcases List.mem_cons.mp hp with rfl | hp
    · exact hxy
    · exact hx p hp _ (.head _)
  · rcases hq with ⟨_, _, hq⟩ | ⟨_, hq⟩ <;> rw [hq] <;> exact fun e => nomatch e

/-- the state within a comprehension: the list that grows -/
structure CS (c : Cx) (m : Nat) (A : Around) (n₀ : Addr → Prop) (P₀ O : List Addr) (T : Tab) (C : List Str) (env : Env) (ρ : Vars) (D : Addr) (xs : List PyData) (s : Shared) : Prop where
  F : Fx c m A (O ++ P₀) T env ρ s
  W : Own n₀ O P₀ C env ρ none s
  mem : D ∈ O
  acc : ∃ items, IsListD s.heap D items ∧ RdAll s.heap (O ++ P₀) items.toList xs
/-- what a comprehension's part keeps: all but the growing list (and one iterator) -/
structure KC (n₀ : Addr → Prop) (P₀ O : List Addr) (D : Addr) (J : List Addr) (s s' : Shared) : Prop where
  kb : Kb n₀ P₀ s s'
  vis : ∀ b o, (vis s.heap (O ++ P₀)).get? b = some o → (vis s'.heap (O ++ P₀)).get? b = some o
  sf : ∀ b o, b ≠ D → b ∉ J → s.heap.get? b = some o → SF o → s'.heap.get? b = some o
theorem KC.trans {n₀ : Addr → Prop} {P₀ O J : List Addr} {D : Addr} {a b e : Shared} (x : KC n₀ P₀ O D J a b) (y : KC n₀ P₀ O D J b e) : KC n₀ P₀ O D J a e :=
  ⟨x.kb.trans y.kb, fun q o h => y.vis _ _ (x.vis q o h), fun q o h1 h2 h3 h4 => y.sf q o h1 h2 (x.sf q o h1 h2 h3 h4) h4⟩
theorem KC.wide {n₀ : Addr → Prop} {P₀ O J : List Addr} {D : Addr} {a b : Shared} (x : KC n₀ P₀ O D [] a b) : KC n₀ P₀ O D J a b := ⟨x.kb, x.vis, fun q o h1 _ h3 h4 => x.sf q o h1 (by simp) h3 h4⟩
theorem sf_not_dict {o : Obj} (h : SF o) : ∀ es n, o.data ≠ .dict es n := fun es n => by
  rcases h with ⟨_, _, h⟩ | ⟨_, h⟩ <;> rw [h] <;> exact fun e => nomatch e
theorem Ext.kc {n₀ : Addr → Prop} {P₀ O : List Addr} {D : Addr} {s s' : Shared} (e : Ext (O ++ P₀) s s') (h : ∀ a ∈ O, ¬ n₀ a) : KC n₀ P₀ O D [] s s' :=
  ⟨e.kb h, e.vis, fun b o _ _ h3 h4 => e.rest b o (sf_not_dict h4) h3⟩

/-- a private object that no name holds turns -/
theorem turn_one {A : Around} {n₀ : Addr → Prop} {P₀ O : List Addr} {env : Env} {ρ : Vars} {s : Shared} {a : Addr} {h' : Heap} {tk : Nat} (F : Fx c m A (O ++ P₀) T env ρ s) (W : Own n₀ O P₀ C env ρ none s) (ha : a ∈ O)
    (hd : ∃ o, s.heap.get? a = some o ∧ SF o) (hx : ∃ o, h'.get? a = some o) (hk : ∀ b o, b ≠ a → s.heap.get? b = some o → h'.get? b = some o) :
    Fx c m A (O ++ P₀) T env ρ { s with heap := h', toks := tk } ∧ Own n₀ O P₀ C env ρ none { s with heap := h', toks := tk } ∧ KC n₀ P₀ O a [] s { s with heap := h', toks := tk } := by
  obtain ⟨od, hod, hsf⟩ := hd
  have vk : ∀ b o, (Mine.vis s.heap (O ++ P₀)).get? b = some o → (Mine.vis h' (O ++ P₀)).get? b = some o := fun b o q => by
    obtain ⟨q, n⟩ := vis_get.mp q
    exact vis_get.mpr ⟨hk b o (fun e => n (e ▸ List.mem_append_left _ ha)) q, n⟩
  have nsk : ∀ {x : Addr} {mm}, s.heap.Ns x mm → h'.Ns x mm := fun {x mm} hn => by
    obtain ⟨o, es, ep, h1, h2, h3⟩ := hn
    refine ⟨o, es, ep, hk x o (fun e => ?_) h1, h2, h3⟩
    rw [e, hod] at h1; cases h1; exact sf_not_dict hsf _ _ h2
  have cek : ∀ {x : Addr} {w}, s.heap.IsCell x w → h'.IsCell x w := fun {x w} hn => by
    obtain ⟨o, h1, h2⟩ := hn
    refine ⟨o, hk x o (fun e => ?_) h1, h2⟩
    rw [e, hod] at h1; cases h1
    rcases hsf with ⟨_, _, h⟩ | ⟨_, h⟩ <;> rw [h] at h2 <;> cases h2
  have lok : ∀ {x : Str} {w}, Look s.heap env x w → Look h' env x w := fun {x w} l => by
    rcases l with ⟨k, mm, n, q⟩ | ⟨k, b, n, q⟩
    · exact .inl ⟨k, mm, nsk n, q⟩
    · exact .inr ⟨k, b, n, cek q⟩
  refine ⟨{ sx := ⟨F.sx.g.keeps vk, F.sx.b.keeps vk, F.sx.lim.keeps vk, F.sx.k.keeps vk, fun p hp => ?_⟩, hd := F.hd, depth := F.depth, units := F.units, frs := ?_, vars := fun p hp => ?_, tab := F.tab, kind := F.kind, gl := F.gl, bl := F.bl },
    { above := W.above, old := W.old, still := fun b l => (W.still b l).imp fun o e => hk b o (fun q => no_both l (q ▸ W.above a ha)) e, loc := W.loc, ns := ?_, cells := fun x hx => ?_, inj := W.inj, owned := fun _ _ e => nomatch e }, ⟨⟨fun b o l n q => hk b o (fun e => ?_) q, fun b o l q => ⟨o.slots, hk b o (fun e => ?_) q⟩, fun b o l _ q => hk b o (fun e => ?_) q, rfl, rfl⟩, vk, fun b o h1 _ h3 _ => hk b o h1 h3⟩⟩
  · by_cases e : p = a
    · subst e; exact hx
    · obtain ⟨o, ho⟩ := F.sx.ex p hp; exact ⟨o, hk p o e ho⟩
  · obtain ⟨l, h1, h2⟩ := F.frs
    refine ⟨l, h1, fun env' he => ?_⟩
    obtain ⟨kk, L, o, a1, a2, a3, es, n, a4⟩ := h2 env' he
    refine ⟨kk, L, o, a1, a2, hk L o (fun e => ?_) a3, es, n, a4⟩
    rw [e, hod] at a3; cases a3; exact sf_not_dict hsf _ _ a4
  · obtain ⟨v, l, r⟩ := F.vars p hp
    exact ⟨v, lok l, r.mono vk⟩
  · obtain ⟨mm, h⟩ := W.ns; exact ⟨mm, nsk h⟩
  · obtain ⟨h1, b, w, h2, h3, h4⟩ := W.cells x hx; exact ⟨h1, b, w, h2, h3, cek h4⟩
  · exact no_both l (e ▸ W.above a ha)
  · exact no_both l (e ▸ W.above a ha)
  · exact no_both l (e ▸ W.above a ha)
end
end Mine
namespace Mine

def bodyOf (elt : PySem.Expr) (gens : List Comprehension) (sc : Scope) (pos : Pos) (k : Nat) (acc : Value) (env : Env) : Sem Unit :=
  match gens[k + 1]? with
  | none => eval elt env >>= fun x => PySem.call (.builtin "list.append") [acc, x] >>= fun _ => pure ()
  | some g => innerOf (.ListComp elt gens sc pos) k acc env g
def turnV (elt : PySem.Expr) (gens : List Comprehension) (sc : Scope) (pos : Pos) (k : Nat) (target : PySem.Expr) (ifs : List PySem.Expr) (it acc : Value) (env : Env) (v : Value) : Sem Fin :=
  letOwnedTupleGo target it v >>= fun _ => PySem.assign target env v >>= fun _ => testIfs ifs env >>= fun ok =>
    (if ok = true then bodyOf elt gens sc pos k acc env >>= fun _ => again (.compLoop (.ListComp elt gens sc pos) k it acc env) else again (.compLoop (.ListComp elt gens sc pos) k it acc env))
theorem compTurn_v {elt : PySem.Expr} {gens : List Comprehension} {sc : Scope} {pos : Pos} {k : Nat} {it acc : Value} {env : Env} {target iter : PySem.Expr} {ifs : List PySem.Expr}
    (hg : gens[k]? = some ⟨target, iter, ifs, 0⟩) (hn : ∀ g, gens[k + 1]? = some g → g.is_async = 0) :
    compTurn (.ListComp elt gens sc pos) k it acc env = (standAt iter.pos >>= fun _ => pyNext it >>= fun r => match r with
      | none => pure (.done .next)
      | some v => turnV elt gens sc pos k target ifs it acc env v) := by
  unfold turnV bodyOf
  cases hq : gens[k + 1]? with
  | none => exact compTurn_last elt gens sc pos k it acc env hg hq
  | some g =>
    obtain ⟨t', i', f', a'⟩ := g
    obtain rfl : a' = 0 := hn _ hq
    exact compTurn_inner elt gens sc pos k it acc env hg hq

section
variable {c : Cx} {m : Nat} {T : Tab} {C : List Str} {ρ : Vars}

def RTsI (c : Cx) (m : Nat) (T : Tab) (ρ : Vars) (ifs : List PySem.Expr) (b : Bool) : Prop :=
  ∀ {A : Around} {P : List Addr} {env : Env} {s : Shared} {E : Value → Shared → Prop} {Q : Bool → Shared → Prop}, Fx c m A P T env ρ s →
    (∀ s', Ext P s s' → Q b s') → wpAny (model c.prog c.w) A (testIfs ifs env) Q E s
theorem RTsI.nil : RTsI c m T ρ [] true := fun {A P env s E Q} F k => by
  unfold testIfs
  rw [List.forIn_nil]
  exact wpAny_pure (k _ (.refl _ _))
theorem RTsI.one {e : PySem.Expr} {b : Bool} (h : RTs c m T ρ e b) : RTsI c m T ρ [e] b := fun {A P env s E Q} F k => by
  unfold testIfs
  rw [List.forIn_cons]
  refine wpAny_bind ?_
  rw [if_pos rfl]
  refine wpAny_bind (h F fun s₁ e₁ => wpAny_pure ?_)
  show wpAny _ A (forIn ([] : List PySem.Expr) b _) Q E s₁
  rw [List.forIn_nil]
  exact wpAny_pure (k _ e₁)

theorem letOwned {A : Around} {s : Shared} {target : PySem.Expr} {I : Addr} {v : Value} {E : Value → Shared → Prop} {Q : Unit → Shared → Prop} (h : ∃ o vs Tn, s.heap.get? I = some o ∧ o.data = .fields vs ∧ o.cls = .type Tn ∧ NoTup Tn) (k : Q () s) :
    wpAny (model c.prog c.w) A (letOwnedTupleGo target (.ref I) v) Q E s := by
  obtain ⟨o, vs, Tn, h1, h2, h3, h4⟩ := h
  have go : ∀ a, wpAny (model c.prog c.w) A (do
      let o ← load I
      match o.cls, o.data with
      | .type n, .fields vs =>
        if ["enumerate", "zip", "dict_itemiterator", "dict_reverseitemiterator", "odict_iterator", "itertools.zip_longest", "itertools.pairwise"].contains n && vs[0]? == some (rawInt a) then
          rule "for.unpacks-the-owned-tuple"
          updateField I 0 .none
      | _, _ => pure () : Sem Unit) Q E s := fun a => by
    refine wpAny_bind (wpAny_load h1 ?_)
    rw [h2, h3]
    have : (["enumerate", "zip", "dict_itemiterator", "dict_reverseitemiterator", "odict_iterator", "itertools.zip_longest", "itertools.pairwise"] : List String).contains Tn = false := by
      rcases h4 with rfl | rfl <;> decide
    simp only [this, Bool.false_and, Bool.false_eq_true, if_false]
    exact wpAny_pure k
  unfold letOwnedTupleGo
  split
  · cases v <;> first | exact go _ | exact wpAny_pure k
  · cases v <;> first | exact go _ | exact wpAny_pure k
  · exact wpAny_pure k

/-- one item at depth k -/
def RIt (c : Cx) (m : Nat) (T : Tab) (C : List Str) (elt : PySem.Expr) (gens : List Comprehension) (sc : Scope) (pos : Pos) (k : Nat) (target : PySem.Expr) (ifs : List PySem.Expr) (ρ : Vars) (d : PyData) (out : List PyData) : Prop :=
  ∀ {A : Around} {n₀ : Addr → Prop} {P₀ O : List Addr} {env : Env} {D I : Addr} {xs : List PyData} {s : Shared} {v : Value} {E : Value → Shared → Prop} {Q : Shared → Prop}, CS c m A n₀ P₀ O T C env ρ D xs s → xs.length + out.length ≤ 8388608 →
    Rd s.heap (O ++ P₀) v d → (∃ o vs Tn, s.heap.get? I = some o ∧ o.data = .fields vs ∧ o.cls = .type Tn ∧ NoTup Tn) →
    (∀ s', KC n₀ P₀ O D [] s s' → CS c m A n₀ P₀ O T C env ρ D (xs ++ out) s' → Q s') →
    wpAny (model c.prog c.w) A (turnV elt gens sc pos k target ifs (.ref I) (.ref D) env v) (fun fin s' => fin = .again (.compLoop (.ListComp elt gens sc pos) k (.ref I) (.ref D) env) ∧ Q s') E s
/-- a private iterator goes -/
theorem pop {A : Around} {n₀ : Addr → Prop} {P₀ O : List Addr} {env : Env} {s : Shared} {I : Addr} {h' : Heap} {tk : Nat} (F : Fx c m A (I :: O ++ P₀) T env ρ s) (W : Own n₀ (I :: O) P₀ C env ρ none s)
    (hd : ∃ o, s.heap.get? I = some o ∧ SF o) (hI : I ∉ O ++ P₀) (hk : ∀ b o, b ≠ I → s.heap.get? b = some o → h'.get? b = some o) :
    Fx c m A (O ++ P₀) T env ρ { s with heap := h', toks := tk } ∧ Own n₀ O P₀ C env ρ none { s with heap := h', toks := tk } ∧
    (∀ b o, (vis s.heap (I :: O ++ P₀)).get? b = some o → (vis h' (O ++ P₀)).get? b = some o) := by
  obtain ⟨od, hod, hsf⟩ := hd
  have vk : ∀ b o, (vis s.heap (I :: O ++ P₀)).get? b = some o → (vis h' (O ++ P₀)).get? b = some o := fun b o q => by
    obtain ⟨q, n⟩ := vis_get.mp q
    exact vis_get.mpr ⟨hk b o (fun e => n (e ▸ .head _)) q, fun h => n (.tail _ h)⟩
  have nsI : ∀ {x : Addr} {mm}, s.heap.Ns x mm → x ≠ I := fun {x mm} hn e => by
    obtain ⟨o, es, ep, h1, h2, h3⟩ := hn
    rw [e, hod] at h1; cases h1; exact sf_not_dict hsf _ _ h2
  have ceI : ∀ {x : Addr} {w}, s.heap.IsCell x w → x ≠ I := fun {x w} hn e => by
    obtain ⟨o, h1, h2⟩ := hn
    rw [e, hod] at h1; cases h1
    rcases hsf with ⟨_, _, h⟩ | ⟨_, h⟩ <;> rw [h] at h2 <;> cases h2
  have nsk : ∀ {x : Addr} {mm}, s.heap.Ns x mm → h'.Ns x mm := fun {x mm} hn => by
    have := nsI hn
    obtain ⟨o, es, ep, h1, h2, h3⟩ := hn
    exact ⟨o, es, ep, hk x o this h1, h2, h3⟩
  have cek : ∀ {x : Addr} {w}, s.heap.IsCell x w → h'.IsCell x w := fun {x w} hn => by
    have := ceI hn
    obtain ⟨o, h1, h2⟩ := hn
    exact ⟨o, hk x o this h1, h2⟩
  have lok : ∀ {x : Str} {w}, Look s.heap env x w → Look h' env x w := fun {x w} l => by
    rcases l with ⟨k, mm, n, q⟩ | ⟨k, b, n, q⟩
    · exact .inl ⟨k, mm, nsk n, q⟩
    · exact .inr ⟨k, b, n, cek q⟩
  have un : ∀ {x : Addr}, x ∈ I :: O → x ≠ I → x ∈ O := fun h n => (List.mem_cons.mp h).resolve_left n
  refine ⟨{ sx := ⟨F.sx.g.keeps vk, F.sx.b.keeps vk, F.sx.lim.keeps vk, F.sx.k.keeps vk, fun p hp => ?_⟩, hd := F.hd, depth := F.depth, units := F.units, frs := ?_, vars := fun p hp => ?_, tab := F.tab, kind := F.kind, gl := F.gl, bl := F.bl },
    { above := fun a ha => W.above a (.tail _ ha), old := W.old, still := fun b l => (W.still b l).imp fun o e => hk b o (fun q => no_both l (q ▸ W.above I (.head _))) e, loc := ?_, ns := ?_, cells := fun x hx => ?_, inj := W.inj, owned := fun _ _ e => nomatch e }, vk⟩
  · obtain ⟨o, ho⟩ := F.sx.ex p (.tail _ hp)
    exact ⟨o, hk p o (fun e => hI (e ▸ hp)) ho⟩
  · obtain ⟨l, h1, h2⟩ := F.frs
    refine ⟨l, h1, fun env' he => ?_⟩
    obtain ⟨kk, L, o, a1, a2, a3, es, n, a4⟩ := h2 env' he
    have hL : L ≠ I := fun e => by rw [e, hod] at a3; cases a3; exact sf_not_dict hsf _ _ a4
    exact ⟨kk, L, o, a1, (List.mem_cons.mp a2).resolve_left hL, hk L o hL a3, es, n, a4⟩
  · obtain ⟨v, l, r⟩ := F.vars p hp
    exact ⟨v, lok l, r.mono vk⟩
  · obtain ⟨mm, h⟩ := W.ns; exact un W.loc (nsI h)
  · obtain ⟨mm, h⟩ := W.ns; exact ⟨mm, nsk h⟩
  · obtain ⟨h1, b, w, h2, h3, h4⟩ := W.cells x hx; exact ⟨h1, b, w, h2, un h3 (ceI h4), cek h4⟩

/-- the loop at depth k -/
def RCL (c : Cx) (m : Nat) (T : Tab) (C : List Str) (elt : PySem.Expr) (gens : List Comprehension) (sc : Scope) (pos : Pos) (k : Nat) (ρ : Vars) (ds out : List PyData) : Prop :=
  ∀ {A : Around} {n₀ : Addr → Prop} {P₀ O : List Addr} {env : Env} {D I : Addr} {fp wr : List Addr} {Pi : Nat → Value → Prop} {St : Nat → Heap → Prop} {xs : List PyData} {s : Shared} {R : Result → Shared → Prop}, CS c m A n₀ P₀ (I :: O) T C env ρ D xs s → xs.length + out.length ≤ 8388608 →
    I ∉ O ++ P₀ → D ∈ O → D ∉ fp → ItW c A (I :: O ++ P₀) s.heap I fp wr Pi St ds → St 0 s.heap →
    (∀ s', Kb n₀ P₀ s s' → (∀ b o, (vis s.heap (I :: O ++ P₀)).get? b = some o → (vis s'.heap (O ++ P₀)).get? b = some o) → (∀ b o, b ≠ D → b ≠ I → s.heap.get? b = some o → SF o → s'.heap.get? b = some o) →
      CS c m A n₀ P₀ O T C env ρ D (xs ++ out) s' → R (.ok .next) s') →
    codeAny (model c.prog c.w) A (.compLoop (.ListComp elt gens sc pos) k (.ref I) (.ref D) env) R s

theorem flat_le {α β : Type} (f : Nat → List β) : ∀ {i n : Nat}, i ≤ n → ((List.range i).flatMap f).length ≤ ((List.range n).flatMap f).length
  | i, 0, h => by obtain rfl : i = 0 := by omega
                  exact Nat.le_refl _
  | i, n + 1, h => by
    by_cases e : i = n + 1
    · rw [e]; exact Nat.le_refl _
    · have := flat_le (α := α) f (i := i) (n := n) (by omega)
      rw [List.range_succ, List.flatMap_append, List.length_append]
      omega
theorem RCL.intro {elt : PySem.Expr} {gens : List Comprehension} {sc : Scope} {pos : Pos} {k : Nat} {target iter : PySem.Expr} {ifs : List PySem.Expr} {ds : List PyData} (outs : Nat → List PyData)
    (hg : gens[k]? = some ⟨target, iter, ifs, 0⟩) (hn : ∀ g, gens[k + 1]? = some g → g.is_async = 0)
    (h : ∀ i d, ds[i]? = some d → RIt c m T C elt gens sc pos k target ifs ρ d (outs i)) : RCL c m T C elt gens sc pos k ρ ds ((List.range ds.length).flatMap outs) := fun {A n₀ P₀ O env D I fp wr Pi St xs s R} S hlen hI hD hDf X st kk => by
  have hID : I ≠ D := fun e => hI (List.mem_append_left _ (e ▸ hD))
  refine codeAny_loop rfl (fun n s' => ∃ i, i ≤ ds.length ∧ n = ds.length - i ∧ CS c m A n₀ P₀ (I :: O) T C env ρ D (xs ++ (List.range i).flatMap outs) s' ∧ KC n₀ P₀ (I :: O) D [I] s s' ∧ St i s'.heap) ?_ ds.length
    ⟨0, Nat.zero_le _, rfl, by simpa using S, ⟨.refl _ _ _, fun _ _ e => e, fun _ _ _ _ e _ => e⟩, st⟩
  rintro n s' ⟨i, hi, rfl, S', K', st'⟩
  show wpAny _ A ((compTurn (.ListComp elt gens sc pos) k (.ref I) (.ref D) env).onRaise (fun x => do noteFrame x env; theTreesLotGoes x)) _ _ s'
  refine wpAny_noted ?_
  rw [compTurn_v hg hn]
  refine wpAny_bind (wpAny_standAt (wpAny_bind ?_))
  have sfI : ∃ o, s'.heap.get? I = some o ∧ SF o := by
    obtain ⟨o, vs, Tn, h1, h2, _⟩ := X.it i _ st'; exact ⟨o, h1, .inr ⟨vs, h2⟩⟩
  by_cases hlt : i < ds.length
  · refine X.W.item i s' _ _ hlt st' fun v h₁ tk hv st₁ hk => ?_
    have hk' : ∀ b o, b ≠ I → s'.heap.get? b = some o → h₁.get? b = some o := fun b o n e => hk b o (fun q => n (X.wr b q)) e
    have hxI : ∃ o, h₁.get? I = some o := by obtain ⟨o, _, _, h1, _⟩ := X.it (i + 1) _ st₁; exact ⟨o, h1⟩
    obtain ⟨F₁, W₁, K₁⟩ := turn_one (tk := tk) S'.F S'.W (.head _) sfI hxI hk'
    have S₁ : CS c m A n₀ P₀ (I :: O) T C env ρ D (xs ++ (List.range i).flatMap outs) { s' with heap := h₁, toks := tk } := ⟨F₁, W₁, S'.mem, by
      obtain ⟨items, l, r⟩ := S'.acc
      obtain ⟨o, lo, lr⟩ := l
      exact ⟨items, ⟨o, hk' D o (Ne.symm hID) lo, lr⟩, r.mono K₁.vis⟩⟩
    have hd : ds[i]? = some ds[i] := List.getElem?_eq_getElem hlt
    have rv : Rd h₁ (I :: O ++ P₀) v ds[i] := (X.vals i v _ hv hd).mono fun b o e => K₁.vis b o (K'.vis b o e)
    refine wpAny_mono (h i _ hd (E := notedBy (model c.prog c.w) A env fun e s' => R (.error e) s') (Q := fun s₂ => KC n₀ P₀ (I :: O) D [] { s' with heap := h₁, toks := tk } s₂ ∧ CS c m A n₀ P₀ (I :: O) T C env ρ D (xs ++ (List.range i).flatMap outs ++ outs i) s₂) S₁ (by
      have h1 := flat_le (α := Nat) outs (i := i + 1) (n := ds.length) hlt
      rw [List.range_succ, List.flatMap_append, List.length_append] at h1
      simp only [List.flatMap_cons, List.flatMap_nil, List.append_nil] at h1
      rw [List.length_append]; omega) rv (X.it (i + 1) _ st₁) fun s₂ K₂ S₂ => ⟨K₂, S₂⟩) (fun fin s₂ q => ?_) fun _ _ e => e
    obtain ⟨rfl, K₂, S₂⟩ := q
    refine ⟨rfl, ds.length - (i + 1), by omega, i + 1, hlt, rfl, ?_, ?_, ?_⟩
    · rw [List.range_succ, List.flatMap_append, ← List.append_assoc]
      simpa using S₂
    · refine K'.trans (KC.trans (b := { s' with heap := h₁, toks := tk }) ⟨K₁.kb, K₁.vis, fun b o h1 h2 h3 h4 => hk' b o (by simpa using h2) h3⟩ K₂.wide)
    · refine X.W.frame _ _ _ st₁ fun b hb o e => ?_
      obtain ⟨o', e', so⟩ := X.sf (i + 1) _ st₁ b hb
      rw [e] at e'; cases e'
      exact K₂.sf b o (fun q => hDf (q ▸ hb)) (by simp) e so
  · obtain rfl : i = ds.length := by omega
    refine X.W.done s' _ _ st' fun h₁ tk hk => wpAny_pure ?_
    have hk' : ∀ b o, b ≠ I → s'.heap.get? b = some o → h₁.get? b = some o := fun b o n e => hk b o (fun q => n (X.wr b q)) e
    obtain ⟨F₁, W₁, V₁⟩ := pop (tk := tk) S'.F S'.W sfI hI hk'
    have hIn : ¬ n₀ I := S.W.above I (.head _)
    refine kk _ (K'.kb.trans ⟨fun b o l _ q => hk' b o (fun e => ?_) q, fun b o l q => ⟨o.slots, hk' b o (fun e => ?_) q⟩, fun b o l _ q => hk' b o (fun e => ?_) q, rfl, rfl⟩) (fun b o q => V₁ b o (K'.vis b o q)) (fun b o h1 h2 h3 h4 => hk' b o h2 (K'.sf b o h1 (by simpa using h2) h3 h4)) ⟨F₁, W₁, hD, ?_⟩
    · exact no_both (e ▸ l) hIn
    · exact no_both (e ▸ l) hIn
    · exact no_both (e ▸ l) hIn
    · obtain ⟨items, ⟨o, lo, lr⟩, r⟩ := S'.acc
      exact ⟨items, ⟨o, hk' D o (Ne.symm hID) lo, lr⟩, r.mono V₁⟩
end
end Mine
namespace Mine

section
variable {c : Cx} {m : Nat} {T : Tab} {C : List Str} {ρ β : Vars} {elt : PySem.Expr} {gens : List Comprehension} {sc : Scope} {pos : Pos} {k : Nat} {target : PySem.Expr} {ifs : List PySem.Expr} {d r : PyData}

theorem list_appendD {A : Around} {E : Value → Shared → Prop} {s : Shared} {l : Addr} {items : Array Value} {x : Value} {Q : Value → Shared → Prop} (hl : IsListD s.heap l items)
    (hQ : ∀ h', IsListD h' l (items.push x) → Heap.SameBut l s.heap h' → Q .none { s with heap := h' }) (hsz : items.size ≤ sizeLine) :
    wpAny (model c.prog c.w) A (PySem.call (.builtin "list.append") [.ref l, x]) Q E s := by
  obtain ⟨o, ho, hc, hdd, n, hd⟩ := id hl
  obtain ⟨n', hd'⟩ := Obj.data_mapSeq hd (·.push x)
  refine wpAny_call_entry slot_list_append hl.l.typeIs entry_list_append ?_ (args_list_append _ _)
  show wpAny _ _ (updateSeq l (·.push x) >>= fun _ => ret .none) _ _ s
  refine wpAny_bind ?_
  refine wpAny_updateSeq ho hd (wpAny_pure ⟨.none, rfl, hQ _ ?_ (Heap.SameBut.update ..)⟩)
  refine ⟨_, Heap.get?_update_self _ ho (Obj.isFreed_of_seq hd'), (Obj.cls_mapSeq ..).trans hc, ?_, n', hd'⟩
  obtain ⟨a1, a2, a3, a4⟩ := o
  simp only at hd hdd
  subst hd
  exact hdd
/-- target taken and tests asked -/
theorem RIt.head {out : List PyData} {b : Bool} (hb : RBd c m T C target d β) (hdis : ∀ p ∈ ρ, ∀ q ∈ β, p.1 ≠ q.1) (ht : RTsI c m T (β ++ ρ) ifs b)
    (h : b = true → ∀ {A : Around} {n₀ : Addr → Prop} {P₀ O : List Addr} {env : Env} {D : Addr} {xs : List PyData} {s : Shared} {E : Value → Shared → Prop} {Q : Shared → Prop}, CS c m A n₀ P₀ O T C env (β ++ ρ) D xs s → xs.length + out.length ≤ 8388608 →
      (∀ s', KC n₀ P₀ O D [] s s' → CS c m A n₀ P₀ O T C env (β ++ ρ) D (xs ++ out) s' → Q s') → wpAny (model c.prog c.w) A (bodyOf elt gens sc pos k (.ref D) env) (fun _ s' => Q s') E s)
    (ho : b = false → out = []) : RIt c m T C elt gens sc pos k target ifs ρ d out := fun {A n₀ P₀ O env D I xs s v E Q} S hl rv hI kk => by
  unfold turnV
  refine wpAny_bind (letOwned hI (wpAny_bind (hb S.F S.W rv hdis fun s₁ k₁ vk sf F₁ W₁ => wpAny_bind (ht F₁ fun s₂ e₂ => ?_))))
  have acc₁ : ∃ items, IsListD s₁.heap D items ∧ RdAll s₁.heap (O ++ P₀) items.toList xs := by
    obtain ⟨items, ⟨o, h1, h2, hdd, n, h3⟩, r⟩ := S.acc
    exact ⟨items, ⟨o, sf D o h1 (.inl ⟨_, _, h3⟩), h2, hdd, n, h3⟩, r.mono vk⟩
  have S₂ : CS c m A n₀ P₀ O T C env (β ++ ρ) D xs s₂ := ⟨F₁.ext e₂, W₁.ext e₂, S.mem, by
    obtain ⟨items, l, r⟩ := acc₁
    exact ⟨items, listD_priv e₂ l, r.ext e₂⟩⟩
  have K₂ : KC n₀ P₀ O D [] s s₂ := KC.trans ⟨k₁, vk, fun b o _ _ h3 h4 => sf b o h3 h4⟩ (e₂.kc W₁.above)
  have fin : ∀ s', KC n₀ P₀ O D [] s₂ s' → CS c m A n₀ P₀ O T C env (β ++ ρ) D (xs ++ out) s' → Q s' := fun s' K' S' =>
    kk s' (K₂.trans K') ⟨S'.F.sub fun p hp => List.mem_append_right _ hp, S'.W.sub fun p hp => List.mem_append_right _ hp, S'.mem, S'.acc⟩
  cases b with
  | false =>
    refine wpAny_pure ⟨rfl, fin s₂ ⟨.refl _ _ _, fun _ _ e => e, fun _ _ _ _ e _ => e⟩ ?_⟩
    rw [ho rfl, List.append_nil]; exact S₂
  | true =>
    show wpAny _ A (bodyOf elt gens sc pos k (.ref D) env >>= fun _ => again _) _ _ s₂
    exact wpAny_bind (h rfl S₂ hl fun s' K' S' => wpAny_pure ⟨rfl, fin s' K' S'⟩)

theorem RIt.skip (hb : RBd c m T C target d β) (hdis : ∀ p ∈ ρ, ∀ q ∈ β, p.1 ≠ q.1) (ht : RTsI c m T (β ++ ρ) ifs false) : RIt c m T C elt gens sc pos k target ifs ρ d [] :=
  RIt.head hb hdis ht (fun e => nomatch e) fun _ => rfl
theorem RIt.emit (hb : RBd c m T C target d β) (hdis : ∀ p ∈ ρ, ∀ q ∈ β, p.1 ≠ q.1) (ht : RTsI c m T (β ++ ρ) ifs true) (he : REv c m T (β ++ ρ) elt r) (hn : gens[k + 1]? = none) : RIt c m T C elt gens sc pos k target ifs ρ d [r] :=
  RIt.head hb hdis ht (fun _ {A n₀ P₀ O env D xs s E Q} S hl kk => by
    unfold bodyOf
    rw [hn]
    refine wpAny_bind (he S.F fun v s₁ e₁ r₁ => wpAny_bind ?_)
    obtain ⟨items, l, ra⟩ := S.acc
    have hsz : items.size = xs.length := by have := ra.len; simpa using this
    have l₁ := listD_priv e₁ l
    refine list_appendD (hsz := by rw [hsz]; have : sizeLine = 16777216 := rfl; simp at hl; omega) l₁ fun h' l' hsb => wpAny_pure ?_
    have hD : ∃ o, s₁.heap.get? D = some o ∧ SF o := by obtain ⟨o, h1, h2, _, n, h3⟩ := l₁; exact ⟨o, h1, .inl ⟨_, _, h3⟩⟩
    have hD' : ∃ o, h'.get? D = some o := by obtain ⟨o, h1, _⟩ := l'; exact ⟨o, h1⟩
    obtain ⟨F₂, W₂, K₂⟩ := turn_one (tk := s₁.toks) (S.F.ext e₁) (S.W.ext e₁) S.mem hD hD' (fun b o n e => (hsb.2 b n).trans e)
    exact kk _ ((e₁.kc S.W.above).trans K₂) ⟨F₂, W₂, S.mem, items.push v, l', by
      have := ((ra.ext e₁).mono K₂.vis).append (.cons (r₁.mono K₂.vis) .nil)
      simpa using this⟩) fun e => nomatch e

theorem codeAny_compStart {A : Around} {s : Shared} {it acc : Value} {env : Env} {R : Result → Shared → Prop} {e : PySem.Expr} {g : Comprehension} (hg : (clausesOf e)[k]? = some g) (ha : g.is_async = 0)
    (hc : (Code.compStart e k it acc env).isFrame = false)
    (h0 : codeAny (model c.prog c.w) A (.compLoop e k it acc env) R s)
    (h : wpAny (model c.prog c.w) A (pyIter it) (fun it' s' => codeAny (model c.prog c.w) A (.compLoop e k it' acc env) R s') (notedBy (model c.prog c.w) A env fun x s' => R (.error x) s') s)
    (hA : A.under (.compStart e k it acc env) = A) (hq : (Code.compLoop e k it acc env).quiet = true) (hq' : ∀ it', (Code.compLoop e k it' acc env).quiet = true) :
    codeAny (model c.prog c.w) A (.compStart e k it acc env) R s := by
  refine codeAny_of_tree ?_
  rw [hA]
  show wpAny _ A (if (Code.compStart e k it acc env).isFrame then _ else (compStart e k it acc env).onRaise (fun x => do noteFrame x env; standAt theWindowsPlace)) _ _ s
  rw [hc]
  refine wpAny_notedAt ?_
  unfold compStart
  rw [hg]
  simp only [Option.elim, ha]
  refine wpAny_bind (wpAny_askSetting (wpAny_ite ?_))
  split
  · first
      | exact wpAny_bind (wpAny_pure (wpAny_pure (And.intro hq h0)))
      | exact wpAny_pure (And.intro hq h0)
  · refine wpAny_bind (wpAny_rule ?_)
    show wpAny _ A (standAt g.iter.pos >>= _) _ _ s
    exact wpAny_bind (wpAny_standAt (wpAny_bind (wpAny_mono h (fun it' s' h' => wpAny_pure (And.intro (hq' it') h')) fun _ _ x => x)))
end
end Mine
namespace Mine

section
variable {c : Cx} {m : Nat} {T : Tab} {C : List Str} {ρ β : Vars} {elt : PySem.Expr} {gens : List Comprehension} {sc : Scope} {pos : Pos} {k : Nat} {target : PySem.Expr} {ifs : List PySem.Expr} {d r : PyData}

theorem vis_hide {s s' : Shared} {P : List Addr} {I : Addr} (e : Ext P s s') (n : s.heap.get? I = none) : ∀ b o, (vis s.heap P).get? b = some o → (vis s'.heap (I :: P)).get? b = some o := fun b o q => by
  obtain ⟨q, m⟩ := vis_get.mp q
  refine vis_get.mpr ⟨e.keep b o m q, fun h => ?_⟩
  rcases List.mem_cons.mp h with rfl | h
  · rw [n] at q; cases q
  · exact m h
theorem Fx.hide {A : Around} {P : List Addr} {env : Env} {s s' : Shared} {I : Addr} (F : Fx c m A P T env ρ s) (e : Ext P s s') (n : s.heap.get? I = none) (hI : ∃ o, s'.heap.get? I = some o) : Fx c m A (I :: P) T env ρ s' := by
  have F' := F.ext e
  have vk := vis_hide e n
  refine { sx := ⟨F.sx.g.keeps vk, F.sx.b.keeps vk, F.sx.lim.keeps vk, F.sx.k.keeps vk, fun p hp => ?_⟩, hd := F.hd, depth := F.depth, units := F.units, frs := ?_, vars := fun p hp => ?_, tab := F.tab, kind := F.kind, gl := F.gl, bl := F.bl }
  · rcases List.mem_cons.mp hp with rfl | hp
    · exact hI
    · exact F'.sx.ex p hp
  · obtain ⟨l, h1, h2⟩ := F'.frs
    refine ⟨l, h1, fun env' he => ?_⟩
    obtain ⟨kk, L, o, a1, a2, r⟩ := h2 env' he
    exact ⟨kk, L, o, a1, .tail _ a2, r⟩
  · obtain ⟨v, l, r⟩ := F.vars p hp
    exact ⟨v, l.ext e, r.mono vk⟩
theorem Own.hide {n₀ : Addr → Prop} {O P₀ : List Addr} {env : Env} {s s' : Shared} {I : Addr} (W : Own n₀ O P₀ C env ρ none s) (e : Ext (O ++ P₀) s s') (hI : ¬ n₀ I) : Own n₀ (I :: O) P₀ C env ρ none s' := by
  have W' := W.ext e
  refine { above := fun a ha => ?_, old := W.old, still := W'.still, loc := .tail _ W.loc, ns := W'.ns, cells := fun x hx => ?_, inj := W.inj, owned := fun _ _ e => nomatch e }
  · rcases List.mem_cons.mp ha with rfl | ha
    · exact hI
    · exact W.above a ha
  · obtain ⟨kk, a, v, h1, h2, h3⟩ := W'.cells x hx
    exact ⟨kk, a, v, h1, .tail _ h2, h3⟩

theorem RIt.inner {out ds' : List PyData} {target' iter' : PySem.Expr} {ifs' : List PySem.Expr} (hb : RBd c m T C target d β) (hdis : ∀ p ∈ ρ, ∀ q ∈ β, p.1 ≠ q.1) (ht : RTsI c m T (β ++ ρ) ifs true)
    (hn : gens[k + 1]? = some ⟨target', iter', ifs', 0⟩) (hi : RIts c m T (β ++ ρ) iter' ds') (hl : RCL c m T C elt gens sc pos (k + 1) (β ++ ρ) ds' out)
    (hs : ∀ (env : Env) x, foldedSetIterable iter' env x = pure x := by intro _ _; rfl) : RIt c m T C elt gens sc pos k target ifs ρ d out :=
  RIt.head hb hdis ht (fun _ {A n₀ P₀ O env D xs s E Q} S hlen kk => by
    unfold bodyOf
    rw [hn]
    show wpAny _ A (innerOf (.ListComp elt gens sc pos) k (.ref D) env ⟨target', iter', ifs', 0⟩) _ E s
    unfold innerOf
    refine wpAny_bind (wpAny_mono (hi S.F (Q := fun y s' => ∃ I fp wr Pi St, y = Value.ref I ∧ Ext (O ++ P₀) s s' ∧ s.heap.get? I = none ∧ ItW c A (I :: (O ++ P₀)) s'.heap I fp wr Pi St ds' ∧ St 0 s'.heap)
      fun I fp wr Pi St s' e n X st => ⟨I, fp, wr, Pi, St, rfl, e, n, X, st⟩) (fun x s₁ hx => ?_) fun _ _ e => e)
    refine wpAny_bind (wpAny_standAt (wpAny_bind (wpAny_of_eq (hs env x) (wpAny_bind (wpAny_holding (wpAny_mono hx (fun it s₂ q => ?_) fun _ _ e => e))))))
    obtain ⟨I, fp, wr, Pi, St, rfl, e, n, X, st⟩ := q
    have hI : ∃ o, s₂.heap.get? I = some o := by obtain ⟨o, _, _, h, _⟩ := X.it 0 _ st; exact ⟨o, h⟩
    have nI : I ∉ O ++ P₀ := fun h => by obtain ⟨o, ho⟩ := S.F.sx.ex I h; rw [n] at ho; cases ho
    have n₀I : ¬ n₀ I := by
      intro q
      obtain ⟨o', h⟩ := S.W.still I q; rw [n] at h; cases h
    have sfx : ∀ b o, s.heap.get? b = some o → SF o → s₂.heap.get? b = some o := fun b o h1 h2 => e.rest b o (sf_not_dict h2) h1
    have IO : ∀ b, b ∈ O → b ≠ I := fun b hb q => nI (q ▸ List.mem_append_left _ hb)
    have ID : D ≠ I := IO D S.mem
    have S₂ : CS c m A n₀ P₀ (I :: O) T C env (β ++ ρ) D xs s₂ := ⟨S.F.hide e n hI, S.W.hide e n₀I, .tail _ S.mem, by
      obtain ⟨items, l, r⟩ := S.acc
      exact ⟨items, listD_priv e l, r.mono (vis_hide e n)⟩⟩
    have go : codeAny (model c.prog c.w) A (.compLoop (.ListComp elt gens sc pos) (k + 1) (.ref I) (.ref D) env) (fun r s' => match r with
        | .ok f => wpAny (model c.prog c.w) A (pure () : Sem Unit) (fun _ s' => Q s') E s'
        | .error e => cameBackBy (model c.prog c.w) A env E e s') s₂ := by
      refine hl S₂ hlen nI S.mem ?_ X st fun s' kb vk sf S' => wpAny_pure <| kk s' ⟨(e.kb S.W.above).trans kb, fun b o h => vk b o (vis_hide e n b o h), fun b o h1 h2 h3 h4 => ?_⟩ S'
      · intro h
        rcases X.fv D h with q | q
        · exact ID q
        · exact q (.tail _ (List.mem_append_left _ S.mem))
      · refine sf b o h1 (fun q => ?_) (sfx b o h3 h4) h4
        rw [q, n] at h3; cases h3
    refine wpAny_bind (wpAny_runOwn (codeAny_compStart (g := ⟨target', iter', ifs', 0⟩) hn rfl rfl go (X.W.self 0 s₂ _ _ st go) rfl rfl fun _ => rfl))) fun e => nomatch e
end
end Mine
namespace Mine

def closOf (cells : List (Str × Addr)) : Tab → List (Str × Addr) → List (Str × Addr)
  | [], acc => acc
  | (n, k) :: r, acc => if k == .free then closOf cells r ((n, (cells.lookup n).getD 0) :: acc) else closOf cells r acc
theorem closureFor_is {scope : Scope} {env : Env} (h : ∀ x, (x, NameKind.free) ∈ scope.names → (env.cells.lookup x).isSome = true) : closureFor scope env = pure (closOf env.cells scope.names []) := by
  have go : ∀ (T : Tab) (acc : List (Str × Addr)), (∀ x, (x, NameKind.free) ∈ T → (env.cells.lookup x).isSome = true) →
      (forIn T acc (fun (x : Str × NameKind) (cs : List (Str × Addr)) => if (x.2 == NameKind.free) = true then do let a ← cellOf env x.1; pure (ForInStep.yield ((x.1, a) :: cs)) else pure (ForInStep.yield cs)) : Sem (List (Str × Addr))) = pure (closOf env.cells T acc) := by
    intro T
    induction T with
    | nil => intro acc _; rw [List.forIn_nil]; rfl
    | cons p r ih =>
      obtain ⟨n, k⟩ := p
      intro acc hh
      rw [List.forIn_cons]
      unfold closOf
      by_cases hk : (k == NameKind.free) = true
      · have : k = .free := by cases k <;> first | rfl | cases hk
        subst this
        obtain ⟨a, ha⟩ := Option.isSome_iff_exists.mp (hh n (.head _))
        have e : cellOf env n = pure a := by unfold cellOf; rw [ha]
        simp only [beq_self_eq_true, if_true, e, pure_bind, ha, Option.getD_some]
        exact ih _ fun x hx => hh x (.tail _ hx)
      · simp only [hk, if_false, Bool.false_eq_true, pure_bind]
        exact ih _ fun x hx => hh x (.tail _ hx)
  have := go scope.names [] h
  simp only [closureFor]
  rw [show (forIn scope.names ([] : List (Str × Addr)) _ : Sem (List (Str × Addr))) = pure (closOf env.cells scope.names []) from this]
  rfl
theorem closOf_mem {cells : List (Str × Addr)} {y : Str} {a : Addr} : ∀ (T : Tab) (acc : List (Str × Addr)), (y, a) ∈ closOf cells T acc → (y, a) ∈ acc ∨ ((y, NameKind.free) ∈ T ∧ a = (cells.lookup y).getD 0)
  | [], acc, h => .inl h
  | (n, k) :: r, acc, h => by
    unfold closOf at h
    split at h
    · rename_i hk
      have : k = .free := by cases k <;> first | rfl | cases hk
      subst this
      rcases closOf_mem r _ h with h | ⟨h1, h2⟩
      · rcases List.mem_cons.mp h with e | h
        · cases e; exact .inr ⟨.head _, rfl⟩
        · exact .inl h
      · exact .inr ⟨.tail _ h1, h2⟩
    · rcases closOf_mem r _ h with h | ⟨h1, h2⟩
      · exact .inl h
      · exact .inr ⟨.tail _ h1, h2⟩
theorem closOf_at {cells : List (Str × Addr)} {x : Str} {a : Addr} (ha : cells.lookup x = some a) : ∀ (T : Tab) (acc : List (Str × Addr)), (∀ b, acc.lookup x = some b → b = a) → ((x, NameKind.free) ∈ T ∨ acc.lookup x = some a) → (closOf cells T acc).lookup x = some a
  | [], acc, _, h => by rcases h with h | h; cases h; exact h
  | (n, k) :: r, acc, h1, h2 => by
    unfold closOf
    split
    · refine closOf_at ha r _ (fun b hb => ?_) ?_
      · rw [List.lookup_cons] at hb
        split at hb
        · rename_i q; cases hb; rw [beq_iff_eq] at q; subst q; rw [ha]; rfl
        · exact h1 b hb
      · by_cases q : x = n
        · subst q; right; rw [List.lookup_cons, beq_self_eq_true]; simp [ha]
        · rcases h2 with h2 | h2
          · rcases List.mem_cons.mp h2 with e | h2
            · cases e; exact absurd rfl q
            · exact .inl h2
          · right; rw [List.lookup_cons]; have : (x == n) = false := by simpa using q
            rw [this]; exact h2
    · rename_i hk
      refine closOf_at ha r _ h1 ?_
      rcases h2 with h2 | h2
      · rcases List.mem_cons.mp h2 with e | h2
        · cases e; exact absurd rfl hk
        · exact .inl h2
      · exact .inr h2
theorem cellsFrom_append (acc₂ : List (Str × Addr)) : ∀ (T : Tab) (n : Nat) (acc : List (Str × Addr)), cellsFrom n T (acc ++ acc₂) = cellsFrom n T acc ++ acc₂
  | [], _, _ => rfl
  | (y, k) :: r, n, acc => by
    unfold cellsFrom
    split
    · exact cellsFrom_append acc₂ r (n + 1) ((y, n) :: acc)
    · exact cellsFrom_append acc₂ r n acc
theorem cellsFrom_key {x : Str} {a : Addr} : ∀ (T : Tab) (n : Nat) (acc : List (Str × Addr)), (x, a) ∈ cellsFrom n T acc → (x, a) ∈ acc ∨ (x, NameKind.cell) ∈ T
  | [], _, _, h => .inl h
  | (y, k) :: r, n, acc, h => by
    unfold cellsFrom at h
    split at h
    · rename_i hk
      have : k = .cell := by cases k <;> first | rfl | cases hk
      subst this
      rcases cellsFrom_key r _ _ h with h | h
      · rcases List.mem_cons.mp h with e | h
        · cases e; exact .inr (.head _)
        · exact .inl h
      · exact .inr (.tail _ h)
    · rcases cellsFrom_key r _ _ h with h | h
      · exact .inl h
      · exact .inr (.tail _ h)

/-- the names of a comprehension's block, as its turns see them -/
def relab (T names : Tab) : Tab := names.map fun (n, k) => if (k == .free && T.lookup n == some .cell) then (n, .cell) else (n, k)
theorem relabel_names {sc : Scope} {env : Env} {T : Tab} (hk : env.scope.kind = .function) (hT : env.scope.names = T) : (relabel sc env).names = relab T sc.names := by
  unfold relabel relab Env.kindOf
  rw [hk, hT]
  refine List.map_congr_left fun p _ => ?_
  obtain ⟨n, k⟩ := p
  simp
theorem relab_lookup {T : Tab} {x : Str} : ∀ {names : Tab} {k : NameKind}, names.lookup x = some k → (relab T names).lookup x = some (if (k == .free && T.lookup x == some .cell) then .cell else k)
  | (n, kk) :: r, k, h => by
    have e1 : relab T ((n, kk) :: r) = (n, if (kk == .free && T.lookup n == some .cell) then .cell else kk) :: relab T r := by
      unfold relab
      rw [List.map_cons]
      dsimp only
      by_cases b : (kk == .free && T.lookup n == some .cell) = true
      · rw [if_pos b, if_pos b]
      · rw [if_neg b, if_neg b]
    rw [e1, List.lookup_cons]
    rw [List.lookup_cons] at h
    by_cases q : x = n
    · subst q
      rw [beq_self_eq_true] at h
      simp only [Option.some.injEq] at h
      subst h
      rw [beq_self_eq_true]
    · have e : (x == n) = false := by simpa using q
      rw [e] at h
      rw [e]
      exact relab_lookup (T := T) h
theorem lookup_nd {x : Str} {k : NameKind} : ∀ {names : Tab}, (names.map (·.1)).Nodup → (x, k) ∈ names → names.lookup x = some k
  | (n, kk) :: r, nd, h => by
    rw [List.map_cons, List.nodup_cons] at nd
    rw [List.lookup_cons]
    rcases List.mem_cons.mp h with e | h
    · cases e; rw [beq_self_eq_true]
    · have : x ≠ n := fun e => nd.1 (e ▸ List.mem_map.mpr ⟨_, h, rfl⟩)
      have e : (x == n) = false := by simpa using this
      rw [e]; exact lookup_nd nd.2 h
theorem ItW.move {c : Cx} {A : Around} {P P' : List Addr} {h h' : Heap} {I : Addr} {fp wr : List Addr} {Pi : Nat → Value → Prop} {St : Nat → Heap → Prop} {ds : List PyData} (X : ItW c A P h I fp wr Pi St ds)
    (vk : ∀ b o, (vis h P).get? b = some o → (vis h' P').get? b = some o) (hf : ∀ b ∈ fp, b = I ∨ b ∉ P') : ItW c A P' h' I fp wr Pi St ds :=
  { X with fv := hf, vals := fun i v d a b => (X.vals i v d a b).mono vk }
end Mine
namespace Mine

section
variable {c : Cx} {m : Nat} {T : Tab} {ρ ρ' : Vars} {elt : PySem.Expr} {gens gs : List Comprehension} {sc : Scope} {pos : Pos} {target iter : PySem.Expr} {ifs : List PySem.Expr} {ds out : List PyData} {T' : Tab} {C' : List Str}

/-- what a comprehension's block must meet -/
structure Blk (T : Tab) (ρ ρ' : Vars) (sc : Scope) (T' : Tab) (C' : List Str) : Prop where
  tab : relab T sc.names = T'
  kind : sc.kind = .function
  nd : (sc.names.map (·.1)).Nodup
  free : ∀ x ∈ sc.names, x.2 = .free → ∃ d, (x.1, d) ∈ ρ ∧ (T.lookup x.1 = some .cell ∨ T.lookup x.1 = some .free)
  vars : ∀ p ∈ ρ', p ∈ ρ ∧ sc.names.lookup p.1 = some .free
  own : ∀ x ∈ C', sc.names.lookup x = some .cell

theorem comp_core {A : Around} {P : List Addr} {env : Env} {s : Shared} {E : Value → Shared → Prop} {Q : Value → Shared → Prop} {use : Option (Value → Sem Unit)} {fp : Pos} (F : Fx c m A P T env ρ s)
    (hg : gens = ⟨target, iter, ifs, 0⟩ :: gs) (hi : RIts c m T ρ iter ds) (B : Blk T ρ ρ' sc T' C') (hl : RCL c m T' C' elt gens sc pos 0 ρ' ds out) (hlen : out.length ≤ 8388608)
    (hs : ∀ (env : Env) x, foldedSetIterable iter env x = pure x)
    (kk : ∀ D Cn s₁ mm, Ext P s s₁ → s.heap.get? Cn = none → s.heap.get? D = none → D ≠ Cn → (∃ items, IsListD s₁.heap D items ∧ RdAll s₁.heap (D :: Cn :: P) items.toList out) → s₁.heap.Ns Cn mm → compPost (model c.prog c.w) A E use Q (.ref D) Cn (.ok .next) s₁) :
    wpAny (model c.prog c.w) A (comprehension (.ListComp elt gens sc pos) sc env fp (newList []) false (eval iter env) use) Q E s := by
  subst hg
  have hcell : ∀ x, (x, NameKind.free) ∈ sc.names → ∃ a v, env.cells.lookup x = some a ∧ s.heap.IsCell a v := fun x hx => by
    obtain ⟨d, h1, h2⟩ := B.free _ hx rfl
    obtain ⟨v, l, _⟩ := F.vars _ h1
    rcases l with ⟨k, _⟩ | ⟨_, a, n, q⟩
    · rw [Env.kindOf, F.tab] at k; rcases h2 with h2 | h2 <;> rw [h2] at k <;> cases k
    · exact ⟨a, _, n, q⟩
  have hclos := closureFor_is (scope := sc) (env := env) fun x hx => by obtain ⟨a, v, h, _⟩ := hcell x hx; rw [h]; rfl
  refine wpAny_comprehension_free rfl (hs env) hclos B.kind (fun x hx hl => lookup_nd B.nd (hl ▸ hx)) ?_
  refine wpAny_mono (hi F (Q := fun y s' => ∃ I fp wr Pi St, y = Value.ref I ∧ Ext P s s' ∧ s.heap.get? I = none ∧ ItW c A (I :: P) s'.heap I fp wr Pi St ds ∧ St 0 s'.heap)
      fun I fp wr Pi St s' e n X st => ⟨I, fp, wr, Pi, St, rfl, e, n, X, st⟩) (fun x s₁ hx => wpAny_mono hx (fun it s₂ q => ?_) fun _ _ e => e) fun _ _ e => e
  obtain ⟨I, fpt, wr, Pi, St, rfl, e₂, nI, X, st⟩ := q
  refine wpAny_newList ?_
  simp only [newFunctionEnv, Option.isSome_some, if_true]
  refine wpAny_bind (wpAny_alloc ?_)
  refine wpAny_bind (wpAny_layCells _ (fun name kind cells => by cases hkc : kind == NameKind.cell <;> simp [hkc]) _ _ _ _ ?_)
  rw [List.forIn_nil]
  refine wpAny_bind (wpAny_pure (wpAny_pure ?_))
  dsimp only
  generalize hD : s₂.heap.objs.size = D
  generalize hH1 : s₂.heap.push { cls := .type "list", data := .seq ([] : List Value).toArray } = H1
  have hC : H1.objs.size = D + 1 := by rw [← hH1, Heap.size_push, hD]
  generalize hH2 : H1.push { cls := .type "dict", data := .dict #[] } = H2
  have hS2 : H2.objs.size = D + 2 := by rw [← hH2, Heap.size_push, hC]
  rw [hC, hS2]
  -- the heap as it stands now
  have old : ∀ b o, s₂.heap.get? b = some o → (pushCells H2 sc.names).get? b = some o := fun b o e => pushCells_keeps _ _ b o (hH2 ▸ Heap.get?_push_of_some _ (hH1 ▸ Heap.get?_push_of_some _ e))
  have atD : (pushCells H2 sc.names).get? D = some { cls := .type "list", data := .seq ([] : List Value).toArray } := pushCells_keeps _ _ _ _ (hH2 ▸ Heap.get?_push_of_some _ (hH1 ▸ hD ▸ Heap.get?_push_size _ rfl))
  have nsC : (pushCells H2 sc.names).Ns (D + 1) fun _ => none := by
    have := (Heap.Ns.new H1 (.type "dict")).keeps (pushCells_keeps sc.names _)
    rw [hC, hH2] at this; exact this
  have ok := cellsFrom_ok sc.names H2 (D + 2) [] ⟨fun _ _ hm => (nomatch hm), List.Pairwise.nil⟩ (by rw [hS2]; exact Nat.le_refl _)
  rw [hS2] at ok
  generalize hH3 : pushCells H2 sc.names = H3 at old atD nsC ok ⊢
  have hcl : cellsFrom (D + 2) sc.names (closOf env.cells sc.names []) = cellsFrom (D + 2) sc.names [] ++ closOf env.cells sc.names [] := by
    have := cellsFrom_append (closOf env.cells sc.names []) sc.names (D + 2) []
    rwa [List.nil_append] at this
  rw [hcl]
  generalize hfr : cellsFrom (D + 2) sc.names [] = fresh at ok ⊢
  have ltD : ∀ b o, s.heap.get? b = some o → b < D := fun b o e => by
    obtain ⟨sl, q⟩ := e₂.priv b o e; rw [← hD]; exact Heap.lt_size q
  have new : ∀ a, D ≤ a → s.heap.get? a = none := fun a ha => by
    cases q : s.heap.get? a with
    | none => rfl
    | some o => exact absurd (ltD a o q) (Nat.not_lt.mpr ha)
  have frGe : ∀ a ∈ fresh.map (·.2), D + 2 ≤ a := fun a ha => by
    obtain ⟨p, hp, rfl⟩ := List.mem_map.mp ha; exact (ok.empty p.1 p.2 hp).2
  let O : List Addr := D :: (D + 1) :: fresh.map (·.2)
  have OGe : ∀ a ∈ O, D ≤ a := fun a ha => by
    rcases List.mem_cons.mp ha with rfl | ha
    · exact Nat.le_refl _
    · rcases List.mem_cons.mp ha with rfl | ha
      · exact Nat.le_succ _
      · have := frGe a ha; omega
  have IO : I < D := by
    obtain ⟨o, _, _, h, _⟩ := X.it 0 _ st; rw [← hD]; exact Heap.lt_size h
  have nIP : I ∉ P := fun h => by obtain ⟨o, ho⟩ := F.sx.ex I h; rw [nI] at ho; cases ho
  have nIO : I ∉ O ++ P := fun h => by
    rcases List.mem_append.mp h with h | h
    · exact absurd IO (Nat.not_lt.mpr (OGe I h))
    · exact nIP h
  have e₃ : Ext P s { s₂ with heap := H3 } := e₂.trans (.of_keeps old rfl rfl)
  have vk₂ : ∀ b o, (vis s₂.heap (I :: P)).get? b = some o → (vis H3 (I :: O ++ P)).get? b = some o := fun b o q => by
    obtain ⟨q, n⟩ := vis_get.mp q
    refine vis_get.mpr ⟨old b o q, fun h => ?_⟩
    rcases List.mem_cons.mp h with h | h
    · exact n (h ▸ .head _)
    · rcases List.mem_append.mp h with h | h
      · exact absurd (hD ▸ Heap.lt_size q) (Nat.not_lt.mpr (OGe b h))
      · exact n (.tail _ h)
  have vk : ∀ b o, (vis s.heap P).get? b = some o → (vis H3 (I :: O ++ P)).get? b = some o := fun b o q => vk₂ b o (vis_hide e₂ nI b o q)
  have F₃ := F.ext e₃
  have exI : ∃ o, H3.get? I = some o := by obtain ⟨o, _, _, h, _⟩ := X.it 0 _ st; exact ⟨o, old _ _ h⟩
  obtain ⟨oC, esC, epC, hoC, hdC, hC3⟩ := id nsC
  have ndk : ∀ x, (x, NameKind.free) ∈ sc.names → fresh.lookup x = none := fun x hx => by
    cases q : fresh.lookup x with
    | none => rfl
    | some a =>
      have := mem_of_lookup q
      rw [← hfr] at this
      rcases cellsFrom_key _ _ _ this with h | h
      · cases h
      · have h1 := lookup_nd B.nd h
        have h2 := lookup_nd B.nd hx
        rw [h1] at h2; cases h2
  have kinds : ∀ x k, sc.names.lookup x = some k → (relabel sc env).names.lookup x = some (if (k == .free && T.lookup x == some .cell) then .cell else k) := fun x k h => by
    rw [relabel_names F.kind F.tab]; exact relab_lookup h
  have S : CS c m A (fun b => ∃ o, s.heap.get? b = some o) P (I :: O) T' C' { scope := relabel sc env, locals := D + 1, globals := env.globals, cells := fresh ++ closOf env.cells sc.names [], qual := env.qual, func := none, code := env.code, frame := env.frame, builtins := env.builtins } ρ' D [] { s₂ with heap := H3 } := by
    refine ⟨{ sx := ⟨F.sx.g.keeps vk, F.sx.b.keeps vk, F.sx.lim.keeps vk, F.sx.k.keeps vk, fun p hp => ?_⟩, hd := F.hd, depth := F.depth, units := F.units, frs := ?_, vars := fun p hp => ?_, tab := by show (relabel sc env).names = _; rw [relabel_names F.kind F.tab, B.tab], kind := B.kind, gl := F.gl, bl := F.bl },
      { above := fun a ha => ?_, old := F.sx.ex, still := fun b ⟨o, l⟩ => by obtain ⟨sl, q⟩ := e₃.priv b o l; exact ⟨_, q⟩, loc := .tail _ (.tail _ (.head _)), ns := ⟨_, nsC⟩, cells := fun x hx => ?_, inj := fun x hx y a h1 h2 => ?_, owned := fun _ _ e => nomatch e }, .tail _ (.head _), ⟨#[], ⟨_, atD, rfl, rfl, _, rfl⟩, .nil⟩⟩
    · rcases List.mem_cons.mp hp with rfl | hp
      · exact exI
      · rcases List.mem_append.mp hp with hp | hp
        · rcases List.mem_cons.mp hp with rfl | hp
          · exact ⟨_, atD⟩
          · rcases List.mem_cons.mp hp with rfl | hp
            · exact ⟨_, hoC⟩
            · obtain ⟨p', hp', rfl⟩ := List.mem_map.mp hp
              obtain ⟨o, h, _⟩ := (ok.empty p'.1 p'.2 hp').1
              exact ⟨o, h⟩
        · exact F₃.sx.ex p hp
    · obtain ⟨l, h1, h2⟩ := F₃.frs
      refine ⟨l, h1, fun env' he => ?_⟩
      obtain ⟨k', L, o, a1, a2, r⟩ := h2 env' he
      exact ⟨k', L, o, a1, .tail _ (List.mem_append_right _ a2), r⟩
    · obtain ⟨h1, h2⟩ := B.vars p hp
      obtain ⟨v, l, r⟩ := F₃.vars p h1
      obtain ⟨v', l', r'⟩ := F.vars p h1
      obtain ⟨d, h3, h4⟩ := B.free _ (mem_of_lookup h2) rfl
      refine ⟨v', .inr ⟨?_, ?_⟩, r'.mono vk⟩
      · have := kinds _ _ h2
        rcases h4 with h4 | h4 <;> rw [h4] at this
        · exact .inl this
        · exact .inr this
      · rcases l' with ⟨k', _⟩ | ⟨_, a, n, q⟩
        · rw [Env.kindOf, F.tab] at k'; rcases h4 with h4 | h4 <;> rw [h4] at k' <;> cases k'
        · refine ⟨a, ?_, cell_priv e₃ q⟩
          show (fresh ++ _).lookup p.1 = some a
          rw [List.lookup_append, ndk _ (mem_of_lookup h2), Option.none_or]
          exact closOf_at n _ _ (fun b hb => (nomatch hb)) (.inl (mem_of_lookup h2))
    · rintro ⟨o, q⟩
      rcases List.mem_cons.mp ha with rfl | ha
      · rw [nI] at q; cases q
      · rw [new a (OGe a ha)] at q; cases q
    · have h := B.own x hx
      have hs := cellsFrom_some sc.names (D + 2) [] (mem_of_lookup h)
      rw [hfr] at hs
      obtain ⟨a, ha⟩ := Option.isSome_iff_exists.mp hs
      refine ⟨kinds _ _ h, a, none, ?_, .tail _ (.tail _ (.tail _ (List.mem_map.mpr ⟨_, mem_of_lookup ha, rfl⟩))), (ok.empty _ _ (mem_of_lookup ha)).1⟩
      show (fresh ++ _).lookup x = some a
      rw [List.lookup_append, ha]; rfl
    · have h1' : (fresh ++ closOf env.cells sc.names []).lookup x = some a := h1
      have h2' : (fresh ++ closOf env.cells sc.names []).lookup y = some a := h2
      have hs := cellsFrom_some sc.names (D + 2) [] (mem_of_lookup (B.own x hx))
      rw [hfr] at hs
      obtain ⟨a', ha⟩ := Option.isSome_iff_exists.mp hs
      rw [List.lookup_append, ha] at h1'
      obtain rfl : a' = a := Option.some.inj h1'
      have ge := (ok.empty _ _ (mem_of_lookup ha)).2
      rw [List.lookup_append] at h2'
      cases q : fresh.lookup y with
      | some b =>
        rw [q] at h2'
        obtain rfl : b = a' := Option.some.inj h2'
        exact name_of_addr ok.apart (mem_of_lookup ha) (mem_of_lookup q)
      | none =>
        rw [q, Option.none_or] at h2'
        exfalso
        rcases closOf_mem _ _ (mem_of_lookup h2') with h | ⟨h, e⟩
        · cases h
        · obtain ⟨b, v, hb, o, ho, _⟩ := hcell y h
          rw [hb] at e
          have lt := ltD b o ho
          have e' : a' = b := e
          subst e'
          exact Nat.lt_irrefl _ (Nat.lt_of_lt_of_le lt (Nat.le_trans (Nat.le_add_right D 2) ge))
  have X₃ : ItW c A (I :: O ++ P) H3 I fpt wr Pi St ds := X.move vk₂ fun b hb => by
    rcases X.fv b hb with h | h
    · exact .inl h
    · refine .inr fun h' => ?_
      rcases List.mem_cons.mp h' with h' | h'
      · exact h (h' ▸ .head _)
      · rcases List.mem_append.mp h' with h' | h'
        · obtain ⟨o, ho, _⟩ := X.sf 0 _ st b hb
          exact absurd (hD ▸ Heap.lt_size ho) (Nat.not_lt.mpr (OGe b h'))
        · exact h (.tail _ h')
  have st₃ : St 0 H3 := X.W.frame _ _ _ st fun b _ o e => old b o e
  have hDf : D ∉ fpt := fun h => by
    obtain ⟨o, ho, _⟩ := X.sf 0 _ st D h
    exact absurd (hD ▸ Heap.lt_size ho) (Nat.lt_irrefl _)
  have go : codeAny (model c.prog c.w) A (.compLoop (.ListComp elt (⟨target, iter, ifs, 0⟩ :: gs) sc pos) 0 (.ref I) (.ref D) { scope := relabel sc env, locals := D + 1, globals := env.globals, cells := fresh ++ closOf env.cells sc.names [], qual := env.qual, func := none, code := env.code, frame := env.frame, builtins := env.builtins })
      (compPost (model c.prog c.w) A E use Q (.ref D) (D + 1)) { s₂ with heap := H3 } := by
    refine hl S (by simpa using hlen) nIO (.head _) hDf X₃ st₃ fun s' kb _ _ S' => ?_
    obtain ⟨mm, hns⟩ := S'.W.ns
    have e₄ : Ext P s s' := ⟨fun b o n q => kb.keep b o ⟨o, q⟩ n (e₃.keep b o n q), fun b o q => by
        obtain ⟨sl, h⟩ := e₃.priv b o q
        obtain ⟨sl', h'⟩ := kb.priv b _ ⟨o, q⟩ h
        exact ⟨sl', h'⟩, fun b o n q => kb.rest b o ⟨o, q⟩ n (e₃.rest b o n q), kb.gens.trans e₃.gens, kb.os.trans e₃.os⟩
    obtain ⟨items, l, r⟩ := S'.acc
    refine kk D (D + 1) s' mm e₄ (new _ (Nat.le_succ D)) (new _ (Nat.le_refl D)) (Nat.ne_of_lt (Nat.lt_succ_self D)) ⟨items, l, ?_⟩ hns
    refine r.mono fun b o q => ?_
    obtain ⟨q, n⟩ := vis_get.mp q
    refine vis_get.mpr ⟨q, fun h => n ?_⟩
    rcases List.mem_cons.mp h with rfl | h
    · exact List.mem_append_left _ (.head _)
    · rcases List.mem_cons.mp h with rfl | h
      · exact List.mem_append_left _ (.tail _ (.head _))
      · exact List.mem_append_right _ h
  exact codeAny_compStart (g := ⟨target, iter, ifs, 0⟩) rfl rfl rfl go (X₃.W.self 0 _ _ _ st₃ go) rfl rfl fun _ => rfl
end
end Mine
namespace Mine

section
variable {c : Cx} {m : Nat} {T : Tab} {C : List Str} {ρ ρ' ρ₁ : Vars} {elt : PySem.Expr} {gens gs : List Comprehension} {sc : Scope} {pos : Pos} {target iter : PySem.Expr} {ifs : List PySem.Expr} {ds out : List PyData} {T' : Tab} {C' : List Str}

theorem vis_hides {s s' : Shared} {P N : List Addr} (e : Ext P s s') (n : ∀ a ∈ N, s.heap.get? a = none) : ∀ b o, (vis s.heap P).get? b = some o → (vis s'.heap (N ++ P)).get? b = some o := fun b o q => by
  obtain ⟨q, m⟩ := vis_get.mp q
  refine vis_get.mpr ⟨e.keep b o m q, fun h => ?_⟩
  rcases List.mem_append.mp h with h | h
  · rw [n b h] at q; cases q
  · exact m h
theorem Fx.hides {A : Around} {P N : List Addr} {env : Env} {s s' : Shared} (F : Fx c m A P T env ρ s) (e : Ext P s s') (n : ∀ a ∈ N, s.heap.get? a = none) (hI : ∀ a ∈ N, ∃ o, s'.heap.get? a = some o) : Fx c m A (N ++ P) T env ρ s' := by
  have F' := F.ext e
  have vk := vis_hides e n
  refine { sx := ⟨F.sx.g.keeps vk, F.sx.b.keeps vk, F.sx.lim.keeps vk, F.sx.k.keeps vk, fun p hp => ?_⟩, hd := F.hd, depth := F.depth, units := F.units, frs := ?_, vars := fun p hp => ?_, tab := F.tab, kind := F.kind, gl := F.gl, bl := F.bl }
  · rcases List.mem_append.mp hp with hp | hp
    · exact hI p hp
    · exact F'.sx.ex p hp
  · obtain ⟨l, h1, h2⟩ := F'.frs
    refine ⟨l, h1, fun env' he => ?_⟩
    obtain ⟨kk, L, o, a1, a2, r⟩ := h2 env' he
    exact ⟨kk, L, o, a1, List.mem_append_right _ a2, r⟩
  · obtain ⟨v, l, r⟩ := F.vars p hp
    exact ⟨v, l.ext e, r.mono vk⟩
theorem Own.hides {n₀ : Addr → Prop} {O P₀ N : List Addr} {env : Env} {s s' : Shared} (W : Own n₀ O P₀ C env ρ none s) (e : Ext (O ++ P₀) s s') (n : ∀ a ∈ N, s.heap.get? a = none) : Own n₀ (N ++ O) P₀ C env ρ none s' := by
  have W' := W.ext e
  refine { above := fun a ha => ?_, old := W.old, still := W'.still, loc := List.mem_append_right _ W.loc, ns := W'.ns, cells := fun x hx => ?_, inj := W.inj, owned := fun _ _ e => nomatch e }
  · rcases List.mem_append.mp ha with ha | ha
    · intro q
      obtain ⟨o', h⟩ := W.still a q; rw [n a ha] at h; cases h
    · exact W.above a ha
  · obtain ⟨kk, a, v, h1, h2, h3⟩ := W'.cells x hx
    exact ⟨kk, a, v, h1, List.mem_append_right _ h2, h3⟩

/-- a block's namespace goes -/
theorem popC {A : Around} {n₀ : Addr → Prop} {O P₀ : List Addr} {env : Env} {ω : Ow} {ρ₀ : Vars} {s₀ s : Shared} {I : Addr} {h' : Heap} {mm : Str → Option Value} (F₀ : Fx c m A (O ++ P₀) T env ρ₀ s₀) (W₀ : Own n₀ O P₀ C env ρ₀ none s₀)
    (F : Fx c m A (I :: O ++ P₀) T env ρ s) (W : Own n₀ (I :: O) P₀ C env ρ ω s) (hd : s.heap.Ns I mm) (hI : I ∉ O ++ P₀) (hsb : Heap.SameBut I s.heap h') :
    Fx c m A (O ++ P₀) T env ρ { s with heap := h' } ∧ Own n₀ O P₀ C env ρ ω { s with heap := h' } ∧ Kb n₀ P₀ s { s with heap := h' } := by
  have hk : ∀ b o, b ≠ I → s.heap.get? b = some o → h'.get? b = some o := fun b o n e => (hsb.2 b n).trans e
  have nI : ¬ n₀ I := W.above I (.head _)
  have vk : ∀ b o, (vis s.heap (I :: O ++ P₀)).get? b = some o → (vis h' (O ++ P₀)).get? b = some o := fun b o q => by
    obtain ⟨q, n⟩ := vis_get.mp q
    exact vis_get.mpr ⟨hk b o (fun e => n (e ▸ .head _)) q, fun h => n (.tail _ h)⟩
  have loc : env.locals ≠ I := fun e => hI (e ▸ List.mem_append_left _ W₀.loc)
  have cek : ∀ {x : Addr} {w}, s.heap.IsCell x w → h'.IsCell x w := fun {x w} hn => hn.sameBut hsb fun e => ns_not_cell hd (e ▸ hn)
  have lok : ∀ {x : Str} {w}, Look s.heap env x w → Look h' env x w := fun {x w} l => by
    rcases l with ⟨k, mm, n, q⟩ | ⟨k, b, n, q⟩
    · exact .inl ⟨k, mm, n.sameBut hsb loc, q⟩
    · exact .inr ⟨k, b, n, cek q⟩
  have ne : ∀ {b : Addr} {l : n₀ b}, b ≠ I := fun {b l} e => no_both (e ▸ l) nI
  refine ⟨{ sx := ⟨F.sx.g.keeps vk, F.sx.b.keeps vk, F.sx.lim.keeps vk, F.sx.k.keeps vk, fun p hp => ?_⟩, hd := F.hd, depth := F.depth, units := F.units, frs := ?_, vars := fun p hp => ?_, tab := F.tab, kind := F.kind, gl := F.gl, bl := F.bl },
    { above := fun a ha => W.above a (.tail _ ha), old := W.old, still := fun b l => (W.still b l).imp fun o e => hk b o (ne (l := l)) e, loc := W₀.loc, ns := ?_, cells := fun x hx => ?_, inj := W.inj, owned := fun x ds e => ?_ },
    ⟨fun b o l n q => hk b o (ne (l := l)) q, fun b o l q => ⟨o.slots, hk b o (ne (l := l)) q⟩, fun b o l _ q => hk b o (ne (l := l)) q, rfl, rfl⟩⟩
  · obtain ⟨o, ho⟩ := F.sx.ex p (.tail _ hp)
    exact ⟨o, hk p o (fun e => hI (e ▸ hp)) ho⟩
  · obtain ⟨l₀, h1₀, h2₀⟩ := F₀.frs
    obtain ⟨l, h1, h2⟩ := F.frs
    rw [h1₀] at h1; cases h1
    refine ⟨l₀, h1₀, fun env' he => ?_⟩
    obtain ⟨kk, L, o, a1, a2, _⟩ := h2₀ env' he
    obtain ⟨kk', L', o', b1, b2, b3, es, n, b4⟩ := h2 env' he
    rw [a1] at b1; cases b1
    exact ⟨kk, L, o', a1, a2, hk L o' (fun e => hI (e ▸ a2)) b3, es, n, b4⟩
  · obtain ⟨v, l, r⟩ := F.vars p hp
    exact ⟨v, lok l, r.mono vk⟩
  · obtain ⟨mm, h⟩ := W.ns; exact ⟨mm, h.sameBut hsb loc⟩
  · obtain ⟨h1, b, w, h2, h3, h4⟩ := W.cells x hx
    refine ⟨h1, b, w, h2, (List.mem_cons.mp h3).resolve_left fun e => ?_, cek h4⟩
    exact ns_not_cell hd (e ▸ h4)
  · obtain ⟨h0, a, ob, items, k, h1, h2, h3, h4, h5, h6, h7⟩ := W.owned x ds e
    have ha : a ≠ I := fun e => ns_not_list (e ▸ hd) h3 h6
    exact ⟨h0, a, ob, items, k, lok h1, (List.mem_cons.mp h2).resolve_left ha, hk a ob ha h3, h4, h5, h6, h7.mono vk⟩

theorem REv.comp (hg : gens = ⟨target, iter, ifs, 0⟩ :: gs) (hi : RIts c m T ρ iter ds) (B : Blk T ρ ρ' sc T' C') (hl : RCL c m T' C' elt gens sc pos 0 ρ' ds out) (hlen : out.length ≤ 8388608)
    (hs : ∀ (env : Env) x, foldedSetIterable iter env x = pure x := by intro _ _; rfl) : REv c m T ρ (.ListComp elt gens sc pos) (.list out) := fun {A P env s E Q} F k => by
  rw [eval_ListComp]
  subst hg
  refine comp_core (use := none) F rfl hi B hl hlen hs fun D Cn s₁ mm e₁ nC nD hDC hacc hns => ⟨mm, hns, fun h' hsb => ?_⟩
  obtain ⟨items, l, r⟩ := hacc
  have ne : ∀ {b o}, s.heap.get? b = some o → b ≠ Cn := fun {b o} q e => by rw [e, nC] at q; cases q
  have e₂ : Ext P s { s₁ with heap := h' } := ⟨fun b o n q => (hsb.2 b (ne q)).trans (e₁.keep b o n q), fun b o q => by
    obtain ⟨sl, h⟩ := e₁.priv b o q; exact ⟨sl, (hsb.2 b (ne q)).trans h⟩, fun b o n q => (hsb.2 b (ne q)).trans (e₁.rest b o n q), e₁.gens, e₁.os⟩
  refine k _ _ e₂ (Rd.list (vs := items) ?_ (r.mono fun b o q => ?_))
  · obtain ⟨o, h1, h2⟩ := l.l
    refine ⟨o, vis_get.mpr ⟨(hsb.2 D hDC).trans h1, fun h => ?_⟩, h2⟩
    obtain ⟨o', ho⟩ := F.sx.ex D h; rw [nD] at ho; cases ho
  · obtain ⟨q, n⟩ := vis_get.mp q
    exact vis_get.mpr ⟨(hsb.2 b fun e => n (e ▸ .tail _ (.head _))).trans q, fun h => n (.tail _ (.tail _ h))⟩

theorem RX1.comp {y : Str} {py spos : Pos} (hg : gens = ⟨target, iter, ifs, 0⟩ :: gs) (hi : RIts c m T ρ iter ds) (B : Blk T ρ ρ' sc T' C') (hl : RCL c m T' C' elt gens sc pos 0 ρ' ds out) (hlen : out.length ≤ 8388608)
    (hk : T.lookup y = some .local ∨ y ∈ C) (hs : ∀ p ∈ ρ₁, p ∈ ρ) (hx : ∀ p ∈ ρ₁, p.1 ≠ y)
    (hsw : ∀ env : Env, env.scope.kind = .function → env.scope.names = T → swapsWith (.ListComp elt gens sc pos) (some (.Name y py)) spos.line env = pure true)
    (hf : ∀ (env : Env) x, foldedSetIterable iter env x = pure x := by intro _ _; rfl) : RX1 c m T C ρ none (.Assign [.Name y py] (.ListComp elt gens sc pos) spos) (.next ((y, .list out) :: ρ₁) none) := fun {A n₀ P₀ env s E Q} ⟨O, F, W⟩ k _ => by
  subst hg
  rw [exec_Assign_Name_used _ _ _ _ (hsw env F.kind F.tab)]
  refine wpAny_bind (wpAny_standAt (wpAny_bind ?_))
  show wpAny _ A (do let _ ← comprehension (.ListComp elt (⟨target, iter, ifs, 0⟩ :: gs) sc pos) sc env _ (newList []) false (eval iter env) (some (PySem.assign (.Name y py) env))) _ _ s
  refine wpAny_bind (wpAny_mono (comp_core (use := some (PySem.assign (.Name y py) env)) (Q := fun _ s' => Q .next s') F rfl hi B hl hlen hf fun D Cn s₁ mm e₁ nC nD hDC hacc hns => ?_) (fun _ s' hq => wpAny_pure (wpAny_pure hq)) fun _ _ e => e)
  obtain ⟨items, l, r⟩ := hacc
  have hN : ∀ a ∈ [Cn], s.heap.get? a = none := fun a ha => by rw [List.mem_singleton.mp ha]; exact nC
  have F₁ : Fx c m A ([Cn] ++ (O ++ P₀)) T env ρ s₁ := F.hides e₁ hN (fun a ha => by rw [List.mem_singleton.mp ha]; obtain ⟨o, _, _, h, _⟩ := hns; exact ⟨o, h⟩)
  have W₁ : Own n₀ ([Cn] ++ O) P₀ C env ρ none s₁ := W.hides e₁ hN
  have nCO : Cn ∉ O ++ P₀ := fun h => by obtain ⟨o, ho⟩ := F.sx.ex Cn h; rw [nC] at ho; cases ho
  show wpAny _ A (PySem.assign (.Name y py) env (.ref D)) _ _ _
  refine wpAny_assign_Name (store_wpd (O := [Cn] ++ O) (d := .list out) F₁ W₁ hk (Rd.list (vs := items) ?_ (r.mono fun b o q => ?_)) hs hx (fun _ _ e => nomatch e) fun s₂ k₂ vk sf F₂ W₂ => ?_)
  · obtain ⟨o, h1, h2⟩ := l.l
    refine ⟨o, vis_get.mpr ⟨h1, fun h => ?_⟩, h2⟩
    rcases List.mem_cons.mp h with h | h
    · exact hDC h
    · obtain ⟨o', ho⟩ := F.sx.ex D h; rw [nD] at ho; cases ho
  · obtain ⟨q, n⟩ := vis_get.mp q
    exact vis_get.mpr ⟨q, fun h => n (.tail _ h)⟩
  · obtain ⟨oC, esC, epC, hoC, hdC, hC3⟩ := hns
    have loc : Cn ≠ env.locals := fun e => nCO (e ▸ List.mem_append_left _ W.loc)
    have hns₂ : s₂.heap.Ns Cn mm := ⟨oC, esC, epC, sf Cn oC hoC (.inr (.inr ⟨loc, _, _, hdC⟩)), hdC, hC3⟩
    refine ⟨mm, hns₂, fun h' hsb => ?_⟩
    obtain ⟨F₃, W₃, K₃⟩ := popC F W F₂ W₂ hns₂ nCO hsb
    exact k _ _ (((e₁.kb W.above).trans k₂).trans K₃) ⟨O, F₃, W₃⟩
/-- the same, the list kept as one's own -/
theorem RX1.compOwn {y : Str} {py spos : Pos} (hg : gens = ⟨target, iter, ifs, 0⟩ :: gs) (hi : RIts c m T ρ iter ds) (B : Blk T ρ ρ' sc T' C') (hl : RCL c m T' C' elt gens sc pos 0 ρ' ds out) (hlen : out.length ≤ 8388608)
    (hk : T.lookup y = some .local ∨ y ∈ C) (hs : ∀ p ∈ ρ₁, p ∈ ρ) (hx : ∀ p ∈ ρ₁, p.1 ≠ y)
    (hsw : ∀ env : Env, env.scope.kind = .function → env.scope.names = T → swapsWith (.ListComp elt gens sc pos) (some (.Name y py)) spos.line env = pure true)
    (hf : ∀ (env : Env) x, foldedSetIterable iter env x = pure x := by intro _ _; rfl) : RX1 c m T C ρ none (.Assign [.Name y py] (.ListComp elt gens sc pos) spos) (.next ρ₁ (some (y, out))) := fun {A n₀ P₀ env s E Q} ⟨O, F, W⟩ k _ => by
  subst hg
  rw [exec_Assign_Name_used _ _ _ _ (hsw env F.kind F.tab)]
  refine wpAny_bind (wpAny_standAt (wpAny_bind ?_))
  show wpAny _ A (do let _ ← comprehension (.ListComp elt (⟨target, iter, ifs, 0⟩ :: gs) sc pos) sc env _ (newList []) false (eval iter env) (some (PySem.assign (.Name y py) env))) _ _ s
  refine wpAny_bind (wpAny_mono (comp_core (use := some (PySem.assign (.Name y py) env)) (Q := fun _ s' => Q .next s') F rfl hi B hl hlen hf fun D Cn s₁ mm e₁ nC nD hDC hacc hns => ?_) (fun _ s' hq => wpAny_pure (wpAny_pure hq)) fun _ _ e => e)
  obtain ⟨items, ⟨oD, hD1, hD2, hDd, n, hD3⟩, r⟩ := hacc
  have hN : ∀ a ∈ [Cn, D], s.heap.get? a = none := fun a ha => by
    rcases List.mem_cons.mp ha with rfl | ha
    · exact nC
    · rw [List.mem_singleton.mp ha]; exact nD
  have F₁ : Fx c m A ([Cn, D] ++ (O ++ P₀)) T env ρ s₁ := F.hides e₁ hN (fun a ha => by
    rcases List.mem_cons.mp ha with rfl | ha
    · obtain ⟨o, _, _, h, _⟩ := hns; exact ⟨o, h⟩
    · rw [List.mem_singleton.mp ha]; exact ⟨_, hD1⟩)
  have W₁ : Own n₀ ([Cn, D] ++ O) P₀ C env ρ none s₁ := W.hides e₁ hN
  have FD : Fx c m A ([D] ++ (O ++ P₀)) T env ρ s₁ := F.hides e₁ (fun a ha => hN a (.tail _ ha)) fun a ha => by rw [List.mem_singleton.mp ha]; exact ⟨_, hD1⟩
  have WD : Own n₀ ([D] ++ O) P₀ C env ρ none s₁ := W.hides e₁ fun a ha => hN a (.tail _ ha)
  have nCO : Cn ∉ O ++ P₀ := fun h => by obtain ⟨o, ho⟩ := F.sx.ex Cn h; rw [nC] at ho; cases ho
  have nCO' : Cn ∉ ([D] ++ O) ++ P₀ := fun h => by
    rcases List.mem_cons.mp h with h | h
    · exact hDC h.symm
    · exact nCO h
  show wpAny _ A (PySem.assign (.Name y py) env (.ref D)) _ _ _
  · refine wpAny_assign_Name (store_ownd (O := [Cn, D] ++ O) (ds := out) F₁ W₁ hk hs hx (.tail _ (.head _)) hD1 hD2 hDd hD3 (r.mono fun b o q => ?_) fun s₂ k₂ vk sf F₂ W₂ => ?_)
    · obtain ⟨q, n⟩ := vis_get.mp q
      refine vis_get.mpr ⟨q, fun h => n ?_⟩
      rcases List.mem_cons.mp h with rfl | h
      · exact .tail _ (.head _)
      · rcases List.mem_cons.mp h with rfl | h
        · exact .head _
        · exact .tail _ (.tail _ h)
    · obtain ⟨oC, esC, epC, hoC, hdC, hC3⟩ := hns
      have loc : Cn ≠ env.locals := fun e => nCO (e ▸ List.mem_append_left _ W.loc)
      have hns₂ : s₂.heap.Ns Cn mm := ⟨oC, esC, epC, sf Cn oC hoC (.inr (.inr ⟨loc, _, _, hdC⟩)), hdC, hC3⟩
      refine ⟨mm, hns₂, fun h' hsb => ?_⟩
      obtain ⟨F₃, W₃, K₃⟩ := popC (O := [D] ++ O) FD WD F₂ W₂ hns₂ nCO' hsb
      exact k _ _ (((e₁.kb W.above).trans k₂).trans K₃) ⟨[D] ++ O, F₃, W₃⟩
end
end Mine
namespace Mine

section
variable {c : Cx} {m : Nat} {T : Tab} {C : List Str} {ρ ρ' : Vars} {ω : Ow} {out : Out}

theorem vis_perm {h : Heap} {P P' : List Addr} (hp : ∀ a, a ∈ P' → a ∈ P) : ∀ b o, (vis h P).get? b = some o → (vis h P').get? b = some o := fun b o q => by
  obtain ⟨q, n⟩ := vis_get.mp q
  exact vis_get.mpr ⟨q, fun h => n (hp b h)⟩
theorem Fx.perm {A : Around} {P P' : List Addr} {env : Env} {s : Shared} (F : Fx c m A P T env ρ s) (h : ∀ a, a ∈ P ↔ a ∈ P') : Fx c m A P' T env ρ s := by
  have vk := vis_perm (h := s.heap) (P := P) (P' := P') fun a q => (h a).mpr q
  refine { sx := ⟨F.sx.g.keeps vk, F.sx.b.keeps vk, F.sx.lim.keeps vk, F.sx.k.keeps vk, fun p hp => F.sx.ex p ((h p).mpr hp)⟩, hd := F.hd, depth := F.depth, units := F.units, frs := ?_, vars := fun p hp => ?_, tab := F.tab, kind := F.kind, gl := F.gl, bl := F.bl }
  · obtain ⟨l, h1, h2⟩ := F.frs
    refine ⟨l, h1, fun env' he => ?_⟩
    obtain ⟨kk, L, o, a1, a2, r⟩ := h2 env' he
    exact ⟨kk, L, o, a1, (h L).mp a2, r⟩
  · obtain ⟨v, l, r⟩ := F.vars p hp
    exact ⟨v, l, r.mono vk⟩

/-- the old ones of a loop: also all that is seen at its start -/
def Nv (n₀ : Addr → Prop) (I : Addr) (P : List Addr) (h : Heap) : Addr → Prop := fun b => n₀ b ∨ b = I ∨ ∃ o, (vis h P).get? b = some o

/-- a loop's start: the iterator goes to the outer part -/
theorem loop_in {A : Around} {n₀ : Addr → Prop} {O P₀ : List Addr} {env : Env} {s s' : Shared} {I : Addr} (F : Fx c m A (O ++ P₀) T env ρ s) (W : Own n₀ O P₀ C env ρ ω s) (e : Ext (O ++ P₀) s s') (n : s.heap.get? I = none)
    (hI : ∃ o, s'.heap.get? I = some o) : FS c m A (Nv n₀ I (I :: (O ++ P₀)) s'.heap) (I :: P₀) T C env ρ ω s' := by
  have F' := F.hide e n hI
  have W' := W.ext e
  have vk := vis_hide e n
  have nO : I ∉ O := fun h => by obtain ⟨o, ho⟩ := F.sx.ex I (List.mem_append_left _ h); rw [n] at ho; cases ho
  refine ⟨O, F'.perm fun a => ?_, { above := fun a ha => ?_, old := fun a ha => ?_, still := fun b hb => ?_, loc := W.loc, ns := W'.ns, cells := W'.cells, inj := W.inj, owned := fun x ds q => ?_ }⟩
  · simp only [List.mem_cons, List.mem_append]; constructor
    · rintro (h | h | h) <;> simp [h]
    · rintro (h | h | h) <;> simp [h]
  · rintro (h | rfl | ⟨o, h⟩)
    · exact W.above a ha h
    · exact nO ha
    · exact (vis_get.mp h).2 (.tail _ (List.mem_append_left _ ha))
  · rcases List.mem_cons.mp ha with rfl | ha
    · exact .inr (.inl rfl)
    · exact .inl (W.old a ha)
  · rcases hb with hb | rfl | ⟨o, h⟩
    · exact W'.still b hb
    · exact hI
    · exact ⟨o, (vis_get.mp h).1⟩
  · obtain ⟨h0, a, ob, items, k, h1, h2, h3, h4, h5, h6, h7⟩ := W.owned x ds q
    obtain ⟨sl, h8⟩ := e.priv a ob h3
    refine ⟨h0, a, _, items, k, h1.ext e, h2, h8, h4, h5, h6, h7.mono fun b o q => vis_perm (fun a => ?_) b o (vk b o q)⟩
    simp only [List.mem_cons, List.mem_append]
    rintro (h | h | h) <;> simp [h]
/-- a loop's end -/
theorem loop_out {A : Around} {n₀ N : Addr → Prop} {P₀ : List Addr} {env : Env} {s : Shared} {I : Addr} (nI : ¬ n₀ I) (hN : ∀ b, n₀ b → N b) (F : FS c m A N (I :: P₀) T C env ρ ω s) (hP : ∀ a ∈ P₀, n₀ a) : FS c m A n₀ P₀ T C env ρ ω s := by
  obtain ⟨O, F, W⟩ := F
  have pm : ∀ a, a ∈ O ++ I :: P₀ ↔ a ∈ (I :: O) ++ P₀ := fun a => by
    simp only [List.mem_cons, List.mem_append]; constructor
    · rintro (h | h | h) <;> simp [h]
    · rintro ((h | h) | h) <;> simp [h]
  refine ⟨I :: O, F.perm pm, { above := fun a ha q => ?_, old := hP, still := fun b hb => W.still b (hN b hb), loc := .tail _ W.loc, ns := W.ns, cells := fun x hx => ?_, inj := W.inj, owned := fun x ds q => ?_ }⟩
  · rcases List.mem_cons.mp ha with rfl | ha
    · exact nI q
    · exact W.above a ha (hN a q)
  · obtain ⟨kk, a, v, h1, h2, h3⟩ := W.cells x hx
    exact ⟨kk, a, v, h1, .tail _ h2, h3⟩
  · obtain ⟨h0, a, ob, items, k, h1, h2, h3, h4, h5, h6, h7⟩ := W.owned x ds q
    exact ⟨h0, a, ob, items, k, h1, .tail _ h2, h3, h4, h5, h6, h7.mono (vis_perm fun a h => (pm a).mpr h)⟩
/-- the iterator turns -/
theorem loop_turn {A : Around} {n₀ : Addr → Prop} {P₀ : List Addr} {env : Env} {s : Shared} {I : Addr} {h' : Heap} {tk : Nat} (F : FS c m A n₀ (I :: P₀) T C env ρ ω s) (hn : n₀ I)
    (hd : ∃ o, s.heap.get? I = some o ∧ SF o) (hx : ∃ o, h'.get? I = some o) (hk : ∀ b o, b ≠ I → s.heap.get? b = some o → h'.get? b = some o) : FS c m A n₀ (I :: P₀) T C env ρ ω { s with heap := h', toks := tk } := by
  obtain ⟨O, F, W⟩ := F
  obtain ⟨od, hod, hsf⟩ := hd
  have mI : I ∈ O ++ I :: P₀ := List.mem_append_right _ (.head _)
  have vk : ∀ b o, (vis s.heap (O ++ I :: P₀)).get? b = some o → (vis h' (O ++ I :: P₀)).get? b = some o := fun b o q => by
    obtain ⟨q, n⟩ := vis_get.mp q
    exact vis_get.mpr ⟨hk b o (fun e => n (e ▸ mI)) q, n⟩
  have nsk : ∀ {x : Addr} {mm}, s.heap.Ns x mm → h'.Ns x mm := fun {x mm} hn => by
    obtain ⟨o, es, ep, h1, h2, h3⟩ := hn
    refine ⟨o, es, ep, hk x o (fun e => ?_) h1, h2, h3⟩
    rw [e, hod] at h1; cases h1; exact sf_not_dict hsf _ _ h2
  have cek : ∀ {x : Addr} {w}, s.heap.IsCell x w → h'.IsCell x w := fun {x w} hn => by
    obtain ⟨o, h1, h2⟩ := hn
    refine ⟨o, hk x o (fun e => ?_) h1, h2⟩
    rw [e, hod] at h1; cases h1
    rcases hsf with ⟨_, _, h⟩ | ⟨_, h⟩ <;> rw [h] at h2 <;> cases h2
  have lok : ∀ {x : Str} {w}, Look s.heap env x w → Look h' env x w := fun {x w} l => by
    rcases l with ⟨k, mm, n, q⟩ | ⟨k, b, n, q⟩
    · exact .inl ⟨k, mm, nsk n, q⟩
    · exact .inr ⟨k, b, n, cek q⟩
  have nO : I ∉ O := fun h => W.above I h hn
  refine ⟨O, { sx := ⟨F.sx.g.keeps vk, F.sx.b.keeps vk, F.sx.lim.keeps vk, F.sx.k.keeps vk, fun p hp => ?_⟩, hd := F.hd, depth := F.depth, units := F.units, frs := ?_, vars := fun p hp => ?_, tab := F.tab, kind := F.kind, gl := F.gl, bl := F.bl },
    { above := W.above, old := W.old, still := fun b l => ?_, loc := W.loc, ns := ?_, cells := fun x hx => ?_, inj := W.inj, owned := fun x ds q => ?_ }⟩
  · by_cases e : p = I
    · subst e; exact hx
    · obtain ⟨o, ho⟩ := F.sx.ex p hp; exact ⟨o, hk p o e ho⟩
  · obtain ⟨l, h1, h2⟩ := F.frs
    refine ⟨l, h1, fun env' he => ?_⟩
    obtain ⟨kk, L, o, a1, a2, a3, es, n, a4⟩ := h2 env' he
    refine ⟨kk, L, o, a1, a2, hk L o (fun e => ?_) a3, es, n, a4⟩
    rw [e, hod] at a3; cases a3; exact sf_not_dict hsf _ _ a4
  · obtain ⟨v, l, r⟩ := F.vars p hp
    exact ⟨v, lok l, r.mono vk⟩
  · by_cases e : b = I
    · subst e; exact hx
    · obtain ⟨o, ho⟩ := W.still b l; exact ⟨o, hk b o e ho⟩
  · obtain ⟨mm, h⟩ := W.ns; exact ⟨mm, nsk h⟩
  · obtain ⟨h1, b, w, h2, h3, h4⟩ := W.cells x hx; exact ⟨h1, b, w, h2, h3, cek h4⟩
  · obtain ⟨h0, a, ob, items, k, h1, h2, h3, h4, h5, h6, h7⟩ := W.owned x ds q
    exact ⟨h0, a, ob, items, k, lok h1, h2, hk a ob (fun e => nO (e ▸ h2)) h3, h4, h5, h6, h7.mono vk⟩
/-- the iterator goes -/
theorem loop_pop {A : Around} {n₀ N : Addr → Prop} {P₀ : List Addr} {env : Env} {s : Shared} {I : Addr} {h' : Heap} {tk : Nat} (nI : ¬ n₀ I) (hN : ∀ b, n₀ b → N b) (hP : ∀ a ∈ P₀, n₀ a) (F : FS c m A N (I :: P₀) T C env ρ ω s) (hn : N I)
    (hd : ∃ o, s.heap.get? I = some o ∧ SF o) (hk : ∀ b o, b ≠ I → s.heap.get? b = some o → h'.get? b = some o) : FS c m A n₀ P₀ T C env ρ ω { s with heap := h', toks := tk } := by
  obtain ⟨O, F, W⟩ := F
  obtain ⟨od, hod, hsf⟩ := hd
  have mI : I ∈ O ++ I :: P₀ := List.mem_append_right _ (.head _)
  have vk : ∀ b o, (vis s.heap (O ++ I :: P₀)).get? b = some o → (vis h' (O ++ P₀)).get? b = some o := fun b o q => by
    obtain ⟨q, n⟩ := vis_get.mp q
    refine vis_get.mpr ⟨hk b o (fun e => n (e ▸ mI)) q, fun h => n ?_⟩
    rcases List.mem_append.mp h with h | h
    · exact List.mem_append_left _ h
    · exact List.mem_append_right _ (.tail _ h)
  have nsk : ∀ {x : Addr} {mm}, s.heap.Ns x mm → h'.Ns x mm := fun {x mm} hn => by
    obtain ⟨o, es, ep, h1, h2, h3⟩ := hn
    refine ⟨o, es, ep, hk x o (fun e => ?_) h1, h2, h3⟩
    rw [e, hod] at h1; cases h1; exact sf_not_dict hsf _ _ h2
  have cek : ∀ {x : Addr} {w}, s.heap.IsCell x w → h'.IsCell x w := fun {x w} hn => by
    obtain ⟨o, h1, h2⟩ := hn
    refine ⟨o, hk x o (fun e => ?_) h1, h2⟩
    rw [e, hod] at h1; cases h1
    rcases hsf with ⟨_, _, h⟩ | ⟨_, h⟩ <;> rw [h] at h2 <;> cases h2
  have lok : ∀ {x : Str} {w}, Look s.heap env x w → Look h' env x w := fun {x w} l => by
    rcases l with ⟨k, mm, n, q⟩ | ⟨k, b, n, q⟩
    · exact .inl ⟨k, mm, nsk n, q⟩
    · exact .inr ⟨k, b, n, cek q⟩
  have nO : I ∉ O := fun h => W.above I h hn
  refine ⟨O, { sx := ⟨F.sx.g.keeps vk, F.sx.b.keeps vk, F.sx.lim.keeps vk, F.sx.k.keeps vk, fun p hp => ?_⟩, hd := F.hd, depth := F.depth, units := F.units, frs := ?_, vars := fun p hp => ?_, tab := F.tab, kind := F.kind, gl := F.gl, bl := F.bl },
    { above := fun a ha q => W.above a ha (hN a q), old := hP, still := fun b l => ?_, loc := W.loc, ns := ?_, cells := fun x hx => ?_, inj := W.inj, owned := fun x ds q => ?_ }⟩
  · have hp' : p ∈ O ++ I :: P₀ := (List.mem_append.mp hp).elim (List.mem_append_left _) fun h => List.mem_append_right _ (.tail _ h)
    have e : p ≠ I := fun e => (List.mem_append.mp hp).elim (fun h => nO (e ▸ h)) fun h => nI (e ▸ hP p h)
    obtain ⟨o, ho⟩ := F.sx.ex p hp'; exact ⟨o, hk p o e ho⟩
  · obtain ⟨l, h1, h2⟩ := F.frs
    refine ⟨l, h1, fun env' he => ?_⟩
    obtain ⟨kk, L, o, a1, a2, a3, es, n, a4⟩ := h2 env' he
    have hL : L ≠ I := fun e => by rw [e, hod] at a3; cases a3; exact sf_not_dict hsf _ _ a4
    refine ⟨kk, L, o, a1, (List.mem_append.mp a2).elim (List.mem_append_left _) fun h => List.mem_append_right _ ((List.mem_cons.mp h).resolve_left hL), hk L o hL a3, es, n, a4⟩
  · obtain ⟨v, l, r⟩ := F.vars p hp
    exact ⟨v, lok l, r.mono vk⟩
  · obtain ⟨o, ho⟩ := W.still b (hN b l); exact ⟨o, hk b o (fun e => nI (e ▸ l)) ho⟩
  · obtain ⟨mm, h⟩ := W.ns; exact ⟨mm, nsk h⟩
  · obtain ⟨h1, b, w, h2, h3, h4⟩ := W.cells x hx; exact ⟨h1, b, w, h2, h3, cek h4⟩
  · obtain ⟨h0, a, ob, items, k, h1, h2, h3, h4, h5, h6, h7⟩ := W.owned x ds q
    exact ⟨h0, a, ob, items, k, lok h1, h2, hk a ob (fun e => nO (e ▸ h2)) h3, h4, h5, h6, h7.mono vk⟩
end
end Mine
namespace Mine

section
variable {c : Cx} {m : Nat} {T : Tab} {C : List Str} {ρ ρ' : Vars} {ω : Ow} {out : Out}

theorem REx.drop {ss : List PySem.Stmt} {ρ₁ ρ₂ : Vars} {ω₁ : Ow} (h : REx c m T C ρ ω ss (.next ρ₁ ω₁)) (q : ∀ p ∈ ρ₂, p ∈ ρ₁) : REx c m T C ρ ω ss (.next ρ₂ ω₁) := fun F k x =>
  h F (fun fl s' kb a => by
    cases fl <;> first | exact a.elim | skip
    exact k .next s' kb (FS.sub a q)) fun e s' r => r.elim
theorem RX1.drop {ss : PySem.Stmt} {ρ₁ ρ₂ : Vars} {ω₁ : Ow} (h : RX1 c m T C ρ ω ss (.next ρ₁ ω₁)) (q : ∀ p ∈ ρ₂, p ∈ ρ₁) : RX1 c m T C ρ ω ss (.next ρ₂ ω₁) := fun F k x =>
  h F (fun fl s' kb a => by
    cases fl <;> first | exact a.elim | skip
    exact k .next s' kb (FS.sub a q)) fun e s' r => r.elim

theorem RX1.while {test : PySem.Expr} {body : List PySem.Stmt} {pos : Pos} {fin : Out} (ρs : Nat → Vars) (ωs : Nat → Ow) (n : Nat)
    (h : ∀ i, i < n → RTs c m T (ρs i) test true ∧ REx c m T C (ρs i) (ωs i) body (.next (ρs (i + 1)) (ωs (i + 1))))
    (hend : (RTs c m T (ρs n) test false ∧ fin = .next (ρs n) (ωs n)) ∨ (∃ ρ' ω', RTs c m T (ρs n) test true ∧ REx c m T C (ρs n) (ωs n) body (.brk ρ' ω') ∧ fin = .next ρ' ω')) :
    RX1 c m T C (ρs 0) (ωs 0) (.While test body [] pos) fin := fun {A n₀ P₀ env s E Q} F k x => by
  refine wpAny_While (codeAny_whileLoop (fun j s' => ∃ i, i ≤ n ∧ j = n - i ∧ FS c m A n₀ P₀ T C env (ρs i) (ωs i) s' ∧ Kb n₀ P₀ s s') ?_ n ⟨0, Nat.zero_le _, rfl, F, .refl _ _ _⟩)
  rintro j s' ⟨i, hi, rfl, ⟨O, F', W'⟩, K'⟩
  by_cases hlt : i < n
  · obtain ⟨ht, hb⟩ := h i hlt
    refine ht F' fun s₁ e₁ => ?_
    rw [if_pos rfl]
    refine hb ⟨O, F'.ext e₁, W'.ext e₁⟩ (fun fl s₂ k₂ a => ?_) fun _ _ r => r.elim
    cases fl <;> first | exact a.elim | skip
    exact ⟨n - (i + 1), by omega, i + 1, hlt, rfl, a, (K'.trans (e₁.kb W'.above)).trans k₂⟩
  · obtain rfl : i = n := by omega
    rcases hend with ⟨ht, rfl⟩ | ⟨ρ₁, ω₁, ht, hb, rfl⟩
    · refine ht F' fun s₁ e₁ => ?_
      rw [if_neg (by simp)]
      exact wpAny_execs_nil (k .next _ (K'.trans (e₁.kb W'.above)) ⟨O, F'.ext e₁, W'.ext e₁⟩)
    · refine ht F' fun s₁ e₁ => ?_
      rw [if_pos rfl]
      refine hb ⟨O, F'.ext e₁, W'.ext e₁⟩ (fun fl s₂ k₂ a => ?_) fun _ _ r => r.elim
      cases fl <;> first | exact a.elim | skip
      exact k .next _ ((K'.trans (e₁.kb W'.above)).trans k₂) a

theorem Kb.of_in {n₀ N : Addr → Prop} {P₀ : List Addr} {I : Addr} {s s' : Shared} (nI : ¬ n₀ I) (hN : ∀ b, n₀ b → N b) (h : Kb N (I :: P₀) s s') : Kb n₀ P₀ s s' where
  keep := fun b o l n e => h.keep b o (hN b l) (fun q => (List.mem_cons.mp q).elim (fun q => nI (q ▸ l)) n) e
  priv := fun b o l e => h.priv b o (hN b l) e
  rest := fun b o l n e => h.rest b o (hN b l) n e
  gens := h.gens
  os := h.os

theorem RX1.for {x : Str} {np pos : Pos} {iter : PySem.Expr} {body : List PySem.Stmt} {fin : Out} {ds : List PyData} (ρs : Nat → Vars) (ωs : Nat → Ow) (n : Nat) (hn : n ≤ ds.length)
    (hi : RIts c m T (ρs 0) iter ds) (hk : T.lookup x = some .local ∨ x ∈ C) (hx : ∀ i, i ≤ n → ∀ p ∈ ρs i, p.1 ≠ x) (hω : ∀ i y es, ωs i = some (y, es) → y ≠ x)
    (h : ∀ i d, i < n → ds[i]? = some d → REx c m T C ((x, d) :: ρs i) (ωs i) body (.next (ρs (i + 1)) (ωs (i + 1))))
    (hend : (n = ds.length ∧ fin = .next (ρs n) (ωs n)) ∨ (∃ d r, ds[n]? = some d ∧ REx c m T C ((x, d) :: ρs n) (ωs n) body (.ret r) ∧ fin = .ret r))
    (hf : ∀ (env : Env) x, foldedSetIterable iter env x = pure x := by intro _ _; rfl) :
    RX1 c m T C (ρs 0) (ωs 0) (.For (.Name x np) iter body [] pos) fin := fun {A n₀ P₀ env s E Q} ⟨O, F, W⟩ k xx => by
  refine wpAny_For ?_ (hf env)
  refine hi F fun I fp wr Pi St s₁ e₁ nI X st => ?_
  have nnI : ¬ n₀ I := fun q => by obtain ⟨o, ho⟩ := W.still I q; rw [nI] at ho; cases ho
  have F₁ := loop_in F W e₁ nI (by obtain ⟨o, _, _, h, _⟩ := X.it 0 _ st; exact ⟨o, h⟩)
  have K₁ := e₁.kb W.above
  have hN : ∀ b, n₀ b → Nv n₀ I (I :: (O ++ P₀)) s₁.heap b := fun b h => .inl h
  have NI : Nv n₀ I (I :: (O ++ P₀)) s₁.heap I := .inr (.inl rfl)
  refine codeAny_forLoop_any (fun j s' => ∃ i, i ≤ n ∧ j = n - i ∧ FS c m A (Nv n₀ I (I :: (O ++ P₀)) s₁.heap) (I :: P₀) T C env (ρs i) (ωs i) s' ∧ Kb n₀ P₀ s₁ s' ∧ St i s'.heap ∧ ∀ b o, (vis s₁.heap (I :: (O ++ P₀))).get? b = some o → s'.heap.get? b = some o) ?_ n
    ⟨0, Nat.zero_le _, rfl, F₁, .refl _ _ _, st, fun _ _ h => (vis_get.mp h).1⟩
  rintro j s' ⟨i, hi, rfl, F', K', st', V'⟩
  have sfI : ∃ o, s'.heap.get? I = some o ∧ SF o := by
    obtain ⟨o, vs, Tn, h1, h2, _⟩ := X.it i _ st'; exact ⟨o, h1, .inr ⟨vs, h2⟩⟩
  by_cases hlt : i < ds.length
  · refine X.W.item i s' _ _ hlt st' fun v h₁ tk hv st₁ hkk => ?_
    have hk' : ∀ b o, b ≠ I → s'.heap.get? b = some o → h₁.get? b = some o := fun b o n e => hkk b o (fun q => n (X.wr b q)) e
    have hxI : ∃ o, h₁.get? I = some o := by obtain ⟨o, _, _, h1, _⟩ := X.it (i + 1) _ st₁; exact ⟨o, h1⟩
    have F₂ := loop_turn (tk := tk) F' NI sfI hxI hk'
    have hd : ds[i]? = some ds[i] := List.getElem?_eq_getElem hlt
    have V₂ : ∀ b o, (vis s₁.heap (I :: (O ++ P₀))).get? b = some o → h₁.get? b = some o := fun b o q => hk' b o (fun e => (vis_get.mp q).2 (e ▸ .head _)) (V' b o q)
    have K₂ : Kb n₀ P₀ s' { s' with heap := h₁, toks := tk } := ⟨fun b o l _ q => hk' b o (fun e => nnI (e ▸ l)) q, fun b o l q => ⟨o.slots, hk' b o (fun e => nnI (e ▸ l)) q⟩, fun b o l _ q => hk' b o (fun e => nnI (e ▸ l)) q, rfl, rfl⟩
    refine letOwned (X.it (i + 1) _ st₁) ?_
    obtain ⟨O₂, F₂, W₂⟩ := F₂
    have rv : Rd h₁ (O₂ ++ I :: P₀) v ds[i] := (X.vals i v _ hv hd).mono fun b o q => vis_get.mpr ⟨V₂ b o q, fun h => by
      rcases List.mem_append.mp h with h | h
      · exact W₂.above b h (.inr (.inr ⟨o, q⟩))
      · obtain ⟨q, n⟩ := vis_get.mp q
        rcases List.mem_cons.mp h with rfl | h
        · exact n (.head _)
        · exact n (.tail _ (List.mem_append_right _ h))⟩
    refine wpAny_assign_Name (store_wp F₂ W₂ hk rv (fun p hp => hp) (hx i hi) (hω i) fun s₃ k₃ vk₃ sf₃ F₃ W₃ => ?_)
    have st₃ : St (i + 1) s₃.heap := X.W.frame _ _ _ st₁ fun b hb o e => by
      obtain ⟨o', e', so⟩ := X.sf (i + 1) _ st₁ b hb
      rw [e] at e'; cases e'
      exact sf₃ b o e so
    have V₃ : ∀ b o, (vis s₁.heap (I :: (O ++ P₀))).get? b = some o → s₃.heap.get? b = some o := fun b o q => k₃.keep b o (.inr (.inr ⟨o, q⟩)) (fun h => by
      obtain ⟨q, n⟩ := vis_get.mp q
      rcases List.mem_cons.mp h with rfl | h
      · exact n (.head _)
      · exact n (.tail _ (List.mem_append_right _ h))) (V₂ b o q)
    have K₃ : Kb n₀ P₀ s₁ s₃ := (K'.trans K₂).trans (k₃.of_in nnI hN)
    by_cases hin : i < n
    · refine h i _ hin hd ⟨O₂, F₃, W₃⟩ (fun fl s₄ k₄ a => ?_) fun _ _ r => r.elim
      cases fl <;> first | exact a.elim | skip
      refine ⟨n - (i + 1), by omega, i + 1, hin, rfl, a, K₃.trans (k₄.of_in nnI hN), ?_, fun b o q => ?_⟩
      · refine X.W.frame _ _ _ st₃ fun b hb o e => ?_
        obtain ⟨o', e', so⟩ := X.sf (i + 1) _ st₃ b hb
        rw [e] at e'; cases e'
        refine k₄.rest b o ?_ (sf_not_dict so) e
        rcases X.fv b hb with rfl | hb'
        · exact NI
        · obtain ⟨o₁, e₁, _⟩ := X.sf 0 _ st b hb
          exact .inr (.inr ⟨o₁, vis_get.mpr ⟨e₁, hb'⟩⟩)
      · refine k₄.keep b o (.inr (.inr ⟨o, q⟩)) (fun h => ?_) (V₃ b o q)
        obtain ⟨q, n⟩ := vis_get.mp q
        rcases List.mem_cons.mp h with rfl | h
        · exact n (.head _)
        · exact n (.tail _ (List.mem_append_right _ h))
    · obtain rfl : i = n := by omega
      rcases hend with ⟨e, _⟩ | ⟨d, r, hd', hb, rfl⟩
      · exact absurd hlt (by omega)
      · rw [hd] at hd'; cases hd'
        refine hb ⟨O₂, F₃, W₃⟩ (fun fl s₄ k₄ a => ?_) fun _ _ r => r.elim
        cases fl <;> first | exact a.elim | skip
        refine k _ _ ((K₁.trans K₃).trans (k₄.of_in nnI hN)) ?_
        exact Rd.mono a (vis_perm fun a h => .tail _ h)
  · obtain rfl : i = n := by omega
    have hin : i = ds.length := by omega
    subst hin
    rcases hend with ⟨_, rfl⟩ | ⟨d, r, hd', _⟩
    · refine X.W.done s' _ _ st' fun h₁ tk hkk => wpAny_execs_nil ?_
      have hk' : ∀ b o, b ≠ I → s'.heap.get? b = some o → h₁.get? b = some o := fun b o n e => hkk b o (fun q => n (X.wr b q)) e
      have K₂ : Kb n₀ P₀ s' { s' with heap := h₁, toks := tk } := ⟨fun b o l _ q => hk' b o (fun e => nnI (e ▸ l)) q, fun b o l q => ⟨o.slots, hk' b o (fun e => nnI (e ▸ l)) q⟩, fun b o l _ q => hk' b o (fun e => nnI (e ▸ l)) q, rfl, rfl⟩
      exact k .next _ ((K₁.trans K').trans K₂) (loop_pop (tk := tk) nnI hN W.old F' NI sfI hk')
    · rw [List.getElem?_eq_none (Nat.le_refl _)] at hd'; cases hd'
end
end Mine
namespace Mine

theorem iaddW (l b : Addr) (items items2 : Array Value) (n n2 : Nat) (dd dd2 : Option Addr) (sl sl2 : Array (Option Value)) (hs0 : ¬(!items.isEmpty && Builtin.List.listTooLong (items.size + items2.size)) = true) (hs1 : items.size ≤ sizeLine) (hs2 : items.size + items2.size ≤ sizeLine + 1) :
    Meets (Builtin.«list.__iadd__» ⟨[.ref l, .ref b], []⟩) (fun _ R s => s.heap.get? l = some { cls := .type "list", dict := dd, data := .seq items n, slots := sl } ∧ s.heap.get? b = some { cls := .type "list", dict := dd2, data := .seq items2 n2, slots := sl2 } ∧ R (.ok (.ret (Value.ref l))) { s with heap := s.heap.update l (Obj.mapSeq fun x => x ++ items2), toks := s.toks }) :=
  .of_wp fun prog w A R s h => by
    obtain ⟨hp, g, d, tk, os⟩ := s; obtain ⟨hl, hb, h⟩ := h; have f1 := AutoSeq1.idx_int; have f2 := AutoSeq1.sub_tuple_tuple; have f3 := AutoSeq1.sub_list_list; have f4 := AutoSeq1.sub_tuple_list; have f5 := AutoSeq1.sub_list_tuple;
    have hz' : (items ++ items2).size ≤ sizeLine + 1 := by rw [Array.size_append]; exact hs2
    wp_walk using (wpAny_updateSeq hl rfl (hz := hs1) (_hz' := hz')), wpAny_loadPart' hl, wpAny_loadPart' hb; exact ⟨_, rfl, h⟩

theorem iadd_list {prog : Program} {w : World} {A : Around} {E : Value → Shared → Prop} {s : Shared} {l b : Addr} {xs ys : Array Value} {Q : Value → Shared → Prop} (hlD : IsListD s.heap l xs) (hb : s.heap.IsList b ys) (hsz : xs.size + ys.size ≤ 8388608)
    (k : ∀ h', IsListD h' l (xs ++ ys) → Heap.SameBut l s.heap h' → Q (.ref l) { s with heap := h' }) : wpAny (model prog w) A (inplaceOp .Add (.ref l) (.ref b)) Q E s := by
  have hl := hlD.l
  obtain ⟨⟨cls, dd, data, sl⟩, ho, hc, hdn, n, hd⟩ := id hlD
  obtain ⟨⟨cls2, dd2, data2, sl2⟩, ho2, hc2, n2, hd2⟩ := id hb
  simp only at hc hd hc2 hd2 hdn
  subst hc hd hc2 hd2 hdn
  unfold inplaceOp
  refine wpAny_holding ?_
  have hno : typeLookup (.type "list") (dunderI "add") = pure (some (.builtin "list.__iadd__")) := PySem.F.slot_list_iadd.lookup
  have hseq : isSeqSlot (some (.builtin "list.__iadd__")) = true := by decide +kernel
  have hfi : fillsInplaceSlot (.type "list") "add" (Operator.Add == .Add) = pure false := by
    unfold fillsInplaceSlot
    show (typeLookup (.type "list") (dunderI "add") >>= fun fi => pure (fi.isSome && !isSeqSlot fi)) = pure false
    rw [hno]
    show (pure ((some (Value.builtin "list.__iadd__")).isSome && !isSeqSlot (some (.builtin "list.__iadd__"))) : Sem Bool) = pure false
    rw [hseq]; rfl
  have hsi : seqSlot? (.type "list") (dunderI "add") = pure (some (.builtin "list.__iadd__")) := PySem.seqSlot_of hno hseq
  have ha : s.TypeIs (.ref l) "list" := hl.typeIs
  have hb' : s.TypeIs (.ref b) "list" := hb.typeIs
  refine wpAny_bind (wpAny_typeOf ha (wpAny_bind (wpAny_of_eq hfi ?_)))
  show wpAny _ A (if false = true then _ else _) Q E s
  rw [if_neg Bool.false_ne_true]
  refine wpAny_bind (wpAny_binaryOp1_none (nm := "add") ha hb' noFill_list_add ?_)
  refine wpAny_bind (wpAny_of_eq hsi ?_)
  refine wpAny_bind (wpAny_rule ?_)
  have e1 : sizeLine = 16777216 := rfl
  refine (call_meets PySem.F.slot_list_iadd ha PySem.F.entry_list_iadd (PySem.F.args_list_iadd_2 _ _) (iaddW l b xs ys n n2 none dd2 sl sl2 ?_ (by omega) (by omega)) ⟨ho, ho2, ?_⟩)
  · intro h
    simp only [Bool.and_eq_true] at h
    have h2 := h.2
    unfold Builtin.List.listTooLong at h2
    simp at h2
    omega
  · exact (k _ ⟨_, Heap.get?_update_self _ ho rfl, rfl, rfl, _, rfl⟩ (Heap.SameBut.update ..))
end Mine
namespace Mine

section
variable {c : Cx} {m : Nat} {T : Tab} {C : List Str} {ρ ρ' : Vars} {ω : Ow} {out : Out}

theorem own_turn {A : Around} {n₀ : Addr → Prop} {P₀ O : List Addr} {env : Env} {s : Shared} {D : Addr} {h' : Heap} {tk : Nat} {x : Str} {ds' : List PyData} {ob : Obj} {items items' : Array Value} {n : Nat} (F : Fx c m A (O ++ P₀) T env ρ s) (W : Own n₀ O P₀ C env ρ ω s) (hD : D ∈ O)
    (hd : s.heap.get? D = some ob) (hdd : ob.data = .seq items n) (hρ : ∀ p ∈ ρ, p.1 ≠ x) (hlook : Look s.heap env x (.ref D)) (hsb : Heap.SameBut D s.heap h') (hl : IsListD h' D items') (r : RdAll s.heap (O ++ P₀) items'.toList ds') :
    Fx c m A (O ++ P₀) T env ρ { s with heap := h', toks := tk } ∧ Own n₀ O P₀ C env ρ (some (x, ds')) { s with heap := h', toks := tk } ∧ Kb n₀ P₀ s { s with heap := h', toks := tk } := by
  have mD : D ∈ O ++ P₀ := List.mem_append_left _ hD
  have hsf : SF ob := .inl ⟨_, _, hdd⟩
  have hk : ∀ b o, b ≠ D → s.heap.get? b = some o → h'.get? b = some o := fun b o n e => (hsb.2 b n).trans e
  have vk := vis_but mD hsb
  have nsk : ∀ {x : Addr} {mm}, s.heap.Ns x mm → h'.Ns x mm := fun {x mm} hn => hn.sameBut hsb fun e => ns_not_list (e ▸ hn) hd hdd
  have cek : ∀ {x : Addr} {w}, s.heap.IsCell x w → h'.IsCell x w := fun {x w} hn => hn.sameBut hsb fun e => cell_not_list (e ▸ hn) hd hdd
  have lok : ∀ {x : Str} {w}, Look s.heap env x w → Look h' env x w := fun {x w} l => by
    rcases l with ⟨k, mm, n, q⟩ | ⟨k, b, n, q⟩
    · exact .inl ⟨k, mm, nsk n, q⟩
    · exact .inr ⟨k, b, n, cek q⟩
  have ne : ∀ {b : Addr} (l : n₀ b), b ≠ D := fun {b} l e => W.above D hD (e ▸ l)
  refine ⟨{ sx := ⟨F.sx.g.keeps vk, F.sx.b.keeps vk, F.sx.lim.keeps vk, F.sx.k.keeps vk, fun p hp => ?_⟩, hd := F.hd, depth := F.depth, units := F.units, frs := ?_, vars := fun p hp => ?_, tab := F.tab, kind := F.kind, gl := F.gl, bl := F.bl },
    { above := W.above, old := W.old, still := fun b l => (W.still b l).imp fun o e => hk b o (ne l) e, loc := W.loc, ns := ?_, cells := fun x hx => ?_, inj := W.inj, owned := fun y es e => ?_ },
    ⟨fun b o l n q => hk b o (ne l) q, fun b o l q => ⟨o.slots, hk b o (ne l) q⟩, fun b o l _ q => hk b o (ne l) q, rfl, rfl⟩⟩
  · by_cases e : p = D
    · subst e; obtain ⟨o, h, _⟩ := hl; exact ⟨o, h⟩
    · obtain ⟨o, ho⟩ := F.sx.ex p hp; exact ⟨o, hk p o e ho⟩
  · obtain ⟨l, h1, h2⟩ := F.frs
    refine ⟨l, h1, fun env' he => ?_⟩
    obtain ⟨kk, L, o, a1, a2, a3, es, n, a4⟩ := h2 env' he
    refine ⟨kk, L, o, a1, a2, hk L o (fun e => ?_) a3, es, n, a4⟩
    rw [e, hd] at a3; cases a3; exact sf_not_dict hsf _ _ a4
  · obtain ⟨v, l, r⟩ := F.vars p hp
    exact ⟨v, lok l, r.mono vk⟩
  · obtain ⟨mm, h⟩ := W.ns; exact ⟨mm, nsk h⟩
  · obtain ⟨h1, b, w, h2, h3, h4⟩ := W.cells x hx; exact ⟨h1, b, w, h2, h3, cek h4⟩
  · cases e
    obtain ⟨o, h1, h2, hdn, k, h3⟩ := hl
    exact ⟨hρ, D, o, items', k, lok hlook, hD, h1, h2, hdn, h3, r.mono vk⟩

/-- what is ours and new at hand: one more private address -/
theorem take_new {A : Around} {n₀ : Addr → Prop} {O P₀ : List Addr} {env : Env} {s s' : Shared} {D : Addr} (F : Fx c m A (O ++ P₀) T env ρ s) (W : Own n₀ O P₀ C env ρ none s) (e : Ext (O ++ P₀) s s') (n : s.heap.get? D = none) (hD : ∃ o, s'.heap.get? D = some o) :
    Fx c m A ((D :: O) ++ P₀) T env ρ s' ∧ Own n₀ (D :: O) P₀ C env ρ none s' :=
  ⟨F.hide e n hD, Own.hide W e fun h => by obtain ⟨o, q⟩ := W.still D h; rw [n] at q; cases q⟩
theorem Own.drop {n₀ : Addr → Prop} {O P₀ : List Addr} {env : Env} {s : Shared} (W : Own n₀ O P₀ C env ρ ω s) : Own n₀ O P₀ C env ρ none s := { W with owned := fun _ _ e => nomatch e }

theorem RX1.ownList {x : Str} {np pos lp : Pos} {es : List PySem.Expr} {ds : List PyData} (h : REvL c m T ρ es ds) (hk : T.lookup x = some .local ∨ x ∈ C) (hs : ∀ p ∈ ρ', p ∈ ρ) (hx : ∀ p ∈ ρ', p.1 ≠ x)
    (hl : es.length ≤ 1000 := by exact Nat.le_of_ble_eq_true rfl) (hd : es.length = ds.length := by exact rfl) : RX1 c m T C ρ none (.Assign [.Name x np] (.List es lp) pos) (.next ρ' (some (x, ds))) := fun {A n₀ P₀ env s E Q} ⟨O, F, W⟩ k _ =>
  wpAny_Assign_Name (List_ (h F fun vs s₁ e₁ r₁ => wpAny_newList (by
    have nD := none_at (h := s₁.heap) (Nat.le_refl _)
    have e₂ : Ext (O ++ P₀) s₁ { s₁ with heap := s₁.heap.push { cls := .type "list", data := .seq vs.toArray } } := Ext.push _
    obtain ⟨F₂, W₂⟩ := take_new (F.ext e₁) (W.ext e₁) e₂ nD ⟨_, Heap.get?_push_size _ rfl⟩
    exact store_ownd F₂ W₂ hk hs hx (.head _) (Heap.get?_push_size _ rfl) rfl rfl rfl (by simpa using r₁.mono (vis_hide e₂ nD)) fun s₃ k₃ _ _ F₃ W₃ => k _ _ (((e₁.trans e₂).kb W.above).trans k₃) ⟨_, F₃, W₃⟩) (by have := r₁.len; have e : sizeLine = 16777216 := rfl; omega)))

theorem RX1.augList {x : Str} {np pos : Pos} {e : PySem.Expr} {ds es : List PyData} (h : REv c m T ρ e (.list es)) (hk : T.lookup x = some .local ∨ x ∈ C) (hsz : ds.length + es.length ≤ 8388608)
    (hc : (x == ("__classdict__" : Str)) = false := by decide) : RX1 c m T C ρ (some (x, ds)) (.AugAssign (.Name x np) .Add e pos) (.next ρ (some (x, ds ++ es))) := fun {A n₀ P₀ env s E Q} ⟨O, F, W⟩ k _ => by
  obtain ⟨h0, D, ob, items, n, l, h2, h3, h4, h5, h6, h7⟩ := W.owned _ _ rfl
  have kx : env.scope.kind = .function := F.kind
  have go : wpAny (model c.prog c.w) A (eval e env) (fun v' s₂ => wpAny (model c.prog c.w) A (inplaceOp .Add (.ref D) v') (fun r s₃ => wpAny (model c.prog c.w) A (storeName env x r) (fun _ => Q .next) E s₃) E s₂) E s :=
    h F fun u s₁ e₁ r₁ => by
      obtain ⟨b, ys, rfl, hb, rb⟩ := r₁.list_inv
      have hl₁ : IsListD s₁.heap D items := listD_priv e₁ ⟨ob, h3, h4, h5, n, h6⟩
      obtain ⟨o₁, hD1, hD2, hDn, n₁, hD3⟩ := id hl₁
      have r7 := h7.ext e₁
      refine iadd_list hl₁ (isList_of_vis hb) (by have := r7.len; have := rb.len; simp at *; omega) fun h' hl' hsb => ?_
      obtain ⟨F₂, W₂, K₂⟩ := own_turn (tk := s₁.toks) (F.ext e₁) (W.ext e₁) h2 hD1 hD3 h0 (l.ext e₁) hsb hl' (ds' := ds ++ es) (by simpa using r7.append rb)
      obtain ⟨o₂, q1, q2, qn, n₂, q3⟩ := id hl'
      exact store_ownd F₂ W₂.drop hk (fun p hp => hp) h0 h2 q1 q2 qn q3 (by
        have := (r7.append rb).mono (vis_but (List.mem_append_left _ h2) hsb)
        simpa using this) fun s₃ k₃ _ _ F₃ W₃ => k _ _ (((e₁.kb W.above).trans K₂).trans k₃) ⟨O, F₃, W₃⟩
  rcases l with ⟨kk, mm, nn, q⟩ | ⟨kk | kk, a', nn, q⟩
  · exact wpAny_AugAssign_Name (wpAny_loadName_local kx kk nn q go)
  · exact wpAny_AugAssign_Name (wpAny_loadName_cell kx kk nn q go)
  · exact wpAny_AugAssign_Name (wpAny_loadName_free kx kk nn q go hc)

theorem RdAll.set {h : Heap} {P : List Addr} : ∀ {vs : List Value} {ds : List PyData}, RdAll h P vs ds → ∀ (k : Nat) {v : Value} {d : PyData}, Rd h P v d → RdAll h P (vs.set k v) (ds.set k d)
  | vs, [], a, k, v, d, r => by rw [a.nil_inv]; exact .nil
  | vs, x :: ds, a, k, v, d, r => by
    obtain ⟨v', vs', rfl, p, q⟩ := a.cons_inv
    cases k with
    | zero => exact .cons r q
    | succ k => exact .cons p (q.set k r)
/-- an owned name's value -/
theorem own_name {A : Around} {env : Env} {s : Shared} {x : Str} {v : Value} {pos : Pos} {E : Value → Shared → Prop} {Q : Value → Shared → Prop} (hk : env.scope.kind = .function) (l : Look s.heap env x v) (k : Q v s) (hd : (x == ("__debug__" : Str)) = false) (hc : (x == ("__classdict__" : Str)) = false) :
    wpAny (model c.prog c.w) A (eval (.Name x pos) env) Q E s := by
  rcases l with ⟨kk, mm, n, e⟩ | ⟨kk | kk, a, n, e⟩
  · exact wpAny_Name (wpAny_loadName_local hk kk n e k) hd
  · exact wpAny_Name (wpAny_loadName_cell hk kk n e k) hd
  · exact wpAny_Name (wpAny_loadName_free hk kk n e k hc) hd

theorem setItem_listD {A : Around} {E : Value → Shared → Prop} {s : Shared} {l : Addr} {items : Array Value} {k : Int} {t : Tok} {v : Value} {Q : Unit → Shared → Prop} (hlD : IsListD s.heap l items)
    (h0 : 0 ≤ k) (hfit : k < 2 ^ 63) (hn : k < items.size)
    (hQ : ∀ h', IsListD h' l (items.setIfInBounds k.toNat v) → Heap.SameBut l s.heap h' → Q () { s with heap := h' }) :
    wpAny (model c.prog c.w) A (PySem.setItem (.ref l) (.int k t) v) Q E s := by
  have hl := hlD.l
  obtain ⟨o, ho, hc, hdn, ne, hd⟩ := id hlD
  unfold PySem.setItem
  try with_reducible refine wpAny_holding ?_
  first | refine wpAny_bind (wpAny_pure ?_) | skip
  refine wpAny_bind (wpAny_sequenceKey hl.typeIs (by decide) ?_)
  refine wpAny_bind (wpAny_callSpecial?_slot (name := Str.ofString "__setitem__") hl.typeIs PySem.slot_list_setitem
    (wpAny_call_entry PySem.slot_list_setitem hl.typeIs PySem.entry_list_setitem ?_ (PySem.args_list_setitem _ _ _)))
  show wpAny _ _ (Builtin.List.listSubscript? (.int k t) >>= _) _ _ s
  refine wpAny_bind (wpAny_listSubscript_int (fitsIndex_of h0 hfit) ?_)
  clear hfit
  obtain ⟨j, rfl⟩ := Int.eq_ofNat_of_zero_le h0
  have hj : j < items.size := by omega
  have hx' : items[j]? = some items[j] := Array.getElem?_eq_getElem hj
  show wpAny _ _ ((seqItemAt l j >>= fun r => pure (r.map (j, ·))) >>= _) _ _ s
  refine wpAny_bind (wpAny_bind (wpAny_seqItemAt ho hd (wpAny_pure ?_)))
  rw [hx']
  show wpAny _ _ (setSeqItemAt l j v >>= _) _ _ s
  obtain ⟨n', hd'⟩ := Obj.data_mapSeq hd (·.setIfInBounds j v)
  have hfin : IsListD (s.heap.update l (Obj.mapSeq (·.setIfInBounds j v))) l (items.setIfInBounds j v) := by
    refine ⟨_, Heap.get?_update_self _ ho (Obj.isFreed_of_seq hd'), (Obj.cls_mapSeq ..).trans hc, ?_, n', hd'⟩
    obtain ⟨a1, a2, a3, a4⟩ := o
    simp only at hd hdn
    subst hd
    exact hdn
  refine wpAny_bind (wpAny_setSeqItemAt ho hd ?_)
  first
    | exact wpAny_bind (wpAny_pure (wpAny_pure ⟨.none, rfl, wpAny_pure (hQ _ hfin (Heap.SameBut.update ..))⟩))
    | exact wpAny_pure ⟨.none, rfl, wpAny_pure (hQ _ hfin (Heap.SameBut.update ..))⟩
theorem RX1.setItem {x : Str} {np sp pos : Pos} {e i : PySem.Expr} {ds : List PyData} {d : PyData} {k : Nat} (he : REv c m T ρ e d) (hi : REv c m T ρ i (.int k)) (hk : k < ds.length) (hsz : ds.length < 2 ^ 62)
    (hd : (x == ("__debug__" : Str)) = false := by decide) (hc : (x == ("__classdict__" : Str)) = false := by decide)
    (hs : ∀ env : Env, swapsWith e (some (.Subscript (.Name x np) i sp)) pos.line env = pure false := by intro _; rfl) : RX1 c m T C ρ (some (x, ds)) (.Assign [.Subscript (.Name x np) i sp] e pos) (.next ρ (some (x, ds.set k d))) := fun {A n₀ P₀ env s E Q} ⟨O, F, W⟩ kk _ => by
  obtain ⟨h0, D, ob, items, n, l, h2, h3, h4, h5, h6, h7⟩ := W.owned _ _ rfl
  refine wpAny_Assign_Subscript (he F fun v s₁ e₁ r₁ => own_name F.kind (l.ext e₁) (hi (F.ext e₁) fun u s₂ e₂ r₂ => ?_) hd hc) (hs env)
  obtain ⟨t, rfl⟩ := r₂.int_inv
  have e₁₂ := e₁.trans e₂
  have hl₁ : IsListD s₂.heap D items := listD_priv e₁₂ ⟨ob, h3, h4, h5, n, h6⟩
  obtain ⟨o₁, hD1, hD2, hDn, n₁, hD3⟩ := id hl₁
  have r7 := h7.ext e₁₂
  have hlen := r7.len
  simp at hlen
  refine setItem_listD hl₁ (by omega) (by omega) (by omega) fun h' hl' hsb => ?_
  obtain ⟨F₂, W₂, K₂⟩ := own_turn (tk := s₂.toks) (F.ext e₁₂) (W.ext e₁₂) h2 hD1 hD3 h0 (l.ext e₁₂) hsb hl' (ds' := ds.set k d) (by
    simp only [Int.toNat_natCast, Array.toList_setIfInBounds]
    exact r7.set k (r₁.ext e₂))
  exact kk .next _ ((e₁₂.kb W.above).trans K₂) ⟨O, F₂, W₂⟩
end
end Mine
namespace Mine

section
variable {c : Cx} {m : Nat} {T : Tab} {C : List Str} {ρ ρ' : Vars} {ω : Ow} {out : Out}

theorem RX1.getOwn {x y : Str} {np yp sp pos : Pos} {i : PySem.Expr} {ds : List PyData} {d : PyData} {k : Nat} (hi : REv c m T ρ i (.int k)) (hd : ds[k]? = some d) (hsz : ds.length < 2 ^ 62) (hk : T.lookup y = some .local ∨ y ∈ C) (hs : ∀ p ∈ ρ', p ∈ ρ) (hx : ∀ p ∈ ρ', p.1 ≠ y) (hyx : x ≠ y)
    (hdb : (x == ("__debug__" : Str)) = false := by decide) (hc : (x == ("__classdict__" : Str)) = false := by decide)
    (ht : ∀ o i', subscripted i false o i' = operate [o, i'] (getItem o i') := by intro _ _; rfl)
    (hsw : ∀ env : Env, swapsWith (.Subscript (.Name x np) i sp) (some (.Name y yp)) pos.line env = pure false := by intro _; rfl) : RX1 c m T C ρ (some (x, ds)) (.Assign [.Name y yp] (.Subscript (.Name x np) i sp) pos) (.next ((y, d) :: ρ') (some (x, ds))) := fun {A n₀ P₀ env s E Q} ⟨O, F, W⟩ kk _ => by
  obtain ⟨h0, D, ob, items, n, l, h2, h3, h4, h5, h6, h7⟩ := W.owned _ _ rfl
  obtain ⟨hlt, he⟩ := List.getElem?_eq_some_iff.mp hd
  refine wpAny_Assign_Name (Subscript_ (own_name F.kind l (hi F fun u s₂ e₂ r₂ => ?_) hdb hc)) (hsw env)
  obtain ⟨t, rfl⟩ := r₂.int_inv
  have hl₁ : IsListD s₂.heap D items := listD_priv e₂ ⟨ob, h3, h4, h5, n, h6⟩
  have r7 := h7.ext e₂
  obtain ⟨v, hv, rv⟩ := r7.get k hd
  refine tail_any hl₁.l.typeIs slot_list_getitem.lookup (wpAny_getItem_list hl₁.l (by omega) (by omega) (by simpa using hv) ?_) (ht _ _)
  exact store_wp (F.ext e₂) (W.ext e₂) hk rv hs hx (fun z es q => by cases q; exact hyx) fun s₃ k₃ _ _ F₃ W₃ => kk _ _ ((e₂.kb W.above).trans k₃) ⟨O, F₃, W₃⟩

theorem RX1.append {x : Str} {np ap cp pos : Pos} {e : PySem.Expr} {ds : List PyData} {d : PyData} (he : REv c m T ρ e d) (hsz : ds.length ≤ 8388608) (hp : (ap.endLine == cp.line) = true := by exact rfl)
    (hd : (x == ("__debug__" : Str)) = false := by decide) (hc : (x == ("__classdict__" : Str)) = false := by decide)
    (hst : ∀ env : Env, starEach [e] env = (false, eval e env) :: starEach [] env := by intro _; rfl)
    (hform : ∀ env : Env, ((((backTo cp (starEach [e] env)).all fun x => !x.fst) && (backToKw cp (keywordEach [] env)).all fun x => x.fst.isSome) && decide (([e].length + ([] : List Keyword).length + if ([] : List Keyword).isEmpty = true then 0 else 1) < 30)) = true := by intro _; rfl)
    (ha : ∀ env : Env, attributeBase (.Name x np) "append" env (eval (.Name x np) env) = eval (.Name x np) env := by intro _; rfl)
    (hpl : ∀ env : Env, (backTo cp (starEach [] env)).any (·.1) = false := by intro _; rfl)
    (hsw : ∀ env : Env, swapsWith (.Call (.Attribute (.Name x np) "append" ap) [e] [] cp) none pos.line env = pure false := by intro _; rfl) :
    RX1 c m T C ρ (some (x, ds)) (.Expr (.Call (.Attribute (.Name x np) "append" ap) [e] [] cp) pos) (.next ρ (some (x, ds ++ [d]))) := fun {A n₀ P₀ env s E Q} ⟨O, F, W⟩ kk _ => by
  obtain ⟨h0, D, ob, items, n, l, h2, h3, h4, h5, h6, h7⟩ := W.owned _ _ rfl
  refine wpAny_Expr (wpAny_Call_method (T := "list") (id := "list.append") (ha env) (hform env) hp PySem.F.plainAttrs_list slot_list_append PySem.F.type_list_append (own_name F.kind l ?_ hd hc)) (by unfold interactive; rw [F.kind]; rfl) (hsw env)
  refine ⟨Heap.IsList.typeIs ⟨ob, h3, h4, n, h6⟩, (fun a q => by cases q; exact ⟨ob, h3, h5⟩), callWith_method1 (first := [.ref D]) (args_cons (he F fun v s₁ e₁ r₁ => args_nil ?_) (hst env)) (hst env) (hpl env)⟩
  have hl₁ : IsListD s₁.heap D items := listD_priv e₁ ⟨ob, h3, h4, h5, n, h6⟩
  obtain ⟨o₁, hD1, hD2, hDn, n₁, hD3⟩ := id hl₁
  have r7 := h7.ext e₁
  refine list_appendD (c := c) hl₁ (fun h' hl' hsb => ?_) (by have := r7.len; simp at this; have e : sizeLine = 16777216 := rfl; omega)
  obtain ⟨F₂, W₂, K₂⟩ := own_turn (tk := s₁.toks) (F.ext e₁) (W.ext e₁) h2 hD1 hD3 h0 (l.ext e₁) hsb hl' (ds' := ds ++ [d]) (by
    simpa using r7.append (.cons r₁ .nil))
  exact kk .next _ ((e₁.kb W.above).trans K₂) ⟨O, F₂, W₂⟩

theorem FS.freeze {A : Around} {n₀ : Addr → Prop} {P₀ : List Addr} {env : Env} {s : Shared} {x : Str} {ds : List PyData} (F : FS c m A n₀ P₀ T C env ρ (some (x, ds)) s) : FS c m A n₀ P₀ T C env ((x, .list ds) :: ρ) none s := by
  obtain ⟨O, F, W⟩ := F
  obtain ⟨h0, D, ob, items, n, l, h2, h3, h4, h5, h6, h7⟩ := W.owned _ _ rfl
  have hsf : SF ob := .inl ⟨_, _, h6⟩
  have dP : D ∉ P₀ := fun h => W.above D h2 (W.old D h)
  have keep : ∀ a ∈ O, a ≠ D → a ∈ O.filter (· ≠ D) := fun a h n => List.mem_filter.mpr ⟨h, by simpa using n⟩
  have sub : ∀ a ∈ O.filter (· ≠ D) ++ P₀, a ∈ O ++ P₀ ∧ a ≠ D := fun a h => by
    rcases List.mem_append.mp h with h | h
    · exact ⟨List.mem_append_left _ (List.mem_filter.mp h).1, by simpa using (List.mem_filter.mp h).2⟩
    · exact ⟨List.mem_append_right _ h, fun e => dP (e ▸ h)⟩
  have vk : ∀ b o, (vis s.heap (O ++ P₀)).get? b = some o → (vis s.heap (O.filter (· ≠ D) ++ P₀)).get? b = some o := vis_perm fun a h => (sub a h).1
  refine ⟨O.filter (· ≠ D), { sx := ⟨F.sx.g.keeps vk, F.sx.b.keeps vk, F.sx.lim.keeps vk, F.sx.k.keeps vk, fun p hp => F.sx.ex p (sub p hp).1⟩, hd := F.hd, depth := F.depth, units := F.units, frs := ?_, vars := fun p hp => ?_, tab := F.tab, kind := F.kind, gl := F.gl, bl := F.bl },
    { above := fun a ha => W.above a (List.mem_filter.mp ha).1, old := W.old, still := W.still, loc := ?_, ns := W.ns, cells := fun y hy => ?_, inj := W.inj, owned := fun _ _ e => nomatch e }⟩
  · obtain ⟨l, h1, h2⟩ := F.frs
    refine ⟨l, h1, fun env' he => ?_⟩
    obtain ⟨kk, L, o, a1, a2, a3, es, n, a4⟩ := h2 env' he
    have hL : L ≠ D := fun e => by rw [e, h3] at a3; cases a3; exact sf_not_dict hsf _ _ a4
    exact ⟨kk, L, o, a1, (List.mem_append.mp a2).elim (fun h => List.mem_append_left _ (keep L h hL)) (List.mem_append_right _), a3, es, n, a4⟩
  · rcases List.mem_cons.mp hp with rfl | hp
    · exact ⟨_, l, Rd.list (vs := items) ⟨ob, vis_get.mpr ⟨h3, fun h => (sub D h).2 rfl⟩, h4, n, h6⟩ (h7.mono vk)⟩
    · obtain ⟨v, l, r⟩ := F.vars p hp; exact ⟨v, l, r.mono vk⟩
  · obtain ⟨mm, h⟩ := W.ns
    exact keep _ W.loc fun e => ns_not_list (e ▸ h) h3 h6
  · obtain ⟨h1, b, w, q2, q3, q4⟩ := W.cells y hy
    exact ⟨h1, b, w, q2, keep _ q3 fun e => cell_not_list (e ▸ q4) h3 h6, q4⟩
theorem REx.freeze {x : Str} {ds : List PyData} {ss : List PySem.Stmt} (h : REx c m T C ((x, .list ds) :: ρ) none ss out) : REx c m T C ρ (some (x, ds)) ss out := fun F => h F.freeze
end
end Mine
namespace Mine

theorem range_size (a b : Int) : Builtin.Range.rangeSize a b 1 = ((b - a).toNat : Int) := by
  unfold Builtin.Range.rangeSize
  simp only [show (1 : Int) > 0 from by decide, if_true]
  split
  · rw [Int.ediv_one]; omega
  · omega
theorem range_small {a b : Int} (h1 : -(2 ^ 60) ≤ a) (h2 : a ≤ 2 ^ 60) (h3 : -(2 ^ 60) ≤ b) (h4 : b ≤ 2 ^ 60) : Builtin.Range.small a b 1 = true := by
  unfold Builtin.Range.small
  rw [range_size]
  unfold Builtin.Range.rangeFitsLong
  simp only [show (1 : Int) > 0 from by decide, if_true]
  simp only [Bool.and_eq_true, Bool.or_eq_true, decide_eq_true_eq]
  refine ⟨⟨⟨⟨⟨?_, ?_⟩, ⟨?_, ?_⟩⟩, ⟨?_, ?_⟩⟩, ⟨?_, ?_⟩⟩, .inr ⟨?_, ?_⟩⟩ <;> omega

section
variable {c : Cx} {m : Nat} {T : Tab} {C : List Str} {ρ ρ' : Vars} {ω : Ow} {out : Out}

def rng (a : Int) (n : Nat) : List PyData := (List.range n).map fun i : Nat => PyData.int (a + i)

theorem RIts.range1 {x : Str} {p pos : Pos} {e : PySem.Expr} {b : Int} (n : Nat) (h : REv c m T ρ e (.int b)) (hn : c.mg x = Option.none) (hv : c.mb x = some (.type "range")) (hb : b ≤ 2 ^ 60) (hb' : -(2 ^ 60) ≤ b) (hnn : b.toNat = n)
    (hx : T.lookup x = some .globalImplicit := by kernel_rfl) (hd : (x == ("__debug__" : Str)) = false := by decide)
    (he : ∀ env : Env, starEach [e] env = (false, eval e env) :: starEach [] env := by intro _; rfl) (hp : ∀ env : Env, (backTo pos (starEach [] env)).any (·.1) = false := by intro _; rfl) : RIts c m T ρ (.Call (.Name x p) [e] [] pos) (rng 0 n) := fun {A P env s E Q} F k => by
  refine Call_ (bname F hx hn hv hd (PyProof.Rows.callWith_type1 (args_cons (h F fun v s₁ e₁ r₁ => args_nil ?_) (he _)) (he _) (hp _)))
  obtain ⟨t, rfl⟩ := r₁.int_inv
  refine call_range_1 ?_
  have e₂ : Ext P s₁ { s₁ with heap := s₁.heap.push { cls := .type "range", dict := none, data := .fields #[.int 0 s₁.toks, .int b t, .int 1 (s₁.toks + 1)] }, toks := s₁.toks + 1 + 1 } := .of_keeps (fun _ _ e => Heap.get?_push_of_some _ e) rfl rfl
  refine range_from (n := n) ((F.ext e₁).ext e₂).toGo (Heap.get?_push_size _ rfl) (range_small (by omega) (by omega) hb' hb) (by rw [range_size, Int.sub_zero, hnn]) fun I fp wr Pi St s' e₃ nI X st => k I fp wr Pi St s' ((e₁.trans e₂).trans e₃) ?_ X st
  cases q : s.heap.get? I with
  | none => rfl
  | some o =>
    obtain ⟨sl, h'⟩ := (e₁.trans e₂).priv _ _ q
    rw [nI] at h'; cases h'
theorem RIts.range2 {x : Str} {p pos : Pos} {e e' : PySem.Expr} {a b : Int} (n : Nat) (h : REv c m T ρ e (.int a)) (h' : REv c m T ρ e' (.int b)) (hn : c.mg x = Option.none) (hv : c.mb x = some (.type "range")) (ha : a ≤ 2 ^ 60) (ha' : -(2 ^ 60) ≤ a) (hb : b ≤ 2 ^ 60) (hb' : -(2 ^ 60) ≤ b) (hnn : (b - a).toNat = n)
    (hx : T.lookup x = some .globalImplicit := by kernel_rfl) (hd : (x == ("__debug__" : Str)) = false := by decide)
    (he : ∀ env : Env, starEach [e, e'] env = (false, eval e env) :: starEach [e'] env := by intro _; rfl) (he' : ∀ env : Env, starEach [e'] env = (false, eval e' env) :: starEach [] env := by intro _; rfl) (hp : ∀ env : Env, (backTo pos (starEach [e'] env)).any (·.1) = false := by intro _; rfl) : RIts c m T ρ (.Call (.Name x p) [e, e'] [] pos) (rng a n) := fun {A P env s E Q} F k => by
  refine Call_ (bname F hx hn hv hd (PyProof.Rows.callWith_type1 (args_cons (h F fun v s₁ e₁ r₁ => args_cons (h' (F.ext e₁) fun v' s₂ e₂ r₂ => args_nil ?_) (he' _)) (he _)) (he _) (hp _)))
  obtain ⟨t, rfl⟩ := r₁.int_inv
  obtain ⟨t', rfl⟩ := r₂.int_inv
  refine call_range_2 ?_
  have e₁₂ := e₁.trans e₂
  have e₃ : Ext P s₂ { s₂ with heap := s₂.heap.push { cls := .type "range", dict := none, data := .fields #[.int a t, .int b t', .int 1 s₂.toks] }, toks := s₂.toks + 1 } := .of_keeps (fun _ _ e => Heap.get?_push_of_some _ e) rfl rfl
  refine range_from (n := n) ((F.ext e₁₂).ext e₃).toGo (Heap.get?_push_size _ rfl) (range_small ha' ha hb' hb) (by rw [range_size, hnn]) fun I fp wr Pi St s' e₄ nI X st => k I fp wr Pi St s' ((e₁₂.trans e₃).trans e₄) ?_ X st
  cases q : s.heap.get? I with
  | none => rfl
  | some o =>
    obtain ⟨sl, h'⟩ := (e₁₂.trans e₃).priv _ _ q
    rw [nI] at h'; cases h'

/-- first, second = e -/
theorem RX1.unpack2 {x y : Str} {xp yp tp pos : Pos} {e : PySem.Expr} {n : Nat} {a b : PyData} (h : REv c m T ρ e (.tuple [a, b])) (hk : T.lookup x = some .local ∨ x ∈ C) (hk' : T.lookup y = some .local ∨ y ∈ C) (hxy : x ≠ y) (hs : ∀ p ∈ ρ', p ∈ ρ) (hx : ∀ p ∈ ρ', p.1 ≠ x ∧ p.1 ≠ y)
    (hsw : ∀ env : Env, swapsWithSole [.Tuple [.Name x xp, .Name y yp] n tp] e pos.line env = pure false := by intro _; rfl) (hst : ∀ env : Env, swappedStores [.Tuple [.Name x xp, .Name y yp] n tp] e env = pure none := by intro _; rfl) :
    RX1 c m T C ρ none (.Assign [.Tuple [.Name x xp, .Name y yp] n tp] e pos) (.next ((y, b) :: (x, a) :: ρ') none) := fun {A n₀ P₀ env s E Q} ⟨O, F, W⟩ k _ =>
  Assign_Tuple (h F fun v s₁ e₁ r₁ => RBd.pair hk hk' hxy ((F.ext e₁).sub hs) ((W.ext e₁).sub hs) r₁ (fun p hp q hq => by
    rcases List.mem_cons.mp hq with rfl | hq
    · exact (hx p hp).2
    · rw [List.mem_singleton.mp hq]; exact (hx p hp).1) fun s₂ k₂ _ _ F₂ W₂ => k _ _ ((e₁.kb W.above).trans k₂) ⟨O, F₂, W₂⟩) (hsw _) (hst _)
/-- a, b = (b, a) -/
theorem RX1.swap2 {x y : Str} {xp yp tp pos : Pos} {e : PySem.Expr} {n : Nat} {a b : PyData} (h : REv c m T ρ e (.tuple [a, b])) (hk : T.lookup x = some .local ∨ x ∈ C) (hk' : T.lookup y = some .local ∨ y ∈ C) (hxy : x ≠ y) (hs : ∀ p ∈ ρ', p ∈ ρ) (hx : ∀ p ∈ ρ', p.1 ≠ x ∧ p.1 ≠ y)
    (hst : ∀ env : Env, env.scope.kind = .function → env.scope.names = T → swappedStores [.Tuple [.Name x xp, .Name y yp] n tp] e env = pure (some [x, y]))
    (hsw : ∀ env : Env, swapsWithSole [.Tuple [.Name x xp, .Name y yp] n tp] e pos.line env = pure false := by intro _; rfl) :
    RX1 c m T C ρ none (.Assign [.Tuple [.Name x xp, .Name y yp] n tp] e pos) (.next ((x, a) :: (y, b) :: ρ') none) := fun {A n₀ P₀ env s E Q} ⟨O, F, W⟩ k _ => by
  refine Assign_Tuple_swapped (names := [x, y]) (h F fun v s₁ e₁ r₁ => ?_) (hsw _) (hst _ F.kind F.tab)
  obtain ⟨t, vs, rfl, ht, ra⟩ := r₁.tuple_inv
  obtain ⟨u, w, e, ru, rw'⟩ := two_inv ra
  have ht' := isTuple_of_vis ht
  have hsz : vs.size = 2 := by rw [← Array.length_toList, e]; rfl
  have := wpAny_unpackItems_tuple (prog := c.prog) (w := c.w) (A := A) (E := E) (s := s₁) (t := t) (items := vs) (Q := fun items s₂ => wpAny (model c.prog c.w) A (assignInOrder (([x, y] : List Str).reverse.map fun n => bindName env n) items.reverse) (fun _ => Q .next) E s₂) F.hd ht' fun h' hex => ?_
  · rw [hsz] at this; exact this
  · have e₂ : Ext (O ++ P₀) s₁ { s₁ with heap := h' } := .of_keeps (fun b o q => hex b o (Nat.ne_of_lt (Heap.lt_size q)) q) rfl rfl
    rw [e]
    show wpAny _ A (holding [u] (bindName env y w) >>= fun _ => holding [] (bindName env x u) >>= fun _ => pure ()) _ E _
    refine wpAny_bind (wpAny_holding (bindName_ (store_wp ((F.ext e₁).ext e₂) ((W.ext e₁).ext e₂) hk' (rw'.ext e₂) hs (fun p hp => (hx p hp).2) (fun _ _ e => nomatch e) fun s₂ k₂ vk sf F₂ W₂ =>
      wpAny_bind (wpAny_holding (bindName_ (store_wp F₂ W₂ hk ((ru.ext e₂).mono vk) (fun p hp => hp) (fun p hp => ?_) (fun _ _ e => nomatch e) fun s₃ k₃ vk₃ sf₃ F₃ W₃ =>
        wpAny_pure (k _ _ ((((e₁.trans e₂).kb W.above).trans k₂).trans k₃) ⟨O, F₃, W₃⟩)))))))
    rcases List.mem_cons.mp hp with rfl | hp
    · exact fun q => hxy q.symm
    · exact (hx p hp).1
end
end Mine
namespace Mine

theorem ints_are {h : Heap} {P : List Addr} : ∀ {vs : List Value} {ns : List Int}, RdAll h P vs (ns.map .int) → IntsAre vs ns
  | vs, [], r => by rw [r.nil_inv]; exact .nil
  | vs, n :: ns, r => by
    obtain ⟨v, vs', rfl, a, b⟩ := r.cons_inv
    obtain ⟨t, rfl⟩ := a.int_inv
    exact .cons n t (ints_are b)
theorem strs_are {h : Heap} {P : List Addr} : ∀ {vs : List Value} {ns : List Str}, RdAll h P vs (ns.map .str) → StrsAre vs ns
  | vs, [], r => by rw [r.nil_inv]; exact .nil
  | vs, n :: ns, r => by
    obtain ⟨v, vs', rfl, a, b⟩ := r.cons_inv
    obtain ⟨t, rfl⟩ := a.str_inv
    exact .cons n t (strs_are b)
theorem isStrOf_at (k : Str) : ∀ {vs : List Value} {ns : List Str}, StrsAre vs ns → ∀ (j : Nat) (h1 : j < vs.length) (h2 : j < ns.length), PyProof.Rows.isStrOf k vs[j] = (ns[j] == k)
  | _, _, .cons n t _, 0, _, _ => rfl
  | _, _, .cons n t r, j + 1, h1, h2 => isStrOf_at k r j (Nat.lt_of_succ_lt_succ h1) (Nat.lt_of_succ_lt_succ h2)

section
variable {c : Cx} {m : Nat} {T : Tab} {C : List Str} {ρ ρ' : Vars} {ω : Ow} {out : Out}

theorem RBi.indexI {ns : List Int} {k : Int} {j : Nat} (hj : j < ns.length) (hlen : ns.length ≤ 1000) (hit : ns[j] = k) (hno : ∀ i (h : i < ns.length), i < j → ns[i] ≠ k) : RBi c m (.builtin "list.index") [.list (ns.map .int), .int k] (.int j) := fun {A P s E Q vs} F r kk => by
  obtain ⟨v, u, rfl, r1, r2⟩ := two_inv r
  obtain ⟨t, rfl⟩ := r2.int_inv
  obtain ⟨l, vs, rfl, hl, ra⟩ := r1.list_inv
  obtain ⟨⟨cls, dd, data, sl⟩, ho, hc, n, hd⟩ := isList_of_vis hl
  simp only at hc hd
  subst hc hd
  have hi := ints_are ra
  have hlen' := hi.length
  simp at hlen'
  refine call_meets PySem.F.slot_list_index ⟨_, ho, rfl⟩ PySem.F.entry_list_index (PySem.F.args_list_index_2 _ _)
    (SeqAt.list_indexAt l vs n dd sl (.int k t) (isInt k) j (by omega) (by omega) ?_ ?_) ⟨ho, fun y hy => (eq_isInt k t hi y (by simpa using hy)).at _ _, kk _ _ .toks (.int _ _)⟩
  · have := isInt_at k hi j (by simp; omega) hj
    simp only [Array.getElem_toList] at this
    rw [this, hit]; simp
  · intro i hi1 hlt
    have := isInt_at k hi i (by simpa using hi1) (by omega)
    simp only [Array.getElem_toList] at this
    rw [this]; simpa using hno i (by omega) hlt
theorem RBi.indexS {ns : List Str} {k : Str} {j : Nat} (hj : j < ns.length) (hlen : ns.length ≤ 1000) (hit : ns[j] = k) (hno : ∀ i (h : i < ns.length), i < j → ns[i] ≠ k) : RBi c m (.builtin "list.index") [.list (ns.map .str), .str k] (.int j) := fun {A P s E Q vs} F r kk => by
  obtain ⟨v, u, rfl, r1, r2⟩ := two_inv r
  obtain ⟨t, rfl⟩ := r2.str_inv
  obtain ⟨l, vs, rfl, hl, ra⟩ := r1.list_inv
  obtain ⟨⟨cls, dd, data, sl⟩, ho, hc, n, hd⟩ := isList_of_vis hl
  simp only at hc hd
  subst hc hd
  have hi := strs_are ra
  have hlen' : vs.size = ns.length := by have := ra.len; simpa using this
  refine call_meets PySem.F.slot_list_index ⟨_, ho, rfl⟩ PySem.F.entry_list_index (PySem.F.args_list_index_2 _ _)
    (SeqAt.list_indexAt l vs n dd sl (.str k t) (PyProof.Rows.isStrOf k) j (by omega) (by omega) ?_ ?_) ⟨ho, fun y hy => (eq_isStrOf k t hi y (by simpa using hy)).at _ _, kk _ _ .toks (.int _ _)⟩
  · have := isStrOf_at k hi j (by simp; omega) hj
    simp only [Array.getElem_toList] at this
    rw [this, hit]; simp
  · intro i hi1 hlt
    have := isStrOf_at k hi i (by simpa using hi1) (by omega)
    simp only [Array.getElem_toList] at this
    rw [this]; simpa using hno i (by omega) hlt

/-- a method of a list display -/
theorem REv.dispMeth {os : List PySem.Expr} {lp : Pos} {e : PySem.Expr} {es : List PySem.Expr} {name : Str} {id : String} {apos pos : Pos} {xs ds : List PyData} {d : PyData} (h : REvL c m T ρ os xs) (hs : REvL c m T ρ (e :: es) ds) (slot : Slot "list" name id) (ty : typeOf (.builtin id) = pure (.type "method_descriptor"))
    (hf : RBi c m (.builtin id) (.list xs :: ds) d) (hl : os.length ≤ 1000 := by exact Nat.le_of_ble_eq_true rfl) (hd : os.length = xs.length := by exact rfl) (hp : (apos.endLine == pos.line) = true := by exact rfl)
    (ha : ∀ env : Env, attributeBase (.List os lp) name env (eval (.List os lp) env) = eval (.List os lp) env := by intro _; rfl)
    (he : ∀ env : Env, starEach (e :: es) env = (false, eval e env) :: starEach es env := by intro _; rfl) (hpl : ∀ env : Env, (backTo pos (starEach es env)).any (·.1) = false := by intro _; rfl)
    (hform : ∀ env : Env, ((((backTo pos (starEach (e :: es) env)).all fun x => !x.fst) && (backToKw pos (keywordEach [] env)).all fun x => x.fst.isSome) && decide (((e :: es).length + ([] : List Keyword).length + if ([] : List Keyword).isEmpty = true then 0 else 1) < 30)) = true := by intro _; rfl) :
    REv c m T ρ (.Call (.Attribute (.List os lp) name apos) (e :: es) [] pos) d := fun {A P env s E Q} F k =>
  wpAny_Call_method (prog := c.prog) (w := c.w) (T := "list") (ha _) (hform _) hp PySem.F.plainAttrs_list slot ty (List_ (h F fun vs s₁ e₁ r₁ => wpAny_newList (by
    have e₂ : Ext P s₁ { s₁ with heap := s₁.heap.push { cls := .type "list", data := .seq vs.toArray } } := Ext.push _
    have rl := rd_newList (F.ext e₁).sx r₁
    have gt : (s₁.heap.push { cls := .type "list", data := .seq vs.toArray }).get? s₁.heap.objs.size = some { cls := .type "list", data := .seq vs.toArray } := Heap.get?_push_size _ rfl
    refine ⟨⟨_, gt, rfl⟩, (fun a q => by cases q; exact ⟨_, gt, rfl⟩), callWith_method1 (first := [.ref s₁.heap.objs.size]) (hs ((F.ext e₁).ext e₂) fun ws s₃ e₃ r₃ => ?_) (he _) (hpl _)⟩
    exact hf ((F.ext (e₁.trans e₂)).ext e₃).toGo (.cons (rl.ext e₃) r₃) fun r s₄ e₄ r₄ => k r s₄ (((e₁.trans e₂).trans e₃).trans e₄) r₄) (by have := r₁.len; have e : sizeLine = 16777216 := rfl; omega)))

theorem rd_flat {h : Heap} {P : List Addr} {vs : List Value} {ds : List PyData} (r : RdAll h P vs ds) : ∀ n : Nat, RdAll h P (List.replicate n vs).flatten (List.replicate n ds).flatten
  | 0 => .nil
  | n + 1 => by rw [List.replicate_succ, List.replicate_succ, List.flatten_cons, List.flatten_cons]; exact r.append (rd_flat r n)
theorem ROp2.mulList {xs : List PyData} {n : Int} (hn : n ≤ 8388608) (hlo : -(2 ^ 60) ≤ n) (hx : xs.length * n.toNat ≤ 8388608) : ROp2 c m (binaryOp .Mult) (.list xs) (.int n) (.list (List.replicate n.toNat xs).flatten) := fun {A P s E Q v u} F r1 r2 k => by
  obtain ⟨l, vs, rfl, hl, ra⟩ := r1.list_inv
  obtain ⟨t, rfl⟩ := r2.int_inv
  obtain ⟨⟨cls, d, data, sl⟩, ho, hcl, kk, hd⟩ := isList_of_vis hl
  simp only at hcl hd
  subst hcl hd
  have hsz : vs.size = xs.length := by have := ra.len; simpa using this
  refine wpAny_binaryOp_repeat_ref (T := "list") (U := "int") (by decide) ⟨_, ho, rfl⟩ (fun s' => typeIs_int s' n t) noFill_list_mul PySem.F.fills_int_mul PySem.F.slot_int_rmul repeat_list PySem.F.slot_int_index.lookup
    (call_meets PySem.F.slot_int_rmul (typeIs_int s n t) PySem.F.entry_int_rmul (PySem.F.args_int_rmul_2 _ _) (lm_int_rmul_list_any n t l vs kk d sl)
      ⟨ho, rfl, ⟨_, ho, rfl⟩, call_meets PySem.F.slot_list_mul ⟨_, ho, rfl⟩ PySem.F.entry_list_mul (PySem.F.args_list_mul_2 _ _)
        (lm_list_mul_any l vs kk d sl n t (by simp [Builtin.List.listFitsIndex]; omega) (by rw [hsz]; omega) (by rw [hsz]; have e1 : sizeLine = 16777216 := rfl; simp [Builtin.List.listTooLong]; omega))
        ⟨ho, ?_⟩⟩)
  rw [listMul_foldl_if]
  refine k _ _ (Ext.push _) ?_
  have := rd_newList F.sx (rd_flat ra n.toNat)
  exact this
end
end Mine
namespace Mine

section
variable {c : Cx} {m : Nat} {T : Tab} {C : List Str} {ρ ρ' : Vars} {ω : Ow} {out : Out}

theorem ROp2.isNotBool {a b : Bool} : ROp2 c m (compareOp .IsNot) (.bool a) (.bool b) (.bool (!(a == b))) := fun F r1 r2 k => by
  rw [r1.bool_inv, r2.bool_inv]
  refine wpAny_isNot_plain rfl ?_
  have e : (Value.bool a == Value.bool b) = (a == b) := by cases a <;> cases b <;> rfl
  rw [e]; exact k _ _ (.refl _ _) (.bool _)

/-- x is y or x == y, of two lists of one number -/
theorem RTs.isOr {l r l' r' : PySem.Expr} {p1 p2 pos : Pos} {a b : Int} (h1 : REv c m T ρ l (.list [.int a])) (h2 : REv c m T ρ r (.list [.int b])) (h3 : RTs c m T ρ (.Compare l' [.Eq] [r'] p2) (decide (a = b)))
    (hm : behindInMarks .Is r = false := by with_unfolding_all rfl) : RTs c m T ρ (.BoolOp .Or [.Compare l [.Is] [r] p1, .Compare l' [.Eq] [r'] p2] pos) (decide (a = b)) := fun {A P env s E Q} F k => by
  refine wpAny_isTrue_BoolOp ?_
  unfold allTrue
  refine wpAny_bind (wpAny_isTrue_Compare1 (h1 F fun v s₁ e₁ r₁ => h2 (F.ext e₁) fun u s₂ e₂ r₂ => ?_) hm)
  obtain ⟨x, vs, rfl, hx, rx⟩ := (r₁.ext e₂).list_inv
  obtain ⟨y, ws, rfl, hy, ry⟩ := r₂.list_inv
  have hx' := isList_of_vis hx
  have hy' := isList_of_vis hy
  have e₁₂ := e₁.trans e₂
  by_cases q : x = y
  · subst q
    refine wpAny_is_ref_self (wpAny_truthy_bool ?_)
    have hv : vs = ws := by
      obtain ⟨o, a1, a2, n, a3⟩ := hx'
      obtain ⟨o', b1, b2, n', b3⟩ := hy'
      rw [a1] at b1; cases b1; rw [a3] at b3; cases b3; rfl
    subst hv
    obtain ⟨v, e, rv⟩ := one_inv rx
    obtain ⟨v', e', rv'⟩ := one_inv ry
    rw [e] at e'; cases e'
    obtain ⟨t, rfl⟩ := rv.int_inv
    obtain ⟨t', e''⟩ := rv'.int_inv
    cases e''
    show wpAny _ A (pure true) Q E s₂
    have := k s₂ e₁₂
    rw [decide_eq_true rfl] at this
    exact wpAny_pure this
  · obtain ⟨o, a1, a2, n, a3⟩ := hx'
    obtain ⟨o', b1, b2, n', b3⟩ := hy'
    show wpAny _ A (isSame (.ref x) (.ref y) >>= fun b => pure (Value.bool b)) _ E s₂
    refine wpAny_bind (wpAny_isSame_ref_other q a1 b1 (by rw [a2]; decide) (wpAny_pure (wpAny_truthy_bool ?_)))
    show wpAny _ A (allTrue .Or [.Compare l' [.Eq] [r'] p2] env) Q E s₂
    unfold allTrue
    refine wpAny_bind (h3 (F.ext e₁₂) fun s₃ e₃ => ?_)
    have := k s₃ (e₁₂.trans e₃)
    cases hd : decide (a = b) with
    | true => rw [hd] at this; exact wpAny_pure this
    | false => rw [hd] at this; exact wpAny_allTrue_Or_nil this

/-- a dict of the text's top: texts to ints -/
def Dic (c : Cx) (x : Str) (tok : Str → Option Int) : Prop := ∃ a es n, c.mg x = some (.ref a) ∧ c.K.lookup a = some ⟨.type "dict", Option.none, .dict es n, #[]⟩ ∧ KeysLit c.w.params es.toList ∧ (a == sysModules) = false ∧
  ∀ k, match findBy Value.isStrOf es k with | some v => ∃ i t, v = .int i t ∧ tok k = some i | Option.none => tok k = Option.none

theorem RTs.notInDic {x : Str} {tok : Str → Option Int} {e : PySem.Expr} {p pos : Pos} {k : Str} (D : Dic c x tok) (h : REv c m T ρ e (.str k)) (hx : T.lookup x = some .globalImplicit := by kernel_rfl) (hd : (x == ("__debug__" : Str)) = false := by decide)
    (hm : behindInMarks .NotIn (.Name x p) = false := by with_unfolding_all rfl) : RTs c m T ρ (.Compare e [.NotIn] [.Name x p] pos) (tok k).isNone := fun {A P env s E Q} F kk => by
  obtain ⟨a, es, n, h1, h2, h3, h4, h5⟩ := D
  refine wpAny_isTrue_Compare1 (h F fun v s₁ e₁ r₁ => gname (F.ext e₁) hx h1 hd ?_) hm
  obtain ⟨t, rfl⟩ := r₁.str_inv
  refine wpAny_notIn_of (knd := PySem.strKind c.prog c.w) (k := k) (by simp [PySem.strKind, Value.isStrOf]) h4 (mapOf_K ((F.ext e₁).sx.k.keeps (F.ext e₁).sx.here) h2 h3) (wpAny_truthy_bool ?_)
  have e₂ : Ext P s { s₁ with toks := s₁.toks + 1 } := e₁.trans Ext.toks
  have := kk _ e₂
  have q := h5 k
  cases hf : findBy Value.isStrOf es k with
  | none => rw [hf] at q; rw [q] at this; exact this
  | some v => rw [hf] at q; obtain ⟨i, t', _, q⟩ := q; rw [q] at this; exact this

theorem REv.getDic {x : Str} {tok : Str → Option Int} {e e' : PySem.Expr} {p ap pos : Pos} {k : Str} {d : Int} (D : Dic c x tok) (h : REv c m T ρ e (.str k)) (h' : REv c m T ρ e' (.int d)) (hx : T.lookup x = some .globalImplicit := by kernel_rfl) (hd : (x == ("__debug__" : Str)) = false := by decide) (hp : (ap.endLine == pos.line) = true := by exact rfl)
    (ha : ∀ env : Env, attributeBase (.Name x p) "get" env (eval (.Name x p) env) = eval (.Name x p) env := by intro _; rfl)
    (he : ∀ env : Env, backTo pos (starEach [e, e'] env) = [(false, eval e env), (false, eval e' env)] := by intro _; rfl)
    (hform : ∀ env : Env, ((((backTo pos (starEach [e, e'] env)).all fun x => !x.fst) && (backToKw pos (keywordEach [] env)).all fun x => x.fst.isSome) && decide (([e, e'].length + ([] : List Keyword).length + if ([] : List Keyword).isEmpty = true then 0 else 1) < 30)) = true := by intro _; rfl) :
    REv c m T ρ (.Call (.Attribute (.Name x p) "get" ap) [e, e'] [] pos) (.int ((tok k).getD d)) := fun {A P env s E Q} F kk => by
  obtain ⟨a, es, n, h1, h2, h3, h4, h5⟩ := D
  have ho := F.sx.here _ _ (F.sx.k _ _ h2)
  refine wpAny_Call_method (prog := c.prog) (w := c.w) (T := "dict") (id := "dict.get") (ha _) (hform _) hp PySem.F.plainAttrs_dict PySem.F.slot_dict_get PySem.F.type_dict_get (gname F hx h1 hd ⟨⟨_, ho, rfl⟩, (fun b q => by cases q; exact ⟨_, ho, rfl⟩), ?_⟩)
  rw [he]
  refine wpAny_dict_get2 (knd := PySem.strKind c.prog c.w) h4 (h F fun v s₁ e₁ r₁ => h' (F.ext e₁) fun u s₂ e₂ r₂ => ?_)
  obtain ⟨t, rfl⟩ := r₁.str_inv
  obtain ⟨t', rfl⟩ := r₂.int_inv
  have e₁₂ := e₁.trans e₂
  refine ⟨k, _, by simp [PySem.strKind, Value.isStrOf], mapOf_K ((F.ext e₁₂).sx.k.keeps (F.ext e₁₂).sx.here) h2 h3, ?_⟩
  have e₃ : Ext P s { s₂ with toks := s₂.toks + 1 } := e₁₂.trans Ext.toks
  refine kk _ _ e₃ ?_
  have q := h5 k
  cases hf : findBy Value.isStrOf es k with
  | none => rw [hf] at q; rw [q]; exact .int _ _
  | some v => rw [hf] at q; obtain ⟨i, t', rfl, q⟩ := q; rw [q]; exact .int _ _

/-- row = list(range(a, b, c)) -/
theorem RX1.ownRange {x lx rx : Str} {np lp rp p1 p2 pos : Pos} {e1 e2 e3 : PySem.Expr} {a b k : Int} (n : Nat) (h1 : REv c m T ρ e1 (.int a)) (h2 : REv c m T ρ e2 (.int b)) (h3 : REv c m T ρ e3 (.int k)) (hk0 : k ≠ 0) (hdiv : Builtin.divisionGoesByPylong (b - a) k = false)
    (hsm : Builtin.Range.small a b k = true) (hrs : Builtin.Range.rangeSize a b k = n) (hnn : n ≤ 8388608) (hln : c.mg lx = Option.none) (hlv : c.mb lx = some (.type "list")) (hrn : c.mg rx = Option.none) (hrv : c.mb rx = some (.type "range"))
    (hk : T.lookup x = some .local ∨ x ∈ C) (hs : ∀ p ∈ ρ', p ∈ ρ) (hx : ∀ p ∈ ρ', p.1 ≠ x) (hl1 : T.lookup lx = some .globalImplicit := by kernel_rfl) (hr1 : T.lookup rx = some .globalImplicit := by kernel_rfl)
    (hd : (lx == ("__debug__" : Str)) = false := by decide) (hd' : (rx == ("__debug__" : Str)) = false := by decide)
    (he0 : ∀ env : Env, starEach [.Call (.Name rx rp) [e1, e2, e3] [] p1] env = (false, eval (.Call (.Name rx rp) [e1, e2, e3] [] p1) env) :: starEach [] env := by intro _; rfl) (hp0 : ∀ env : Env, (backTo p2 (starEach [] env)).any (·.1) = false := by intro _; rfl)
    (he1 : ∀ env : Env, starEach [e1, e2, e3] env = (false, eval e1 env) :: starEach [e2, e3] env := by intro _; rfl) (he2 : ∀ env : Env, starEach [e2, e3] env = (false, eval e2 env) :: starEach [e3] env := by intro _; rfl) (he3 : ∀ env : Env, starEach [e3] env = (false, eval e3 env) :: starEach [] env := by intro _; rfl)
    (hp1 : ∀ env : Env, (backTo p1 (starEach [e2, e3] env)).any (·.1) = false := by intro _; rfl)
    (hsw : ∀ env : Env, swapsWith (.Call (.Name lx lp) [.Call (.Name rx rp) [e1, e2, e3] [] p1] [] p2) (some (.Name x np)) pos.line env = pure false := by intro _; rfl) :
    RX1 c m T C ρ Option.none (.Assign [.Name x np] (.Call (.Name lx lp) [.Call (.Name rx rp) [e1, e2, e3] [] p1] [] p2) pos) (.next ρ' (some (x, (List.range n).map fun i : Nat => PyData.int (a + i * k)))) := fun {A n₀ P₀ env s E Q} ⟨O, F, W⟩ kk _ => by
  refine wpAny_Assign_Name (Call_ (bname F hl1 hln hlv hd (PyProof.Rows.callWith_type1 (args_cons (Call_ (bname F hr1 hrn hrv hd' (PyProof.Rows.callWith_type1 (args_cons (h1 F fun v₁ s₁ e₁ r₁ => args_cons (h2 (F.ext e₁) fun v₂ s₂ e₂ r₂ => args_cons (h3 (F.ext (e₁.trans e₂)) fun v₃ s₃ e₃ r₃ => args_nil ?_) (he3 _)) (he2 _)) (he1 _)) (he1 _) (hp1 _)))) (he0 _)) (he0 _) (hp0 _)))) (hsw env)
  obtain ⟨t₁, rfl⟩ := r₁.int_inv
  obtain ⟨t₂, rfl⟩ := r₂.int_inv
  obtain ⟨t₃, rfl⟩ := r₃.int_inv
  have e₁₃ := (e₁.trans e₂).trans e₃
  refine call_range_3 hk0 (args_nil ?_) (.inl hdiv)
  have e₄ : Ext (O ++ P₀) s₃ { s₃ with heap := s₃.heap.push { cls := .type "range", dict := Option.none, data := .fields #[.int a t₁, .int b t₂, .int k t₃] } } := Ext.push _
  refine call_list_range F.hd (Heap.get?_push_size _ rfl) hsm hrs (by omega) fun h' tk acc' c' hkp hat hit => ?_
  have e₅ : Ext (O ++ P₀) { s₃ with heap := s₃.heap.push { cls := .type "range", dict := Option.none, data := .fields #[.int a t₁, .int b t₂, .int k t₃] } } { s₃ with heap := h', toks := tk } := .of_keeps hkp rfl rfl
  have nD := none_at (h := (s₃.heap.push { cls := .type "range", dict := Option.none, data := .fields #[.int a t₁, .int b t₂, .int k t₃] })) (Nat.le_refl _)
  obtain ⟨F₂, W₂⟩ := take_new ((F.ext e₁₃).ext e₄) ((W.ext e₁₃).ext e₄) e₅ nD ⟨_, hat⟩
  refine store_ownd F₂ W₂ hk hs hx (.head _) hat rfl rfl rfl (?_ : RdAll _ _ _ ((List.range n).map fun i : Nat => PyData.int (a + i * k))) fun s₆ k₆ _ _ F₆ W₆ => kk _ _ ((((e₁₃.trans e₄).trans e₅).kb W.above).trans k₆) ⟨_, F₆, W₆⟩
  obtain ⟨hsz, hall⟩ := hit
  have gen : ∀ (l : List Value) (i₀ : Nat), (∀ j v, l[j]? = some v → ∃ t, v = Value.int (a + ((i₀ + j : Nat) : Int) * k) t) → RdAll h' ((s₃.heap.push { cls := .type "range", dict := Option.none, data := .fields #[.int a t₁, .int b t₂, .int k t₃] }).objs.size :: O ++ P₀) l ((List.range' i₀ l.length).map fun i : Nat => PyData.int (a + i * k)) := by
    intro l
    induction l with
    | nil => intro i₀ _; exact .nil
    | cons v l ih =>
      intro i₀ hv
      obtain ⟨t, rfl⟩ := hv 0 v (by simp)
      rw [List.length_cons, List.range'_succ, List.map_cons]
      refine .cons (.int _ _) (ih (i₀ + 1) fun j w hw => ?_)
      obtain ⟨t', e⟩ := hv (j + 1) w (by simpa using hw)
      exact ⟨t', by rw [e]; congr 3; push_cast; omega⟩
  have := gen acc'.toList 0 (fun j v hv => by
    obtain ⟨t, e⟩ := hall j v (by simpa using hv)
    exact ⟨t, by rw [e]; simp⟩)
  rw [Array.length_toList, hsz, ← List.range_eq_range'] at this
  exact this
end
end Mine
namespace Mine

/-- what is asked of an exception class of the text's own -/
structure ExcK (K : Frag) (C : Addr) : Prop where
  str : findIn K (.ref C) "__str__" = some (some (.builtin "BaseException.__str__"))
  base : subIn K (.ref C) (.type "BaseException") = some true

def OwnExc (h : Heap) (e C t0 : Addr) : Prop := ∃ o vs, h.get? e = some o ∧ o.cls = .ref C ∧ o.data = .fields vs ∧ vs[0]? = some (.ref t0)

section
variable {prog : Program} {w : World} {A : Around} {E : Value → Shared → Prop} {s : Shared} {e t0 C : Addr} {K : Frag} {mm : Str} {tk : Tok}
open Builtin Builtin.Str Builtin.BaseException

theorem typeOf_own {M : Model} (x : OwnExc s.heap e C t0) {Q : Value → Shared → Prop} (k : Q (.ref C) s) : wpAny M A (typeOf (.ref e)) Q E s := by
  obtain ⟨o, vs, ho, hc, _⟩ := x
  show wpAny M A (loadPart e _ >>= _) Q E s
  refine wpAny_bind (wpAny_loadPart ho ?_)
  rw [hc] 
  exact wpAny_pure k
theorem entry_own {Q : Fin → Shared → Prop} (x : OwnExc s.heap e C t0) (ht : s.heap.TupAt t0 [.str mm tk]) (hq : Q (.done (.ret (.str mm tk))) s) :
    wpAny (model prog w) A (Builtin.«BaseException.__str__» ⟨[.ref e], []⟩) Q E s := by
  obtain ⟨o, vs, ho, hc, hd, h0⟩ := x
  obtain ⟨ot, k, hto, _, htd⟩ := ht
  have bx : ∀ {Q : Value × List Value → Shared → Prop}, Q (.ref t0, [.str mm tk]) s → wpAny (model prog w) A (bexcArgs (.ref e)) Q E s := fun {Q} hq => by
    unfold bexcArgs
    refine wpAny_bind (wpAny_field ho hd h0 (wpAny_bind (wpAny_seqItems hto htd ?_)))
    exact wpAny_pure hq
  unfold Builtin.«BaseException.__str__»
  repeat (first | with_reducible refine bx ?_ | wp_step)
  exact hq
theorem check_own (X : K.In s.heap) (H : ExcK K C) (x : OwnExc s.heap e C t0) {Q : Unit → Shared → Prop} (k : Q () s) : wpAny (model prog w) A (checkBuiltinCall "BaseException.__str__" ⟨[.ref e], []⟩) Q E s := by
  have hk : builtinKind "BaseException.__str__" = some .slot := by decide +kernel
  have hsp : splitId "BaseException.__str__" = some ("BaseException", "__str__") := by decide +kernel
  simp only [checkBuiltinCall, hk, hsp]
  unfold isInstance
  refine wpAny_bind (wpAny_bind (typeOf_own x ((looks_subIn X H.base).here ?_)))
  simp only [Bool.not_true, Bool.false_eq_true, if_false]
  have ha := PySem.F.args_bexc_str (.ref e)
  unfold argsOk at ha
  cases hsig : Manifest.signature? "BaseException.__str__" with
  | none => exact wpAny_pure k
  | some sig =>
    simp only [hsig] at ha
    show wpAny _ A (Bind.checkArgs "BaseException.__str__" sig ⟨[.ref e], []⟩) Q E s
    rw [ha]; exact wpAny_pure k
theorem strOf_own (hu : A.units < cLine) (X : K.In s.heap) (H : ExcK K C) (x : OwnExc s.heap e C t0) (ht : s.heap.TupAt t0 [.str mm tk]) {Q : Value → Shared → Prop} (hq : Q (.str mm tk) s) : wpAny (model prog w) A (PySem.Builtin.Str.strOf (.ref e)) Q E s := by
  unfold PySem.Builtin.Str.strOf
  rw [show isExactStr (.ref e) = false from rfl]
  refine wpAny_bind (m := cRoomFor _ _) (wpAny_cRoomFor hu ?_)
  have hb : bindSpecial (.builtin "BaseException.__str__") (.ref e) = pure (.builtin "BaseException.__str__", [.ref e]) := PySem.F.excStr_Exception.str.bind _
  refine wpAny_bind (m := callSpecial? (.ref e) (Str.ofString "__str__")) ?_
  unfold callSpecial? specialOf
  refine wpAny_bind (wpAny_bind (typeOf_own x ((looks_findIn X H.str).here ?_)))
  dsimp only
  rw [hb]
  refine wpAny_holding (wpAny_bind (wpAny_pure (wpAny_bind (wpAny_call (codeAny_call_builtin PySem.F.excStr_Exception.str.plain PySem.F.entry_bexc_str (check_own X H x ?_))))))
  refine entry_own x ht ?_
  refine wpAny_pure ?_
  exact wpAny_pure hq
theorem str_own (hu : A.in1.in1.units < cLine) (X : K.In s.heap) (H : ExcK K C) (x : OwnExc s.heap e C t0) (ht : s.heap.TupAt t0 [.str mm tk]) {Q : Value → Shared → Prop} (hq : Q (.str mm tk) s) : wpAny (model prog w) A (PySem.call (.type "str") [.ref e]) Q E s := by
  refine callType_codes (T := "str") (Bi := Builtin.«object.__init__») (Q₁ := fun r s₁ => ∃ y u, r = .str y u ∧ Q r s₁) PySem.F.called_str (PySem.F.typeCall_str_1 _) PySem.F.entry_object_init ?_ ?_
  · refine codeAny_of_tree ?_
    show wpAny _ A.in1.in1 (do checkBuiltinCall "str.__new__" ⟨[.type "str", .ref e], []⟩; again (.builtin "str.__new__" ⟨[.type "str", .ref e], []⟩)) _ _ s
    refine wpAny_bind (wpAny_of_eq (PySem.F.newCall_str_1 _) (wpAny_pure ⟨plainId_quiet (by decide +kernel) _, codeAny_builtin PySem.F.entry_str_new ?_⟩))
    rw [Around.under_plainId (by decide +kernel) _]
    rw [str_new_tree]
    refine wpAny_bind (wpAny_pure ?_)
    refine wpAny_bind (wpAny_of_eq isSubtype_str_str ?_)
    exact wpAny_bind (strOf_own hu X H x ht (wpAny_pure ⟨_, _, rfl, hq⟩))
  · rintro obj s₁ ⟨y, u, rfl, hq⟩
    exact ⟨typeIs_str _ _ _, PySem.F.args_object_init_2 _ _, object_init_meets PySem.F.called_str.init.lookup PySem.F.called_str.made (by decide) prog w A.in1 _ s₁ ⟨typeIs_str _ _ _, rfl, hq⟩⟩
end
end Mine
namespace Mine

section
variable {c : Cx} {m : Nat} {T : Tab} {C : List Str} {ρ ρ' : Vars} {ω : Ow}

/-- a class of the text's own, under Exception -/
def OwnX (c : Cx) (x : Str) (K : Addr) : Prop := c.mg x = some (.ref K) ∧ ∀ h, c.K.In h → ∃ bm N nm q bs hdct sn sub ab col dd k0 k1 k2 k3 k5 mN, h.get? K = some (excClassObj nm q K N bs bm hdct sn sub ab col dd k0 k1 k2 k3 k5 "Exception.__new__") ∧ h.Ns N mN ∧ mN "__init__" = none ∧ OwnTail h [.type "Exception", .type "BaseException", .type "object"] bm
theorem own_class {K : Frag} {h : Heap} {A : Addr} {bmB : List Value} {newId : String} (X : K.In h) (q : excIn K A bmB newId = true) :
    ∃ bm N nm qn bs hdct sn sub ab col dd k0 k1 k2 k3 k5 mN, h.get? A = some (excClassObj nm qn A N bs bm hdct sn sub ab col dd k0 k1 k2 k3 k5 newId) ∧ h.Ns N mN ∧ mN "__init__" = none ∧ OwnTail h bmB bm := by
  unfold excIn at q
  split at q
  · rename_i d cd sl ho
    split at q
    · rename_i A' bm k0 k1 k2 k3 n k5 hm hs
      simp only [Bool.and_eq_true, beq_iff_eq, Bool.not_eq_true'] at q
      obtain ⟨⟨⟨⟨⟨q1, q2⟩, q3⟩, q4⟩, q5⟩, q6⟩ := q
      subst q1 q2
      cases cd
      simp only at hm q3 q5 q6
      subst hm q3
      obtain rfl : sl = #[k0, k1, k2, k3, some (.builtin n), k5] := Array.toList_inj.mp hs
      exact ⟨_, _, _, _, _, _, _, _, _, _, _, _, _, _, _, _, _, X _ _ ho, .of_isNs (isNs_of_in X q5), nsMap_none_of_in X q5 q6, tail_of_in X q4⟩
    · cases q
  · cases q

theorem RX1.raise {x : Str} {K : Addr} {np cp pos : Pos} {e : PySem.Expr} {t : Str} (h : REv c m T ρ e (.str t)) (OX : OwnX c x K) (hx : T.lookup x = some .globalImplicit := by kernel_rfl) (hd : (x == ("__debug__" : Str)) = false := by decide)
    (he : ∀ env : Env, starEach [e] env = (false, eval e env) :: starEach [] env := by intro _; rfl) : RX1 c m T C ρ ω (.Raise (some (.Call (.Name x np) [e] [] cp)) none pos) (.exc K [.str t]) := fun {A n₀ P₀ env s E Q} ⟨O, F, W⟩ k xx => by
  obtain ⟨hm, hK⟩ := OX
  obtain ⟨tl, N, nm, q, bs, hdct, sn, sub, ab, col, dd, k0, k1, k2, k3, k5, mN, h1, h2, hni, TL⟩ := hK _ F.sx.k
  refine wpAny_Raise_call_subT (C := K) (nm := nm) (q := q) (N := N) (bs := bs) (bm := tl) (hdct := hdct) (sn := sn) (sub := sub) (ab := ab) (col := col) (dd := dd) (k0 := k0) (k1 := k1) (k2 := k2) (k3 := k3) (k5 := k5)
    PySem.F.excBase_Exception (mN := mN) (TL.hasType PySem.F.excBase_Exception.hasBase) F.hd (by rw [he]; rfl) hni (gname F hx hm hd ⟨rfl, ?_⟩)
  have go := args_cons (pos := cp) (Q := fun vs s₂ => Ext (O ++ P₀) s s₂ ∧ RdAll s₂.heap (O ++ P₀) vs [.str t]) (h F (E := E) fun v s₁ e₁ r₁ => args_nil ⟨e₁, .cons r₁ .nil⟩) (he env)
  rw [he] at go ⊢
  refine Calls.evalArgs_plain (wpAny_mono go (fun vs s₂ h₂ => ?_) fun _ _ y => y)
  obtain ⟨e₁, r₁⟩ := h₂
  have F₁ := F.ext e₁
  have kp : ∀ b o, (vis s.heap (O ++ P₀)).get? b = some o → s₂.heap.get? b = some o := fun b o q => F₁.sx.here b o (e₁.vis b o q)
  have hl := r₁.len
  refine ⟨rfl, ?_, kp _ _ h1, h2.keeps kp, TL.keeps kp, fun h' a hx' => xx _ _ ⟨s₂, ρ, ω, vs, e₁.kb W.above, ⟨O, F₁, W.ext e₁⟩, hx', r₁.wide, rfl, rfl⟩⟩
  have e2 : sizeLine = 16777216 := rfl
  simp at hl ⊢
  omega

/-- an exception in flight -/
def Fly (A : Around) (P : List Addr) (s : Shared) (K : Addr) (x : Str) (e : Value) (s' : Shared) : Prop :=
  ∃ a t tk B l, e = .ref a ∧ A.frames = some l ∧ Heap.FlyingW B l a (.ref K) (.ref t) s'.heap ∧ s'.heap.TupAt t [.str x tk] ∧ B.get? t = none ∧ s'.gens = s.gens ∧ s'.os = s.os ∧
    (∀ b o, b ∉ P → s.heap.get? b = some o → B.get? b = some o) ∧ (∀ b o, (∀ es n, o.data ≠ .dict es n) → s.heap.get? b = some o → B.get? b = some o) ∧
    (∀ b o, s.heap.get? b = some o → (∀ vs, o.data ≠ .fields vs) → ∃ sl, s'.heap.get? b = some { o with slots := sl })
/-- a call that raises -/
def RBiX (c : Cx) (m : Nat) (f : Value) (ds : List PyData) (K : Addr) (x : Str) : Prop :=
  ∀ {A : Around} {P : List Addr} {s : Shared} {E : Value → Shared → Prop} {Q : Value → Shared → Prop} {vs : List Value}, Go c m A P s → RdAll s.heap P vs ds →
    (∀ e s', Fly A P s K x e s' → E e s') → wpAny (model c.prog c.w) A (PySem.call f vs) Q E s
theorem RBiX.le {m' : Nat} {f : Value} {ds : List PyData} {K : Addr} {x : Str} (h : RBiX c m f ds K x) (q : m ≤ m') : RBiX c m' f ds K x := fun F => h (F.le q)

theorem funFrames_of {h : Heap} {as : List Addr} : ∀ {l : List Env}, (∀ env ∈ l, env.scope.kind ≠ .module ∧ ∃ L o, env.frame = some L ∧ L ∈ as ∧ h.get? L = some o ∧ ∃ es n, o.data = .dict es n) → h.FunFrames (hideAll h as) l
  | [], _ => trivial
  | env :: l, hh => by
    obtain ⟨k, L, o, a1, a2, a3, es, n, a4⟩ := hh env (.head _)
    exact ⟨k, ⟨L, o, a1, hideAll_none _ a2, a3, fun vs q => by rw [a4] at q; cases q⟩, funFrames_of fun e he => hh e (.tail _ he)⟩

theorem RBiX.ofDef {f : Addr} {o : Obj} {fd : FuncData} {body : List PySem.Stmt} {names : List Str} {ds : List PyData} {K : Addr} {x : Str} (ho : c.K.lookup f = some o) (hd : o.data = .func fd) (hb : fd.body = .stmts body)
    (hT : fd.scope.names = T) (hk : fd.scope.kind = .function) (hg : fd.globals = mainGlobals) (hbn : fd.builtins = builtinsNs) (hcl : fd.closure = [])
    (hco : fd.scope.isCoroutine = false) (hgen : fd.scope.isGenerator = false) (hcr : ∀ h : Heap, c.K.In h → h.CodeRec fd.code fd.qualname) (hnd : names.Nodup) (hlen : ds.length = names.length)
    (hn : ∀ x ∈ names, T.lookup x = some .local ∨ T.lookup x = some .cell) (hC : ∀ x ∈ C, T.lookup x = some .cell)
    (hbind : ∀ vs : List Value, vs.length = names.length → bindArgs fd ⟨vs, []⟩ = pure (names.zip vs))
    (h : REx c m T C (names.zip ds) none body (.exc K [.str x])) : RBiX c (m + 1) (.ref f) ds K x := fun {A P s E Q vs} F r k => by
  have hv : vs.length = names.length := r.len.trans hlen
  have kin := F.sx.k _ _ ho
  refine wpAny_call (codeAny_call_cells (fd := fd) (body := body) (binds := names.zip vs) (by have := F.depth; show A.depth < 1000; omega) (F.sx.here _ _ kin) hd F.sx.limit ?_ hb (hbind vs hv) hcl ?_ (fun s₁ X => ?_) hco hgen hk)
  · obtain ⟨c', o', vs', t, h1, h2, h3, h4⟩ := hcr _ F.sx.k
    exact ⟨c', o', vs', t, h1, F.sx.here _ _ h2, h3, h4⟩
  · intro x hx
    have hx' : x.1 ∈ names := (List.of_mem_zip hx).1
    rcases hn _ hx' with q | q
    · exact .inl (by rw [hT]; exact q)
    · exact .inr ⟨by rw [hT]; exact q, cellsFrom_some _ _ _ (by rw [hT]; exact mem_of_lookup q)⟩
  · have S := call_start F hT hk hg hbn hnd hv hn hC r X
    obtain ⟨h', tk, e1, e2⟩ := X.done
    refine h S (fun fl s' kb a => ?_) fun e s' q => ?_
    · cases fl <;> exact a.elim
    cases e <;> first | exact q.elim | skip
    rename_i a
    obtain ⟨s₂, ρ₂, ω₂, ws, kb, ⟨O, F₂, W₂⟩, hx, rw', eg, eo⟩ := q
    obtain ⟨u, rfl, ru⟩ := one_inv rw'
    obtain ⟨tk', rfl⟩ := ru.str_inv
    obtain ⟨l', hl', hfr⟩ := F₂.frs
    obtain ⟨l, hl, hfr₀⟩ := F.frs
    have hl2 : (A.deeper (callEnvC fd s.heap.objs.size f)).frames = some (callEnvC fd s.heap.objs.size f :: l) := by show A.frames.map _ = _; rw [hl]; rfl
    rw [hl2] at hl'; cases hl'
    have ff := funFrames_of (h := s₂.heap) (as := (callEnvC fd s.heap.objs.size f :: l).filterMap (·.frame)) (l := callEnvC fd s.heap.objs.size f :: l) fun env he => by
      obtain ⟨k1, L, o, a1, a2, a3⟩ := hfr env he
      exact ⟨k1, L, o, a1, List.mem_filterMap.mpr ⟨env, he, a1⟩, a3⟩
    have inFr : ∀ b, b ∈ (callEnvC fd s.heap.objs.size f :: l).filterMap (·.frame) → (∃ o, s₂.heap.get? b = some o ∧ ∃ es n, o.data = .dict es n) ∧ (b = s.heap.objs.size ∨ b ∈ P) := fun b hb => by
      obtain ⟨env, he, hf⟩ := List.mem_filterMap.mp hb
      obtain ⟨k1, L, o, a1, a2, a3⟩ := hfr env he
      rw [hf] at a1; cases a1
      refine ⟨⟨o, a3⟩, ?_⟩
      rcases List.mem_cons.mp he with rfl | he
      · exact .inl (Option.some.inj hf).symm
      · obtain ⟨_, L', _, b1, b2, _⟩ := hfr₀ env he
        rw [hf] at b1; cases b1; exact .inr b2
    refine wpAny_leaves_madeW (base := hideAll s₂.heap ((callEnvC fd s.heap.objs.size f :: l).filterMap (·.frame))) hl2 rfl (fun b o q => of_hideAll _ q) ff hx fun h₃ t x1 x2 x3 x4 => ?_
    refine k _ _ ⟨a, t, tk', _, l, rfl, hl, x1, x2, x3, ?_, ?_, fun b o n q => ?_, fun b o n q => ?_, fun b o q n => ?_⟩
    · show s'.gens = _; rw [eg, kb.gens, e1]
    · show s'.os = _; rw [eo, kb.os, e1]
    · refine hideAll_get _ (kb.keep b o ⟨o, q⟩ n (X.toInCall.keep b o q)) fun hm => ?_
      rcases (inFr b hm).2 with e | e
      · rw [e, none_at (Nat.le_refl _)] at q; cases q
      · exact n e
    · have q₂ := kb.rest b o ⟨o, q⟩ n (X.toInCall.keep b o q)
      refine hideAll_get _ q₂ fun hm => ?_
      obtain ⟨⟨o', h1, es, nn, h2⟩, _⟩ := inFr b hm
      rw [q₂] at h1; cases h1; exact n _ _ h2
    · obtain ⟨sl, q₂⟩ := kb.priv b o ⟨o, q⟩ (X.toInCall.keep b o q)
      exact x4 b { o with slots := sl } (hx.keeps _ _ q₂) n
end
end Mine
namespace Mine

section
variable {c : Cx} {m : Nat} {T : Tab} {C : List Str} {ρ ρ' : Vars} {ω : Ow}

/-- an expression that raises -/
def REvX (c : Cx) (m : Nat) (T : Tab) (ρ : Vars) (e : PySem.Expr) (K : Addr) (x : Str) : Prop :=
  ∀ {A : Around} {P : List Addr} {env : Env} {s : Shared} {E : Value → Shared → Prop} {Q : Value → Shared → Prop}, Fx c m A P T env ρ s →
    (∀ v s', Fly A P s K x v s' → E v s') → wpAny (model c.prog c.w) A (eval e env) Q E s
theorem Fly.from {A : Around} {P : List Addr} {s s₁ : Shared} {K : Addr} {x : Str} {e : Value} {s' : Shared} (e₁ : Ext P s s₁) (f : Fly A P s₁ K x e s') : Fly A P s K x e s' := by
  obtain ⟨a, t, tk, B, l, h1, h2, h3, h4, h5, h6, h7, h8, h9, h10⟩ := f
  refine ⟨a, t, tk, B, l, h1, h2, h3, h4, h5, h6.trans e₁.gens, h7.trans e₁.os, fun b o n q => h8 b o n (e₁.keep b o n q), fun b o n q => h9 b o n (e₁.rest b o n q), fun b o q n => ?_⟩
  obtain ⟨sl, q'⟩ := e₁.priv b o q
  exact h10 b { o with slots := sl } q' n
theorem REvX.call {x : Str} {p pos : Pos} {e : PySem.Expr} {es : List PySem.Expr} {ds : List PyData} {K f : Addr} {y : Str} {o : Obj} {fd : FuncData} (h : REvL c m T ρ (e :: es) ds) (hm : c.mg x = some (.ref f)) (ho : c.K.lookup f = some o) (hfd : o.data = .func fd) (hf : RBiX c m (.ref f) ds K y)
    (hx : T.lookup x = some .globalImplicit := by kernel_rfl) (hd : (x == ("__debug__" : Str)) = false := by decide)
    (he : ∀ env : Env, starEach (e :: es) env = (false, eval e env) :: starEach es env := by intro _; rfl) : REvX c m T ρ (.Call (.Name x p) (e :: es) [] pos) K y := fun F k => by
  refine Call_ (gname F hx hm hd (callWith_def hfd (h F fun vs s₁ e₁ r₁ => ⟨?_, ?_⟩) (he _)))
  · exact (F.ext e₁).sx.here _ _ ((F.ext e₁).sx.k _ _ ho)
  · exact hf (F.ext e₁).toGo r₁ fun v s' f => k v s' (f.from e₁)
theorem REvX.iteT {t x y : PySem.Expr} {pos : Pos} {K : Addr} {z : Str} (h : RTs c m T ρ t true) (h1 : REvX c m T ρ x K z) : REvX c m T ρ (.IfExp t x y pos) K z := fun F k =>
  IfExp_ (h F fun s₁ e₁ => h1 (F.ext e₁) fun v s₂ f => k v s₂ (f.from e₁))
theorem REvX.iteF {t x y : PySem.Expr} {pos : Pos} {K : Addr} {z : Str} (h : RTs c m T ρ t false) (h1 : REvX c m T ρ y K z) : REvX c m T ρ (.IfExp t x y pos) K z := fun F k =>
  IfExp_ (h F fun s₁ e₁ => h1 (F.ext e₁) fun v s₂ f => k v s₂ (f.from e₁))

theorem RX1.tryRet {e : PySem.Expr} {rp pos : Pos} {h₀ : ExceptHandler} {hs : List ExceptHandler} {d : PyData} (h : REv c m T ρ e d) : RX1 c m T C ρ ω (.Try [.Return (some e) rp] (h₀ :: hs) [] [] pos) (.ret d) := fun {A n₀ P₀ env s E Q} ⟨O, F, W⟩ k x =>
  wpAny_Try_except (wpAny_execs_cons (wpAny_Return_some (h F fun v s₁ e₁ r₁ => k _ _ (e₁.kb W.above) r₁.wide)))

/-- what holds while the exception is looked at -/
structure Cat (c : Cx) (A : Around) (P : List Addr) (env : Env) (s : Shared) (K a t : Addr) (x : Str) (tk : Tok) (B : Heap) (l : List Env) (mm : Str → Option Value) (s' : Shared) : Prop where
  fr : A.frames = some (env :: l)
  fly : Heap.FlyingW B (env :: l) a (.ref K) (.ref t) s'.heap
  tup : s'.heap.TupAt t [.str x tk]
  f1 : ∀ b o, b ∉ P → s.heap.get? b = some o → B.get? b = some o
  f2 : ∀ b o, (∀ es n, o.data ≠ .dict es n) → s.heap.get? b = some o → B.get? b = some o
  f3 : ∀ b o, s.heap.get? b = some o → (∀ vs, o.data ≠ .fields vs) → ∃ sl, s'.heap.get? b = some { o with slots := sl }
  gens : s'.gens = s.gens
  os : s'.os = s.os
  ns : s'.heap.Ns env.locals mm
theorem Cat.up {A : Around} {P : List Addr} {env : Env} {s s₁ : Shared} {K a t : Addr} {x : Str} {tk : Tok} {B : Heap} {l : List Env} {mm : Str → Option Value} {h' : Heap} (X : Cat c A P env s K a t x tk B l mm s₁)
    (hf : Heap.FlyingW B (env :: l) a (.ref K) (.ref t) h') (hu : s₁.heap.UpToSlots h') : Cat c A P env s K a t x tk B l mm { s₁ with heap := h' } :=
  ⟨X.fr, hf, X.tup.of_slots hu, X.f1, X.f2, fun b o q n => by
    obtain ⟨sl, q'⟩ := X.f3 b o q n
    exact hu b { o with slots := sl } q' n, X.gens, X.os, hu.ns X.ns⟩
theorem Cat.vis {A : Around} {P : List Addr} {env : Env} {s s₁ : Shared} {K a t : Addr} {x : Str} {tk : Tok} {B : Heap} {l : List Env} {mm : Str → Option Value} (X : Cat c A P env s K a t x tk B l mm s₁) : ∀ b o, (vis s.heap P).get? b = some o → s₁.heap.get? b = some o := fun b o q => by
  obtain ⟨q, n⟩ := vis_get.mp q
  exact X.fly.1 b o (X.f1 b o n q)
theorem Cat.own {A : Around} {P : List Addr} {env : Env} {s s₁ : Shared} {K a t : Addr} {x : Str} {tk : Tok} {B : Heap} {l : List Env} {mm : Str → Option Value} (X : Cat c A P env s K a t x tk B l mm s₁) : OwnExc s₁.heap a K t := X.fly.first

/-- the frame sees the exception come -/
theorem cat_start {A : Around} {n₀ : Addr → Prop} {O P₀ : List Addr} {env : Env} {s s' : Shared} {K : Addr} {x : Str} {e : Value} {E : Value → Shared → Prop} {Q : Flow → Shared → Prop} {hs : List ExceptHandler} {L : Addr} {l : List Env} (F : Fx c m A (O ++ P₀) T env ρ s) (W : Own n₀ O P₀ C env ρ ω s)
    (f : Fly A (O ++ P₀) s K x e s') (hl : A.frames = some (env :: l)) (hL : env.frame = some L)
    (k : ∀ a t tk B mm s₁, e = .ref a → Cat c A (O ++ P₀) env s K a t x tk B l mm s₁ → wpAny (model c.prog c.w) A (handleBy e env hs) Q E s₁) :
    wpAny (model c.prog c.w) A (noteFrame e env) (fun _ s₂ => wpAny (model c.prog c.w) A (setFlight e none) (fun _ s₃ => wpAny (model c.prog c.w) A (handleBy e env hs) Q E s₃) E s₂) E s' := by
  obtain ⟨a, t, tk, B, l', rfl, h2, h3, h4, h5, h6, h7, h8, h9, h10⟩ := f
  rw [hl] at h2; cases h2
  obtain ⟨mm, o, es, ep, ho, hd, hn⟩ := W.ns
  have hns : s'.heap.Ns env.locals mm := by
    obtain ⟨sl, q⟩ := h10 _ _ ho (fun vs q => by rw [hd] at q; cases q)
    exact ⟨_, es, ep, q, hd, hn⟩
  have X : Cat c A (O ++ P₀) env s K a t x tk B l mm s' := ⟨hl, h3, h4, h8, h9, h10, h6, h7, hns⟩
  refine wpAny_looks_onW hl hL h3 fun h₄ hheld₄ hsm₄ => ?_
  refine wpAny_landsW hheld₄ fun h₅ hheld hsm₅ => ?_
  exact k a t tk B mm _ rfl (X.up hheld (hsm₄.trans hsm₅))

/-- a clause that does not match -/
theorem cat_miss {A : Around} {n₀ : Addr → Prop} {O P₀ : List Addr} {env : Env} {s s₁ : Shared} {K K' a t : Addr} {x y : Str} {tk : Tok} {B : Heap} {l : List Env} {mm : Str → Option Value} {E : Value → Shared → Prop} {Q : Flow → Shared → Prop} {np pos : Pos} {nm : Option Str} {body : List PySem.Stmt} {rest : List ExceptHandler}
    (F : Fx c m A (O ++ P₀) T env ρ s) (X : Cat c A (O ++ P₀) env s K a t x tk B l mm s₁) (hm : c.mg y = some (.ref K')) (hx : exmOne c.K (.ref K) (.ref K') = some false)
    (k : wpAny (model c.prog c.w) A (handleBy (.ref a) env rest) Q E s₁)
    (hy : T.lookup y = some .globalImplicit) (hd : (y == ("__debug__" : Str)) = false) :
    wpAny (model c.prog c.w) A (handleBy (.ref a) env (.ExceptHandler (some (.Name y np)) nm body pos :: rest)) Q E s₁ := by
  refine wpAny_handleBy_cons (codeAny_handlers_test (PySem.Calls.Name_function_global F.kind (by rw [Env.kindOf, F.tab]; exact hy) (PySem.Calls.loadGlobal_global (by rw [F.gl]; exact F.sx.g.keeps X.vis) hm ?_) hd)) (by intro q; cases q)
  exact (exm_one (M := model c.prog c.w) (F.sx.k.keeps X.vis) (fun A Q E s k q => typeOf_own (by obtain ⟨o, vs, h1, h2⟩ := X.own; exact ⟨o, vs, k _ _ h1, h2⟩) q) hx).here k

/-- the clause that matches: except K as n: return 'pre' + str(n) -/
theorem cat_hit {A : Around} {n₀ : Addr → Prop} {O P₀ : List Addr} {env : Env} {s s₁ : Shared} {K a t : Addr} {x y n fstr pre : Str} {tk : Tok} {B : Heap} {l : List Env} {mm : Str → Option Value} {E : Value → Shared → Prop} {Q : Flow → Shared → Prop} {np pos p1 p2 p3 p4 p5 p6 : Pos} {kk : Nat} {rest : List ExceptHandler}
    (F : Fx c m A (O ++ P₀) T env ρ s) (W : Own n₀ O P₀ C env ρ ω s) (X : Cat c A (O ++ P₀) env s K a t x tk B l mm s₁) (hm : c.mg y = some (.ref K)) (hx : exmOne c.K (.ref K) (.ref K) = some true) (HK : ExcK c.K K)
    (hsn : c.mg fstr = none) (hsv : c.mb fstr = some (.type "str")) (hsz : pre.length + x.length ≤ sizeLine)
    (hQ : ∀ v s', Kb n₀ P₀ s s' → Rd s'.heap P₀ v (.str (pre ++ x)) → Q (.ret v) s')
    (hy : T.lookup y = some .globalImplicit) (hd : (y == ("__debug__" : Str)) = false) (hf : T.lookup fstr = some .globalImplicit) (hdf : (fstr == ("__debug__" : Str)) = false) (hn : T.lookup n = some .local) (hdn : (n == ("__debug__" : Str)) = false) :
    wpAny (model c.prog c.w) A (handleBy (.ref a) env (.ExceptHandler (some (.Name y np)) (some n) [.Return (some (.BinOp (.Constant (.str pre) kk p1) .Add (.Call (.Name fstr p2) [.Name n p3] [] p4) p5)) p6] pos :: rest)) Q E s₁ := by
  refine wpAny_handleBy_cons (codeAny_handlers_test (PySem.Calls.Name_function_global F.kind (by rw [Env.kindOf, F.tab]; exact hy) (PySem.Calls.loadGlobal_global (by rw [F.gl]; exact F.sx.g.keeps X.vis) hm ?_) hd)) (by intro q; cases q)
  refine (exm_one (M := model c.prog c.w) (F.sx.k.keeps X.vis) (fun A Q E s k q => typeOf_own (by obtain ⟨o, vs, h1, h2⟩ := X.own; exact ⟨o, vs, k _ _ h1, h2⟩) q) hx).here ?_
  have lo : env.kindOf n = some .local := by rw [Env.kindOf, F.tab]; exact hn
  have hp : (env.scope.kind == .class || (env.scope.kind == .module && env.locals != env.globals)) = false := by rw [F.kind]; rfl
  refine codeAny_handlers_suite_as (lands_againW X.fly fun h₆ hfl₆ hsm₆ => ?_)
  have X₆ := X.up hfl₆ hsm₆
  refine wpAny_storeName_local lo X₆.ns (fun h₇ hn₇ hs₇ => ?_) hp
  obtain ⟨oL, esL, epL, hoL, hdL, _⟩ := X₆.ns
  have keep₇ : ∀ b o, b ≠ env.locals → h₆.get? b = some o → h₇.get? b = some o := fun b o n e => (hs₇.2 b n).trans e
  have vk₇ : ∀ b o, (vis s.heap (O ++ P₀)).get? b = some o → h₇.get? b = some o := fun b o q => keep₇ b o (fun e => (vis_get.mp q).2 (e ▸ List.mem_append_left _ W.loc)) (X₆.vis b o q)
  have own₇ : OwnExc h₇ a K t := by
    obtain ⟨o, vs, h1, h2, h3, h4⟩ := X₆.own
    refine ⟨o, vs, keep₇ a o (fun e => ?_) h1, h2, h3, h4⟩
    rw [e] at h1; rw [show ({ s₁ with heap := h₆ } : Shared).heap = h₆ from rfl] at h1 hoL; rw [hoL] at h1; cases h1; rw [hdL] at h3; cases h3
  have tup₇ : h₇.TupAt t [.str x tk] := by
    obtain ⟨o, nn, h1, h2, h3⟩ := X₆.tup
    refine ⟨o, nn, keep₇ t o (fun e => ?_) h1, h2, h3⟩
    rw [e] at h1; rw [show ({ s₁ with heap := h₆ } : Shared).heap = h₆ from rfl] at h1 hoL; rw [hoL] at h1; cases h1; rw [hdL] at h3; cases h3
  refine wpAny_execs_cons (wpAny_Return_some (wpAny_BinOp (wpAny_Constant_str (Call_ ?_))))
  refine PySem.Calls.Name_function_global F.kind (by rw [Env.kindOf, F.tab]; exact hf) (PySem.Calls.loadGlobal_builtin (by rw [F.gl]; exact F.sx.g.keeps vk₇) hsn (by rw [F.bl]; exact F.sx.b.keeps vk₇) hsv ?_) hdf
  refine PyProof.Rows.callWith_type1 (args_cons (wpAny_Name (wpAny_loadName_local F.kind lo hn₇ (if_pos rfl) (args_nil ?_)) hdn) rfl) rfl rfl
  refine str_own (by have := F.units; show A.units + 1 + 1 < cLine; unfold cLine; omega) (F.sx.k.keeps vk₇) HK own₇ tup₇ ?_
  refine add_str (fun h' hh => ?_) hsz
  refine wpAny_nameGoes lo hn₇ hp fun h₈ m₈ hn₈ hs₈ => ?_
  have keep₈ : ∀ b o, b ≠ env.locals → h₆.get? b = some o → h₈.get? b = some o := fun b o n e => (hs₈.2 b n).trans (keep₇ b o n e)
  have ne : ∀ b, n₀ b → b ≠ env.locals := fun b h e => W.above _ W.loc (e ▸ h)
  refine hQ _ _ ⟨fun b o h n q => keep₈ b o (ne b h) (X₆.fly.1 b o (X₆.f1 b o (fun hm => ?_) q)), fun b o h q => ?_, fun b o h n q => keep₈ b o (ne b h) (X₆.fly.1 b o (X₆.f2 b o n q)), X₆.gens, X₆.os⟩ (.str _ _)
  · rcases List.mem_append.mp hm with hm | hm
    · exact W.above b hm h
    · exact n hm
  · by_cases hfd : ∃ vs, o.data = .fields vs
    · obtain ⟨vs, hfd⟩ := hfd
      exact ⟨o.slots, keep₈ b o (ne b h) (X₆.fly.1 b o (X₆.f2 b o (fun es nn e => by rw [hfd] at e; cases e) q))⟩
    · obtain ⟨sl, q'⟩ := X₆.f3 b o q fun vs e => hfd ⟨vs, e⟩
      exact ⟨sl, keep₈ b _ (ne b h) q'⟩
end
end Mine
namespace Mine

section
variable {c : Cx} {m : Nat} {T : Tab} {C : List Str} {ρ ρ' : Vars} {ω : Ow}

/-- a def whose body is: try: return e, where e raises and a clause answers -/
theorem RBi.ofDefTry {f : Addr} {o : Obj} {fd : FuncData} {e : PySem.Expr} {rp pos : Pos} {h₀ : ExceptHandler} {hs : List ExceptHandler} {names : List Str} {ds : List PyData} {K : Addr} {x : Str} {d : PyData} (ho : c.K.lookup f = some o) (hd : o.data = .func fd) (hb : fd.body = .stmts [.Try [.Return (some e) rp] (h₀ :: hs) [] [] pos])
    (hT : fd.scope.names = T) (hk : fd.scope.kind = .function) (hg : fd.globals = mainGlobals) (hbn : fd.builtins = builtinsNs) (hcl : fd.closure = [])
    (hco : fd.scope.isCoroutine = false) (hgen : fd.scope.isGenerator = false) (hcr : ∀ h : Heap, c.K.In h → h.CodeRec fd.code fd.qualname) (hnd : names.Nodup) (hlen : ds.length = names.length)
    (hn : ∀ x ∈ names, T.lookup x = some .local ∨ T.lookup x = some .cell) (hC : ∀ x ∈ C, T.lookup x = some .cell)
    (hbind : ∀ vs : List Value, vs.length = names.length → bindArgs fd ⟨vs, []⟩ = pure (names.zip vs))
    (he : REvX c m T (names.zip ds) e K x)
    (hcat : ∀ {A : Around} {n₀ : Addr → Prop} {O P₀ : List Addr} {env : Env} {s s₁ : Shared} {a t : Addr} {tk : Tok} {B : Heap} {l : List Env} {mm : Str → Option Value} {E : Value → Shared → Prop} {Q : Flow → Shared → Prop}, Fx c m A (O ++ P₀) T env (names.zip ds) s → Own n₀ O P₀ C env (names.zip ds) none s → Cat c A (O ++ P₀) env s K a t x tk B l mm s₁ →
      (∀ v s', Kb n₀ P₀ s s' → Rd s'.heap P₀ v d → Q (.ret v) s') → wpAny (model c.prog c.w) A (handleBy (.ref a) env (h₀ :: hs)) Q E s₁) : RBi c (m + 1) (.ref f) ds d := fun {A P s E Q vs} F r k => by
  have hv : vs.length = names.length := r.len.trans hlen
  have kin := F.sx.k _ _ ho
  refine wpAny_call (codeAny_call_cells (fd := fd) (binds := names.zip vs) (by have := F.depth; show A.depth < 1000; omega) (F.sx.here _ _ kin) hd F.sx.limit ?_ hb (hbind vs hv) hcl ?_ (fun s₁ X => ?_) hco hgen hk)
  · obtain ⟨c', o', vs', t, h1, h2, h3, h4⟩ := hcr _ F.sx.k
    exact ⟨c', o', vs', t, h1, F.sx.here _ _ h2, h3, h4⟩
  · intro x hx
    have hx' : x.1 ∈ names := (List.of_mem_zip hx).1
    rcases hn _ hx' with q | q
    · exact .inl (by rw [hT]; exact q)
    · exact .inr ⟨by rw [hT]; exact q, cellsFrom_some _ _ _ (by rw [hT]; exact mem_of_lookup q)⟩
  · obtain ⟨O, F₁, W₁⟩ := call_start F hT hk hg hbn hnd hv hn hC r X
    obtain ⟨h', tk, e1, e2⟩ := X.done
    obtain ⟨l, hl, hfr₀⟩ := F.frs
    have hl2 : (A.deeper (callEnvC fd s.heap.objs.size f)).frames = some (callEnvC fd s.heap.objs.size f :: l) := by show A.frames.map _ = _; rw [hl]; rfl
    refine wpAny_execs_cons (wpAny_Try_except (wpAny_execs_cons (wpAny_Return_some (he F₁ fun v s' fl => cat_start F₁ W₁ fl hl2 rfl fun a t tk B mm s₂ ea X₂ => ?_))))
    subst ea
    refine hcat F₁ W₁ X₂ fun v s₃ kb rv => ?_
    refine k _ _ ⟨fun b o n q => ?_, fun b o q => ?_, fun b o n q => ?_, ?_, ?_⟩ rv
    · exact kb.keep b o ⟨o, q⟩ n (X.toInCall.keep b o q)
    · exact kb.priv b o ⟨o, q⟩ (X.toInCall.keep b o q)
    · exact kb.rest b o ⟨o, q⟩ n (X.toInCall.keep b o q)
    · rw [kb.gens, e1]
    · rw [kb.os, e1]
end
end Mine
namespace Mine

section
variable {c : Cx} {m : Nat}
theorem ROp2.eqS {a b : Str} : ROp2 c m (compareOp .Eq) (.str a) (.str b) (.bool (decide (a = b))) := fun F r1 r2 k => by
  obtain ⟨t, rfl⟩ := r1.str_inv; obtain ⟨u, rfl⟩ := r2.str_inv
  refine PySem.P.eq_str (k _ _ (.refl _ _) ?_)
  have e : (a.cps.toList == b.cps.toList) = decide (a = b) := by
    rw [Bool.eq_iff_iff]; simp only [beq_iff_eq, decide_eq_true_eq]
    constructor
    · intro h; cases a; cases b; simp only [Str.mk.injEq]; exact Array.toList_inj.mp h
    · rintro rfl; rfl
  rw [e]; exact .bool _
theorem ROp2.neS {a b : Str} : ROp2 c m (compareOp .NotEq) (.str a) (.str b) (.bool (!decide (a = b))) := fun F r1 r2 k => by
  obtain ⟨t, rfl⟩ := r1.str_inv; obtain ⟨u, rfl⟩ := r2.str_inv
  refine PySem.P.ne_str (k _ _ (.refl _ _) ?_)
  have e : (a.cps.toList != b.cps.toList) = !decide (a = b) := by
    rw [bne, Bool.not_inj_iff, Bool.eq_iff_iff]; simp only [beq_iff_eq, decide_eq_true_eq]
    constructor
    · intro h; cases a; cases b; simp only [Str.mk.injEq]; exact Array.toList_inj.mp h
    · rintro rfl; rfl
  rw [e]; exact .bool _
theorem ROp2.eqI {a b : Int} : ROp2 c m (compareOp .Eq) (.int a) (.int b) (.bool (decide (a = b))) := fun F r1 r2 k => by
  obtain ⟨t, rfl⟩ := r1.int_inv; obtain ⟨u, rfl⟩ := r2.int_inv
  exact PyProof.Rows.eq_int (k _ _ (.refl _ _) (.bool _))
theorem ROp2.neI {a b : Int} : ROp2 c m (compareOp .NotEq) (.int a) (.int b) (.bool (!decide (a = b))) := fun F r1 r2 k => by
  obtain ⟨t, rfl⟩ := r1.int_inv; obtain ⟨u, rfl⟩ := r2.int_inv
  exact PyProof.Rows.ne_int (k _ _ (.refl _ _) (.bool _))

end
section
variable {c : Cx} {m : Nat} {T : Tab} {C : List Str} {ρ ρ' : Vars} {ω : Ow}
theorem RX1.assignC {x : Str} {np pos : Pos} {e : PySem.Expr} {d : PyData} (h : REv c m T ρ e d) (hk : T.lookup x = some .local ∨ x ∈ C) (hs : ∀ p ∈ ρ', p ∈ ρ) (hx : ∀ p ∈ ρ', p.1 ≠ x) (ho : ∀ y ds, ω = some (y, ds) → y ≠ x)
    (hsw : ∀ env : Env, env.scope.kind = .function → env.scope.names = T → swapsWith e (some (.Name x np)) pos.line env = pure false) : RX1 c m T C ρ ω (.Assign [.Name x np] e pos) (.next ((x, d) :: ρ') ω) := fun {A n₀ P₀ env s E Q} ⟨O, F, W⟩ k _ =>
  wpAny_Assign_Name (h F fun v s₁ e₁ r₁ => store_wp (F.ext e₁) (W.ext e₁) hk r₁ hs hx ho fun s₂ k₂ _ _ F₂ W₂ => k _ _ ((e₁.kb W.above).trans k₂) ⟨O, F₂, W₂⟩) (hsw _ F.kind F.tab)
end
end Mine
namespace Mine

structure Ev (c : Cx) (m : Nat) (T : Tab) (ρ : Vars) (e : PySem.Expr) (d : PyData) : Prop where
  raw : REv c m T ρ e d

structure Ts (c : Cx) (m : Nat) (T : Tab) (ρ : Vars) (e : PySem.Expr) (b : Bool) : Prop where
  raw : RTs c m T ρ e b

structure Op2 (c : Cx) (m : Nat) (f : Value → Value → Sem Value) (a b d : PyData) : Prop where
  raw : ROp2 c m f a b d

structure Tr (c : Cx) (m : Nat) (a : PyData) (b : Bool) : Prop where
  raw : RTr c m a b

structure EvL (c : Cx) (m : Nat) (T : Tab) (ρ : Vars) (es : List PySem.Expr) (ds : List PyData) : Prop where
  raw : REvL c m T ρ es ds

structure Bi (c : Cx) (m : Nat) (f : Value) (ds : List PyData) (d : PyData) : Prop where
  raw : RBi c m f ds d

structure TsA (c : Cx) (m : Nat) (T : Tab) (ρ : Vars) (op : PySem.BoolOp) (es : List PySem.Expr) (b : Bool) : Prop where
  raw : RTsA c m T ρ op es b

structure EvP (c : Cx) (m : Nat) (T : Tab) (ρ : Vars) (e : Option PySem.Expr) (p : Option Int) : Prop where
  raw : REvP c m T ρ e p

structure Ex (c : Cx) (m : Nat) (T : Tab) (C : List Str) (ρ : Vars) (ω : Ow) (ss : List PySem.Stmt) (out : Out) : Prop where
  raw : REx c m T C ρ ω ss out

structure X1 (c : Cx) (m : Nat) (T : Tab) (C : List Str) (ρ : Vars) (ω : Ow) (st : PySem.Stmt) (out : Out) : Prop where
  raw : RX1 c m T C ρ ω st out

structure Its (c : Cx) (m : Nat) (T : Tab) (ρ : Vars) (e : PySem.Expr) (ds : List PyData) : Prop where
  raw : RIts c m T ρ e ds

structure Bd (c : Cx) (m : Nat) (T : Tab) (C : List Str) (target : PySem.Expr) (d : PyData) (β : Vars) : Prop where
  raw : RBd c m T C target d β

structure TsI (c : Cx) (m : Nat) (T : Tab) (ρ : Vars) (ifs : List PySem.Expr) (b : Bool) : Prop where
  raw : RTsI c m T ρ ifs b

structure It (c : Cx) (m : Nat) (T : Tab) (C : List Str) (elt : PySem.Expr) (gens : List Comprehension) (sc : Scope) (pos : Pos) (k : Nat) (target : PySem.Expr) (ifs : List PySem.Expr) (ρ : Vars) (d : PyData) (out : List PyData) : Prop where
  raw : RIt c m T C elt gens sc pos k target ifs ρ d out

structure CL (c : Cx) (m : Nat) (T : Tab) (C : List Str) (elt : PySem.Expr) (gens : List Comprehension) (sc : Scope) (pos : Pos) (k : Nat) (ρ : Vars) (ds out : List PyData) : Prop where
  raw : RCL c m T C elt gens sc pos k ρ ds out

structure BiX (c : Cx) (m : Nat) (f : Value) (ds : List PyData) (K : Addr) (x : Str) : Prop where
  raw : RBiX c m f ds K x

structure EvX (c : Cx) (m : Nat) (T : Tab) (ρ : Vars) (e : PySem.Expr) (K : Addr) (x : Str) : Prop where
  raw : REvX c m T ρ e K x

/-- a call of the text's own def -/
def Fn (c : Cx) (m : Nat) (x : Str) (ds : List PyData) (d : PyData) : Prop :=
  ∃ f o fd, c.mg x = some (.ref f) ∧ c.K.lookup f = some o ∧ o.data = .func fd ∧ Bi c m (.ref f) ds d
theorem Fn.raw {c : Cx} {m : Nat} {x : Str} {ds : List PyData} {d : PyData} (h : Fn c m x ds d) : RFn c m x ds d := by
  obtain ⟨f, o, fd, a, b, e, h⟩ := h; exact ⟨f, o, fd, a, b, e, h.raw⟩
theorem Fn.le {c : Cx} {m m' : Nat} {x : Str} {ds : List PyData} {d : PyData} (h : Fn c m x ds d) (q : m ≤ m') : Fn c m' x ds d := by
  obtain ⟨f, o, fd, a, b, e, h⟩ := h; exact ⟨f, o, fd, a, b, e, ⟨RBi.le h.raw q⟩⟩

section
variable {c : Cx} {m : Nat} {T : Tab} {ρ ρ' : Vars}
theorem Ev.sub {e : PySem.Expr} {d : PyData} (h : Ev c m T ρ' e d) (q : ∀ p ∈ ρ', p ∈ ρ) : Ev c m T ρ e d :=
  ⟨REv.sub (h := h.raw) (q := q)⟩

theorem Ts.sub {e : PySem.Expr} {d : Bool} (h : Ts c m T ρ' e d) (q : ∀ p ∈ ρ', p ∈ ρ) : Ts c m T ρ e d :=
  ⟨RTs.sub (h := h.raw) (q := q)⟩

theorem Ev.name {x : Str} {pos : Pos} {d : PyData} (h : (x, d) ∈ ρ) (hd : (x == ("__debug__" : Str)) = false := by decide) (hc : (x == ("__classdict__" : Str)) = false := by decide) : Ev c m T ρ (.Name x pos) d :=
  ⟨REv.name (h := h) (hd := hd) (hc := hc)⟩

theorem Ev.int {i : Int} {k pos} : Ev c m T ρ (.Constant (.int i) k pos) (.int i) :=
  ⟨REv.int ⟩

theorem Ev.str {x : Str} {k pos} : Ev c m T ρ (.Constant (.str x) k pos) (.str x) :=
  ⟨REv.str ⟩

theorem Ev.bool {b : Bool} {k pos} : Ev c m T ρ (.Constant (.bool b) k pos) (.bool b) :=
  ⟨REv.bool ⟩

theorem Ev.noneE {k pos} : Ev c m T ρ (.Constant .none k pos) .none :=
  ⟨REv.noneE ⟩

theorem Ev.bin {l r : PySem.Expr} {op : Operator} {pos : Pos} {a b d : PyData} (h1 : Ev c m T ρ l a) (h2 : Ev c m T ρ r b) (h : Op2 c m (binaryOp op) a b d) : Ev c m T ρ (.BinOp l op r pos) d :=
  ⟨REv.bin (h1 := h1.raw) (h2 := h2.raw) (h := h.raw)⟩

theorem Ev.cmp {l r : PySem.Expr} {op : CmpOp} {pos : Pos} {a b d : PyData} (h1 : Ev c m T ρ l a) (h2 : Ev c m T ρ r b) (h : Op2 c m (compareOp op) a b d) (hm : behindInMarks op r = false := by with_unfolding_all rfl) : Ev c m T ρ (.Compare l [op] [r] pos) d :=
  ⟨REv.cmp (h1 := h1.raw) (h2 := h2.raw) (h := h.raw) (hm := hm)⟩

theorem Ts.cmp {l r : PySem.Expr} {op : CmpOp} {pos : Pos} {a b : PyData} {d : Bool} (h1 : Ev c m T ρ l a) (h2 : Ev c m T ρ r b) (h : Op2 c m (compareOp op) a b (.bool d)) (hm : behindInMarks op r = false := by with_unfolding_all rfl) : Ts c m T ρ (.Compare l [op] [r] pos) d :=
  ⟨RTs.cmp (h1 := h1.raw) (h2 := h2.raw) (h := h.raw) (hm := hm)⟩

theorem Ts.val {e : PySem.Expr} {a : PyData} {b : Bool} (h : Ev c m T ρ e a) (t : Tr c m a b) (hs : ∀ env : Env, isTrue e env (eval e env) = (eval e env >>= fun v => standAt e.pos >>= fun _ => holding [v] (truthy v)) := by intro _; rfl) : Ts c m T ρ e b :=
  ⟨RTs.val (h := h.raw) (t := t.raw) (hs := hs)⟩

theorem Ts.not {e : PySem.Expr} {pos : Pos} {b : Bool} (h : Ts c m T ρ e b) : Ts c m T ρ (.UnaryOp .Not e pos) (!b) :=
  ⟨RTs.not (h := h.raw)⟩

theorem Ev.not {e : PySem.Expr} {pos : Pos} {a : PyData} {b : Bool} (h : Ev c m T ρ e a) (t : Tr c m a b) : Ev c m T ρ (.UnaryOp .Not e pos) (.bool (!b)) :=
  ⟨REv.not (h := h.raw) (t := t.raw)⟩

theorem Ev.ite {t x y : PySem.Expr} {pos : Pos} {b : Bool} {d : PyData} (h : Ts c m T ρ t b) (h1 : b = true → Ev c m T ρ x d) (h2 : b = false → Ev c m T ρ y d) : Ev c m T ρ (.IfExp t x y pos) d :=
  ⟨REv.ite (h := h.raw) (h1 := (fun x0 => (h1 x0).raw)) (h2 := (fun x0 => (h2 x0).raw))⟩

theorem Tr.bool {b : Bool} : Tr c m (.bool b) b :=
  ⟨RTr.bool ⟩

theorem Tr.noneT : Tr c m .none false :=
  ⟨RTr.noneT ⟩

theorem Tr.int {i : Int} : Tr c m (.int i) (i != 0) :=
  ⟨RTr.int ⟩

theorem Tr.str {x : Str} (hx : x.length < 2 ^ 62) : Tr c m (.str x) ((x.length : Int) != 0) :=
  ⟨RTr.str (hx := hx)⟩

end
section
variable {c : Cx} {m : Nat}
theorem Op2.add {a b : Int} : Op2 c m (binaryOp .Add) (.int a) (.int b) (.int (a + b)) :=
  ⟨ROp2.add ⟩

theorem Op2.sub {a b : Int} : Op2 c m (binaryOp .Sub) (.int a) (.int b) (.int (a - b)) :=
  ⟨ROp2.sub ⟩

theorem Op2.mul {a b : Int} (h : IntMulOk a b) : Op2 c m (binaryOp .Mult) (.int a) (.int b) (.int (a * b)) :=
  ⟨ROp2.mul (h := h)⟩

theorem Op2.div {a b : Int} (h : b ≠ 0) (hb : Builtin.divisionGoesByPylong a b = false) : Op2 c m (binaryOp .FloorDiv) (.int a) (.int b) (.int (a.fdiv b)) :=
  ⟨ROp2.div (h := h) (hb := hb)⟩

theorem Op2.mod {a b : Int} (h : b ≠ 0) : Op2 c m (binaryOp .Mod) (.int a) (.int b) (.int (a.fmod b)) :=
  ⟨ROp2.mod (h := h)⟩

theorem Op2.and {a b : Int} : Op2 c m (binaryOp .BitAnd) (.int a) (.int b) (.int (Builtin.bitAnd a b)) :=
  ⟨ROp2.and ⟩

theorem Op2.or {a b : Int} : Op2 c m (binaryOp .BitOr) (.int a) (.int b) (.int (Builtin.bitOr a b)) :=
  ⟨ROp2.or ⟩

theorem Op2.pow {a n : Int} (h0 : 0 ≤ n) (h1 : (Builtin.Int.intBits a : Int) * n ≤ 2 ^ 27) : Op2 c m (binaryOp .Pow) (.int a) (.int n) (.int (a ^ n.toNat)) :=
  ⟨ROp2.pow (h0 := h0) (h1 := h1)⟩

theorem Op2.lt {a b : Int} : Op2 c m (compareOp .Lt) (.int a) (.int b) (.bool (decide (a < b))) :=
  ⟨ROp2.lt ⟩

theorem Op2.le {a b : Int} : Op2 c m (compareOp .LtE) (.int a) (.int b) (.bool (decide (a ≤ b))) :=
  ⟨ROp2.le ⟩

theorem Op2.gt {a b : Int} : Op2 c m (compareOp .Gt) (.int a) (.int b) (.bool (decide (b < a))) :=
  ⟨ROp2.gt ⟩

theorem Op2.ge {a b : Int} : Op2 c m (compareOp .GtE) (.int a) (.int b) (.bool (decide (b ≤ a))) :=
  ⟨ROp2.ge ⟩

theorem Op2.eq {a b : PyData} (ha : SeqAt.shaped a = true) (hb : SeqAt.shaped b = true) : Op2 c m (compareOp .Eq) a b (.bool (PyData.eqv a b)) :=
  ⟨ROp2.eq (ha := ha) (hb := hb)⟩

theorem Op2.ne {a b : PyData} (ha : SeqAt.shaped a = true) (hb : SeqAt.shaped b = true) : Op2 c m (compareOp .NotEq) a b (.bool (!PyData.eqv a b)) :=
  ⟨ROp2.ne (ha := ha) (hb := hb)⟩

theorem Op2.inList {x : PyData} {xs : List PyData} (ha : SeqAt.shaped (.list xs) = true) (hb : SeqAt.shaped x = true) : Op2 c m (compareOp .In) x (.list xs) (.bool (xs.any fun y => PyData.eqv y x)) :=
  ⟨ROp2.inList (ha := ha) (hb := hb)⟩

theorem Op2.inTuple {x : PyData} {xs : List PyData} (ha : SeqAt.shaped (.tuple xs) = true) (hb : SeqAt.shaped x = true) : Op2 c m (compareOp .In) x (.tuple xs) (.bool (xs.any fun y => PyData.eqv y x)) :=
  ⟨ROp2.inTuple (ha := ha) (hb := hb)⟩

theorem Op2.addStr {x y : Str} (h : x.length + y.length ≤ sizeLine) : Op2 c m (binaryOp .Add) (.str x) (.str y) (.str (x ++ y)) :=
  ⟨ROp2.addStr (h := h)⟩

theorem Op2.mulStr {x : Str} {n : Int} (h : MulOk x n) : Op2 c m (binaryOp .Mult) (.str x) (.int n) (.str (Txt.mul x n)) :=
  ⟨ROp2.mulStr (h := h)⟩

theorem Op2.addList {xs ys : List PyData} (hsz : xs.length + ys.length ≤ sizeLine) : Op2 c m (binaryOp .Add) (.list xs) (.list ys) (.list (xs ++ ys)) :=
  ⟨ROp2.addList (hsz := hsz)⟩

end
section
variable {c : Cx} {m m' : Nat} {T : Tab} {ρ ρ' : Vars}
theorem Bi.le {f : Value} {ds : List PyData} {d : PyData} (h : Bi c m f ds d) (q : m ≤ m') : Bi c m' f ds d :=
  ⟨RBi.le (h := h.raw) (q := q)⟩

theorem EvL.nil : EvL c m T ρ [] [] :=
  ⟨REvL.nil ⟩

theorem EvL.cons {e : PySem.Expr} {es : List PySem.Expr} {d : PyData} {ds : List PyData} (h : Ev c m T ρ e d) (hs : EvL c m T ρ es ds) (he : ∀ env : Env, starEach (e :: es) env = (false, eval e env) :: starEach es env := by intro _; rfl) : EvL c m T ρ (e :: es) (d :: ds) :=
  ⟨REvL.cons (h := h.raw) (hs := hs.raw) (he := he)⟩

theorem Ev.list {es : List PySem.Expr} {ds : List PyData} {pos : Pos} (h : EvL c m T ρ es ds) (hl : es.length ≤ 1000 := by exact Nat.le_of_ble_eq_true rfl) (hd : es.length = ds.length := by exact rfl) : Ev c m T ρ (.List es pos) (.list ds) :=
  ⟨REv.list (h := h.raw) (hl := hl) (hd := hd)⟩

theorem Ev.tuple {es : List PySem.Expr} {ds : List PyData} {k : Nat} {pos : Pos} (h : EvL c m T ρ es ds) (hl : es.length ≤ 1000 := by exact Nat.le_of_ble_eq_true rfl) (hd : es.length = ds.length := by exact rfl) : Ev c m T ρ (.Tuple es k pos) (.tuple ds) :=
  ⟨REv.tuple (h := h.raw) (hl := hl) (hd := hd)⟩

theorem Ev.call {x : Str} {p pos : Pos} {e : PySem.Expr} {es : List PySem.Expr} {ds : List PyData} {d : PyData} (h : EvL c m T ρ (e :: es) ds) (hf : Fn c m x ds d) (hx : T.lookup x = some .globalImplicit := by kernel_rfl) (hd : (x == ("__debug__" : Str)) = false := by decide) (he : ∀ env : Env, starEach (e :: es) env = (false, eval e env) :: starEach es env := by intro _; rfl) : Ev c m T ρ (.Call (.Name x p) (e :: es) [] pos) d :=
  ⟨REv.call (h := h.raw) (hf := hf.raw) (hx := hx) (hd := hd) (he := he)⟩

theorem Ev.callB {x : Str} {id : String} {p pos : Pos} {e : PySem.Expr} {es : List PySem.Expr} {ds : List PyData} {d : PyData} (h : EvL c m T ρ (e :: es) ds) (hn : c.mg x = Option.none) (hv : c.mb x = some (.builtin id)) (hf : Bi c m (.builtin id) ds d) (hx : T.lookup x = some .globalImplicit := by kernel_rfl) (hd : (x == ("__debug__" : Str)) = false := by decide) (he : ∀ env : Env, starEach (e :: es) env = (false, eval e env) :: starEach es env := by intro _; rfl) (hp : ∀ env : Env, (backTo pos (starEach es env)).any (·.1) = false := by intro _; rfl) : Ev c m T ρ (.Call (.Name x p) (e :: es) [] pos) d :=
  ⟨REv.callB (h := h.raw) (hn := hn) (hv := hv) (hf := hf.raw) (hx := hx) (hd := hd) (he := he) (hp := hp)⟩

theorem Ev.callT {x : Str} {id : String} {p pos : Pos} {e : PySem.Expr} {es : List PySem.Expr} {ds : List PyData} {d : PyData} (h : EvL c m T ρ (e :: es) ds) (hn : c.mg x = Option.none) (hv : c.mb x = some (.type id)) (hf : Bi c m (.type id) ds d) (hx : T.lookup x = some .globalImplicit := by kernel_rfl) (hd : (x == ("__debug__" : Str)) = false := by decide) (he : ∀ env : Env, starEach (e :: es) env = (false, eval e env) :: starEach es env := by intro _; rfl) (hp : ∀ env : Env, (backTo pos (starEach es env)).any (·.1) = false := by intro _; rfl) : Ev c m T ρ (.Call (.Name x p) (e :: es) [] pos) d :=
  ⟨REv.callT (h := h.raw) (hn := hn) (hv := hv) (hf := hf.raw) (hx := hx) (hd := hd) (he := he) (hp := hp)⟩

theorem Bi.abs {a : Int} : Bi c m (.builtin "abs") [.int a] (.int (if a < 0 then -a else a)) :=
  ⟨RBi.abs ⟩

theorem Bi.max {a b : Int} : Bi c m (.builtin "max") [.int a, .int b] (.int (if b > a then b else a)) :=
  ⟨RBi.max ⟩

theorem Bi.min {a b : Int} : Bi c m (.builtin "min") [.int a, .int b] (.int (if b < a then b else a)) :=
  ⟨RBi.min ⟩

theorem Bi.lenStr {x : Str} (hx : x.length < 2 ^ 62) : Bi c m (.builtin "len") [.str x] (.int x.length) :=
  ⟨RBi.lenStr (hx := hx)⟩

theorem Bi.lenList {xs : List PyData} (hx : xs.length < 2 ^ 62) : Bi c m (.builtin "len") [.list xs] (.int xs.length) :=
  ⟨RBi.lenList (hx := hx)⟩

theorem Bi.sum {ns : List Int} : Bi c m (.builtin "sum") [.list (ns.map .int)] (.int ns.sum) :=
  ⟨RBi.sum ⟩

theorem Bi.strInt {a : Int} (h : a.natAbs.log2 < 1920) : Bi c m (.type "str") [.int a] (.str (toString a)) :=
  ⟨RBi.strInt (h := h)⟩

theorem Bi.intStr {x : Str} {n : Int} (hn : PySem.intText? x = some n) (hl : x.length ≤ 640) : Bi c m (.type "int") [.str x] (.int n) :=
  ⟨RBi.intStr (hn := hn) (hl := hl)⟩

end
section
variable {c : Cx} {m : Nat} {T : Tab} {ρ ρ' : Vars}
theorem TsA.nilA : TsA c m T ρ .And [] true :=
  ⟨RTsA.nilA ⟩

theorem TsA.nilO : TsA c m T ρ .Or [] false :=
  ⟨RTsA.nilO ⟩

theorem TsA.and {e : PySem.Expr} {es : List PySem.Expr} {a b : Bool} (h : Ts c m T ρ e a) (hs : a = true → TsA c m T ρ .And es b) : TsA c m T ρ .And (e :: es) (a && b) :=
  ⟨RTsA.and (h := h.raw) (hs := (fun x0 => (hs x0).raw))⟩

theorem TsA.or {e : PySem.Expr} {es : List PySem.Expr} {a b : Bool} (h : Ts c m T ρ e a) (hs : a = false → TsA c m T ρ .Or es b) : TsA c m T ρ .Or (e :: es) (a || b) :=
  ⟨RTsA.or (h := h.raw) (hs := (fun x0 => (hs x0).raw))⟩

theorem Ts.bool {op : PySem.BoolOp} {es : List PySem.Expr} {pos : Pos} {b : Bool} (h : TsA c m T ρ op es b) : Ts c m T ρ (.BoolOp op es pos) b :=
  ⟨RTs.bool (h := h.raw)⟩

theorem Ts.ite {t x y : PySem.Expr} {pos : Pos} {b d : Bool} (h : Ts c m T ρ t b) (h1 : b = true → Ts c m T ρ x d) (h2 : b = false → Ts c m T ρ y d) : Ts c m T ρ (.IfExp t x y pos) d :=
  ⟨RTs.ite (h := h.raw) (h1 := (fun x0 => (h1 x0).raw)) (h2 := (fun x0 => (h2 x0).raw))⟩

theorem Ev.or2 {x y : PySem.Expr} {pos : Pos} {a d : PyData} {b : Bool} (h : Ev c m T ρ x a) (t : Tr c m a b) (h1 : b = true → d = a) (h2 : b = false → Ev c m T ρ y d) : Ev c m T ρ (.BoolOp .Or [x, y] pos) d :=
  ⟨REv.or2 (h := h.raw) (t := t.raw) (h1 := h1) (h2 := (fun x0 => (h2 x0).raw))⟩

theorem Ev.item {value slice : PySem.Expr} {pos : Pos} {o i d : PyData} (h1 : Ev c m T ρ value o) (h2 : Ev c m T ρ slice i) (h : ∀ {A : Around} {P : List Addr} {s : Shared} {E : Value → Shared → Prop} {Q : Value → Shared → Prop} {v u : Value}, Go c m A P s → Rd s.heap P v o → Rd s.heap P u i → (∀ r s', Ext P s s' → Rd s'.heap P r d → Q r s') → wpAny (model c.prog c.w) A (subscriptTail value slice v u) Q E s) : Ev c m T ρ (.Subscript value slice pos) d :=
  ⟨REv.item (h1 := h1.raw) (h2 := h2.raw) (h := h)⟩

theorem Ev.itemL {value slice : PySem.Expr} {pos : Pos} {xs : List PyData} {i : Int} {d : PyData} {j : Nat} (h1 : Ev c m T ρ value (.list xs)) (h2 : Ev c m T ρ slice (.int i)) (hj : seqIndex? i xs.length = some j) (hd : xs[j]? = some d) (hl : xs.length < 2 ^ 62) (hs : ∀ o i, subscripted slice false o i = operate [o, i] (getItem o i) := by intro _ _; rfl) : Ev c m T ρ (.Subscript value slice pos) d :=
  ⟨REv.itemL (h1 := h1.raw) (h2 := h2.raw) (hj := hj) (hd := hd) (hl := hl) (hs := hs)⟩

theorem Ev.itemT {value slice : PySem.Expr} {pos : Pos} {xs : List PyData} {i : Int} {d : PyData} {j : Nat} (h1 : Ev c m T ρ value (.tuple xs)) (h2 : Ev c m T ρ slice (.int i)) (hj : seqIndex? i xs.length = some j) (hd : xs[j]? = some d) (h0 : 0 ≤ i) (hl : i < 2 ^ 62) (hs : ∀ o i, subscripted slice false o i = operate [o, i] (getItem o i) := by intro _ _; rfl) : Ev c m T ρ (.Subscript value slice pos) d :=
  ⟨REv.itemT (h1 := h1.raw) (h2 := h2.raw) (hj := hj) (hd := hd) (h0 := h0) (hl := hl) (hs := hs)⟩

theorem Ev.itemS {value slice : PySem.Expr} {pos : Pos} {x : Str} {i : Int} {n : Nat} (h1 : Ev c m T ρ value (.str x)) (h2 : Ev c m T ρ slice (.int i)) (hj : ((seqIndex? i x.length).bind fun j => x.cps[j]?) = some n) (h0 : -(2 ^ 62) ≤ i) (hl : i < 2 ^ 62) (hs : ∀ o i, subscripted slice false o i = operate [o, i] (getItem o i) := by intro _ _; rfl) : Ev c m T ρ (.Subscript value slice pos) (.str ⟨#[n]⟩) :=
  ⟨REv.itemS (h1 := h1.raw) (h2 := h2.raw) (hj := hj) (h0 := h0) (hl := hl) (hs := hs)⟩

theorem EvP.no : EvP c m T ρ none none :=
  ⟨REvP.no ⟩

theorem EvP.at {e : PySem.Expr} {i : Int} (h : Ev c m T ρ e (.int i)) : EvP c m T ρ (some e) (some i) :=
  ⟨REvP.at (h := h.raw)⟩

theorem EvP.nil {e : PySem.Expr} (h : Ev c m T ρ e .none) : EvP c m T ρ (some e) none :=
  ⟨REvP.nil (h := h.raw)⟩

theorem Ev.sliceS {value : PySem.Expr} {lower upper : Option PySem.Expr} {p pos : Pos} {x : Str} {l u : Option Int} (h : Ev c m T ρ value (.str x)) (hl : EvP c m T ρ lower l) (hu : EvP c m T ρ upper u) (hx : x.length ≤ sizeLine) (ht : ∀ o r, letTemporaryGo value o r = pure () := by intro _ _; rfl) : Ev c m T ρ (.Subscript value (.Slice lower upper none p) pos) (.str (Txt.slice x l u)) :=
  ⟨REv.sliceS (h := h.raw) (hl := hl.raw) (hu := hu.raw) (hx := hx) (ht := ht)⟩

theorem Ev.sliceL {value : PySem.Expr} {lower upper : Option PySem.Expr} {p pos : Pos} {xs : List PyData} {l u : Option Int} (h : Ev c m T ρ value (.list xs)) (hl : EvP c m T ρ lower l) (hu : EvP c m T ρ upper u) (hx : xs.length ≤ sizeLine) (ht : ∀ o r, letTemporaryGo value o r = pure () := by intro _ _; rfl) : Ev c m T ρ (.Subscript value (.Slice lower upper none p) pos) (.list (pickL xs l u none)) :=
  ⟨REv.sliceL (h := h.raw) (hl := hl.raw) (hu := hu.raw) (hx := hx) (ht := ht)⟩

theorem Ev.sliceLS {value st : PySem.Expr} {lower upper : Option PySem.Expr} {p pos : Pos} {xs : List PyData} {l u : Option Int} {k : Int} (h : Ev c m T ρ value (.list xs)) (hl : EvP c m T ρ lower l) (hu : EvP c m T ρ upper u) (hst : Ev c m T ρ st (.int k)) (hk : k ≠ 0) (hx : xs.length ≤ sizeLine) (ht : ∀ o r, letTemporaryGo value o r = pure () := by intro _ _; rfl) : Ev c m T ρ (.Subscript value (.Slice lower upper (some st) p) pos) (.list (pickL xs l u (some k))) :=
  ⟨REv.sliceLS (h := h.raw) (hl := hl.raw) (hu := hu.raw) (hst := hst.raw) (hk := hk) (hx := hx) (ht := ht)⟩

end
section
variable {c : Cx} {m : Nat} {T : Tab} {ρ ρ' : Vars}
theorem Ev.meth0 {o : PySem.Expr} {name : Str} {id : String} {apos pos : Pos} {x : Str} {d : PyData} (h : Ev c m T ρ o (.str x)) (slot : Slot "str" name id) (ty : typeOf (.builtin id) = pure (.type "method_descriptor")) (hf : Bi c m (.builtin id) [.str x] d) (hp : (apos.endLine == pos.line) = true := by exact rfl) (ha : ∀ env : Env, attributeBase o name env (eval o env) = eval o env := by intro _; rfl) : Ev c m T ρ (.Call (.Attribute o name apos) [] [] pos) d :=
  ⟨REv.meth0 (h := h.raw) (slot := slot) (ty := ty) (hf := hf.raw) (hp := hp) (ha := ha)⟩

theorem Ev.meth {o e : PySem.Expr} {es : List PySem.Expr} {name : Str} {id : String} {apos pos : Pos} {x : Str} {ds : List PyData} {d : PyData} (h : Ev c m T ρ o (.str x)) (hs : EvL c m T ρ (e :: es) ds) (slot : Slot "str" name id) (ty : typeOf (.builtin id) = pure (.type "method_descriptor")) (hf : Bi c m (.builtin id) (.str x :: ds) d) (hp : (apos.endLine == pos.line) = true := by exact rfl) (ha : ∀ env : Env, attributeBase o name env (eval o env) = eval o env := by intro _; rfl) (he : ∀ env : Env, starEach (e :: es) env = (false, eval e env) :: starEach es env := by intro _; rfl) (hpl : ∀ env : Env, (backTo pos (starEach es env)).any (·.1) = false := by intro _; rfl) (hform : ∀ env : Env, ((((backTo pos (starEach (e :: es) env)).all fun x => !x.fst) && (backToKw pos (keywordEach [] env)).all fun x => x.fst.isSome) && decide (((e :: es).length + ([] : List Keyword).length + if ([] : List Keyword).isEmpty = true then 0 else 1) < 30)) = true := by intro _; rfl) : Ev c m T ρ (.Call (.Attribute o name apos) (e :: es) [] pos) d :=
  ⟨REv.meth (h := h.raw) (hs := hs.raw) (slot := slot) (ty := ty) (hf := hf.raw) (hp := hp) (ha := ha) (he := he) (hpl := hpl) (hform := hform)⟩

theorem Bi.lower {x : Str} (hx : x.length ≤ 5592405) : Bi c m (.builtin "str.lower") [.str x] (.str (Txt.lower x)) :=
  ⟨RBi.lower (hx := hx)⟩

theorem Bi.find {x y : Str} : Bi c m (.builtin "str.find") [.str x, .str y] (.int (Txt.find x y)) :=
  ⟨RBi.find ⟩

theorem Bi.find3 {x y : Str} {i : Int} : Bi c m (.builtin "str.find") [.str x, .str y, .int i] (.int (Txt.find3 x y i)) :=
  ⟨RBi.find3 ⟩

theorem Bi.split {x y : Str} (hy : (y.length == 0) = false) (hx : x.length ≤ sizeLine) (hn : (Builtin.Str.partsBetween x (Builtin.Str.occurrences x y 0 x.length (x.length + 1)) y.length).length ≤ sizeLine) : Bi c m (.builtin "str.split") [.str x, .str y] (.list ((Txt.split x y).map .str)) :=
  ⟨RBi.split (hy := hy) (hx := hx) (hn := hn)⟩

theorem Ev.gint {x : Str} {pos : Pos} {n : Int} {t : Tok} (hv : c.mg x = some (.int n t)) (hx : T.lookup x = some .globalImplicit := by kernel_rfl) (hd : (x == ("__debug__" : Str)) = false := by decide) : Ev c m T ρ (.Name x pos) (.int n) :=
  ⟨REv.gint (hv := hv) (hx := hx) (hd := hd)⟩

theorem Op2.isBool {a b : Bool} : Op2 c m (compareOp .Is) (.bool a) (.bool b) (.bool (a == b)) :=
  ⟨ROp2.isBool ⟩

theorem Ev.isi {x y : Str} {K : String} {p p' pos : Pos} {e : PySem.Expr} {d : PyData} {b : Bool} (h : Ev c m T ρ e d) (hn : c.mg x = Option.none) (hv : c.mb x = some (.builtin "isinstance")) (hn' : c.mg y = Option.none) (hv' : c.mb y = some (.type K)) (hf : ∀ {A : Around} {P : List Addr} {s : Shared} {E : Value → Shared → Prop} {Q : Value → Shared → Prop} {v : Value}, Go c m A P s → Rd s.heap P v d → (∀ s', Ext P s s' → Q (.bool b) s') → wpAny (model c.prog c.w) A (PySem.call (.builtin "isinstance") [v, .type K]) Q E s) (hx : T.lookup x = some .globalImplicit := by kernel_rfl) (hd : (x == ("__debug__" : Str)) = false := by decide) (hx' : T.lookup y = some .globalImplicit := by kernel_rfl) (hd' : (y == ("__debug__" : Str)) = false := by decide) (he : ∀ env : Env, starEach [e, .Name y p'] env = (false, eval e env) :: starEach [.Name y p'] env := by intro _; rfl) : Ev c m T ρ (.Call (.Name x p) [e, .Name y p'] [] pos) (.bool b) :=
  ⟨REv.isi (h := h.raw) (hn := hn) (hv := hv) (hn' := hn') (hv' := hv') (hf := hf) (hx := hx) (hd := hd) (hx' := hx') (hd' := hd') (he := he)⟩

end
section
variable {c : Cx} {m : Nat} {T : Tab} {C : List Str} {ρ ρ' ρ₁ : Vars} {ω ω₁ : Ow} {out : Out}
theorem Ex.sub {ss : List PySem.Stmt} (h : Ex c m T C ρ' ω ss out) (q : ∀ p ∈ ρ', p ∈ ρ) : Ex c m T C ρ ω ss out :=
  ⟨REx.sub (h := h.raw) (q := q)⟩

theorem X1.sub {ss : PySem.Stmt} (h : X1 c m T C ρ' ω ss out) (q : ∀ p ∈ ρ', p ∈ ρ) : X1 c m T C ρ ω ss out :=
  ⟨RX1.sub (h := h.raw) (q := q)⟩

theorem Ex.nil : Ex c m T C ρ ω [] (.next ρ ω) :=
  ⟨REx.nil ⟩

theorem Ex.cons {st : PySem.Stmt} {ss : List PySem.Stmt} (h : X1 c m T C ρ ω st (.next ρ₁ ω₁)) (hs : Ex c m T C ρ₁ ω₁ ss out) : Ex c m T C ρ ω (st :: ss) out :=
  ⟨REx.cons (h := h.raw) (hs := hs.raw)⟩

theorem Ex.stop {st : PySem.Stmt} {ss : List PySem.Stmt} (h : X1 c m T C ρ ω st out) (ho : ∀ ρ ω, out ≠ .next ρ ω) : Ex c m T C ρ ω (st :: ss) out :=
  ⟨REx.stop (h := h.raw) (ho := ho)⟩

theorem X1.ifT {t : PySem.Expr} {b e : List PySem.Stmt} {pos : Pos} (ht : Ts c m T ρ t true) (h : Ex c m T C ρ ω b out) : X1 c m T C ρ ω (.If t b e pos) out :=
  ⟨RX1.ifT (ht := ht.raw) (h := h.raw)⟩

theorem X1.ifF {t : PySem.Expr} {b e : List PySem.Stmt} {pos : Pos} (ht : Ts c m T ρ t false) (h : Ex c m T C ρ ω e out) : X1 c m T C ρ ω (.If t b e pos) out :=
  ⟨RX1.ifF (ht := ht.raw) (h := h.raw)⟩

theorem X1.ite {t : PySem.Expr} {b e : List PySem.Stmt} {pos : Pos} {v : Bool} (ht : Ts c m T ρ t v) (h1 : v = true → Ex c m T C ρ ω b out) (h2 : v = false → Ex c m T C ρ ω e out) : X1 c m T C ρ ω (.If t b e pos) out :=
  ⟨RX1.ite (ht := ht.raw) (h1 := (fun x0 => (h1 x0).raw)) (h2 := (fun x0 => (h2 x0).raw))⟩

theorem X1.ret {e : PySem.Expr} {pos : Pos} {d : PyData} (h : Ev c m T ρ e d) : X1 c m T C ρ ω (.Return (some e) pos) (.ret d) :=
  ⟨RX1.ret (h := h.raw)⟩

theorem X1.brk {pos : Pos} : X1 c m T C ρ ω (.Break pos) (.brk ρ ω) :=
  ⟨RX1.brk ⟩

theorem X1.assign {x : Str} {np pos : Pos} {e : PySem.Expr} {d : PyData} (h : Ev c m T ρ e d) (hk : T.lookup x = some .local ∨ x ∈ C) (hs : ∀ p ∈ ρ', p ∈ ρ) (hx : ∀ p ∈ ρ', p.1 ≠ x) (ho : ∀ y ds, ω = some (y, ds) → y ≠ x) (hsw : ∀ env : Env, swapsWith e (some (.Name x np)) pos.line env = pure false := by intro _; rfl) : X1 c m T C ρ ω (.Assign [.Name x np] e pos) (.next ((x, d) :: ρ') ω) :=
  ⟨RX1.assign (h := h.raw) (hk := hk) (hs := hs) (hx := hx) (ho := ho) (hsw := hsw)⟩

theorem X1.assign2 {x y : Str} {np np' pos : Pos} {e : PySem.Expr} {d : PyData} (h : Ev c m T ρ e d) (hk : T.lookup x = some .local ∨ x ∈ C) (hk' : T.lookup y = some .local ∨ y ∈ C) (hs : ∀ p ∈ ρ', p ∈ ρ) (hx : ∀ p ∈ ρ', p.1 ≠ x) (hx' : ∀ p ∈ ρ', p.1 ≠ y) (hxy : x ≠ y) (ho : ∀ z ds, ω = some (z, ds) → z ≠ x ∧ z ≠ y) (hsw : ∀ env : Env, swapsWithSole [.Name x np, .Name y np'] e pos.line env = pure false := by intro _; rfl) (hst : ∀ env : Env, swappedStores [.Name x np, .Name y np'] e env = pure none := by intro _; rfl) : X1 c m T C ρ ω (.Assign [.Name x np, .Name y np'] e pos) (.next ((y, d) :: (x, d) :: ρ') ω) :=
  ⟨RX1.assign2 (h := h.raw) (hk := hk) (hk' := hk') (hs := hs) (hx := hx) (hx' := hx') (hxy := hxy) (ho := ho) (hsw := hsw) (hst := hst)⟩

end
section
variable {c : Cx} {m : Nat} {T : Tab} {C : List Str} {ρ ρ' : Vars} {ω : Ow} {out : Out}
theorem Bi.ofDef {f : Addr} {o : Obj} {fd : FuncData} {body : List PySem.Stmt} {names : List Str} {ds : List PyData} {d : PyData} (ho : c.K.lookup f = some o) (hd : o.data = .func fd) (hb : fd.body = .stmts body) (hT : fd.scope.names = T) (hk : fd.scope.kind = .function) (hg : fd.globals = mainGlobals) (hbn : fd.builtins = builtinsNs) (hcl : fd.closure = []) (hco : fd.scope.isCoroutine = false) (hgen : fd.scope.isGenerator = false) (hcr : ∀ h : Heap, c.K.In h → h.CodeRec fd.code fd.qualname) (hnd : names.Nodup) (hlen : ds.length = names.length) (hn : ∀ x ∈ names, T.lookup x = some .local ∨ T.lookup x = some .cell) (hC : ∀ x ∈ C, T.lookup x = some .cell) (hbind : ∀ vs : List Value, vs.length = names.length → bindArgs fd ⟨vs, []⟩ = pure (names.zip vs)) (h : Ex c m T C (names.zip ds) none body (.ret d)) : Bi c (m + 1) (.ref f) ds d :=
  ⟨RBi.ofDef (ho := ho) (hd := hd) (hb := hb) (hT := hT) (hk := hk) (hg := hg) (hbn := hbn) (hcl := hcl) (hco := hco) (hgen := hgen) (hcr := hcr) (hnd := hnd) (hlen := hlen) (hn := hn) (hC := hC) (hbind := hbind) (h := h.raw)⟩

theorem X1.augAdd {x : Str} {np pos : Pos} {e : PySem.Expr} {a b : Int} (ha : (x, PyData.int a) ∈ ρ) (h : Ev c m T ρ e (.int b)) (hk : T.lookup x = some .local ∨ x ∈ C) (hs : ∀ p ∈ ρ', p ∈ ρ) (hx : ∀ p ∈ ρ', p.1 ≠ x) (ho : ∀ y ds, ω = some (y, ds) → y ≠ x) (hc : (x == ("__classdict__" : Str)) = false := by decide) : X1 c m T C ρ ω (.AugAssign (.Name x np) .Add e pos) (.next ((x, .int (a + b)) :: ρ') ω) :=
  ⟨RX1.augAdd (ha := ha) (h := h.raw) (hk := hk) (hs := hs) (hx := hx) (ho := ho) (hc := hc)⟩

theorem X1.augSub {x : Str} {np pos : Pos} {e : PySem.Expr} {a b : Int} (ha : (x, PyData.int a) ∈ ρ) (h : Ev c m T ρ e (.int b)) (hk : T.lookup x = some .local ∨ x ∈ C) (hs : ∀ p ∈ ρ', p ∈ ρ) (hx : ∀ p ∈ ρ', p.1 ≠ x) (ho : ∀ y ds, ω = some (y, ds) → y ≠ x) (hc : (x == ("__classdict__" : Str)) = false := by decide) : X1 c m T C ρ ω (.AugAssign (.Name x np) .Sub e pos) (.next ((x, .int (a - b)) :: ρ') ω) :=
  ⟨RX1.augSub (ha := ha) (h := h.raw) (hk := hk) (hs := hs) (hx := hx) (ho := ho) (hc := hc)⟩

end
section
variable {c : Cx} {m : Nat} {T : Tab} {ρ ρ' : Vars}
theorem Its.sub {e : PySem.Expr} {ds : List PyData} (h : Its c m T ρ' e ds) (q : ∀ p ∈ ρ', p ∈ ρ) : Its c m T ρ e ds :=
  ⟨RIts.sub (h := h.raw) (q := q)⟩

theorem Its.list {e : PySem.Expr} {ds : List PyData} (h : Ev c m T ρ e (.list ds)) : Its c m T ρ e ds :=
  ⟨RIts.list (h := h.raw)⟩

end
section
variable {c : Cx} {m : Nat} {T : Tab} {C : List Str}
theorem Bd.name {x : Str} {p : Pos} {d : PyData} (hk : T.lookup x = some .local ∨ x ∈ C) : Bd c m T C (.Name x p) d [(x, d)] :=
  ⟨RBd.name (hk := hk)⟩

theorem Bd.pair {x y : Str} {p q pos : Pos} {n : Nat} {a b : PyData} (hk : T.lookup x = some .local ∨ x ∈ C) (hk' : T.lookup y = some .local ∨ y ∈ C) (hxy : x ≠ y) : Bd c m T C (.Tuple [.Name x p, .Name y q] n pos) (.tuple [a, b]) [(y, b), (x, a)] :=
  ⟨RBd.pair (hk := hk) (hk' := hk') (hxy := hxy)⟩

end
section
variable {c : Cx} {m : Nat} {T : Tab} {C : List Str} {ρ : Vars}
theorem TsI.nil : TsI c m T ρ [] true :=
  ⟨RTsI.nil ⟩

theorem TsI.one {e : PySem.Expr} {b : Bool} (h : Ts c m T ρ e b) : TsI c m T ρ [e] b :=
  ⟨RTsI.one (h := h.raw)⟩

theorem CL.intro {elt : PySem.Expr} {gens : List Comprehension} {sc : Scope} {pos : Pos} {k : Nat} {target iter : PySem.Expr} {ifs : List PySem.Expr} {ds : List PyData} (outs : Nat → List PyData) (hg : gens[k]? = some ⟨target, iter, ifs, 0⟩) (hn : ∀ g, gens[k + 1]? = some g → g.is_async = 0) (h : ∀ i d, ds[i]? = some d → It c m T C elt gens sc pos k target ifs ρ d (outs i)) : CL c m T C elt gens sc pos k ρ ds ((List.range ds.length).flatMap outs) :=
  ⟨RCL.intro (outs := outs) (hg := hg) (hn := hn) (h := (fun x0 x1 x2 => (h x0 x1 x2).raw))⟩

end
section
variable {c : Cx} {m : Nat} {T : Tab} {C : List Str} {ρ β : Vars} {elt : PySem.Expr} {gens : List Comprehension} {sc : Scope} {pos : Pos} {k : Nat} {target : PySem.Expr} {ifs : List PySem.Expr} {d r : PyData}
theorem It.head {out : List PyData} {b : Bool} (hb : Bd c m T C target d β) (hdis : ∀ p ∈ ρ, ∀ q ∈ β, p.1 ≠ q.1) (ht : TsI c m T (β ++ ρ) ifs b) (h : b = true → ∀ {A : Around} {n₀ : Addr → Prop} {P₀ O : List Addr} {env : Env} {D : Addr} {xs : List PyData} {s : Shared} {E : Value → Shared → Prop} {Q : Shared → Prop}, CS c m A n₀ P₀ O T C env (β ++ ρ) D xs s → xs.length + out.length ≤ 8388608 → (∀ s', KC n₀ P₀ O D [] s s' → CS c m A n₀ P₀ O T C env (β ++ ρ) D (xs ++ out) s' → Q s') → wpAny (model c.prog c.w) A (bodyOf elt gens sc pos k (.ref D) env) (fun _ s' => Q s') E s) (ho : b = false → out = []) : It c m T C elt gens sc pos k target ifs ρ d out :=
  ⟨RIt.head (hb := hb.raw) (hdis := hdis) (ht := ht.raw) (h := h) (ho := ho)⟩

theorem It.skip (hb : Bd c m T C target d β) (hdis : ∀ p ∈ ρ, ∀ q ∈ β, p.1 ≠ q.1) (ht : TsI c m T (β ++ ρ) ifs false) : It c m T C elt gens sc pos k target ifs ρ d [] :=
  ⟨RIt.skip (hb := hb.raw) (hdis := hdis) (ht := ht.raw)⟩

theorem It.emit (hb : Bd c m T C target d β) (hdis : ∀ p ∈ ρ, ∀ q ∈ β, p.1 ≠ q.1) (ht : TsI c m T (β ++ ρ) ifs true) (he : Ev c m T (β ++ ρ) elt r) (hn : gens[k + 1]? = none) : It c m T C elt gens sc pos k target ifs ρ d [r] :=
  ⟨RIt.emit (hb := hb.raw) (hdis := hdis) (ht := ht.raw) (he := he.raw) (hn := hn)⟩

end
section
variable {c : Cx} {m : Nat} {T : Tab} {C : List Str} {ρ β : Vars} {elt : PySem.Expr} {gens : List Comprehension} {sc : Scope} {pos : Pos} {k : Nat} {target : PySem.Expr} {ifs : List PySem.Expr} {d r : PyData}
theorem It.inner {out ds' : List PyData} {target' iter' : PySem.Expr} {ifs' : List PySem.Expr} (hb : Bd c m T C target d β) (hdis : ∀ p ∈ ρ, ∀ q ∈ β, p.1 ≠ q.1) (ht : TsI c m T (β ++ ρ) ifs true) (hn : gens[k + 1]? = some ⟨target', iter', ifs', 0⟩) (hi : Its c m T (β ++ ρ) iter' ds') (hl : CL c m T C elt gens sc pos (k + 1) (β ++ ρ) ds' out) (hs : ∀ (env : Env) x, foldedSetIterable iter' env x = pure x := by intro _ _; rfl) : It c m T C elt gens sc pos k target ifs ρ d out :=
  ⟨RIt.inner (hb := hb.raw) (hdis := hdis) (ht := ht.raw) (hn := hn) (hi := hi.raw) (hl := hl.raw) (hs := hs)⟩

end
section
variable {c : Cx} {m : Nat} {T : Tab} {ρ ρ' : Vars} {elt : PySem.Expr} {gens gs : List Comprehension} {sc : Scope} {pos : Pos} {target iter : PySem.Expr} {ifs : List PySem.Expr} {ds out : List PyData} {T' : Tab} {C' : List Str}
end
section
variable {c : Cx} {m : Nat} {T : Tab} {C : List Str} {ρ ρ' ρ₁ : Vars} {elt : PySem.Expr} {gens gs : List Comprehension} {sc : Scope} {pos : Pos} {target iter : PySem.Expr} {ifs : List PySem.Expr} {ds out : List PyData} {T' : Tab} {C' : List Str}
theorem Ev.comp (hg : gens = ⟨target, iter, ifs, 0⟩ :: gs) (hi : Its c m T ρ iter ds) (B : Blk T ρ ρ' sc T' C') (hl : CL c m T' C' elt gens sc pos 0 ρ' ds out) (hlen : out.length ≤ 8388608) (hs : ∀ (env : Env) x, foldedSetIterable iter env x = pure x := by intro _ _; rfl) : Ev c m T ρ (.ListComp elt gens sc pos) (.list out) :=
  ⟨REv.comp (hg := hg) (hi := hi.raw) (B := B) (hl := hl.raw) (hlen := hlen) (hs := hs)⟩

theorem X1.comp {y : Str} {py spos : Pos} (hg : gens = ⟨target, iter, ifs, 0⟩ :: gs) (hi : Its c m T ρ iter ds) (B : Blk T ρ ρ' sc T' C') (hl : CL c m T' C' elt gens sc pos 0 ρ' ds out) (hlen : out.length ≤ 8388608) (hk : T.lookup y = some .local ∨ y ∈ C) (hs : ∀ p ∈ ρ₁, p ∈ ρ) (hx : ∀ p ∈ ρ₁, p.1 ≠ y) (hsw : ∀ env : Env, env.scope.kind = .function → env.scope.names = T → swapsWith (.ListComp elt gens sc pos) (some (.Name y py)) spos.line env = pure true) (hf : ∀ (env : Env) x, foldedSetIterable iter env x = pure x := by intro _ _; rfl) : X1 c m T C ρ none (.Assign [.Name y py] (.ListComp elt gens sc pos) spos) (.next ((y, .list out) :: ρ₁) none) :=
  ⟨RX1.comp (hg := hg) (hi := hi.raw) (B := B) (hl := hl.raw) (hlen := hlen) (hk := hk) (hs := hs) (hx := hx) (hsw := hsw) (hf := hf)⟩

theorem X1.compOwn {y : Str} {py spos : Pos} (hg : gens = ⟨target, iter, ifs, 0⟩ :: gs) (hi : Its c m T ρ iter ds) (B : Blk T ρ ρ' sc T' C') (hl : CL c m T' C' elt gens sc pos 0 ρ' ds out) (hlen : out.length ≤ 8388608) (hk : T.lookup y = some .local ∨ y ∈ C) (hs : ∀ p ∈ ρ₁, p ∈ ρ) (hx : ∀ p ∈ ρ₁, p.1 ≠ y) (hsw : ∀ env : Env, env.scope.kind = .function → env.scope.names = T → swapsWith (.ListComp elt gens sc pos) (some (.Name y py)) spos.line env = pure true) (hf : ∀ (env : Env) x, foldedSetIterable iter env x = pure x := by intro _ _; rfl) : X1 c m T C ρ none (.Assign [.Name y py] (.ListComp elt gens sc pos) spos) (.next ρ₁ (some (y, out))) :=
  ⟨RX1.compOwn (hg := hg) (hi := hi.raw) (B := B) (hl := hl.raw) (hlen := hlen) (hk := hk) (hs := hs) (hx := hx) (hsw := hsw) (hf := hf)⟩

end
section
variable {c : Cx} {m : Nat} {T : Tab} {C : List Str} {ρ ρ' : Vars} {ω : Ow} {out : Out}
end
section
variable {c : Cx} {m : Nat} {T : Tab} {C : List Str} {ρ ρ' : Vars} {ω : Ow} {out : Out}
theorem Ex.drop {ss : List PySem.Stmt} {ρ₁ ρ₂ : Vars} {ω₁ : Ow} (h : Ex c m T C ρ ω ss (.next ρ₁ ω₁)) (q : ∀ p ∈ ρ₂, p ∈ ρ₁) : Ex c m T C ρ ω ss (.next ρ₂ ω₁) :=
  ⟨REx.drop (h := h.raw) (q := q)⟩

theorem X1.drop {ss : PySem.Stmt} {ρ₁ ρ₂ : Vars} {ω₁ : Ow} (h : X1 c m T C ρ ω ss (.next ρ₁ ω₁)) (q : ∀ p ∈ ρ₂, p ∈ ρ₁) : X1 c m T C ρ ω ss (.next ρ₂ ω₁) :=
  ⟨RX1.drop (h := h.raw) (q := q)⟩

theorem X1.while {test : PySem.Expr} {body : List PySem.Stmt} {pos : Pos} {fin : Out} (ρs : Nat → Vars) (ωs : Nat → Ow) (n : Nat) (h : ∀ i, i < n → Ts c m T (ρs i) test true ∧ Ex c m T C (ρs i) (ωs i) body (.next (ρs (i + 1)) (ωs (i + 1)))) (hend : (Ts c m T (ρs n) test false ∧ fin = .next (ρs n) (ωs n)) ∨ (∃ ρ' ω', Ts c m T (ρs n) test true ∧ Ex c m T C (ρs n) (ωs n) body (.brk ρ' ω') ∧ fin = .next ρ' ω')) : X1 c m T C (ρs 0) (ωs 0) (.While test body [] pos) fin :=
  ⟨RX1.while ρs ωs n (fun i hi => ⟨(h i hi).1.raw, (h i hi).2.raw⟩) (hend.elim (fun q => .inl ⟨q.1.raw, q.2⟩) (fun ⟨ρ', ω', a, b, e⟩ => .inr ⟨ρ', ω', a.raw, b.raw, e⟩))⟩

theorem X1.for {x : Str} {np pos : Pos} {iter : PySem.Expr} {body : List PySem.Stmt} {fin : Out} {ds : List PyData} (ρs : Nat → Vars) (ωs : Nat → Ow) (n : Nat) (hn : n ≤ ds.length) (hi : Its c m T (ρs 0) iter ds) (hk : T.lookup x = some .local ∨ x ∈ C) (hx : ∀ i, i ≤ n → ∀ p ∈ ρs i, p.1 ≠ x) (hω : ∀ i y es, ωs i = some (y, es) → y ≠ x) (h : ∀ i d, i < n → ds[i]? = some d → Ex c m T C ((x, d) :: ρs i) (ωs i) body (.next (ρs (i + 1)) (ωs (i + 1)))) (hend : (n = ds.length ∧ fin = .next (ρs n) (ωs n)) ∨ (∃ d r, ds[n]? = some d ∧ Ex c m T C ((x, d) :: ρs n) (ωs n) body (.ret r) ∧ fin = .ret r)) (hf : ∀ (env : Env) x, foldedSetIterable iter env x = pure x := by intro _ _; rfl) : X1 c m T C (ρs 0) (ωs 0) (.For (.Name x np) iter body [] pos) fin :=
  ⟨RX1.for ρs ωs n hn hi.raw hk hx hω (fun i d a b => (h i d a b).raw) (hend.elim .inl (fun ⟨d, r, a, b, e⟩ => .inr ⟨d, r, a, b.raw, e⟩)) hf⟩

end
section
variable {c : Cx} {m : Nat} {T : Tab} {C : List Str} {ρ ρ' : Vars} {ω : Ow} {out : Out}
theorem X1.ownList {x : Str} {np pos lp : Pos} {es : List PySem.Expr} {ds : List PyData} (h : EvL c m T ρ es ds) (hk : T.lookup x = some .local ∨ x ∈ C) (hs : ∀ p ∈ ρ', p ∈ ρ) (hx : ∀ p ∈ ρ', p.1 ≠ x) (hl : es.length ≤ 1000 := by exact Nat.le_of_ble_eq_true rfl) (hd : es.length = ds.length := by exact rfl) : X1 c m T C ρ none (.Assign [.Name x np] (.List es lp) pos) (.next ρ' (some (x, ds))) :=
  ⟨RX1.ownList (h := h.raw) (hk := hk) (hs := hs) (hx := hx) (hl := hl) (hd := hd)⟩

theorem X1.augList {x : Str} {np pos : Pos} {e : PySem.Expr} {ds es : List PyData} (h : Ev c m T ρ e (.list es)) (hk : T.lookup x = some .local ∨ x ∈ C) (hsz : ds.length + es.length ≤ 8388608) (hc : (x == ("__classdict__" : Str)) = false := by decide) : X1 c m T C ρ (some (x, ds)) (.AugAssign (.Name x np) .Add e pos) (.next ρ (some (x, ds ++ es))) :=
  ⟨RX1.augList (h := h.raw) (hk := hk) (hsz := hsz) (hc := hc)⟩

theorem X1.setItem {x : Str} {np sp pos : Pos} {e i : PySem.Expr} {ds : List PyData} {d : PyData} {k : Nat} (he : Ev c m T ρ e d) (hi : Ev c m T ρ i (.int k)) (hk : k < ds.length) (hsz : ds.length < 2 ^ 62) (hd : (x == ("__debug__" : Str)) = false := by decide) (hc : (x == ("__classdict__" : Str)) = false := by decide) (hs : ∀ env : Env, swapsWith e (some (.Subscript (.Name x np) i sp)) pos.line env = pure false := by intro _; rfl) : X1 c m T C ρ (some (x, ds)) (.Assign [.Subscript (.Name x np) i sp] e pos) (.next ρ (some (x, ds.set k d))) :=
  ⟨RX1.setItem (he := he.raw) (hi := hi.raw) (hk := hk) (hsz := hsz) (hd := hd) (hc := hc) (hs := hs)⟩

end
section
variable {c : Cx} {m : Nat} {T : Tab} {C : List Str} {ρ ρ' : Vars} {ω : Ow} {out : Out}
theorem X1.getOwn {x y : Str} {np yp sp pos : Pos} {i : PySem.Expr} {ds : List PyData} {d : PyData} {k : Nat} (hi : Ev c m T ρ i (.int k)) (hd : ds[k]? = some d) (hsz : ds.length < 2 ^ 62) (hk : T.lookup y = some .local ∨ y ∈ C) (hs : ∀ p ∈ ρ', p ∈ ρ) (hx : ∀ p ∈ ρ', p.1 ≠ y) (hyx : x ≠ y) (hdb : (x == ("__debug__" : Str)) = false := by decide) (hc : (x == ("__classdict__" : Str)) = false := by decide) (ht : ∀ o i', subscripted i false o i' = operate [o, i'] (getItem o i') := by intro _ _; rfl) (hsw : ∀ env : Env, swapsWith (.Subscript (.Name x np) i sp) (some (.Name y yp)) pos.line env = pure false := by intro _; rfl) : X1 c m T C ρ (some (x, ds)) (.Assign [.Name y yp] (.Subscript (.Name x np) i sp) pos) (.next ((y, d) :: ρ') (some (x, ds))) :=
  ⟨RX1.getOwn (hi := hi.raw) (hd := hd) (hsz := hsz) (hk := hk) (hs := hs) (hx := hx) (hyx := hyx) (hdb := hdb) (hc := hc) (ht := ht) (hsw := hsw)⟩

theorem X1.append {x : Str} {np ap cp pos : Pos} {e : PySem.Expr} {ds : List PyData} {d : PyData} (he : Ev c m T ρ e d) (hsz : ds.length ≤ 8388608) (hp : (ap.endLine == cp.line) = true := by exact rfl) (hd : (x == ("__debug__" : Str)) = false := by decide) (hc : (x == ("__classdict__" : Str)) = false := by decide) (hst : ∀ env : Env, starEach [e] env = (false, eval e env) :: starEach [] env := by intro _; rfl) (hform : ∀ env : Env, ((((backTo cp (starEach [e] env)).all fun x => !x.fst) && (backToKw cp (keywordEach [] env)).all fun x => x.fst.isSome) && decide (([e].length + ([] : List Keyword).length + if ([] : List Keyword).isEmpty = true then 0 else 1) < 30)) = true := by intro _; rfl) (ha : ∀ env : Env, attributeBase (.Name x np) "append" env (eval (.Name x np) env) = eval (.Name x np) env := by intro _; rfl) (hpl : ∀ env : Env, (backTo cp (starEach [] env)).any (·.1) = false := by intro _; rfl) (hsw : ∀ env : Env, swapsWith (.Call (.Attribute (.Name x np) "append" ap) [e] [] cp) none pos.line env = pure false := by intro _; rfl) : X1 c m T C ρ (some (x, ds)) (.Expr (.Call (.Attribute (.Name x np) "append" ap) [e] [] cp) pos) (.next ρ (some (x, ds ++ [d]))) :=
  ⟨RX1.append (he := he.raw) (hsz := hsz) (hp := hp) (hd := hd) (hc := hc) (hst := hst) (hform := hform) (ha := ha) (hpl := hpl) (hsw := hsw)⟩

theorem Ex.freeze {x : Str} {ds : List PyData} {ss : List PySem.Stmt} (h : Ex c m T C ((x, .list ds) :: ρ) none ss out) : Ex c m T C ρ (some (x, ds)) ss out :=
  ⟨REx.freeze (h := h.raw)⟩

end
section
variable {c : Cx} {m : Nat} {T : Tab} {C : List Str} {ρ ρ' : Vars} {ω : Ow} {out : Out}
theorem Its.range1 {x : Str} {p pos : Pos} {e : PySem.Expr} {b : Int} (n : Nat) (h : Ev c m T ρ e (.int b)) (hn : c.mg x = Option.none) (hv : c.mb x = some (.type "range")) (hb : b ≤ 2 ^ 60) (hb' : -(2 ^ 60) ≤ b) (hnn : b.toNat = n) (hx : T.lookup x = some .globalImplicit := by kernel_rfl) (hd : (x == ("__debug__" : Str)) = false := by decide) (he : ∀ env : Env, starEach [e] env = (false, eval e env) :: starEach [] env := by intro _; rfl) (hp : ∀ env : Env, (backTo pos (starEach [] env)).any (·.1) = false := by intro _; rfl) : Its c m T ρ (.Call (.Name x p) [e] [] pos) (rng 0 n) :=
  ⟨RIts.range1 (n := n) (h := h.raw) (hn := hn) (hv := hv) (hb := hb) (hb' := hb') (hnn := hnn) (hx := hx) (hd := hd) (he := he) (hp := hp)⟩

theorem Its.range2 {x : Str} {p pos : Pos} {e e' : PySem.Expr} {a b : Int} (n : Nat) (h : Ev c m T ρ e (.int a)) (h' : Ev c m T ρ e' (.int b)) (hn : c.mg x = Option.none) (hv : c.mb x = some (.type "range")) (ha : a ≤ 2 ^ 60) (ha' : -(2 ^ 60) ≤ a) (hb : b ≤ 2 ^ 60) (hb' : -(2 ^ 60) ≤ b) (hnn : (b - a).toNat = n) (hx : T.lookup x = some .globalImplicit := by kernel_rfl) (hd : (x == ("__debug__" : Str)) = false := by decide) (he : ∀ env : Env, starEach [e, e'] env = (false, eval e env) :: starEach [e'] env := by intro _; rfl) (he' : ∀ env : Env, starEach [e'] env = (false, eval e' env) :: starEach [] env := by intro _; rfl) (hp : ∀ env : Env, (backTo pos (starEach [e'] env)).any (·.1) = false := by intro _; rfl) : Its c m T ρ (.Call (.Name x p) [e, e'] [] pos) (rng a n) :=
  ⟨RIts.range2 (n := n) (h := h.raw) (h' := h'.raw) (hn := hn) (hv := hv) (ha := ha) (ha' := ha') (hb := hb) (hb' := hb') (hnn := hnn) (hx := hx) (hd := hd) (he := he) (he' := he') (hp := hp)⟩

theorem X1.unpack2 {x y : Str} {xp yp tp pos : Pos} {e : PySem.Expr} {n : Nat} {a b : PyData} (h : Ev c m T ρ e (.tuple [a, b])) (hk : T.lookup x = some .local ∨ x ∈ C) (hk' : T.lookup y = some .local ∨ y ∈ C) (hxy : x ≠ y) (hs : ∀ p ∈ ρ', p ∈ ρ) (hx : ∀ p ∈ ρ', p.1 ≠ x ∧ p.1 ≠ y) (hsw : ∀ env : Env, swapsWithSole [.Tuple [.Name x xp, .Name y yp] n tp] e pos.line env = pure false := by intro _; rfl) (hst : ∀ env : Env, swappedStores [.Tuple [.Name x xp, .Name y yp] n tp] e env = pure none := by intro _; rfl) : X1 c m T C ρ none (.Assign [.Tuple [.Name x xp, .Name y yp] n tp] e pos) (.next ((y, b) :: (x, a) :: ρ') none) :=
  ⟨RX1.unpack2 (h := h.raw) (hk := hk) (hk' := hk') (hxy := hxy) (hs := hs) (hx := hx) (hsw := hsw) (hst := hst)⟩

theorem X1.swap2 {x y : Str} {xp yp tp pos : Pos} {e : PySem.Expr} {n : Nat} {a b : PyData} (h : Ev c m T ρ e (.tuple [a, b])) (hk : T.lookup x = some .local ∨ x ∈ C) (hk' : T.lookup y = some .local ∨ y ∈ C) (hxy : x ≠ y) (hs : ∀ p ∈ ρ', p ∈ ρ) (hx : ∀ p ∈ ρ', p.1 ≠ x ∧ p.1 ≠ y) (hst : ∀ env : Env, env.scope.kind = .function → env.scope.names = T → swappedStores [.Tuple [.Name x xp, .Name y yp] n tp] e env = pure (some [x, y])) (hsw : ∀ env : Env, swapsWithSole [.Tuple [.Name x xp, .Name y yp] n tp] e pos.line env = pure false := by intro _; rfl) : X1 c m T C ρ none (.Assign [.Tuple [.Name x xp, .Name y yp] n tp] e pos) (.next ((x, a) :: (y, b) :: ρ') none) :=
  ⟨RX1.swap2 (h := h.raw) (hk := hk) (hk' := hk') (hxy := hxy) (hs := hs) (hx := hx) (hst := hst) (hsw := hsw)⟩

end
section
variable {c : Cx} {m : Nat} {T : Tab} {C : List Str} {ρ ρ' : Vars} {ω : Ow} {out : Out}
theorem Bi.indexI {ns : List Int} {k : Int} {j : Nat} (hj : j < ns.length) (hlen : ns.length ≤ 1000) (hit : ns[j] = k) (hno : ∀ i (h : i < ns.length), i < j → ns[i] ≠ k) : Bi c m (.builtin "list.index") [.list (ns.map .int), .int k] (.int j) :=
  ⟨RBi.indexI (hj := hj) (hlen := hlen) (hit := hit) (hno := hno)⟩

theorem Bi.indexS {ns : List Str} {k : Str} {j : Nat} (hj : j < ns.length) (hlen : ns.length ≤ 1000) (hit : ns[j] = k) (hno : ∀ i (h : i < ns.length), i < j → ns[i] ≠ k) : Bi c m (.builtin "list.index") [.list (ns.map .str), .str k] (.int j) :=
  ⟨RBi.indexS (hj := hj) (hlen := hlen) (hit := hit) (hno := hno)⟩

theorem Ev.dispMeth {os : List PySem.Expr} {lp : Pos} {e : PySem.Expr} {es : List PySem.Expr} {name : Str} {id : String} {apos pos : Pos} {xs ds : List PyData} {d : PyData} (h : EvL c m T ρ os xs) (hs : EvL c m T ρ (e :: es) ds) (slot : Slot "list" name id) (ty : typeOf (.builtin id) = pure (.type "method_descriptor")) (hf : Bi c m (.builtin id) (.list xs :: ds) d) (hl : os.length ≤ 1000 := by exact Nat.le_of_ble_eq_true rfl) (hd : os.length = xs.length := by exact rfl) (hp : (apos.endLine == pos.line) = true := by exact rfl) (ha : ∀ env : Env, attributeBase (.List os lp) name env (eval (.List os lp) env) = eval (.List os lp) env := by intro _; rfl) (he : ∀ env : Env, starEach (e :: es) env = (false, eval e env) :: starEach es env := by intro _; rfl) (hpl : ∀ env : Env, (backTo pos (starEach es env)).any (·.1) = false := by intro _; rfl) (hform : ∀ env : Env, ((((backTo pos (starEach (e :: es) env)).all fun x => !x.fst) && (backToKw pos (keywordEach [] env)).all fun x => x.fst.isSome) && decide (((e :: es).length + ([] : List Keyword).length + if ([] : List Keyword).isEmpty = true then 0 else 1) < 30)) = true := by intro _; rfl) : Ev c m T ρ (.Call (.Attribute (.List os lp) name apos) (e :: es) [] pos) d :=
  ⟨REv.dispMeth (h := h.raw) (hs := hs.raw) (slot := slot) (ty := ty) (hf := hf.raw) (hl := hl) (hd := hd) (hp := hp) (ha := ha) (he := he) (hpl := hpl) (hform := hform)⟩

theorem Op2.mulList {xs : List PyData} {n : Int} (hn : n ≤ 8388608) (hlo : -(2 ^ 60) ≤ n) (hx : xs.length * n.toNat ≤ 8388608) : Op2 c m (binaryOp .Mult) (.list xs) (.int n) (.list (List.replicate n.toNat xs).flatten) :=
  ⟨ROp2.mulList (hn := hn) (hlo := hlo) (hx := hx)⟩

end
section
variable {c : Cx} {m : Nat} {T : Tab} {C : List Str} {ρ ρ' : Vars} {ω : Ow} {out : Out}
theorem Op2.isNotBool {a b : Bool} : Op2 c m (compareOp .IsNot) (.bool a) (.bool b) (.bool (!(a == b))) :=
  ⟨ROp2.isNotBool ⟩

theorem Ts.isOr {l r l' r' : PySem.Expr} {p1 p2 pos : Pos} {a b : Int} (h1 : Ev c m T ρ l (.list [.int a])) (h2 : Ev c m T ρ r (.list [.int b])) (h3 : Ts c m T ρ (.Compare l' [.Eq] [r'] p2) (decide (a = b))) (hm : behindInMarks .Is r = false := by with_unfolding_all rfl) : Ts c m T ρ (.BoolOp .Or [.Compare l [.Is] [r] p1, .Compare l' [.Eq] [r'] p2] pos) (decide (a = b)) :=
  ⟨RTs.isOr (h1 := h1.raw) (h2 := h2.raw) (h3 := h3.raw) (hm := hm)⟩

theorem Ts.notInDic {x : Str} {tok : Str → Option Int} {e : PySem.Expr} {p pos : Pos} {k : Str} (D : Dic c x tok) (h : Ev c m T ρ e (.str k)) (hx : T.lookup x = some .globalImplicit := by kernel_rfl) (hd : (x == ("__debug__" : Str)) = false := by decide) (hm : behindInMarks .NotIn (.Name x p) = false := by with_unfolding_all rfl) : Ts c m T ρ (.Compare e [.NotIn] [.Name x p] pos) (tok k).isNone :=
  ⟨RTs.notInDic (D := D) (h := h.raw) (hx := hx) (hd := hd) (hm := hm)⟩

theorem Ev.getDic {x : Str} {tok : Str → Option Int} {e e' : PySem.Expr} {p ap pos : Pos} {k : Str} {d : Int} (D : Dic c x tok) (h : Ev c m T ρ e (.str k)) (h' : Ev c m T ρ e' (.int d)) (hx : T.lookup x = some .globalImplicit := by kernel_rfl) (hd : (x == ("__debug__" : Str)) = false := by decide) (hp : (ap.endLine == pos.line) = true := by exact rfl) (ha : ∀ env : Env, attributeBase (.Name x p) "get" env (eval (.Name x p) env) = eval (.Name x p) env := by intro _; rfl) (he : ∀ env : Env, backTo pos (starEach [e, e'] env) = [(false, eval e env), (false, eval e' env)] := by intro _; rfl) (hform : ∀ env : Env, ((((backTo pos (starEach [e, e'] env)).all fun x => !x.fst) && (backToKw pos (keywordEach [] env)).all fun x => x.fst.isSome) && decide (([e, e'].length + ([] : List Keyword).length + if ([] : List Keyword).isEmpty = true then 0 else 1) < 30)) = true := by intro _; rfl) : Ev c m T ρ (.Call (.Attribute (.Name x p) "get" ap) [e, e'] [] pos) (.int ((tok k).getD d)) :=
  ⟨REv.getDic (D := D) (h := h.raw) (h' := h'.raw) (hx := hx) (hd := hd) (hp := hp) (ha := ha) (he := he) (hform := hform)⟩

theorem X1.ownRange {x lx rx : Str} {np lp rp p1 p2 pos : Pos} {e1 e2 e3 : PySem.Expr} {a b k : Int} (n : Nat) (h1 : Ev c m T ρ e1 (.int a)) (h2 : Ev c m T ρ e2 (.int b)) (h3 : Ev c m T ρ e3 (.int k)) (hk0 : k ≠ 0) (hdiv : Builtin.divisionGoesByPylong (b - a) k = false) (hsm : Builtin.Range.small a b k = true) (hrs : Builtin.Range.rangeSize a b k = n) (hnn : n ≤ 8388608) (hln : c.mg lx = Option.none) (hlv : c.mb lx = some (.type "list")) (hrn : c.mg rx = Option.none) (hrv : c.mb rx = some (.type "range")) (hk : T.lookup x = some .local ∨ x ∈ C) (hs : ∀ p ∈ ρ', p ∈ ρ) (hx : ∀ p ∈ ρ', p.1 ≠ x) (hl1 : T.lookup lx = some .globalImplicit := by kernel_rfl) (hr1 : T.lookup rx = some .globalImplicit := by kernel_rfl) (hd : (lx == ("__debug__" : Str)) = false := by decide) (hd' : (rx == ("__debug__" : Str)) = false := by decide) (he0 : ∀ env : Env, starEach [.Call (.Name rx rp) [e1, e2, e3] [] p1] env = (false, eval (.Call (.Name rx rp) [e1, e2, e3] [] p1) env) :: starEach [] env := by intro _; rfl) (hp0 : ∀ env : Env, (backTo p2 (starEach [] env)).any (·.1) = false := by intro _; rfl) (he1 : ∀ env : Env, starEach [e1, e2, e3] env = (false, eval e1 env) :: starEach [e2, e3] env := by intro _; rfl) (he2 : ∀ env : Env, starEach [e2, e3] env = (false, eval e2 env) :: starEach [e3] env := by intro _; rfl) (he3 : ∀ env : Env, starEach [e3] env = (false, eval e3 env) :: starEach [] env := by intro _; rfl) (hp1 : ∀ env : Env, (backTo p1 (starEach [e2, e3] env)).any (·.1) = false := by intro _; rfl) (hsw : ∀ env : Env, swapsWith (.Call (.Name lx lp) [.Call (.Name rx rp) [e1, e2, e3] [] p1] [] p2) (some (.Name x np)) pos.line env = pure false := by intro _; rfl) : X1 c m T C ρ Option.none (.Assign [.Name x np] (.Call (.Name lx lp) [.Call (.Name rx rp) [e1, e2, e3] [] p1] [] p2) pos) (.next ρ' (some (x, (List.range n).map fun i : Nat => PyData.int (a + i * k)))) :=
  ⟨RX1.ownRange (n := n) (h1 := h1.raw) (h2 := h2.raw) (h3 := h3.raw) (hk0 := hk0) (hdiv := hdiv) (hsm := hsm) (hrs := hrs) (hnn := hnn) (hln := hln) (hlv := hlv) (hrn := hrn) (hrv := hrv) (hk := hk) (hs := hs) (hx := hx) (hl1 := hl1) (hr1 := hr1) (hd := hd) (hd' := hd') (he0 := he0) (hp0 := hp0) (he1 := he1) (he2 := he2) (he3 := he3) (hp1 := hp1) (hsw := hsw)⟩

end
section
variable {prog : Program} {w : World} {A : Around} {E : Value → Shared → Prop} {s : Shared} {e t0 C : Addr} {K : Frag} {mm : Str} {tk : Tok}
end
section
variable {c : Cx} {m : Nat} {T : Tab} {C : List Str} {ρ ρ' : Vars} {ω : Ow}
theorem X1.raise {x : Str} {K : Addr} {np cp pos : Pos} {e : PySem.Expr} {t : Str} (h : Ev c m T ρ e (.str t)) (OX : OwnX c x K) (hx : T.lookup x = some .globalImplicit := by kernel_rfl) (hd : (x == ("__debug__" : Str)) = false := by decide) (he : ∀ env : Env, starEach [e] env = (false, eval e env) :: starEach [] env := by intro _; rfl) : X1 c m T C ρ ω (.Raise (some (.Call (.Name x np) [e] [] cp)) none pos) (.exc K [.str t]) :=
  ⟨RX1.raise (h := h.raw) (OX := OX) (hx := hx) (hd := hd) (he := he)⟩

theorem BiX.le {m' : Nat} {f : Value} {ds : List PyData} {K : Addr} {x : Str} (h : BiX c m f ds K x) (q : m ≤ m') : BiX c m' f ds K x :=
  ⟨RBiX.le (h := h.raw) (q := q)⟩

theorem BiX.ofDef {f : Addr} {o : Obj} {fd : FuncData} {body : List PySem.Stmt} {names : List Str} {ds : List PyData} {K : Addr} {x : Str} (ho : c.K.lookup f = some o) (hd : o.data = .func fd) (hb : fd.body = .stmts body) (hT : fd.scope.names = T) (hk : fd.scope.kind = .function) (hg : fd.globals = mainGlobals) (hbn : fd.builtins = builtinsNs) (hcl : fd.closure = []) (hco : fd.scope.isCoroutine = false) (hgen : fd.scope.isGenerator = false) (hcr : ∀ h : Heap, c.K.In h → h.CodeRec fd.code fd.qualname) (hnd : names.Nodup) (hlen : ds.length = names.length) (hn : ∀ x ∈ names, T.lookup x = some .local ∨ T.lookup x = some .cell) (hC : ∀ x ∈ C, T.lookup x = some .cell) (hbind : ∀ vs : List Value, vs.length = names.length → bindArgs fd ⟨vs, []⟩ = pure (names.zip vs)) (h : Ex c m T C (names.zip ds) none body (.exc K [.str x])) : BiX c (m + 1) (.ref f) ds K x :=
  ⟨RBiX.ofDef (ho := ho) (hd := hd) (hb := hb) (hT := hT) (hk := hk) (hg := hg) (hbn := hbn) (hcl := hcl) (hco := hco) (hgen := hgen) (hcr := hcr) (hnd := hnd) (hlen := hlen) (hn := hn) (hC := hC) (hbind := hbind) (h := h.raw)⟩

end
section
variable {c : Cx} {m : Nat} {T : Tab} {C : List Str} {ρ ρ' : Vars} {ω : Ow}
theorem EvX.call {x : Str} {p pos : Pos} {e : PySem.Expr} {es : List PySem.Expr} {ds : List PyData} {K f : Addr} {y : Str} {o : Obj} {fd : FuncData} (h : EvL c m T ρ (e :: es) ds) (hm : c.mg x = some (.ref f)) (ho : c.K.lookup f = some o) (hfd : o.data = .func fd) (hf : BiX c m (.ref f) ds K y) (hx : T.lookup x = some .globalImplicit := by kernel_rfl) (hd : (x == ("__debug__" : Str)) = false := by decide) (he : ∀ env : Env, starEach (e :: es) env = (false, eval e env) :: starEach es env := by intro _; rfl) : EvX c m T ρ (.Call (.Name x p) (e :: es) [] pos) K y :=
  ⟨REvX.call (h := h.raw) (hm := hm) (ho := ho) (hfd := hfd) (hf := hf.raw) (hx := hx) (hd := hd) (he := he)⟩

theorem EvX.iteT {t x y : PySem.Expr} {pos : Pos} {K : Addr} {z : Str} (h : Ts c m T ρ t true) (h1 : EvX c m T ρ x K z) : EvX c m T ρ (.IfExp t x y pos) K z :=
  ⟨REvX.iteT (h := h.raw) (h1 := h1.raw)⟩

theorem EvX.iteF {t x y : PySem.Expr} {pos : Pos} {K : Addr} {z : Str} (h : Ts c m T ρ t false) (h1 : EvX c m T ρ y K z) : EvX c m T ρ (.IfExp t x y pos) K z :=
  ⟨REvX.iteF (h := h.raw) (h1 := h1.raw)⟩

theorem X1.tryRet {e : PySem.Expr} {rp pos : Pos} {h₀ : ExceptHandler} {hs : List ExceptHandler} {d : PyData} (h : Ev c m T ρ e d) : X1 c m T C ρ ω (.Try [.Return (some e) rp] (h₀ :: hs) [] [] pos) (.ret d) :=
  ⟨RX1.tryRet (h := h.raw)⟩

end
section
variable {c : Cx} {m : Nat} {T : Tab} {C : List Str} {ρ ρ' : Vars} {ω : Ow}
theorem Bi.ofDefTry {f : Addr} {o : Obj} {fd : FuncData} {e : PySem.Expr} {rp pos : Pos} {h₀ : ExceptHandler} {hs : List ExceptHandler} {names : List Str} {ds : List PyData} {K : Addr} {x : Str} {d : PyData} (ho : c.K.lookup f = some o) (hd : o.data = .func fd) (hb : fd.body = .stmts [.Try [.Return (some e) rp] (h₀ :: hs) [] [] pos]) (hT : fd.scope.names = T) (hk : fd.scope.kind = .function) (hg : fd.globals = mainGlobals) (hbn : fd.builtins = builtinsNs) (hcl : fd.closure = []) (hco : fd.scope.isCoroutine = false) (hgen : fd.scope.isGenerator = false) (hcr : ∀ h : Heap, c.K.In h → h.CodeRec fd.code fd.qualname) (hnd : names.Nodup) (hlen : ds.length = names.length) (hn : ∀ x ∈ names, T.lookup x = some .local ∨ T.lookup x = some .cell) (hC : ∀ x ∈ C, T.lookup x = some .cell) (hbind : ∀ vs : List Value, vs.length = names.length → bindArgs fd ⟨vs, []⟩ = pure (names.zip vs)) (he : EvX c m T (names.zip ds) e K x) (hcat : ∀ {A : Around} {n₀ : Addr → Prop} {O P₀ : List Addr} {env : Env} {s s₁ : Shared} {a t : Addr} {tk : Tok} {B : Heap} {l : List Env} {mm : Str → Option Value} {E : Value → Shared → Prop} {Q : Flow → Shared → Prop}, Fx c m A (O ++ P₀) T env (names.zip ds) s → Own n₀ O P₀ C env (names.zip ds) none s → Cat c A (O ++ P₀) env s K a t x tk B l mm s₁ → (∀ v s', Kb n₀ P₀ s s' → Rd s'.heap P₀ v d → Q (.ret v) s') → wpAny (model c.prog c.w) A (handleBy (.ref a) env (h₀ :: hs)) Q E s₁) : Bi c (m + 1) (.ref f) ds d :=
  ⟨RBi.ofDefTry (ho := ho) (hd := hd) (hb := hb) (hT := hT) (hk := hk) (hg := hg) (hbn := hbn) (hcl := hcl) (hco := hco) (hgen := hgen) (hcr := hcr) (hnd := hnd) (hlen := hlen) (hn := hn) (hC := hC) (hbind := hbind) (he := he.raw) (hcat := hcat)⟩

end
section
variable {c : Cx} {m : Nat}
theorem Op2.eqS {a b : Str} : Op2 c m (compareOp .Eq) (.str a) (.str b) (.bool (decide (a = b))) :=
  ⟨ROp2.eqS ⟩

theorem Op2.neS {a b : Str} : Op2 c m (compareOp .NotEq) (.str a) (.str b) (.bool (!decide (a = b))) :=
  ⟨ROp2.neS ⟩

theorem Op2.eqI {a b : Int} : Op2 c m (compareOp .Eq) (.int a) (.int b) (.bool (decide (a = b))) :=
  ⟨ROp2.eqI ⟩

theorem Op2.neI {a b : Int} : Op2 c m (compareOp .NotEq) (.int a) (.int b) (.bool (!decide (a = b))) :=
  ⟨ROp2.neI ⟩

end
section
variable {c : Cx} {m : Nat} {T : Tab} {C : List Str} {ρ ρ' : Vars} {ω : Ow}
theorem X1.assignC {x : Str} {np pos : Pos} {e : PySem.Expr} {d : PyData} (h : Ev c m T ρ e d) (hk : T.lookup x = some .local ∨ x ∈ C) (hs : ∀ p ∈ ρ', p ∈ ρ) (hx : ∀ p ∈ ρ', p.1 ≠ x) (ho : ∀ y ds, ω = some (y, ds) → y ≠ x) (hsw : ∀ env : Env, env.scope.kind = .function → env.scope.names = T → swapsWith e (some (.Name x np)) pos.line env = pure false) : X1 c m T C ρ ω (.Assign [.Name x np] e pos) (.next ((x, d) :: ρ') ω) :=
  ⟨RX1.assignC (h := h.raw) (hk := hk) (hs := hs) (hx := hx) (ho := ho) (hsw := hsw)⟩

end
end Mine
set_option maxHeartbeats 4000000
namespace Mine
/-! the heap behind the text's top, the texts' own parts taken from the row's program -/
noncomputable def prmK (i : Nat) : Arguments := match PySem.Challenge.pw_wo0055_01.main.body[i]? with | some (.FunctionDef _ a _ _ _ _ _ _ _ _) => a | _ => default
noncomputable def bdyK (i : Nat) : List PySem.Stmt := match PySem.Challenge.pw_wo0055_01.main.body[i]? with | some (.FunctionDef _ _ b _ _ _ _ _ _ _) => b | _ => []
noncomputable def scpK (i : Nat) : Scope := match PySem.Challenge.pw_wo0055_01.main.body[i]? with | some (.FunctionDef _ _ _ _ _ _ s _ _ _) => s | _ => default
noncomputable def heapK (P : Params) : Frag := [
  (2, Obj.mk Value.none none (Data.dict #[DictEntry.mk (PyData.keyHash P (Str.ofString "type.__subclasses__.Exception.0")) (Value.str (Str.ofString "type.__subclasses__.Exception.0") 241) (Value.int 38 0), DictEntry.mk (PyData.keyHash P (Str.ofString "type.__subclasses__.Exception.n")) (Value.str (Str.ofString "type.__subclasses__.Exception.n") 242) (Value.int 1 0)] 2) #[]),
  (3, Obj.mk (Value.type "dict") none (Data.dict #[DictEntry.mk (PyData.keyHash P (Str.ofString "__name__")) (Value.str (Str.ofString "__name__") 165) (Value.str (Str.ofString "law_wo0055_01") 597), DictEntry.mk (PyData.keyHash P (Str.ofString "__doc__")) (Value.str (Str.ofString "__doc__") 166) Value.none, DictEntry.mk (PyData.keyHash P (Str.ofString "__package__")) (Value.str (Str.ofString "__package__") 167) Value.none, DictEntry.mk (PyData.keyHash P (Str.ofString "__loader__")) (Value.str (Str.ofString "__loader__") 168) (Value.builtin "__main__.__loader__#opaque"), DictEntry.mk (PyData.keyHash P (Str.ofString "__spec__")) (Value.str (Str.ofString "__spec__") 169) Value.none, DictEntry.mk (PyData.keyHash P (Str.ofString "__annotations__")) (Value.str (Str.ofString "__annotations__") 170) (Value.ref 6), DictEntry.mk (PyData.keyHash P (Str.ofString "__builtins__")) (Value.str (Str.ofString "__builtins__") 171) (Value.ref 4), DictEntry.mk (PyData.keyHash P (Str.ofString "__file__")) (Value.str (Str.ofString "__file__") 173) (Value.str (Str.ofString "/claim/cut.py") 172), DictEntry.mk (PyData.keyHash P (Str.ofString "__cached__")) (Value.str (Str.ofString "__cached__") 174) Value.none, DictEntry.mk (PyData.keyHash P (Str.ofString "_MAX_STRING_SIZE")) (Value.str (Str.ofString "_MAX_STRING_SIZE") 190) (Value.int 40 189), DictEntry.mk (PyData.keyHash P (Str.ofString "_MOVE_COST")) (Value.str (Str.ofString "_MOVE_COST") 192) (Value.int 2 191), DictEntry.mk (PyData.keyHash P (Str.ofString "_CASE_COST")) (Value.str (Str.ofString "_CASE_COST") 194) (Value.int 1 193), DictEntry.mk (PyData.keyHash P (Str.ofString "_substitution_cost")) (Value.str (Str.ofString "_substitution_cost") 202) (Value.ref 21), DictEntry.mk (PyData.keyHash P (Str.ofString "_levenshtein_distance")) (Value.str (Str.ofString "_levenshtein_distance") 222) (Value.ref 28), DictEntry.mk (PyData.keyHash P (Str.ofString "Error")) (Value.str (Str.ofString "Error") 244) (Value.ref 38), DictEntry.mk (PyData.keyHash P (Str.ofString "error_reply")) (Value.str (Str.ofString "error_reply") 260) (Value.ref 51), DictEntry.mk (PyData.keyHash P (Str.ofString "error_proto")) (Value.str (Str.ofString "error_proto") 276) (Value.ref 63), DictEntry.mk (PyData.keyHash P (Str.ofString "parse229")) (Value.str (Str.ofString "parse229") 289) (Value.ref 72), DictEntry.mk (PyData.keyHash P (Str.ofString "parse257")) (Value.str (Str.ofString "parse257") 300) (Value.ref 79), DictEntry.mk (PyData.keyHash P (Str.ofString "lt")) (Value.str (Str.ofString "lt") 310) (Value.ref 86), DictEntry.mk (PyData.keyHash P (Str.ofString "le")) (Value.str (Str.ofString "le") 318) (Value.ref 93), DictEntry.mk (PyData.keyHash P (Str.ofString "eq")) (Value.str (Str.ofString "eq") 326) (Value.ref 100), DictEntry.mk (PyData.keyHash P (Str.ofString "ne")) (Value.str (Str.ofString "ne") 334) (Value.ref 107), DictEntry.mk (PyData.keyHash P (Str.ofString "ge")) (Value.str (Str.ofString "ge") 342) (Value.ref 114), DictEntry.mk (PyData.keyHash P (Str.ofString "gt")) (Value.str (Str.ofString "gt") 350) (Value.ref 121), DictEntry.mk (PyData.keyHash P (Str.ofString "mul")) (Value.str (Str.ofString "mul") 358) (Value.ref 128), DictEntry.mk (PyData.keyHash P (Str.ofString "or_")) (Value.str (Str.ofString "or_") 366) (Value.ref 135), DictEntry.mk (PyData.keyHash P (Str.ofString "countOf")) (Value.str (Str.ofString "countOf") 376) (Value.ref 142), DictEntry.mk (PyData.keyHash P (Str.ofString "ENDMARKER")) (Value.str (Str.ofString "ENDMARKER") 380) (Value.int 0 379), DictEntry.mk (PyData.keyHash P (Str.ofString "LPAR")) (Value.str (Str.ofString "LPAR") 382) (Value.int 7 381), DictEntry.mk (PyData.keyHash P (Str.ofString "RPAR")) (Value.str (Str.ofString "RPAR") 384) (Value.int 8 383), DictEntry.mk (PyData.keyHash P (Str.ofString "LSQB")) (Value.str (Str.ofString "LSQB") 386) (Value.int 9 385), DictEntry.mk (PyData.keyHash P (Str.ofString "RSQB")) (Value.str (Str.ofString "RSQB") 388) (Value.int 10 387), DictEntry.mk (PyData.keyHash P (Str.ofString "COLON")) (Value.str (Str.ofString "COLON") 390) (Value.int 11 389), DictEntry.mk (PyData.keyHash P (Str.ofString "COMMA")) (Value.str (Str.ofString "COMMA") 392) (Value.int 12 391), DictEntry.mk (PyData.keyHash P (Str.ofString "SEMI")) (Value.str (Str.ofString "SEMI") 394) (Value.int 13 393), DictEntry.mk (PyData.keyHash P (Str.ofString "PLUS")) (Value.str (Str.ofString "PLUS") 396) (Value.int 14 395), DictEntry.mk (PyData.keyHash P (Str.ofString "MINUS")) (Value.str (Str.ofString "MINUS") 398) (Value.int 15 397), DictEntry.mk (PyData.keyHash P (Str.ofString "STAR")) (Value.str (Str.ofString "STAR") 400) (Value.int 16 399), DictEntry.mk (PyData.keyHash P (Str.ofString "SLASH")) (Value.str (Str.ofString "SLASH") 402) (Value.int 17 401), DictEntry.mk (PyData.keyHash P (Str.ofString "VBAR")) (Value.str (Str.ofString "VBAR") 404) (Value.int 18 403), DictEntry.mk (PyData.keyHash P (Str.ofString "AMPER")) (Value.str (Str.ofString "AMPER") 406) (Value.int 19 405), DictEntry.mk (PyData.keyHash P (Str.ofString "LESS")) (Value.str (Str.ofString "LESS") 408) (Value.int 20 407), DictEntry.mk (PyData.keyHash P (Str.ofString "GREATER")) (Value.str (Str.ofString "GREATER") 410) (Value.int 21 409), DictEntry.mk (PyData.keyHash P (Str.ofString "EQUAL")) (Value.str (Str.ofString "EQUAL") 412) (Value.int 22 411), DictEntry.mk (PyData.keyHash P (Str.ofString "DOT")) (Value.str (Str.ofString "DOT") 414) (Value.int 23 413), DictEntry.mk (PyData.keyHash P (Str.ofString "PERCENT")) (Value.str (Str.ofString "PERCENT") 416) (Value.int 24 415), DictEntry.mk (PyData.keyHash P (Str.ofString "LBRACE")) (Value.str (Str.ofString "LBRACE") 418) (Value.int 25 417), DictEntry.mk (PyData.keyHash P (Str.ofString "RBRACE")) (Value.str (Str.ofString "RBRACE") 420) (Value.int 26 419), DictEntry.mk (PyData.keyHash P (Str.ofString "EQEQUAL")) (Value.str (Str.ofString "EQEQUAL") 422) (Value.int 27 421), DictEntry.mk (PyData.keyHash P (Str.ofString "NOTEQUAL")) (Value.str (Str.ofString "NOTEQUAL") 424) (Value.int 28 423), DictEntry.mk (PyData.keyHash P (Str.ofString "LESSEQUAL")) (Value.str (Str.ofString "LESSEQUAL") 426) (Value.int 29 425), DictEntry.mk (PyData.keyHash P (Str.ofString "GREATEREQUAL")) (Value.str (Str.ofString "GREATEREQUAL") 428) (Value.int 30 427), DictEntry.mk (PyData.keyHash P (Str.ofString "TILDE")) (Value.str (Str.ofString "TILDE") 430) (Value.int 31 429), DictEntry.mk (PyData.keyHash P (Str.ofString "CIRCUMFLEX")) (Value.str (Str.ofString "CIRCUMFLEX") 432) (Value.int 32 431), DictEntry.mk (PyData.keyHash P (Str.ofString "LEFTSHIFT")) (Value.str (Str.ofString "LEFTSHIFT") 434) (Value.int 33 433), DictEntry.mk (PyData.keyHash P (Str.ofString "RIGHTSHIFT")) (Value.str (Str.ofString "RIGHTSHIFT") 436) (Value.int 34 435), DictEntry.mk (PyData.keyHash P (Str.ofString "DOUBLESTAR")) (Value.str (Str.ofString "DOUBLESTAR") 438) (Value.int 35 437), DictEntry.mk (PyData.keyHash P (Str.ofString "PLUSEQUAL")) (Value.str (Str.ofString "PLUSEQUAL") 440) (Value.int 36 439), DictEntry.mk (PyData.keyHash P (Str.ofString "MINEQUAL")) (Value.str (Str.ofString "MINEQUAL") 442) (Value.int 37 441), DictEntry.mk (PyData.keyHash P (Str.ofString "STAREQUAL")) (Value.str (Str.ofString "STAREQUAL") 444) (Value.int 38 443), DictEntry.mk (PyData.keyHash P (Str.ofString "SLASHEQUAL")) (Value.str (Str.ofString "SLASHEQUAL") 446) (Value.int 39 445), DictEntry.mk (PyData.keyHash P (Str.ofString "PERCENTEQUAL")) (Value.str (Str.ofString "PERCENTEQUAL") 448) (Value.int 40 447), DictEntry.mk (PyData.keyHash P (Str.ofString "AMPEREQUAL")) (Value.str (Str.ofString "AMPEREQUAL") 450) (Value.int 41 449), DictEntry.mk (PyData.keyHash P (Str.ofString "VBAREQUAL")) (Value.str (Str.ofString "VBAREQUAL") 452) (Value.int 42 451), DictEntry.mk (PyData.keyHash P (Str.ofString "CIRCUMFLEXEQUAL")) (Value.str (Str.ofString "CIRCUMFLEXEQUAL") 454) (Value.int 43 453), DictEntry.mk (PyData.keyHash P (Str.ofString "LEFTSHIFTEQUAL")) (Value.str (Str.ofString "LEFTSHIFTEQUAL") 456) (Value.int 44 455), DictEntry.mk (PyData.keyHash P (Str.ofString "RIGHTSHIFTEQUAL")) (Value.str (Str.ofString "RIGHTSHIFTEQUAL") 458) (Value.int 45 457), DictEntry.mk (PyData.keyHash P (Str.ofString "DOUBLESTAREQUAL")) (Value.str (Str.ofString "DOUBLESTAREQUAL") 460) (Value.int 46 459), DictEntry.mk (PyData.keyHash P (Str.ofString "DOUBLESLASH")) (Value.str (Str.ofString "DOUBLESLASH") 462) (Value.int 47 461), DictEntry.mk (PyData.keyHash P (Str.ofString "DOUBLESLASHEQUAL")) (Value.str (Str.ofString "DOUBLESLASHEQUAL") 464) (Value.int 48 463), DictEntry.mk (PyData.keyHash P (Str.ofString "AT")) (Value.str (Str.ofString "AT") 466) (Value.int 49 465), DictEntry.mk (PyData.keyHash P (Str.ofString "ATEQUAL")) (Value.str (Str.ofString "ATEQUAL") 468) (Value.int 50 467), DictEntry.mk (PyData.keyHash P (Str.ofString "RARROW")) (Value.str (Str.ofString "RARROW") 470) (Value.int 51 469), DictEntry.mk (PyData.keyHash P (Str.ofString "ELLIPSIS")) (Value.str (Str.ofString "ELLIPSIS") 472) (Value.int 52 471), DictEntry.mk (PyData.keyHash P (Str.ofString "COLONEQUAL")) (Value.str (Str.ofString "COLONEQUAL") 474) (Value.int 53 473), DictEntry.mk (PyData.keyHash P (Str.ofString "EXCLAMATION")) (Value.str (Str.ofString "EXCLAMATION") 476) (Value.int 54 475), DictEntry.mk (PyData.keyHash P (Str.ofString "NT_OFFSET")) (Value.str (Str.ofString "NT_OFFSET") 478) (Value.int 256 477), DictEntry.mk (PyData.keyHash P (Str.ofString "EXACT_TOKEN_TYPES")) (Value.str (Str.ofString "EXACT_TOKEN_TYPES") 575) (Value.ref 143), DictEntry.mk (PyData.keyHash P (Str.ofString "ISTERMINAL")) (Value.str (Str.ofString "ISTERMINAL") 582) (Value.ref 152), DictEntry.mk (PyData.keyHash P (Str.ofString "ISNONTERMINAL")) (Value.str (Str.ofString "ISNONTERMINAL") 589) (Value.ref 159), DictEntry.mk (PyData.keyHash P (Str.ofString "ISEOF")) (Value.str (Str.ofString "ISEOF") 596) (Value.ref 166), DictEntry.mk (PyData.keyHash P (Str.ofString "_law_read")) (Value.str (Str.ofString "_law_read") 607) (Value.ref 173), DictEntry.mk (PyData.keyHash P (Str.ofString "_law_reply")) (Value.str (Str.ofString "_law_reply") 618) (Value.ref 180), DictEntry.mk (PyData.keyHash P (Str.ofString "_law_holds")) (Value.str (Str.ofString "_law_holds") 627) (Value.ref 187), DictEntry.mk (PyData.keyHash P (Str.ofString "_law_plain")) (Value.str (Str.ofString "_law_plain") 636) (Value.ref 194), DictEntry.mk (PyData.keyHash P (Str.ofString "_law_symbols")) (Value.str (Str.ofString "_law_symbols") 645) (Value.ref 201), DictEntry.mk (PyData.keyHash P (Str.ofString "_law_cost")) (Value.str (Str.ofString "_law_cost") 656) (Value.ref 208), DictEntry.mk (PyData.keyHash P (Str.ofString "_law_near")) (Value.str (Str.ofString "_law_near") 662) (Value.ref 213), DictEntry.mk (PyData.keyHash P (Str.ofString "_law_away")) (Value.str (Str.ofString "_law_away") 668) (Value.ref 218), DictEntry.mk (PyData.keyHash P (Str.ofString "law")) (Value.str (Str.ofString "law") 674) (Value.ref 223)] 91) #[]),
  (15, Obj.mk (Value.type "tuple") none (Data.seq #[]) #[]),
  (17, Obj.mk (Value.type "tuple") none (Data.seq #[Value.str (Str.ofString "ch_a") 198, Value.str (Str.ofString "ch_b") 199]) #[]),
  (18, Obj.mk (Value.type "tuple") none (Data.seq #[]) #[]),
  (20, Obj.mk (Value.type "code") none (Data.fields #[Value.str (Str.ofString "_substitution_cost") 195, Value.str (Str.ofString "_substitution_cost") 196, Value.str (Str.ofString "/claim/cut.py") 197, Value.int 5 0, Value.int 2 0, Value.int 0 0, Value.int 0 0, Value.int 3 0, Value.ref 15, Value.bool true, Value.int 181 0, Value.ref 16, Value.none, Value.ref 17, Value.ref 18, Value.ref 19, Value.int 200 0, Value.int 5 0, Value.str (Str.ofString "/claim/cut.py") 201]) #[]),
  (21, Obj.mk (Value.type "function") none (Data.func (FuncData.mk (Str.ofString "_substitution_cost") (Str.ofString "_substitution_cost") (prmK 4) (FuncBody.stmts (bdyK 4)) (scpK 4) 3 [] Value.none Value.none Value.none (Value.str (Str.ofString "cpy313.traceback") 187) none (Value.ref 20) Value.none 0)) #[]),
  (22, Obj.mk (Value.type "tuple") none (Data.seq #[]) #[]),
  (24, Obj.mk (Value.type "tuple") none (Data.seq #[Value.str (Str.ofString "a") 206, Value.str (Str.ofString "b") 207, Value.str (Str.ofString "max_cost") 208, Value.str (Str.ofString "pre") 209, Value.str (Str.ofString "post") 210, Value.str (Str.ofString "row") 211, Value.str (Str.ofString "result") 212, Value.str (Str.ofString "bindex") 213, Value.str (Str.ofString "bchar") 214, Value.str (Str.ofString "distance") 215, Value.str (Str.ofString "minimum") 216, Value.str (Str.ofString "index") 217, Value.str (Str.ofString "substitute") 218, Value.str (Str.ofString "insert_delete") 219]) #[]),
  (25, Obj.mk (Value.type "tuple") none (Data.seq #[]) #[]),
  (27, Obj.mk (Value.type "code") none (Data.fields #[Value.str (Str.ofString "_levenshtein_distance") 203, Value.str (Str.ofString "_levenshtein_distance") 204, Value.str (Str.ofString "/claim/cut.py") 205, Value.int 11 0, Value.int 3 0, Value.int 0 0, Value.int 0 0, Value.int 3 0, Value.ref 22, Value.bool true, Value.int 181 0, Value.ref 23, Value.none, Value.ref 24, Value.ref 25, Value.ref 26, Value.int 220 0, Value.int 11 0, Value.str (Str.ofString "/claim/cut.py") 221]) #[]),
  (28, Obj.mk (Value.type "function") none (Data.func (FuncData.mk (Str.ofString "_levenshtein_distance") (Str.ofString "_levenshtein_distance") (prmK 5) (FuncBody.stmts (bdyK 5)) (scpK 5) 3 [] Value.none Value.none Value.none (Value.str (Str.ofString "cpy313.traceback") 187) none (Value.ref 27) Value.none 0)) #[]),
  (29, Obj.mk (Value.type "tuple") none (Data.seq #[Value.type "Exception"]) #[]),
  (36, Obj.mk (Value.type "tuple") none (Data.seq #[]) #[]),
  (37, Obj.mk (Value.type "dict") none (Data.dict #[DictEntry.mk (PyData.keyHash P (Str.ofString "__module__")) (Value.str (Str.ofString "__module__") 232) (Value.str (Str.ofString "cpy313.ftplib") 223), DictEntry.mk (PyData.keyHash P (Str.ofString "__firstlineno__")) (Value.str (Str.ofString "__firstlineno__") 236) (Value.int 50 235), DictEntry.mk (PyData.keyHash P (Str.ofString "__static_attributes__")) (Value.str (Str.ofString "__static_attributes__") 237) (Value.ref 36), DictEntry.mk (PyData.keyHash P (Str.ofString "__weakref__")) (Value.str (Str.ofString "__weakref__") 239) (Value.ref 39), DictEntry.mk (PyData.keyHash P (Str.ofString "__doc__")) (Value.str (Str.ofString "__doc__") 240) Value.none] 3) #[]),
  (38, Obj.mk (Value.type "type") none (Data.cls (ClassData.mk (Str.ofString "Error") [Value.type "Exception"] [Value.ref 38, Value.type "Exception", Value.type "BaseException", Value.type "object"] 37 (Str.ofString "Error") true [] [Value.ref 51, Value.ref 63] false none false)) #[some (Value.ref 29), none, some (Value.str (Str.ofString "Error") 225), some (Value.str (Str.ofString "Error") 233), some (Value.builtin "Exception.__new__"), some (Value.bool true)]),
  (39, Obj.mk (Value.type "getset_descriptor") none (Data.fields #[Value.str (Str.ofString "__weakref__") 238, Value.ref 38, Value.builtin "ExceptionGroup.__weakref__", Value.none]) #[]),
  (42, Obj.mk (Value.type "tuple") none (Data.seq #[Value.ref 38]) #[]),
  (49, Obj.mk (Value.type "tuple") none (Data.seq #[]) #[]),
  (50, Obj.mk (Value.type "dict") none (Data.dict #[DictEntry.mk (PyData.keyHash P (Str.ofString "__module__")) (Value.str (Str.ofString "__module__") 252) (Value.str (Str.ofString "cpy313.ftplib") 223), DictEntry.mk (PyData.keyHash P (Str.ofString "__firstlineno__")) (Value.str (Str.ofString "__firstlineno__") 256) (Value.int 52 255), DictEntry.mk (PyData.keyHash P (Str.ofString "__static_attributes__")) (Value.str (Str.ofString "__static_attributes__") 257) (Value.ref 49), DictEntry.mk (PyData.keyHash P (Str.ofString "__doc__")) (Value.str (Str.ofString "__doc__") 258) Value.none] 2) #[]),
  (51, Obj.mk (Value.type "type") none (Data.cls (ClassData.mk (Str.ofString "error_reply") [Value.ref 38] [Value.ref 51, Value.ref 38, Value.type "Exception", Value.type "BaseException", Value.type "object"] 50 (Str.ofString "error_reply") true [] [] false none false)) #[some (Value.ref 42), none, some (Value.str (Str.ofString "error_reply") 245), some (Value.str (Str.ofString "error_reply") 253), some (Value.builtin "Exception.__new__"), some (Value.bool true)]),
  (54, Obj.mk (Value.type "tuple") none (Data.seq #[Value.ref 38]) #[]),
  (61, Obj.mk (Value.type "tuple") none (Data.seq #[]) #[]),
  (62, Obj.mk (Value.type "dict") none (Data.dict #[DictEntry.mk (PyData.keyHash P (Str.ofString "__module__")) (Value.str (Str.ofString "__module__") 268) (Value.str (Str.ofString "cpy313.ftplib") 223), DictEntry.mk (PyData.keyHash P (Str.ofString "__firstlineno__")) (Value.str (Str.ofString "__firstlineno__") 272) (Value.int 54 271), DictEntry.mk (PyData.keyHash P (Str.ofString "__static_attributes__")) (Value.str (Str.ofString "__static_attributes__") 273) (Value.ref 61), DictEntry.mk (PyData.keyHash P (Str.ofString "__doc__")) (Value.str (Str.ofString "__doc__") 274) Value.none] 2) #[]),
  (63, Obj.mk (Value.type "type") none (Data.cls (ClassData.mk (Str.ofString "error_proto") [Value.ref 38] [Value.ref 63, Value.ref 38, Value.type "Exception", Value.type "BaseException", Value.type "object"] 62 (Str.ofString "error_proto") true [] [] false none false)) #[some (Value.ref 54), none, some (Value.str (Str.ofString "error_proto") 261), some (Value.str (Str.ofString "error_proto") 269), some (Value.builtin "Exception.__new__"), some (Value.bool true)]),
  (66, Obj.mk (Value.type "tuple") none (Data.seq #[]) #[]),
  (68, Obj.mk (Value.type "tuple") none (Data.seq #[Value.str (Str.ofString "resp") 280, Value.str (Str.ofString "peer") 281, Value.str (Str.ofString "left") 282, Value.str (Str.ofString "right") 283, Value.str (Str.ofString "parts") 284, Value.str (Str.ofString "host") 285, Value.str (Str.ofString "port") 286]) #[]),
  (69, Obj.mk (Value.type "tuple") none (Data.seq #[]) #[]),
  (71, Obj.mk (Value.type "code") none (Data.fields #[Value.str (Str.ofString "parse229") 277, Value.str (Str.ofString "parse229") 278, Value.str (Str.ofString "/claim/cut.py") 279, Value.int 56 0, Value.int 2 0, Value.int 0 0, Value.int 0 0, Value.int 3 0, Value.ref 66, Value.bool true, Value.int 181 0, Value.ref 67, Value.none, Value.ref 68, Value.ref 69, Value.ref 70, Value.int 287 0, Value.int 56 0, Value.str (Str.ofString "/claim/cut.py") 288]) #[]),
  (72, Obj.mk (Value.type "function") none (Data.func (FuncData.mk (Str.ofString "parse229") (Str.ofString "parse229") (prmK 10) (FuncBody.stmts (bdyK 10)) (scpK 10) 3 [] Value.none Value.none Value.none (Value.str (Str.ofString "cpy313.ftplib") 223) none (Value.ref 71) Value.none 0)) #[]),
  (73, Obj.mk (Value.type "tuple") none (Data.seq #[]) #[]),
  (75, Obj.mk (Value.type "tuple") none (Data.seq #[Value.str (Str.ofString "resp") 293, Value.str (Str.ofString "dirname") 294, Value.str (Str.ofString "i") 295, Value.str (Str.ofString "n") 296, Value.str (Str.ofString "c") 297]) #[]),
  (76, Obj.mk (Value.type "tuple") none (Data.seq #[]) #[]),
  (78, Obj.mk (Value.type "code") none (Data.fields #[Value.str (Str.ofString "parse257") 290, Value.str (Str.ofString "parse257") 291, Value.str (Str.ofString "/claim/cut.py") 292, Value.int 73 0, Value.int 1 0, Value.int 0 0, Value.int 0 0, Value.int 3 0, Value.ref 73, Value.bool true, Value.int 181 0, Value.ref 74, Value.none, Value.ref 75, Value.ref 76, Value.ref 77, Value.int 298 0, Value.int 73 0, Value.str (Str.ofString "/claim/cut.py") 299]) #[]),
  (79, Obj.mk (Value.type "function") none (Data.func (FuncData.mk (Str.ofString "parse257") (Str.ofString "parse257") (prmK 11) (FuncBody.stmts (bdyK 11)) (scpK 11) 3 [] Value.none Value.none Value.none (Value.str (Str.ofString "cpy313.ftplib") 223) none (Value.ref 78) Value.none 0)) #[]),
  (80, Obj.mk (Value.type "tuple") none (Data.seq #[]) #[]),
  (82, Obj.mk (Value.type "tuple") none (Data.seq #[Value.str (Str.ofString "a") 306, Value.str (Str.ofString "b") 307]) #[]),
  (83, Obj.mk (Value.type "tuple") none (Data.seq #[]) #[]),
  (85, Obj.mk (Value.type "code") none (Data.fields #[Value.str (Str.ofString "lt") 303, Value.str (Str.ofString "lt") 304, Value.str (Str.ofString "/claim/cut.py") 305, Value.int 91 0, Value.int 2 0, Value.int 0 0, Value.int 0 0, Value.int 3 0, Value.ref 80, Value.bool true, Value.int 181 0, Value.ref 81, Value.none, Value.ref 82, Value.ref 83, Value.ref 84, Value.int 308 0, Value.int 91 0, Value.str (Str.ofString "/claim/cut.py") 309]) #[]),
  (86, Obj.mk (Value.type "function") none (Data.func (FuncData.mk (Str.ofString "lt") (Str.ofString "lt") (prmK 13) (FuncBody.stmts (bdyK 13)) (scpK 13) 3 [] Value.none Value.none Value.none (Value.str (Str.ofString "cpy313.operator") 301) none (Value.ref 85) Value.none 0)) #[]),
  (87, Obj.mk (Value.type "tuple") none (Data.seq #[]) #[]),
  (89, Obj.mk (Value.type "tuple") none (Data.seq #[Value.str (Str.ofString "a") 314, Value.str (Str.ofString "b") 315]) #[]),
  (90, Obj.mk (Value.type "tuple") none (Data.seq #[]) #[]),
  (92, Obj.mk (Value.type "code") none (Data.fields #[Value.str (Str.ofString "le") 311, Value.str (Str.ofString "le") 312, Value.str (Str.ofString "/claim/cut.py") 313, Value.int 93 0, Value.int 2 0, Value.int 0 0, Value.int 0 0, Value.int 3 0, Value.ref 87, Value.bool true, Value.int 181 0, Value.ref 88, Value.none, Value.ref 89, Value.ref 90, Value.ref 91, Value.int 316 0, Value.int 93 0, Value.str (Str.ofString "/claim/cut.py") 317]) #[]),
  (93, Obj.mk (Value.type "function") none (Data.func (FuncData.mk (Str.ofString "le") (Str.ofString "le") (prmK 14) (FuncBody.stmts (bdyK 14)) (scpK 14) 3 [] Value.none Value.none Value.none (Value.str (Str.ofString "cpy313.operator") 301) none (Value.ref 92) Value.none 0)) #[]),
  (94, Obj.mk (Value.type "tuple") none (Data.seq #[]) #[]),
  (96, Obj.mk (Value.type "tuple") none (Data.seq #[Value.str (Str.ofString "a") 322, Value.str (Str.ofString "b") 323]) #[]),
  (97, Obj.mk (Value.type "tuple") none (Data.seq #[]) #[]),
  (99, Obj.mk (Value.type "code") none (Data.fields #[Value.str (Str.ofString "eq") 319, Value.str (Str.ofString "eq") 320, Value.str (Str.ofString "/claim/cut.py") 321, Value.int 95 0, Value.int 2 0, Value.int 0 0, Value.int 0 0, Value.int 3 0, Value.ref 94, Value.bool true, Value.int 181 0, Value.ref 95, Value.none, Value.ref 96, Value.ref 97, Value.ref 98, Value.int 324 0, Value.int 95 0, Value.str (Str.ofString "/claim/cut.py") 325]) #[]),
  (100, Obj.mk (Value.type "function") none (Data.func (FuncData.mk (Str.ofString "eq") (Str.ofString "eq") (prmK 15) (FuncBody.stmts (bdyK 15)) (scpK 15) 3 [] Value.none Value.none Value.none (Value.str (Str.ofString "cpy313.operator") 301) none (Value.ref 99) Value.none 0)) #[]),
  (101, Obj.mk (Value.type "tuple") none (Data.seq #[]) #[]),
  (103, Obj.mk (Value.type "tuple") none (Data.seq #[Value.str (Str.ofString "a") 330, Value.str (Str.ofString "b") 331]) #[]),
  (104, Obj.mk (Value.type "tuple") none (Data.seq #[]) #[]),
  (106, Obj.mk (Value.type "code") none (Data.fields #[Value.str (Str.ofString "ne") 327, Value.str (Str.ofString "ne") 328, Value.str (Str.ofString "/claim/cut.py") 329, Value.int 97 0, Value.int 2 0, Value.int 0 0, Value.int 0 0, Value.int 3 0, Value.ref 101, Value.bool true, Value.int 181 0, Value.ref 102, Value.none, Value.ref 103, Value.ref 104, Value.ref 105, Value.int 332 0, Value.int 97 0, Value.str (Str.ofString "/claim/cut.py") 333]) #[]),
  (107, Obj.mk (Value.type "function") none (Data.func (FuncData.mk (Str.ofString "ne") (Str.ofString "ne") (prmK 16) (FuncBody.stmts (bdyK 16)) (scpK 16) 3 [] Value.none Value.none Value.none (Value.str (Str.ofString "cpy313.operator") 301) none (Value.ref 106) Value.none 0)) #[]),
  (108, Obj.mk (Value.type "tuple") none (Data.seq #[]) #[]),
  (110, Obj.mk (Value.type "tuple") none (Data.seq #[Value.str (Str.ofString "a") 338, Value.str (Str.ofString "b") 339]) #[]),
  (111, Obj.mk (Value.type "tuple") none (Data.seq #[]) #[]),
  (113, Obj.mk (Value.type "code") none (Data.fields #[Value.str (Str.ofString "ge") 335, Value.str (Str.ofString "ge") 336, Value.str (Str.ofString "/claim/cut.py") 337, Value.int 99 0, Value.int 2 0, Value.int 0 0, Value.int 0 0, Value.int 3 0, Value.ref 108, Value.bool true, Value.int 181 0, Value.ref 109, Value.none, Value.ref 110, Value.ref 111, Value.ref 112, Value.int 340 0, Value.int 99 0, Value.str (Str.ofString "/claim/cut.py") 341]) #[]),
  (114, Obj.mk (Value.type "function") none (Data.func (FuncData.mk (Str.ofString "ge") (Str.ofString "ge") (prmK 17) (FuncBody.stmts (bdyK 17)) (scpK 17) 3 [] Value.none Value.none Value.none (Value.str (Str.ofString "cpy313.operator") 301) none (Value.ref 113) Value.none 0)) #[]),
  (115, Obj.mk (Value.type "tuple") none (Data.seq #[]) #[]),
  (117, Obj.mk (Value.type "tuple") none (Data.seq #[Value.str (Str.ofString "a") 346, Value.str (Str.ofString "b") 347]) #[]),
  (118, Obj.mk (Value.type "tuple") none (Data.seq #[]) #[]),
  (120, Obj.mk (Value.type "code") none (Data.fields #[Value.str (Str.ofString "gt") 343, Value.str (Str.ofString "gt") 344, Value.str (Str.ofString "/claim/cut.py") 345, Value.int 101 0, Value.int 2 0, Value.int 0 0, Value.int 0 0, Value.int 3 0, Value.ref 115, Value.bool true, Value.int 181 0, Value.ref 116, Value.none, Value.ref 117, Value.ref 118, Value.ref 119, Value.int 348 0, Value.int 101 0, Value.str (Str.ofString "/claim/cut.py") 349]) #[]),
  (121, Obj.mk (Value.type "function") none (Data.func (FuncData.mk (Str.ofString "gt") (Str.ofString "gt") (prmK 18) (FuncBody.stmts (bdyK 18)) (scpK 18) 3 [] Value.none Value.none Value.none (Value.str (Str.ofString "cpy313.operator") 301) none (Value.ref 120) Value.none 0)) #[]),
  (122, Obj.mk (Value.type "tuple") none (Data.seq #[]) #[]),
  (124, Obj.mk (Value.type "tuple") none (Data.seq #[Value.str (Str.ofString "a") 354, Value.str (Str.ofString "b") 355]) #[]),
  (125, Obj.mk (Value.type "tuple") none (Data.seq #[]) #[]),
  (127, Obj.mk (Value.type "code") none (Data.fields #[Value.str (Str.ofString "mul") 351, Value.str (Str.ofString "mul") 352, Value.str (Str.ofString "/claim/cut.py") 353, Value.int 103 0, Value.int 2 0, Value.int 0 0, Value.int 0 0, Value.int 3 0, Value.ref 122, Value.bool true, Value.int 181 0, Value.ref 123, Value.none, Value.ref 124, Value.ref 125, Value.ref 126, Value.int 356 0, Value.int 103 0, Value.str (Str.ofString "/claim/cut.py") 357]) #[]),
  (128, Obj.mk (Value.type "function") none (Data.func (FuncData.mk (Str.ofString "mul") (Str.ofString "mul") (prmK 19) (FuncBody.stmts (bdyK 19)) (scpK 19) 3 [] Value.none Value.none Value.none (Value.str (Str.ofString "cpy313.operator") 301) none (Value.ref 127) Value.none 0)) #[]),
  (129, Obj.mk (Value.type "tuple") none (Data.seq #[]) #[]),
  (131, Obj.mk (Value.type "tuple") none (Data.seq #[Value.str (Str.ofString "a") 362, Value.str (Str.ofString "b") 363]) #[]),
  (132, Obj.mk (Value.type "tuple") none (Data.seq #[]) #[]),
  (134, Obj.mk (Value.type "code") none (Data.fields #[Value.str (Str.ofString "or_") 359, Value.str (Str.ofString "or_") 360, Value.str (Str.ofString "/claim/cut.py") 361, Value.int 105 0, Value.int 2 0, Value.int 0 0, Value.int 0 0, Value.int 3 0, Value.ref 129, Value.bool true, Value.int 181 0, Value.ref 130, Value.none, Value.ref 131, Value.ref 132, Value.ref 133, Value.int 364 0, Value.int 105 0, Value.str (Str.ofString "/claim/cut.py") 365]) #[]),
  (135, Obj.mk (Value.type "function") none (Data.func (FuncData.mk (Str.ofString "or_") (Str.ofString "or_") (prmK 20) (FuncBody.stmts (bdyK 20)) (scpK 20) 3 [] Value.none Value.none Value.none (Value.str (Str.ofString "cpy313.operator") 301) none (Value.ref 134) Value.none 0)) #[]),
  (136, Obj.mk (Value.type "tuple") none (Data.seq #[]) #[]),
  (138, Obj.mk (Value.type "tuple") none (Data.seq #[Value.str (Str.ofString "a") 370, Value.str (Str.ofString "b") 371, Value.str (Str.ofString "count") 372, Value.str (Str.ofString "i") 373]) #[]),
  (139, Obj.mk (Value.type "tuple") none (Data.seq #[]) #[]),
  (141, Obj.mk (Value.type "code") none (Data.fields #[Value.str (Str.ofString "countOf") 367, Value.str (Str.ofString "countOf") 368, Value.str (Str.ofString "/claim/cut.py") 369, Value.int 107 0, Value.int 2 0, Value.int 0 0, Value.int 0 0, Value.int 3 0, Value.ref 136, Value.bool true, Value.int 181 0, Value.ref 137, Value.none, Value.ref 138, Value.ref 139, Value.ref 140, Value.int 374 0, Value.int 107 0, Value.str (Str.ofString "/claim/cut.py") 375]) #[]),
  (142, Obj.mk (Value.type "function") none (Data.func (FuncData.mk (Str.ofString "countOf") (Str.ofString "countOf") (prmK 21) (FuncBody.stmts (bdyK 21)) (scpK 21) 3 [] Value.none Value.none Value.none (Value.str (Str.ofString "cpy313.operator") 301) none (Value.ref 141) Value.none 0)) #[]),
  (143, Obj.mk (Value.type "dict") none (Data.dict #[DictEntry.mk (PyData.keyHash P (Str.ofString "!")) (Value.str (Str.ofString "!") 479) (Value.int 54 475), DictEntry.mk (PyData.keyHash P (Str.ofString "!=")) (Value.str (Str.ofString "!=") 481) (Value.int 28 423), DictEntry.mk (PyData.keyHash P (Str.ofString "%")) (Value.str (Str.ofString "%") 483) (Value.int 24 415), DictEntry.mk (PyData.keyHash P (Str.ofString "%=")) (Value.str (Str.ofString "%=") 485) (Value.int 40 447), DictEntry.mk (PyData.keyHash P (Str.ofString "&")) (Value.str (Str.ofString "&") 487) (Value.int 19 405), DictEntry.mk (PyData.keyHash P (Str.ofString "&=")) (Value.str (Str.ofString "&=") 489) (Value.int 41 449), DictEntry.mk (PyData.keyHash P (Str.ofString "(")) (Value.str (Str.ofString "(") 491) (Value.int 7 381), DictEntry.mk (PyData.keyHash P (Str.ofString ")")) (Value.str (Str.ofString ")") 493) (Value.int 8 383), DictEntry.mk (PyData.keyHash P (Str.ofString "*")) (Value.str (Str.ofString "*") 495) (Value.int 16 399), DictEntry.mk (PyData.keyHash P (Str.ofString "**")) (Value.str (Str.ofString "**") 497) (Value.int 35 437), DictEntry.mk (PyData.keyHash P (Str.ofString "**=")) (Value.str (Str.ofString "**=") 499) (Value.int 46 459), DictEntry.mk (PyData.keyHash P (Str.ofString "*=")) (Value.str (Str.ofString "*=") 501) (Value.int 38 443), DictEntry.mk (PyData.keyHash P (Str.ofString "+")) (Value.str (Str.ofString "+") 503) (Value.int 14 395), DictEntry.mk (PyData.keyHash P (Str.ofString "+=")) (Value.str (Str.ofString "+=") 505) (Value.int 36 439), DictEntry.mk (PyData.keyHash P (Str.ofString ",")) (Value.str (Str.ofString ",") 507) (Value.int 12 391), DictEntry.mk (PyData.keyHash P (Str.ofString "-")) (Value.str (Str.ofString "-") 509) (Value.int 15 397), DictEntry.mk (PyData.keyHash P (Str.ofString "-=")) (Value.str (Str.ofString "-=") 511) (Value.int 37 441), DictEntry.mk (PyData.keyHash P (Str.ofString "->")) (Value.str (Str.ofString "->") 513) (Value.int 51 469), DictEntry.mk (PyData.keyHash P (Str.ofString ".")) (Value.str (Str.ofString ".") 515) (Value.int 23 413), DictEntry.mk (PyData.keyHash P (Str.ofString "...")) (Value.str (Str.ofString "...") 517) (Value.int 52 471), DictEntry.mk (PyData.keyHash P (Str.ofString "/")) (Value.str (Str.ofString "/") 519) (Value.int 17 401), DictEntry.mk (PyData.keyHash P (Str.ofString "//")) (Value.str (Str.ofString "//") 521) (Value.int 47 461), DictEntry.mk (PyData.keyHash P (Str.ofString "//=")) (Value.str (Str.ofString "//=") 523) (Value.int 48 463), DictEntry.mk (PyData.keyHash P (Str.ofString "/=")) (Value.str (Str.ofString "/=") 525) (Value.int 39 445), DictEntry.mk (PyData.keyHash P (Str.ofString ":")) (Value.str (Str.ofString ":") 527) (Value.int 11 389), DictEntry.mk (PyData.keyHash P (Str.ofString ":=")) (Value.str (Str.ofString ":=") 529) (Value.int 53 473), DictEntry.mk (PyData.keyHash P (Str.ofString ";")) (Value.str (Str.ofString ";") 531) (Value.int 13 393), DictEntry.mk (PyData.keyHash P (Str.ofString "<")) (Value.str (Str.ofString "<") 533) (Value.int 20 407), DictEntry.mk (PyData.keyHash P (Str.ofString "<<")) (Value.str (Str.ofString "<<") 535) (Value.int 33 433), DictEntry.mk (PyData.keyHash P (Str.ofString "<<=")) (Value.str (Str.ofString "<<=") 537) (Value.int 44 455), DictEntry.mk (PyData.keyHash P (Str.ofString "<=")) (Value.str (Str.ofString "<=") 539) (Value.int 29 425), DictEntry.mk (PyData.keyHash P (Str.ofString "=")) (Value.str (Str.ofString "=") 541) (Value.int 22 411), DictEntry.mk (PyData.keyHash P (Str.ofString "==")) (Value.str (Str.ofString "==") 543) (Value.int 27 421), DictEntry.mk (PyData.keyHash P (Str.ofString ">")) (Value.str (Str.ofString ">") 545) (Value.int 21 409), DictEntry.mk (PyData.keyHash P (Str.ofString ">=")) (Value.str (Str.ofString ">=") 547) (Value.int 30 427), DictEntry.mk (PyData.keyHash P (Str.ofString ">>")) (Value.str (Str.ofString ">>") 548) (Value.int 34 435), DictEntry.mk (PyData.keyHash P (Str.ofString ">>=")) (Value.str (Str.ofString ">>=") 549) (Value.int 45 457), DictEntry.mk (PyData.keyHash P (Str.ofString "@")) (Value.str (Str.ofString "@") 550) (Value.int 49 465), DictEntry.mk (PyData.keyHash P (Str.ofString "@=")) (Value.str (Str.ofString "@=") 551) (Value.int 50 467), DictEntry.mk (PyData.keyHash P (Str.ofString "[")) (Value.str (Str.ofString "[") 552) (Value.int 9 385), DictEntry.mk (PyData.keyHash P (Str.ofString "]")) (Value.str (Str.ofString "]") 553) (Value.int 10 387), DictEntry.mk (PyData.keyHash P (Str.ofString "^")) (Value.str (Str.ofString "^") 554) (Value.int 32 431), DictEntry.mk (PyData.keyHash P (Str.ofString "^=")) (Value.str (Str.ofString "^=") 555) (Value.int 43 453), DictEntry.mk (PyData.keyHash P (Str.ofString "{")) (Value.str (Str.ofString "{") 556) (Value.int 25 417), DictEntry.mk (PyData.keyHash P (Str.ofString "|")) (Value.str (Str.ofString "|") 557) (Value.int 18 403), DictEntry.mk (PyData.keyHash P (Str.ofString "|=")) (Value.str (Str.ofString "|=") 558) (Value.int 42 451), DictEntry.mk (PyData.keyHash P (Str.ofString "}")) (Value.str (Str.ofString "}") 559) (Value.int 26 419), DictEntry.mk (PyData.keyHash P (Str.ofString "~")) (Value.str (Str.ofString "~") 560) (Value.int 31 429)] 48) #[]),
  (146, Obj.mk (Value.type "tuple") none (Data.seq #[]) #[]),
  (148, Obj.mk (Value.type "tuple") none (Data.seq #[Value.str (Str.ofString "x") 579]) #[]),
  (149, Obj.mk (Value.type "tuple") none (Data.seq #[]) #[]),
  (151, Obj.mk (Value.type "code") none (Data.fields #[Value.str (Str.ofString "ISTERMINAL") 576, Value.str (Str.ofString "ISTERMINAL") 577, Value.str (Str.ofString "/claim/cut.py") 578, Value.int 165 0, Value.int 1 0, Value.int 0 0, Value.int 0 0, Value.int 3 0, Value.ref 146, Value.bool true, Value.int 181 0, Value.ref 147, Value.none, Value.ref 148, Value.ref 149, Value.ref 150, Value.int 580 0, Value.int 165 0, Value.str (Str.ofString "/claim/cut.py") 581]) #[]),
  (152, Obj.mk (Value.type "function") none (Data.func (FuncData.mk (Str.ofString "ISTERMINAL") (Str.ofString "ISTERMINAL") (prmK 74) (FuncBody.stmts (bdyK 74)) (scpK 74) 3 [] Value.none Value.none Value.none (Value.str (Str.ofString "cpy313.token") 377) none (Value.ref 151) Value.none 0)) #[]),
  (153, Obj.mk (Value.type "tuple") none (Data.seq #[]) #[]),
  (155, Obj.mk (Value.type "tuple") none (Data.seq #[Value.str (Str.ofString "x") 586]) #[]),
  (156, Obj.mk (Value.type "tuple") none (Data.seq #[]) #[]),
  (158, Obj.mk (Value.type "code") none (Data.fields #[Value.str (Str.ofString "ISNONTERMINAL") 583, Value.str (Str.ofString "ISNONTERMINAL") 584, Value.str (Str.ofString "/claim/cut.py") 585, Value.int 167 0, Value.int 1 0, Value.int 0 0, Value.int 0 0, Value.int 3 0, Value.ref 153, Value.bool true, Value.int 181 0, Value.ref 154, Value.none, Value.ref 155, Value.ref 156, Value.ref 157, Value.int 587 0, Value.int 167 0, Value.str (Str.ofString "/claim/cut.py") 588]) #[]),
  (159, Obj.mk (Value.type "function") none (Data.func (FuncData.mk (Str.ofString "ISNONTERMINAL") (Str.ofString "ISNONTERMINAL") (prmK 75) (FuncBody.stmts (bdyK 75)) (scpK 75) 3 [] Value.none Value.none Value.none (Value.str (Str.ofString "cpy313.token") 377) none (Value.ref 158) Value.none 0)) #[]),
  (160, Obj.mk (Value.type "tuple") none (Data.seq #[]) #[]),
  (162, Obj.mk (Value.type "tuple") none (Data.seq #[Value.str (Str.ofString "x") 593]) #[]),
  (163, Obj.mk (Value.type "tuple") none (Data.seq #[]) #[]),
  (165, Obj.mk (Value.type "code") none (Data.fields #[Value.str (Str.ofString "ISEOF") 590, Value.str (Str.ofString "ISEOF") 591, Value.str (Str.ofString "/claim/cut.py") 592, Value.int 169 0, Value.int 1 0, Value.int 0 0, Value.int 0 0, Value.int 3 0, Value.ref 160, Value.bool true, Value.int 181 0, Value.ref 161, Value.none, Value.ref 162, Value.ref 163, Value.ref 164, Value.int 594 0, Value.int 169 0, Value.str (Str.ofString "/claim/cut.py") 595]) #[]),
  (166, Obj.mk (Value.type "function") none (Data.func (FuncData.mk (Str.ofString "ISEOF") (Str.ofString "ISEOF") (prmK 76) (FuncBody.stmts (bdyK 76)) (scpK 76) 3 [] Value.none Value.none Value.none (Value.str (Str.ofString "cpy313.token") 377) none (Value.ref 165) Value.none 0)) #[]),
  (167, Obj.mk (Value.type "tuple") none (Data.seq #[]) #[]),
  (169, Obj.mk (Value.type "tuple") none (Data.seq #[Value.str (Str.ofString "reply") 602, Value.str (Str.ofString "quoted") 603, Value.str (Str.ofString "fault") 604]) #[]),
  (170, Obj.mk (Value.type "tuple") none (Data.seq #[]) #[]),
  (172, Obj.mk (Value.type "code") none (Data.fields #[Value.str (Str.ofString "_law_read") 599, Value.str (Str.ofString "_law_read") 600, Value.str (Str.ofString "/claim/cut.py") 601, Value.int 172 0, Value.int 2 0, Value.int 0 0, Value.int 0 0, Value.int 3 0, Value.ref 167, Value.bool true, Value.int 181 0, Value.ref 168, Value.none, Value.ref 169, Value.ref 170, Value.ref 171, Value.int 605 0, Value.int 172 0, Value.str (Str.ofString "/claim/cut.py") 606]) #[]),
  (173, Obj.mk (Value.type "function") none (Data.func (FuncData.mk (Str.ofString "_law_read") (Str.ofString "_law_read") (prmK 78) (FuncBody.stmts (bdyK 78)) (scpK 78) 3 [] Value.none Value.none Value.none (Value.str (Str.ofString "law_wo0055_01") 597) none (Value.ref 172) Value.none 0)) #[]),
  (174, Obj.mk (Value.type "tuple") none (Data.seq #[]) #[]),
  (176, Obj.mk (Value.type "tuple") none (Data.seq #[Value.str (Str.ofString "kind") 611, Value.str (Str.ofString "inside") 612, Value.str (Str.ofString "mark") 613, Value.str (Str.ofString "whole") 614, Value.str (Str.ofString "spoiled") 615]) #[]),
  (177, Obj.mk (Value.type "tuple") none (Data.seq #[]) #[]),
  (179, Obj.mk (Value.type "code") none (Data.fields #[Value.str (Str.ofString "_law_reply") 608, Value.str (Str.ofString "_law_reply") 609, Value.str (Str.ofString "/claim/cut.py") 610, Value.int 179 0, Value.int 3 0, Value.int 0 0, Value.int 0 0, Value.int 3 0, Value.ref 174, Value.bool true, Value.int 181 0, Value.ref 175, Value.none, Value.ref 176, Value.ref 177, Value.ref 178, Value.int 616 0, Value.int 179 0, Value.str (Str.ofString "/claim/cut.py") 617]) #[]),
  (180, Obj.mk (Value.type "function") none (Data.func (FuncData.mk (Str.ofString "_law_reply") (Str.ofString "_law_reply") (prmK 79) (FuncBody.stmts (bdyK 79)) (scpK 79) 3 [] Value.none Value.none Value.none (Value.str (Str.ofString "law_wo0055_01") 597) none (Value.ref 179) Value.none 0)) #[]),
  (181, Obj.mk (Value.type "tuple") none (Data.seq #[]) #[]),
  (183, Obj.mk (Value.type "tuple") none (Data.seq #[Value.str (Str.ofString "symbol") 622, Value.str (Str.ofString "one") 623, Value.str (Str.ofString "other") 624]) #[]),
  (184, Obj.mk (Value.type "tuple") none (Data.seq #[]) #[]),
  (186, Obj.mk (Value.type "code") none (Data.fields #[Value.str (Str.ofString "_law_holds") 619, Value.str (Str.ofString "_law_holds") 620, Value.str (Str.ofString "/claim/cut.py") 621, Value.int 186 0, Value.int 3 0, Value.int 0 0, Value.int 0 0, Value.int 3 0, Value.ref 181, Value.bool true, Value.int 181 0, Value.ref 182, Value.none, Value.ref 183, Value.ref 184, Value.ref 185, Value.int 625 0, Value.int 186 0, Value.str (Str.ofString "/claim/cut.py") 626]) #[]),
  (187, Obj.mk (Value.type "function") none (Data.func (FuncData.mk (Str.ofString "_law_holds") (Str.ofString "_law_holds") (prmK 80) (FuncBody.stmts (bdyK 80)) (scpK 80) 3 [] Value.none Value.none Value.none (Value.str (Str.ofString "law_wo0055_01") 597) none (Value.ref 186) Value.none 0)) #[]),
  (188, Obj.mk (Value.type "tuple") none (Data.seq #[]) #[]),
  (190, Obj.mk (Value.type "tuple") none (Data.seq #[Value.str (Str.ofString "draw") 631, Value.str (Str.ofString "one") 632, Value.str (Str.ofString "other") 633]) #[]),
  (191, Obj.mk (Value.type "tuple") none (Data.seq #[]) #[]),
  (193, Obj.mk (Value.type "code") none (Data.fields #[Value.str (Str.ofString "_law_plain") 628, Value.str (Str.ofString "_law_plain") 629, Value.str (Str.ofString "/claim/cut.py") 630, Value.int 192 0, Value.int 3 0, Value.int 0 0, Value.int 0 0, Value.int 3 0, Value.ref 188, Value.bool true, Value.int 181 0, Value.ref 189, Value.none, Value.ref 190, Value.ref 191, Value.ref 192, Value.int 634 0, Value.int 192 0, Value.str (Str.ofString "/claim/cut.py") 635]) #[]),
  (194, Obj.mk (Value.type "function") none (Data.func (FuncData.mk (Str.ofString "_law_plain") (Str.ofString "_law_plain") (prmK 81) (FuncBody.stmts (bdyK 81)) (scpK 81) 3 [] Value.none Value.none Value.none (Value.str (Str.ofString "law_wo0055_01") 597) none (Value.ref 193) Value.none 0)) #[]),
  (195, Obj.mk (Value.type "tuple") none (Data.seq #[]) #[]),
  (197, Obj.mk (Value.type "tuple") none (Data.seq #[Value.str (Str.ofString "text") 640, Value.str (Str.ofString "row") 641, Value.str (Str.ofString "size") 642]) #[]),
  (198, Obj.mk (Value.type "tuple") none (Data.seq #[]) #[]),
  (200, Obj.mk (Value.type "code") none (Data.fields #[Value.str (Str.ofString "_law_symbols") 637, Value.str (Str.ofString "_law_symbols") 638, Value.str (Str.ofString "/claim/cut.py") 639, Value.int 194 0, Value.int 1 0, Value.int 0 0, Value.int 0 0, Value.int 3 0, Value.ref 195, Value.bool true, Value.int 181 0, Value.ref 196, Value.none, Value.ref 197, Value.ref 198, Value.ref 199, Value.int 643 0, Value.int 194 0, Value.str (Str.ofString "/claim/cut.py") 644]) #[]),
  (201, Obj.mk (Value.type "function") none (Data.func (FuncData.mk (Str.ofString "_law_symbols") (Str.ofString "_law_symbols") (prmK 82) (FuncBody.stmts (bdyK 82)) (scpK 82) 3 [] Value.none Value.none Value.none (Value.str (Str.ofString "law_wo0055_01") 597) none (Value.ref 200) Value.none 0)) #[]),
  (202, Obj.mk (Value.type "tuple") none (Data.seq #[]) #[]),
  (204, Obj.mk (Value.type "tuple") none (Data.seq #[Value.str (Str.ofString "one") 649, Value.str (Str.ofString "p") 650, Value.str (Str.ofString "other") 651, Value.str (Str.ofString "q") 652, Value.str (Str.ofString "price") 653]) #[]),
  (205, Obj.mk (Value.type "tuple") none (Data.seq #[]) #[]),
  (207, Obj.mk (Value.type "code") none (Data.fields #[Value.str (Str.ofString "_law_cost") 646, Value.str (Str.ofString "_law_cost") 647, Value.str (Str.ofString "/claim/cut.py") 648, Value.int 203 0, Value.int 4 0, Value.int 0 0, Value.int 0 0, Value.int 3 0, Value.ref 202, Value.bool true, Value.int 181 0, Value.ref 203, Value.none, Value.ref 204, Value.ref 205, Value.ref 206, Value.int 654 0, Value.int 203 0, Value.str (Str.ofString "/claim/cut.py") 655]) #[]),
  (208, Obj.mk (Value.type "function") none (Data.func (FuncData.mk (Str.ofString "_law_cost") (Str.ofString "_law_cost") (prmK 83) (FuncBody.stmts (bdyK 83)) (scpK 83) 3 [] Value.none Value.none Value.none (Value.str (Str.ofString "law_wo0055_01") 597) none (Value.ref 207) Value.none 0)) #[]),
  (209, Obj.mk (Value.type "tuple") none (Data.seq #[]) #[]),
  (212, Obj.mk (Value.type "code") none (Data.fields #[Value.str (Str.ofString "_law_near") 657, Value.str (Str.ofString "_law_near") 658, Value.str (Str.ofString "/claim/cut.py") 659, Value.int 206 0, Value.int 2 0, Value.int 0 0, Value.int 0 0, Value.int 3 0, Value.ref 209, Value.bool true, Value.int 181 0, Value.ref 210, Value.none, Value.none, Value.none, Value.ref 211, Value.int 660 0, Value.int 206 0, Value.str (Str.ofString "/claim/cut.py") 661]) #[]),
  (213, Obj.mk (Value.type "function") none (Data.func (FuncData.mk (Str.ofString "_law_near") (Str.ofString "_law_near") (prmK 84) (FuncBody.stmts (bdyK 84)) (scpK 84) 3 [] Value.none Value.none Value.none (Value.str (Str.ofString "law_wo0055_01") 597) none (Value.ref 212) Value.none 0)) #[]),
  (214, Obj.mk (Value.type "tuple") none (Data.seq #[]) #[]),
  (217, Obj.mk (Value.type "code") none (Data.fields #[Value.str (Str.ofString "_law_away") 663, Value.str (Str.ofString "_law_away") 664, Value.str (Str.ofString "/claim/cut.py") 665, Value.int 208 0, Value.int 2 0, Value.int 0 0, Value.int 0 0, Value.int 3 0, Value.ref 214, Value.bool true, Value.int 181 0, Value.ref 215, Value.none, Value.none, Value.none, Value.ref 216, Value.int 666 0, Value.int 208 0, Value.str (Str.ofString "/claim/cut.py") 667]) #[]),
  (218, Obj.mk (Value.type "function") none (Data.func (FuncData.mk (Str.ofString "_law_away") (Str.ofString "_law_away") (prmK 85) (FuncBody.stmts (bdyK 85)) (scpK 85) 3 [] Value.none Value.none Value.none (Value.str (Str.ofString "law_wo0055_01") 597) none (Value.ref 217) Value.none 0)) #[]),
  (219, Obj.mk (Value.type "tuple") none (Data.seq #[]) #[]),
  (222, Obj.mk (Value.type "code") none (Data.fields #[Value.str (Str.ofString "law") 669, Value.str (Str.ofString "law") 670, Value.str (Str.ofString "/claim/cut.py") 671, Value.int 219 0, Value.int 1 0, Value.int 0 0, Value.int 0 0, Value.int 3 0, Value.ref 219, Value.bool true, Value.int 181 0, Value.ref 220, Value.none, Value.none, Value.none, Value.ref 221, Value.int 672 0, Value.int 219 0, Value.str (Str.ofString "/claim/cut.py") 673]) #[]),
  (223, Obj.mk (Value.type "function") none (Data.func (FuncData.mk (Str.ofString "law") (Str.ofString "law") (prmK 86) (FuncBody.stmts (bdyK 86)) (scpK 86) 3 [] Value.none Value.none Value.none (Value.str (Str.ofString "law_wo0055_01") 597) none (Value.ref 222) Value.none 0)) #[])]

end Mine
set_option maxHeartbeats 200000
namespace Mine

/-- the text's world -/
structure W0 (c : Cx) : Prop where
  K : c.K = heapK c.w.params
  g : ∀ n v, nsIn c.K mainGlobals n = some (some v) → c.mg n = some v
  gn : ∀ n, nsIn c.K mainGlobals n = some none → c.mg n = none
  b : ∀ x : Str, x ≠ "__name__" → c.mb x = bootBuiltins x

theorem W0.gv {c : Cx} (W : W0 c) {n : Str} {v : Value} (h : nsIn (heapK c.w.params) mainGlobals n = some (some v)) : c.mg n = some v := W.g _ _ (by rw [W.K]; exact h)
theorem W0.g0 {c : Cx} (W : W0 c) {n : Str} (h : nsIn (heapK c.w.params) mainGlobals n = some none) : c.mg n = none := W.gn _ (by rw [W.K]; exact h)
theorem W0.bv {c : Cx} (W : W0 c) {n : Str} {v : Value} (h : bootBuiltins n = some v) (hn : n ≠ "__name__") : c.mb n = some v := (W.b n hn).trans h
theorem W0.at {c : Cx} (W : W0 c) {a : Addr} {o : Obj} (h : (heapK c.w.params).lookup a = some o) : c.K.lookup a = some o := by rw [W.K]; exact h

def nsInt (K : Frag) (n : Str) (i : Int) : Bool := match nsIn K mainGlobals n with | some (some (.int j _)) => j == i | _ => false
theorem W0.gi {c : Cx} (W : W0 c) {m : Nat} {T : Tab} {ρ : Vars} {pos : Pos} {n : Str} {i : Int} (h : nsInt (heapK c.w.params) n i = true) (hx : T.lookup n = some .globalImplicit := by kernel_rfl) (hd : (n == ("__debug__" : Str)) = false := by decide) : Ev c m T ρ (.Name n pos) (.int i) := by
  unfold nsInt at h
  split at h
  · rename_i j t e
    obtain rfl : j = i := by simpa using h
    exact Ev.gint (W.gv e) hx hd
  · cases h

theorem bind1 {fd : FuncData} {x : Str} (h : ∀ a, bindArgs fd ⟨[a], []⟩ = pure [(x, a)]) : ∀ vs : List Value, vs.length = ([x] : List Str).length → bindArgs fd ⟨vs, []⟩ = pure (([x] : List Str).zip vs)
  | [a], _ => h a
theorem bind2 {fd : FuncData} {x y : Str} (h : ∀ a b, bindArgs fd ⟨[a, b], []⟩ = pure [(x, a), (y, b)]) : ∀ vs : List Value, vs.length = ([x, y] : List Str).length → bindArgs fd ⟨vs, []⟩ = pure (([x, y] : List Str).zip vs)
  | [a, b], _ => h a b
theorem bind3 {fd : FuncData} {x y z : Str} (h : ∀ a b d, bindArgs fd ⟨[a, b, d], []⟩ = pure [(x, a), (y, b), (z, d)]) : ∀ vs : List Value, vs.length = ([x, y, z] : List Str).length → bindArgs fd ⟨vs, []⟩ = pure (([x, y, z] : List Str).zip vs)
  | [a, b, d], _ => h a b d
theorem bind4 {fd : FuncData} {x y z u : Str} (h : ∀ a b d e, bindArgs fd ⟨[a, b, d, e], []⟩ = pure [(x, a), (y, b), (z, d), (u, e)]) : ∀ vs : List Value, vs.length = ([x, y, z, u] : List Str).length → bindArgs fd ⟨vs, []⟩ = pure (([x, y, z, u] : List Str).zip vs)
  | [a, b, d, e], _ => h a b d e

structure Plain (K : Frag) (fd : FuncData) (names C : List Str) : Prop where
  hk : fd.scope.kind = .function
  hg : fd.globals = mainGlobals
  hbn : fd.builtins = builtinsNs
  hcl : fd.closure = []
  hco : fd.scope.isCoroutine = false
  hgen : fd.scope.isGenerator = false
  hcr : codeIn K fd.code fd.qualname = true
  hnd : names.Nodup
  hn : ∀ x ∈ names, fd.scope.names.lookup x = some .local ∨ fd.scope.names.lookup x = some .cell
  hC : ∀ x ∈ C, fd.scope.names.lookup x = some .cell
  hbind : ∀ vs : List Value, vs.length = names.length → bindArgs fd ⟨vs, []⟩ = pure (names.zip vs)
theorem Bi.ofK {c : Cx} {m : Nat} {C : List Str} (W : W0 c) {f : Addr} {o : Obj} {fd : FuncData} {body : List PySem.Stmt} {names : List Str} {ds : List PyData} {d : PyData} (ho : (heapK c.w.params).lookup f = some o) (hd : o.data = .func fd) (hb : fd.body = .stmts body)
    (P : Plain (heapK c.w.params) fd names C) (hlen : ds.length = names.length) (h : Ex c m fd.scope.names C (names.zip ds) none body (.ret d)) : Bi c (m + 1) (.ref f) ds d :=
  Bi.ofDef (W.at ho) hd hb rfl P.hk P.hg P.hbn P.hcl P.hco P.hgen (fun h X => codeRec_of X (by rw [W.K]; exact P.hcr)) P.hnd hlen P.hn P.hC P.hbind h
theorem Fn.ofK {c : Cx} {m : Nat} {C : List Str} (W : W0 c) {x : Str} {f : Addr} {o : Obj} {fd : FuncData} {body : List PySem.Stmt} {names : List Str} {ds : List PyData} {d : PyData} (hx : nsIn (heapK c.w.params) mainGlobals x = some (some (.ref f))) (ho : (heapK c.w.params).lookup f = some o) (hd : o.data = .func fd) (hb : fd.body = .stmts body)
    (P : Plain (heapK c.w.params) fd names C) (hlen : ds.length = names.length) (h : Ex c m fd.scope.names C (names.zip ds) none body (.ret d)) : Fn c (m + 1) x ds d :=
  ⟨f, o, fd, W.gv hx, W.at ho, hd, Bi.ofK W ho hd hb P hlen h⟩

theorem Fn.of1 {c : Cx} {m : Nat} {C : List Str} (W : W0 c) {x : Str} {f : Addr} {o : Obj} {fd : FuncData} {body : List PySem.Stmt} {x1 : Str} {d1 : PyData} {d : PyData} (hx : nsIn (heapK c.w.params) mainGlobals x = some (some (.ref f))) (ho : (heapK c.w.params).lookup f = some o) (hd : o.data = .func fd) (hb : fd.body = .stmts body)
    (P : Plain (heapK c.w.params) fd [x1] C)
    (h : Ex c m fd.scope.names C [(x1, d1)] none body (.ret d)) : Fn c (m + 1) x [d1] d := Fn.ofK W hx ho hd hb P rfl h
theorem Fn.of2 {c : Cx} {m : Nat} {C : List Str} (W : W0 c) {x : Str} {f : Addr} {o : Obj} {fd : FuncData} {body : List PySem.Stmt} {x1 x2 : Str} {d1 d2 : PyData} {d : PyData} (hx : nsIn (heapK c.w.params) mainGlobals x = some (some (.ref f))) (ho : (heapK c.w.params).lookup f = some o) (hd : o.data = .func fd) (hb : fd.body = .stmts body)
    (P : Plain (heapK c.w.params) fd [x1, x2] C)
    (h : Ex c m fd.scope.names C [(x1, d1), (x2, d2)] none body (.ret d)) : Fn c (m + 1) x [d1, d2] d := Fn.ofK W hx ho hd hb P rfl h
theorem Fn.of3 {c : Cx} {m : Nat} {C : List Str} (W : W0 c) {x : Str} {f : Addr} {o : Obj} {fd : FuncData} {body : List PySem.Stmt} {x1 x2 x3 : Str} {d1 d2 d3 : PyData} {d : PyData} (hx : nsIn (heapK c.w.params) mainGlobals x = some (some (.ref f))) (ho : (heapK c.w.params).lookup f = some o) (hd : o.data = .func fd) (hb : fd.body = .stmts body)
    (P : Plain (heapK c.w.params) fd [x1, x2, x3] C)
    (h : Ex c m fd.scope.names C [(x1, d1), (x2, d2), (x3, d3)] none body (.ret d)) : Fn c (m + 1) x [d1, d2, d3] d := Fn.ofK W hx ho hd hb P rfl h
theorem Fn.of4 {c : Cx} {m : Nat} {C : List Str} (W : W0 c) {x : Str} {f : Addr} {o : Obj} {fd : FuncData} {body : List PySem.Stmt} {x1 x2 x3 x4 : Str} {d1 d2 d3 d4 : PyData} {d : PyData} (hx : nsIn (heapK c.w.params) mainGlobals x = some (some (.ref f))) (ho : (heapK c.w.params).lookup f = some o) (hd : o.data = .func fd) (hb : fd.body = .stmts body)
    (P : Plain (heapK c.w.params) fd [x1, x2, x3, x4] C)
    (h : Ex c m fd.scope.names C [(x1, d1), (x2, d2), (x3, d3), (x4, d4)] none body (.ret d)) : Fn c (m + 1) x [d1, d2, d3, d4] d := Fn.ofK W hx ho hd hb P rfl h
theorem BiX.of1 {c : Cx} {m : Nat} {C : List Str} (W : W0 c) {f : Addr} {o : Obj} {fd : FuncData} {body : List PySem.Stmt} {x1 : Str} {d1 : PyData} {K : Addr} {y : Str} (ho : (heapK c.w.params).lookup f = some o) (hd : o.data = .func fd) (hb : fd.body = .stmts body)
    (P : Plain (heapK c.w.params) fd [x1] C) (h : Ex c m fd.scope.names C [(x1, d1)] none body (.exc K [.str y])) : BiX c (m + 1) (.ref f) [d1] K y :=
  BiX.ofDef (W.at ho) hd hb rfl P.hk P.hg P.hbn P.hcl P.hco P.hgen (fun h X => codeRec_of X (by rw [W.K]; exact P.hcr)) P.hnd rfl P.hn P.hC P.hbind h
theorem BiX.of2 {c : Cx} {m : Nat} {C : List Str} (W : W0 c) {f : Addr} {o : Obj} {fd : FuncData} {body : List PySem.Stmt} {x1 x2 : Str} {d1 d2 : PyData} {K : Addr} {y : Str} (ho : (heapK c.w.params).lookup f = some o) (hd : o.data = .func fd) (hb : fd.body = .stmts body)
    (P : Plain (heapK c.w.params) fd [x1, x2] C) (h : Ex c m fd.scope.names C [(x1, d1), (x2, d2)] none body (.exc K [.str y])) : BiX c (m + 1) (.ref f) [d1, d2] K y :=
  BiX.ofDef (W.at ho) hd hb rfl P.hk P.hg P.hbn P.hcl P.hco P.hgen (fun h X => codeRec_of X (by rw [W.K]; exact P.hcr)) P.hnd rfl P.hn P.hC P.hbind h
theorem W0.own {c : Cx} (W : W0 c) {x : Str} {K : Addr} (hx : nsIn (heapK c.w.params) mainGlobals x = some (some (.ref K))) (q : excIn (heapK c.w.params) K [.type "Exception", .type "BaseException", .type "object"] "Exception.__new__" = true) : OwnX c x K :=
  ⟨W.gv hx, fun h X => own_class X (by rw [W.K]; exact q)⟩
end Mine
set_option maxHeartbeats 4000000
namespace Mine
section
variable {c : Cx} (W : W0 c)
include W
theorem fn_lt {a b : Int} : Fn c 1 "lt" [.int a, .int b] (.bool (decide (a < b))) :=
  Fn.of2 (x1 := "a") (x2 := "b") (f := 86) (C := []) W (by kernel_rfl) rfl rfl rfl ⟨rfl, rfl, rfl, rfl, rfl, rfl, by kernel_rfl, by decide, by decide, by decide, bind2 fun _ _ => rfl⟩ (Ex.stop (X1.ret (Ev.cmp (Ev.name (by repeat (first | with_reducible exact List.mem_cons_self | with_reducible apply List.mem_cons_of_mem))) (Ev.name (by repeat (first | with_reducible exact List.mem_cons_self | with_reducible apply List.mem_cons_of_mem))) Op2.lt)) (fun _ _ e => nomatch e))
theorem fn_le {a b : Int} : Fn c 1 "le" [.int a, .int b] (.bool (decide (a ≤ b))) :=
  Fn.of2 (x1 := "a") (x2 := "b") (f := 93) (C := []) W (by kernel_rfl) rfl rfl rfl ⟨rfl, rfl, rfl, rfl, rfl, rfl, by kernel_rfl, by decide, by decide, by decide, bind2 fun _ _ => rfl⟩ (Ex.stop (X1.ret (Ev.cmp (Ev.name (by repeat (first | with_reducible exact List.mem_cons_self | with_reducible apply List.mem_cons_of_mem))) (Ev.name (by repeat (first | with_reducible exact List.mem_cons_self | with_reducible apply List.mem_cons_of_mem))) Op2.le)) (fun _ _ e => nomatch e))
theorem fn_eq {a b : Int} : Fn c 1 "eq" [.int a, .int b] (.bool (PyData.eqv (.int a) (.int b))) :=
  Fn.of2 (x1 := "a") (x2 := "b") (f := 100) (C := []) W (by kernel_rfl) rfl rfl rfl ⟨rfl, rfl, rfl, rfl, rfl, rfl, by kernel_rfl, by decide, by decide, by decide, bind2 fun _ _ => rfl⟩ (Ex.stop (X1.ret (Ev.cmp (Ev.name (by repeat (first | with_reducible exact List.mem_cons_self | with_reducible apply List.mem_cons_of_mem))) (Ev.name (by repeat (first | with_reducible exact List.mem_cons_self | with_reducible apply List.mem_cons_of_mem))) (Op2.eq rfl rfl))) (fun _ _ e => nomatch e))
theorem fn_ne {a b : Int} : Fn c 1 "ne" [.int a, .int b] (.bool (!PyData.eqv (.int a) (.int b))) :=
  Fn.of2 (x1 := "a") (x2 := "b") (f := 107) (C := []) W (by kernel_rfl) rfl rfl rfl ⟨rfl, rfl, rfl, rfl, rfl, rfl, by kernel_rfl, by decide, by decide, by decide, bind2 fun _ _ => rfl⟩ (Ex.stop (X1.ret (Ev.cmp (Ev.name (by repeat (first | with_reducible exact List.mem_cons_self | with_reducible apply List.mem_cons_of_mem))) (Ev.name (by repeat (first | with_reducible exact List.mem_cons_self | with_reducible apply List.mem_cons_of_mem))) (Op2.ne rfl rfl))) (fun _ _ e => nomatch e))
theorem fn_ge {a b : Int} : Fn c 1 "ge" [.int a, .int b] (.bool (decide (b ≤ a))) :=
  Fn.of2 (x1 := "a") (x2 := "b") (f := 114) (C := []) W (by kernel_rfl) rfl rfl rfl ⟨rfl, rfl, rfl, rfl, rfl, rfl, by kernel_rfl, by decide, by decide, by decide, bind2 fun _ _ => rfl⟩ (Ex.stop (X1.ret (Ev.cmp (Ev.name (by repeat (first | with_reducible exact List.mem_cons_self | with_reducible apply List.mem_cons_of_mem))) (Ev.name (by repeat (first | with_reducible exact List.mem_cons_self | with_reducible apply List.mem_cons_of_mem))) Op2.ge)) (fun _ _ e => nomatch e))
theorem fn_gt {a b : Int} : Fn c 1 "gt" [.int a, .int b] (.bool (decide (b < a))) :=
  Fn.of2 (x1 := "a") (x2 := "b") (f := 121) (C := []) W (by kernel_rfl) rfl rfl rfl ⟨rfl, rfl, rfl, rfl, rfl, rfl, by kernel_rfl, by decide, by decide, by decide, bind2 fun _ _ => rfl⟩ (Ex.stop (X1.ret (Ev.cmp (Ev.name (by repeat (first | with_reducible exact List.mem_cons_self | with_reducible apply List.mem_cons_of_mem))) (Ev.name (by repeat (first | with_reducible exact List.mem_cons_self | with_reducible apply List.mem_cons_of_mem))) Op2.gt)) (fun _ _ e => nomatch e))
theorem fn_mulI {a b : Int} (h : IntMulOk a b) : Fn c 1 "mul" [.int a, .int b] (.int (a * b)) :=
  Fn.of2 (x1 := "a") (x2 := "b") (f := 128) (C := []) W (by kernel_rfl) rfl rfl rfl ⟨rfl, rfl, rfl, rfl, rfl, rfl, by kernel_rfl, by decide, by decide, by decide, bind2 fun _ _ => rfl⟩ (Ex.stop (X1.ret (Ev.bin (Ev.name (by repeat (first | with_reducible exact List.mem_cons_self | with_reducible apply List.mem_cons_of_mem))) (Ev.name (by repeat (first | with_reducible exact List.mem_cons_self | with_reducible apply List.mem_cons_of_mem))) (Op2.mul h))) (fun _ _ e => nomatch e))
theorem fn_mulS {a : Str} {b : Int} (h : MulOk a b) : Fn c 1 "mul" [.str a, .int b] (.str (Txt.mul a b)) :=
  Fn.of2 (x1 := "a") (x2 := "b") (f := 128) (C := []) W (by kernel_rfl) rfl rfl rfl ⟨rfl, rfl, rfl, rfl, rfl, rfl, by kernel_rfl, by decide, by decide, by decide, bind2 fun _ _ => rfl⟩ (Ex.stop (X1.ret (Ev.bin (Ev.name (by repeat (first | with_reducible exact List.mem_cons_self | with_reducible apply List.mem_cons_of_mem))) (Ev.name (by repeat (first | with_reducible exact List.mem_cons_self | with_reducible apply List.mem_cons_of_mem))) (Op2.mulStr h))) (fun _ _ e => nomatch e))
theorem fn_or {a b : Int} : Fn c 1 "or_" [.int a, .int b] (.int (Builtin.bitOr a b)) :=
  Fn.of2 (x1 := "a") (x2 := "b") (f := 135) (C := []) W (by kernel_rfl) rfl rfl rfl ⟨rfl, rfl, rfl, rfl, rfl, rfl, by kernel_rfl, by decide, by decide, by decide, bind2 fun _ _ => rfl⟩ (Ex.stop (X1.ret (Ev.bin (Ev.name (by repeat (first | with_reducible exact List.mem_cons_self | with_reducible apply List.mem_cons_of_mem))) (Ev.name (by repeat (first | with_reducible exact List.mem_cons_self | with_reducible apply List.mem_cons_of_mem))) Op2.or)) (fun _ _ e => nomatch e))
theorem fn_term {a : Int} : Fn c 1 "ISTERMINAL" [.int a] (.bool (decide (a < 256))) :=
  Fn.of1 (x1 := "x") (f := 152) (C := []) W (by kernel_rfl) rfl rfl rfl ⟨rfl, rfl, rfl, rfl, rfl, rfl, by kernel_rfl, by decide, by decide, by decide, bind1 fun _ => rfl⟩ (Ex.stop (X1.ret (Ev.cmp (Ev.name (by repeat (first | with_reducible exact List.mem_cons_self | with_reducible apply List.mem_cons_of_mem))) (W.gi (i := 256) (by kernel_rfl)) Op2.lt)) (fun _ _ e => nomatch e))
theorem fn_nonterm {a : Int} : Fn c 1 "ISNONTERMINAL" [.int a] (.bool (decide (256 ≤ a))) :=
  Fn.of1 (x1 := "x") (f := 159) (C := []) W (by kernel_rfl) rfl rfl rfl ⟨rfl, rfl, rfl, rfl, rfl, rfl, by kernel_rfl, by decide, by decide, by decide, bind1 fun _ => rfl⟩ (Ex.stop (X1.ret (Ev.cmp (Ev.name (by repeat (first | with_reducible exact List.mem_cons_self | with_reducible apply List.mem_cons_of_mem))) (W.gi (i := 256) (by kernel_rfl)) Op2.ge)) (fun _ _ e => nomatch e))
theorem fn_eof {a : Int} : Fn c 1 "ISEOF" [.int a] (.bool (PyData.eqv (.int a) (.int 0))) :=
  Fn.of1 (x1 := "x") (f := 166) (C := []) W (by kernel_rfl) rfl rfl rfl ⟨rfl, rfl, rfl, rfl, rfl, rfl, by kernel_rfl, by decide, by decide, by decide, bind1 fun _ => rfl⟩ (Ex.stop (X1.ret (Ev.cmp (Ev.name (by repeat (first | with_reducible exact List.mem_cons_self | with_reducible apply List.mem_cons_of_mem))) (W.gi (i := 0) (by kernel_rfl)) (Op2.eq rfl rfl))) (fun _ _ e => nomatch e))
end

end Mine
namespace Mine
theorem i_move (w : World) : nsInt (heapK w.params) "_MOVE_COST" 2 = true := by kernel_rfl
theorem i_case (w : World) : nsInt (heapK w.params) "_CASE_COST" 1 = true := by kernel_rfl
theorem i_max (w : World) : nsInt (heapK w.params) "_MAX_STRING_SIZE" 40 = true := by kernel_rfl
section
variable {c : Cx} (W : W0 c)
include W
theorem g_len : c.mg "len" = none := W.g0 (by kernel_rfl)
theorem b_len : c.mb "len" = some (.builtin "len") := W.bv (by kernel_rfl) (by decide)
theorem g_min : c.mg "min" = none := W.g0 (by kernel_rfl)
theorem b_min : c.mb "min" = some (.builtin "min") := W.bv (by kernel_rfl) (by decide)
theorem g_max : c.mg "max" = none := W.g0 (by kernel_rfl)
theorem b_max : c.mb "max" = some (.builtin "max") := W.bv (by kernel_rfl) (by decide)
theorem g_abs : c.mg "abs" = none := W.g0 (by kernel_rfl)
theorem b_abs : c.mb "abs" = some (.builtin "abs") := W.bv (by kernel_rfl) (by decide)
theorem g_sum : c.mg "sum" = none := W.g0 (by kernel_rfl)
theorem b_sum : c.mb "sum" = some (.builtin "sum") := W.bv (by kernel_rfl) (by decide)
theorem g_isi : c.mg "isinstance" = none := W.g0 (by kernel_rfl)
theorem b_isi : c.mb "isinstance" = some (.builtin "isinstance") := W.bv (by kernel_rfl) (by decide)
theorem g_range : c.mg "range" = none := W.g0 (by kernel_rfl)
theorem b_range : c.mb "range" = some (.type "range") := W.bv (by kernel_rfl) (by decide)
theorem g_list : c.mg "list" = none := W.g0 (by kernel_rfl)
theorem b_list : c.mb "list" = some (.type "list") := W.bv (by kernel_rfl) (by decide)
theorem g_int : c.mg "int" = none := W.g0 (by kernel_rfl)
theorem b_int : c.mb "int" = some (.type "int") := W.bv (by kernel_rfl) (by decide)
theorem g_str : c.mg "str" = none := W.g0 (by kernel_rfl)
theorem b_str : c.mb "str" = some (.type "str") := W.bv (by kernel_rfl) (by decide)
theorem g_bool : c.mg "bool" = none := W.g0 (by kernel_rfl)
theorem b_bool : c.mb "bool" = some (.type "bool") := W.bv (by kernel_rfl) (by decide)
end

section
variable {c : Cx} {m : Nat} {T : Tab} {C : List Str} {ρ ρ' : Vars} {ω : Ow}
/-- if t: (something that leaves) -/
theorem Ex.ifRet {t : PySem.Expr} {b rest : List PySem.Stmt} {pos : Pos} {v : Bool} {d : PyData} (ht : Ts c m T ρ t v) (h1 : v = true → Ex c m T C ρ ω b (.ret d)) (h2 : v = false → Ex c m T C ρ ω rest (.ret d)) : Ex c m T C ρ ω (.If t b [] pos :: rest) (.ret d) := by
  cases v with
  | true => exact Ex.stop (X1.ifT ht (h1 rfl)) (fun _ _ e => nomatch e)
  | false => exact Ex.cons (X1.ifF ht Ex.nil) (h2 rfl)
theorem Ex.ifRaise {t : PySem.Expr} {b rest : List PySem.Stmt} {pos : Pos} {K : Addr} {d : List PyData} (ht : Ts c m T ρ t true) (h1 : Ex c m T C ρ ω b (.exc K d)) : Ex c m T C ρ ω (.If t b [] pos :: rest) (.exc K d) :=
  Ex.stop (X1.ifT ht h1) (fun _ _ e => nomatch e)
theorem Ex.ifNot {t : PySem.Expr} {b rest : List PySem.Stmt} {pos : Pos} {out : Out} (ht : Ts c m T ρ t false) (h2 : Ex c m T C ρ ω rest out) : Ex c m T C ρ ω (.If t b [] pos :: rest) out := Ex.cons (X1.ifF ht Ex.nil) h2
theorem Ex.ret {e : PySem.Expr} {pos : Pos} {rest : List PySem.Stmt} {d : PyData} (h : Ev c m T ρ e d) : Ex c m T C ρ ω (.Return (some e) pos :: rest) (.ret d) := Ex.stop (X1.ret h) (fun _ _ e => nomatch e)
theorem Ev.conv {e : PySem.Expr} {d d' : PyData} (h : Ev c m T ρ e d) (q : d = d') : Ev c m T ρ e d' := q ▸ h
theorem Ts.conv {e : PySem.Expr} {d d' : Bool} (h : Ts c m T ρ e d) (q : d = d') : Ts c m T ρ e d' := q ▸ h
end

section
variable {c : Cx} (W : W0 c)
include W
def subCost (x y : Str) : Int := if x = y then 0 else if Txt.lower x = Txt.lower y then 1 else 2
theorem fn_sub {x y : Str} (hx : x.length ≤ 1000) (hy : y.length ≤ 1000) : Fn c 1 "_substitution_cost" [.str x, .str y] (.int (subCost x y)) :=
  Fn.of2 (x1 := "ch_a") (x2 := "ch_b") (f := 21) (C := []) W (by kernel_rfl) rfl rfl rfl ⟨rfl, rfl, rfl, rfl, rfl, rfl, by kernel_rfl, by decide, by decide, by decide, bind2 fun _ _ => rfl⟩
    (Ex.ifRet (Ts.cmp (Ev.name (by repeat (first | with_reducible exact List.mem_cons_self | with_reducible apply List.mem_cons_of_mem))) (Ev.name (by repeat (first | with_reducible exact List.mem_cons_self | with_reducible apply List.mem_cons_of_mem))) Op2.eqS)
      (fun h => Ex.ret (Ev.conv Ev.int (by simp only [decide_eq_true_eq] at h; unfold subCost; rw [if_pos h])))
      (fun h => Ex.ifRet (Ts.cmp (Ev.meth0 (Ev.name (by repeat (first | with_reducible exact List.mem_cons_self | with_reducible apply List.mem_cons_of_mem))) PySem.F.slot_str_lower PySem.F.type_str_lower (Bi.lower (by omega))) (Ev.meth0 (Ev.name (by repeat (first | with_reducible exact List.mem_cons_self | with_reducible apply List.mem_cons_of_mem))) PySem.F.slot_str_lower PySem.F.type_str_lower (Bi.lower (by omega))) Op2.eqS)
        (fun h' => Ex.ret (Ev.conv (W.gi (i_case _)) (by simp only [decide_eq_true_eq, decide_eq_false_iff_not] at h h'; unfold subCost; rw [if_neg h, if_pos h'])))
        (fun h' => Ex.ret (Ev.conv (W.gi (i_move _)) (by simp only [decide_eq_false_iff_not] at h h'; unfold subCost; rw [if_neg h, if_neg h'])))))
end

end Mine
namespace Mine
def cmpD (d : Nat) (a b : Int) : Bool := match d with
  | 0 => decide (a < b) | 1 => decide (b < a) | 2 => decide (a ≤ b) | 3 => decide (b ≤ a) | 4 => decide (a = b) | _ => !decide (a = b)
def symD (d : Nat) : Int := match d with
  | 0 => 20 | 1 => 21 | 2 => 29 | 3 => 30 | 4 => 27 | _ => 28
theorem six {P : Nat → Prop} (h0 : P 0) (h1 : P 1) (h2 : P 2) (h3 : P 3) (h4 : P 4) (h5 : P 5) : ∀ d, d < 6 → P d
  | 0, _ => h0 | 1, _ => h1 | 2, _ => h2 | 3, _ => h3 | 4, _ => h4 | 5, _ => h5
theorem plain_at {a b : Int} : ∀ d, d < 6 → ([PyData.bool (decide (a < b)), .bool (decide (b < a)), .bool (decide (a ≤ b)), .bool (decide (b ≤ a)), .bool (decide (a = b)), .bool (!decide (a = b))] : List PyData)[d]? = some (.bool (cmpD d a b)) := six rfl rfl rfl rfl rfl rfl
theorem idx_at {n : Nat} : ∀ d, d < n → seqIndex? (d : Int) n = some d := fun d h => by
  unfold seqIndex?
  have h0 : ¬ ((d : Int) < 0) := by omega
  simp only [h0, if_false]
  have : (decide (0 ≤ (d : Int)) && decide ((d : Int) < n)) = true := by simp; omega
  first
    | rw [if_pos (by simp; omega)]; simp
    | simp [h]
section
variable {c : Cx} (W : W0 c)
include W
theorem fn_plain {d : Nat} {a b : Int} (h : d < 6) : Fn c 1 "_law_plain" [.int d, .int a, .int b] (.bool (cmpD d a b)) :=
  Fn.of3 (x1 := "draw") (x2 := "one") (x3 := "other") (f := 194) (C := []) W (by kernel_rfl) rfl rfl rfl ⟨rfl, rfl, rfl, rfl, rfl, rfl, by kernel_rfl, by decide, by decide, by decide, bind3 fun _ _ _ => rfl⟩
    (Ex.ret (Ev.itemL (Ev.list (EvL.cons (Ev.cmp (Ev.name (by repeat (first | with_reducible exact List.mem_cons_self | with_reducible apply List.mem_cons_of_mem))) (Ev.name (by repeat (first | with_reducible exact List.mem_cons_self | with_reducible apply List.mem_cons_of_mem))) Op2.lt) (EvL.cons (Ev.cmp (Ev.name (by repeat (first | with_reducible exact List.mem_cons_self | with_reducible apply List.mem_cons_of_mem))) (Ev.name (by repeat (first | with_reducible exact List.mem_cons_self | with_reducible apply List.mem_cons_of_mem))) Op2.gt) (EvL.cons (Ev.cmp (Ev.name (by repeat (first | with_reducible exact List.mem_cons_self | with_reducible apply List.mem_cons_of_mem))) (Ev.name (by repeat (first | with_reducible exact List.mem_cons_self | with_reducible apply List.mem_cons_of_mem))) Op2.le) (EvL.cons (Ev.cmp (Ev.name (by repeat (first | with_reducible exact List.mem_cons_self | with_reducible apply List.mem_cons_of_mem))) (Ev.name (by repeat (first | with_reducible exact List.mem_cons_self | with_reducible apply List.mem_cons_of_mem))) Op2.ge) (EvL.cons (Ev.cmp (Ev.name (by repeat (first | with_reducible exact List.mem_cons_self | with_reducible apply List.mem_cons_of_mem))) (Ev.name (by repeat (first | with_reducible exact List.mem_cons_self | with_reducible apply List.mem_cons_of_mem))) Op2.eqI) (EvL.cons (Ev.cmp (Ev.name (by repeat (first | with_reducible exact List.mem_cons_self | with_reducible apply List.mem_cons_of_mem))) (Ev.name (by repeat (first | with_reducible exact List.mem_cons_self | with_reducible apply List.mem_cons_of_mem))) Op2.neI) EvL.nil))))))) (Ev.name (by repeat (first | with_reducible exact List.mem_cons_self | with_reducible apply List.mem_cons_of_mem))) (idx_at d h) (plain_at d h) (by show 6 < 2 ^ 62; decide)))
theorem fn_holds0 {a b : Int} : Fn c 2 "_law_holds" [.int 20, .int a, .int b] (.bool (cmpD 0 a b)) :=
  Fn.of3 (x1 := "symbol") (x2 := "one") (x3 := "other") (f := 187) (C := []) W (by kernel_rfl) rfl rfl rfl ⟨rfl, rfl, rfl, rfl, rfl, rfl, by kernel_rfl, by decide, by decide, by decide, bind3 fun _ _ _ => rfl⟩
    (Ex.ifRet (Ts.conv (Ts.cmp (Ev.name (by repeat (first | with_reducible exact List.mem_cons_self | with_reducible apply List.mem_cons_of_mem))) (Ev.tuple (EvL.cons Ev.int (EvL.cons Ev.int EvL.nil))) (Op2.inTuple rfl rfl)) (by rfl : _ = true)) (fun _ => Ex.ret (Ev.ite (Ts.conv (Ts.cmp (Ev.name (by repeat (first | with_reducible exact List.mem_cons_self | with_reducible apply List.mem_cons_of_mem))) Ev.int Op2.eqI) (by rfl : _ = true)) (fun _ => (Ev.call (EvL.cons (Ev.name (by repeat (first | with_reducible exact List.mem_cons_self | with_reducible apply List.mem_cons_of_mem))) (EvL.cons (Ev.name (by repeat (first | with_reducible exact List.mem_cons_self | with_reducible apply List.mem_cons_of_mem))) EvL.nil)) ((fn_lt W).le (by decide)))) (fun h => nomatch h))) (fun h => nomatch h))
theorem fn_holds1 {a b : Int} : Fn c 2 "_law_holds" [.int 21, .int a, .int b] (.bool (cmpD 1 a b)) :=
  Fn.of3 (x1 := "symbol") (x2 := "one") (x3 := "other") (f := 187) (C := []) W (by kernel_rfl) rfl rfl rfl ⟨rfl, rfl, rfl, rfl, rfl, rfl, by kernel_rfl, by decide, by decide, by decide, bind3 fun _ _ _ => rfl⟩
    (Ex.ifRet (Ts.conv (Ts.cmp (Ev.name (by repeat (first | with_reducible exact List.mem_cons_self | with_reducible apply List.mem_cons_of_mem))) (Ev.tuple (EvL.cons Ev.int (EvL.cons Ev.int EvL.nil))) (Op2.inTuple rfl rfl)) (by rfl : _ = true)) (fun _ => Ex.ret (Ev.ite (Ts.conv (Ts.cmp (Ev.name (by repeat (first | with_reducible exact List.mem_cons_self | with_reducible apply List.mem_cons_of_mem))) Ev.int Op2.eqI) (by rfl : _ = false)) (fun h => nomatch h) (fun _ => (Ev.call (EvL.cons (Ev.name (by repeat (first | with_reducible exact List.mem_cons_self | with_reducible apply List.mem_cons_of_mem))) (EvL.cons (Ev.name (by repeat (first | with_reducible exact List.mem_cons_self | with_reducible apply List.mem_cons_of_mem))) EvL.nil)) ((fn_gt W).le (by decide)))))) (fun h => nomatch h))
theorem fn_holds2 {a b : Int} : Fn c 2 "_law_holds" [.int 29, .int a, .int b] (.bool (cmpD 2 a b)) :=
  Fn.of3 (x1 := "symbol") (x2 := "one") (x3 := "other") (f := 187) (C := []) W (by kernel_rfl) rfl rfl rfl ⟨rfl, rfl, rfl, rfl, rfl, rfl, by kernel_rfl, by decide, by decide, by decide, bind3 fun _ _ _ => rfl⟩
    (Ex.ifNot (Ts.conv (Ts.cmp (Ev.name (by repeat (first | with_reducible exact List.mem_cons_self | with_reducible apply List.mem_cons_of_mem))) (Ev.tuple (EvL.cons Ev.int (EvL.cons Ev.int EvL.nil))) (Op2.inTuple rfl rfl)) (by rfl : _ = false)) (Ex.ifNot (Ts.conv (Ts.cmp (Ev.name (by repeat (first | with_reducible exact List.mem_cons_self | with_reducible apply List.mem_cons_of_mem))) (Ev.tuple (EvL.cons Ev.int (EvL.cons Ev.int EvL.nil))) (Op2.inTuple rfl rfl)) (by rfl : _ = false)) (Ex.ret (Ev.ite (Ts.conv (Ts.cmp (Ev.name (by repeat (first | with_reducible exact List.mem_cons_self | with_reducible apply List.mem_cons_of_mem))) Ev.int Op2.eqI) (by rfl : _ = true)) (fun _ => (Ev.call (EvL.cons (Ev.name (by repeat (first | with_reducible exact List.mem_cons_self | with_reducible apply List.mem_cons_of_mem))) (EvL.cons (Ev.name (by repeat (first | with_reducible exact List.mem_cons_self | with_reducible apply List.mem_cons_of_mem))) EvL.nil)) ((fn_le W).le (by decide)))) (fun h => nomatch h)))))
theorem fn_holds3 {a b : Int} : Fn c 2 "_law_holds" [.int 30, .int a, .int b] (.bool (cmpD 3 a b)) :=
  Fn.of3 (x1 := "symbol") (x2 := "one") (x3 := "other") (f := 187) (C := []) W (by kernel_rfl) rfl rfl rfl ⟨rfl, rfl, rfl, rfl, rfl, rfl, by kernel_rfl, by decide, by decide, by decide, bind3 fun _ _ _ => rfl⟩
    (Ex.ifNot (Ts.conv (Ts.cmp (Ev.name (by repeat (first | with_reducible exact List.mem_cons_self | with_reducible apply List.mem_cons_of_mem))) (Ev.tuple (EvL.cons Ev.int (EvL.cons Ev.int EvL.nil))) (Op2.inTuple rfl rfl)) (by rfl : _ = false)) (Ex.ifNot (Ts.conv (Ts.cmp (Ev.name (by repeat (first | with_reducible exact List.mem_cons_self | with_reducible apply List.mem_cons_of_mem))) (Ev.tuple (EvL.cons Ev.int (EvL.cons Ev.int EvL.nil))) (Op2.inTuple rfl rfl)) (by rfl : _ = false)) (Ex.ret (Ev.ite (Ts.conv (Ts.cmp (Ev.name (by repeat (first | with_reducible exact List.mem_cons_self | with_reducible apply List.mem_cons_of_mem))) Ev.int Op2.eqI) (by rfl : _ = false)) (fun h => nomatch h) (fun _ => (Ev.call (EvL.cons (Ev.name (by repeat (first | with_reducible exact List.mem_cons_self | with_reducible apply List.mem_cons_of_mem))) (EvL.cons (Ev.name (by repeat (first | with_reducible exact List.mem_cons_self | with_reducible apply List.mem_cons_of_mem))) EvL.nil)) ((fn_ge W).le (by decide))))))))
theorem fn_holds4 {a b : Int} : Fn c 2 "_law_holds" [.int 27, .int a, .int b] (.bool (cmpD 4 a b)) :=
  Fn.of3 (x1 := "symbol") (x2 := "one") (x3 := "other") (f := 187) (C := []) W (by kernel_rfl) rfl rfl rfl ⟨rfl, rfl, rfl, rfl, rfl, rfl, by kernel_rfl, by decide, by decide, by decide, bind3 fun _ _ _ => rfl⟩
    (Ex.ifNot (Ts.conv (Ts.cmp (Ev.name (by repeat (first | with_reducible exact List.mem_cons_self | with_reducible apply List.mem_cons_of_mem))) (Ev.tuple (EvL.cons Ev.int (EvL.cons Ev.int EvL.nil))) (Op2.inTuple rfl rfl)) (by rfl : _ = false)) (Ex.ifRet (Ts.conv (Ts.cmp (Ev.name (by repeat (first | with_reducible exact List.mem_cons_self | with_reducible apply List.mem_cons_of_mem))) (Ev.tuple (EvL.cons Ev.int (EvL.cons Ev.int EvL.nil))) (Op2.inTuple rfl rfl)) (by rfl : _ = true)) (fun _ => Ex.ret (Ev.ite (Ts.conv (Ts.cmp (Ev.name (by repeat (first | with_reducible exact List.mem_cons_self | with_reducible apply List.mem_cons_of_mem))) Ev.int Op2.eqI) (by rfl : _ = true)) (fun _ => (Ev.call (EvL.cons (Ev.name (by repeat (first | with_reducible exact List.mem_cons_self | with_reducible apply List.mem_cons_of_mem))) (EvL.cons (Ev.name (by repeat (first | with_reducible exact List.mem_cons_self | with_reducible apply List.mem_cons_of_mem))) EvL.nil)) ((fn_eq W).le (by decide)))) (fun h => nomatch h))) (fun h => nomatch h)))
theorem fn_holds5 {a b : Int} : Fn c 2 "_law_holds" [.int 28, .int a, .int b] (.bool (cmpD 5 a b)) :=
  Fn.of3 (x1 := "symbol") (x2 := "one") (x3 := "other") (f := 187) (C := []) W (by kernel_rfl) rfl rfl rfl ⟨rfl, rfl, rfl, rfl, rfl, rfl, by kernel_rfl, by decide, by decide, by decide, bind3 fun _ _ _ => rfl⟩
    (Ex.ifNot (Ts.conv (Ts.cmp (Ev.name (by repeat (first | with_reducible exact List.mem_cons_self | with_reducible apply List.mem_cons_of_mem))) (Ev.tuple (EvL.cons Ev.int (EvL.cons Ev.int EvL.nil))) (Op2.inTuple rfl rfl)) (by rfl : _ = false)) (Ex.ifRet (Ts.conv (Ts.cmp (Ev.name (by repeat (first | with_reducible exact List.mem_cons_self | with_reducible apply List.mem_cons_of_mem))) (Ev.tuple (EvL.cons Ev.int (EvL.cons Ev.int EvL.nil))) (Op2.inTuple rfl rfl)) (by rfl : _ = true)) (fun _ => Ex.ret (Ev.ite (Ts.conv (Ts.cmp (Ev.name (by repeat (first | with_reducible exact List.mem_cons_self | with_reducible apply List.mem_cons_of_mem))) Ev.int Op2.eqI) (by rfl : _ = false)) (fun h => nomatch h) (fun _ => (Ev.call (EvL.cons (Ev.name (by repeat (first | with_reducible exact List.mem_cons_self | with_reducible apply List.mem_cons_of_mem))) (EvL.cons (Ev.name (by repeat (first | with_reducible exact List.mem_cons_self | with_reducible apply List.mem_cons_of_mem))) EvL.nil)) ((fn_ne W).le (by decide)))))) (fun h => nomatch h)))
theorem fn_holds {a b : Int} (d : Nat) (h : d < 6) : Fn c 2 "_law_holds" [.int (symD d), .int a, .int b] (.bool (cmpD d a b)) :=
  six (P := fun d => Fn c 2 "_law_holds" [.int (symD d), .int a, .int b] (.bool (cmpD d a b))) (fn_holds0 W) (fn_holds1 W) (fn_holds2 W) (fn_holds3 W) (fn_holds4 W) (fn_holds5 W) d h
end

end Mine
namespace Mine
theorem own_none {x : Str} : ∀ y ds, (none : Ow) = some (y, ds) → y ≠ x := fun _ _ e => nomatch e
theorem ne_nil {x : Str} : ∀ p ∈ ([] : Vars), p.1 ≠ x := fun _ h => nomatch h
theorem ne_cons {x a : Str} {d : PyData} {ρ : Vars} (h : a ≠ x) (r : ∀ p ∈ ρ, p.1 ≠ x) : ∀ p ∈ (a, d) :: ρ, p.1 ≠ x := fun p hp => (List.mem_cons.mp hp).elim (fun e => e ▸ h) (r p)
theorem bits_sub (x y : Str) : Builtin.Int.intBits (subCost x y) ≤ 64 := by
  unfold subCost; split
  · decide
  · split <;> decide
def lawCost (x : Str) (p : Int) (y : Str) (q : Int) : Int := subCost x y * (if q < p then q else p) + 2 * (if p - q < 0 then -(p - q) else p - q)
section
variable {c : Cx} (W : W0 c)
include W
theorem fn_cost {x y : Str} {p q : Int} (hx : x.length ≤ 1000) (hy : y.length ≤ 1000) : Fn c 1 "_law_cost" [.str x, .int p, .str y, .int q] (.int (lawCost x p y q)) :=
  Fn.of4 (x1 := "one") (x2 := "p") (x3 := "other") (x4 := "q") (f := 208) (C := []) W (by kernel_rfl) rfl rfl rfl ⟨rfl, rfl, rfl, rfl, rfl, rfl, by kernel_rfl, by decide, by decide, by decide, bind4 fun _ _ _ _ => rfl⟩
    (Ex.cons (X1.assign (d := .int (subCost x y)) (ρ' := [("one", .str x), ("p", .int p), ("other", .str y), ("q", .int q)])
        (Ev.ite (Ts.cmp (Ev.name (by repeat (first | with_reducible exact List.mem_cons_self | with_reducible apply List.mem_cons_of_mem))) (Ev.name (by repeat (first | with_reducible exact List.mem_cons_self | with_reducible apply List.mem_cons_of_mem))) Op2.eqS)
          (fun h => Ev.conv Ev.int (by simp only [decide_eq_true_eq] at h; unfold subCost; rw [if_pos h]))
          (fun h => Ev.ite (Ts.cmp (Ev.meth0 (Ev.name (by repeat (first | with_reducible exact List.mem_cons_self | with_reducible apply List.mem_cons_of_mem))) PySem.F.slot_str_lower PySem.F.type_str_lower (Bi.lower (by omega))) (Ev.meth0 (Ev.name (by repeat (first | with_reducible exact List.mem_cons_self | with_reducible apply List.mem_cons_of_mem))) PySem.F.slot_str_lower PySem.F.type_str_lower (Bi.lower (by omega))) Op2.eqS)
            (fun h' => Ev.conv Ev.int (by simp only [decide_eq_true_eq, decide_eq_false_iff_not] at h h'; unfold subCost; rw [if_neg h, if_pos h']))
            (fun h' => Ev.conv Ev.int (by simp only [decide_eq_false_iff_not] at h h'; unfold subCost; rw [if_neg h, if_neg h']))))
        (.inl (by kernel_rfl)) (fun _ h => h) (by repeat (first | exact ne_nil | refine ne_cons (by decide) ?_)) own_none)
      (Ex.ret (Ev.bin (Ev.bin (Ev.name (by repeat (first | with_reducible exact List.mem_cons_self | with_reducible apply List.mem_cons_of_mem))) (Ev.callB (EvL.cons (Ev.name (by repeat (first | with_reducible exact List.mem_cons_self | with_reducible apply List.mem_cons_of_mem))) (EvL.cons (Ev.name (by repeat (first | with_reducible exact List.mem_cons_self | with_reducible apply List.mem_cons_of_mem))) EvL.nil)) (g_min W) (b_min W) Bi.min) (Op2.mul (IntMulOk.of_left (bits_sub x y))))
        (Ev.bin Ev.int (Ev.callB (EvL.cons (Ev.bin (Ev.name (by repeat (first | with_reducible exact List.mem_cons_self | with_reducible apply List.mem_cons_of_mem))) (Ev.name (by repeat (first | with_reducible exact List.mem_cons_self | with_reducible apply List.mem_cons_of_mem))) Op2.sub) EvL.nil) (g_abs W) (b_abs W) Bi.abs) (Op2.mul (IntMulOk.of_left (by decide)))) Op2.add)))
end

end Mine
namespace Mine
def cntTo (ns : List Int) (t : Int) (i : Nat) : Int := ((ns.take i).countP fun n => decide (n = t) : Nat)
theorem cntTo_succ {ns : List Int} {t n : Int} {i : Nat} (h : ns[i]? = some n) : cntTo ns t (i + 1) = cntTo ns t i + (if n = t then 1 else 0) := by
  unfold cntTo
  rw [List.take_add_one, h, List.countP_append]
  by_cases q : n = t <;> simp [q]
theorem cntTo_all {ns : List Int} {t : Int} : cntTo ns t ns.length = (ns.countP fun n => decide (n = t) : Nat) := by
  unfold cntTo; rw [List.take_length]
section
variable {c : Cx} (W : W0 c)
include W
theorem fn_count {ns : List Int} {t : Int} (hn : ns.length ≤ 1000) : Fn c 1 "countOf" [.list (ns.map fun n => .list [.int n]), .list [.int t]] (.int (ns.countP fun n => decide (n = t) : Nat)) :=
  Fn.of2 (x1 := "a") (x2 := "b") (f := 142) (C := []) W (by kernel_rfl) rfl rfl rfl ⟨rfl, rfl, rfl, rfl, rfl, rfl, by kernel_rfl, by decide, by decide, by decide, bind2 fun _ _ => rfl⟩
    (Ex.cons (X1.assign (ρ' := [("a", .list (ns.map fun n => .list [.int n])), ("b", .list [.int t])]) Ev.int (.inl (by kernel_rfl)) (fun _ h => h) (by repeat (first | exact ne_nil | refine ne_cons (by decide) ?_)) own_none)
      (Ex.cons (X1.for (fun i => [("count", .int (cntTo ns t i)), ("a", .list (ns.map fun n => .list [.int n])), ("b", .list [.int t])]) (fun _ => none) (ns.map fun n => PyData.list [.int n]).length (Nat.le_refl _)
          (Its.list (Ev.name (by repeat (first | with_reducible exact List.mem_cons_self | with_reducible apply List.mem_cons_of_mem)))) (.inl (by kernel_rfl)) (fun _ _ => (by repeat (first | exact ne_nil | refine ne_cons (by decide) ?_))) (fun _ => own_none)
          (fun i d hi hd => by
            rw [List.getElem?_map] at hd
            cases hq : ns[i]? with
            | none => rw [hq] at hd; cases hd
            | some n =>
              rw [hq] at hd; cases hd
              by_cases q : n = t
              · refine Ex.cons (X1.ifT (Ts.conv (Ts.isOr (a := n) (b := t) (Ev.name (by repeat (first | with_reducible exact List.mem_cons_self | with_reducible apply List.mem_cons_of_mem))) (Ev.name (by repeat (first | with_reducible exact List.mem_cons_self | with_reducible apply List.mem_cons_of_mem))) (Ts.conv (Ts.cmp (a := .list [.int n]) (b := .list [.int t]) (Ev.name (by repeat (first | with_reducible exact List.mem_cons_self | with_reducible apply List.mem_cons_of_mem))) (Ev.name (by repeat (first | with_reducible exact List.mem_cons_self | with_reducible apply List.mem_cons_of_mem))) (Op2.eq rfl rfl)) (by
                  show ((n == t) && true) = decide (n = t)
                  rw [Bool.and_true]; exact Bool.eq_iff_iff.mpr (by simp)))) (decide_eq_true q)) (Ex.cons (X1.augAdd (ρ' := [("a", .list (ns.map fun n => .list [.int n])), ("b", .list [.int t])]) (a := cntTo ns t i) (b := 1) (by repeat (first | with_reducible exact List.mem_cons_self | with_reducible apply List.mem_cons_of_mem)) Ev.int (.inl (by kernel_rfl)) (by intro p hp; exact .tail _ (.tail _ hp)) (by repeat (first | exact ne_nil | refine ne_cons (by decide) ?_)) own_none) Ex.nil)) ?_
                rw [cntTo_succ hq, if_pos q]
                exact Ex.nil
              · refine Ex.cons (X1.ifF (Ts.conv (Ts.isOr (a := n) (b := t) (Ev.name (by repeat (first | with_reducible exact List.mem_cons_self | with_reducible apply List.mem_cons_of_mem))) (Ev.name (by repeat (first | with_reducible exact List.mem_cons_self | with_reducible apply List.mem_cons_of_mem))) (Ts.conv (Ts.cmp (a := .list [.int n]) (b := .list [.int t]) (Ev.name (by repeat (first | with_reducible exact List.mem_cons_self | with_reducible apply List.mem_cons_of_mem))) (Ev.name (by repeat (first | with_reducible exact List.mem_cons_self | with_reducible apply List.mem_cons_of_mem))) (Op2.eq rfl rfl)) (by
                  show ((n == t) && true) = decide (n = t)
                  rw [Bool.and_true]; exact Bool.eq_iff_iff.mpr (by simp)))) (decide_eq_false q)) Ex.nil) ?_
                rw [cntTo_succ hq, if_neg q, Int.add_zero]
                exact Ex.drop Ex.nil (by intro p hp; exact .tail _ hp))
          (.inl ⟨rfl, rfl⟩))
        (Ex.ret (Ev.conv (d := .int (cntTo ns t (ns.map fun n => PyData.list [.int n]).length)) (Ev.name (by repeat (first | with_reducible exact List.mem_cons_self | with_reducible apply List.mem_cons_of_mem))) (by rw [List.length_map, cntTo_all])))))
end

end Mine
namespace Mine
inductive R229 | ok (n : Int) | code | form | bad
def chr (x : Str) (i : Int) : Option Nat := (seqIndex? i x.length).bind fun j => x.cps[j]?
def spec229 (x : Str) : R229 :=
  if Txt.slice x none (some 3) = "229" then
    let left := Txt.find x "("
    if left < 0 then .form else
    let right := Txt.find3 x ")" (left + 1)
    if right < 0 then .form else
    match chr x (left + 1), chr x (right - 1) with
    | some a, some b =>
      if a = b then
        let mid := Txt.slice x (some (left + 1)) (some right)
        if (Builtin.Str.partsBetween mid (Builtin.Str.occurrences mid ⟨#[a]⟩ 0 mid.length (mid.length + 1)) 1).length ≤ 1000 then
          let parts := Txt.split mid ⟨#[a]⟩
          if parts.length = 5 then
            match parts[3]? with
            | some p => if p.length ≤ 640 then (match PySem.intText? p with | some n => .ok n | none => .bad) else .bad
            | none => .bad
          else .form
        else .bad
      else .form
    | _, _ => .bad
  else .code

theorem one_cp_eq {a b : Nat} : (decide ((⟨#[a]⟩ : Str) = ⟨#[b]⟩)) = decide (a = b) := by
  by_cases h : a = b
  · subst h; simp
  · have : (⟨#[a]⟩ : Str) ≠ ⟨#[b]⟩ := fun e => h (by simpa using e)
    simp [h, this]
theorem chr_bound {x : Str} {i : Int} {a : Nat} (h : chr x i = some a) : -(x.length : Int) ≤ i ∧ i < x.length := by
  unfold chr seqIndex? at h
  by_cases h0 : i < 0
  · simp only [h0, if_true] at h
    split at h
    · rename_i hc; simp at hc; omega
    · cases h
  · simp only [h0, if_false] at h
    split at h
    · rename_i hc; simp at hc; omega
    · cases h
theorem split_len {x y : Str} {n : Nat} (hy : y.length = n) (h : (Builtin.Str.partsBetween x (Builtin.Str.occurrences x y 0 x.length (x.length + 1)) n).length ≤ 1000) : (Txt.split x y).length ≤ 1000 := by
  unfold Txt.split; subst hy; split
  · simp
  · split
    · simp
    · exact h
theorem slice_len (x : Str) (l u : Option Int) : (Txt.slice x l u).length ≤ x.length := Txt.slice_le x l u
section
variable {c : Cx} (W : W0 c)
include W
theorem own_reply : OwnX c "error_reply" 51 := W.own (by kernel_rfl) (by kernel_rfl)
theorem own_proto : OwnX c "error_proto" 63 := W.own (by kernel_rfl) (by kernel_rfl)

theorem bix229_code {x : Str} {pd : PyData} (hl : x.length ≤ 1000) (h : ¬ Txt.slice x none (some 3) = "229") : BiX c 1 (.ref 72) [.str x, pd] 51 x :=
  BiX.of2 (x1 := "resp") (x2 := "peer") (f := 72) (C := []) W rfl rfl rfl ⟨rfl, rfl, rfl, rfl, rfl, rfl, by kernel_rfl, by decide, by decide, by decide, bind2 fun _ _ => rfl⟩
    (Ex.ifRaise (Ts.conv (Ts.cmp (Ev.sliceS (Ev.name (by repeat (first | with_reducible exact List.mem_cons_self | with_reducible apply List.mem_cons_of_mem))) EvP.no (EvP.at Ev.int) (by have e : sizeLine = 16777216 := rfl; omega)) Ev.str Op2.neS) (by rw [decide_eq_false h]; rfl)) (Ex.stop (X1.raise (Ev.name (by repeat (first | with_reducible exact List.mem_cons_self | with_reducible apply List.mem_cons_of_mem))) (own_reply W)) (fun _ _ e => nomatch e)))
theorem bix229_f1 {x : Str} {pd : PyData} {L : Int} (hl : x.length ≤ 1000) (h0 : Txt.slice x none (some 3) = "229") (hL : Txt.find x "(" = L) (hL0 : L < 0) : BiX c 1 (.ref 72) [.str x, pd] 63 x :=
  BiX.of2 (x1 := "resp") (x2 := "peer") (f := 72) (C := []) W rfl rfl rfl ⟨rfl, rfl, rfl, rfl, rfl, rfl, by kernel_rfl, by decide, by decide, by decide, bind2 fun _ _ => rfl⟩
    (Ex.ifNot (Ts.conv (Ts.cmp (Ev.sliceS (Ev.name (by repeat (first | with_reducible exact List.mem_cons_self | with_reducible apply List.mem_cons_of_mem))) EvP.no (EvP.at Ev.int) (by have e : sizeLine = 16777216 := rfl; omega)) Ev.str Op2.neS) (by rw [decide_eq_true h0]; rfl))
      (Ex.cons (X1.assign (d := .int L) (ρ' := [("resp", .str x), ("peer", pd)]) (Ev.conv (Ev.meth (Ev.name (by repeat (first | with_reducible exact List.mem_cons_self | with_reducible apply List.mem_cons_of_mem))) (EvL.cons Ev.str EvL.nil) PySem.F.slot_str_find PySem.F.type_str_find Bi.find) (by rw [hL])) (.inl (by kernel_rfl)) (fun _ h => h) (by repeat (first | exact ne_nil | refine ne_cons (by decide) ?_)) own_none)
      (Ex.ifRaise (Ts.conv (Ts.cmp (Ev.name (by repeat (first | with_reducible exact List.mem_cons_self | with_reducible apply List.mem_cons_of_mem))) Ev.int Op2.lt) (decide_eq_true hL0)) (Ex.stop (X1.raise (Ev.name (by repeat (first | with_reducible exact List.mem_cons_self | with_reducible apply List.mem_cons_of_mem))) (own_proto W)) (fun _ _ e => nomatch e)))))
theorem bix229_f2 {x : Str} {pd : PyData} {L : Int} (hl : x.length ≤ 1000) (h0 : Txt.slice x none (some 3) = "229") (hL : Txt.find x "(" = L) (hL0 : ¬ L < 0) {R : Int} (hR : Txt.find3 x ")" (L + 1) = R) (hR0 : R < 0) : BiX c 1 (.ref 72) [.str x, pd] 63 x :=
  BiX.of2 (x1 := "resp") (x2 := "peer") (f := 72) (C := []) W rfl rfl rfl ⟨rfl, rfl, rfl, rfl, rfl, rfl, by kernel_rfl, by decide, by decide, by decide, bind2 fun _ _ => rfl⟩
    (Ex.ifNot (Ts.conv (Ts.cmp (Ev.sliceS (Ev.name (by repeat (first | with_reducible exact List.mem_cons_self | with_reducible apply List.mem_cons_of_mem))) EvP.no (EvP.at Ev.int) (by have e : sizeLine = 16777216 := rfl; omega)) Ev.str Op2.neS) (by rw [decide_eq_true h0]; rfl))
      (Ex.cons (X1.assign (d := .int L) (ρ' := [("resp", .str x), ("peer", pd)]) (Ev.conv (Ev.meth (Ev.name (by repeat (first | with_reducible exact List.mem_cons_self | with_reducible apply List.mem_cons_of_mem))) (EvL.cons Ev.str EvL.nil) PySem.F.slot_str_find PySem.F.type_str_find Bi.find) (by rw [hL])) (.inl (by kernel_rfl)) (fun _ h => h) (by repeat (first | exact ne_nil | refine ne_cons (by decide) ?_)) own_none)
      (Ex.ifNot (Ts.conv (Ts.cmp (Ev.name (by repeat (first | with_reducible exact List.mem_cons_self | with_reducible apply List.mem_cons_of_mem))) Ev.int Op2.lt) (decide_eq_false hL0))
      (Ex.cons (X1.assign (d := .int R) (ρ' := [("left", .int L), ("resp", .str x), ("peer", pd)]) (Ev.conv (Ev.meth (Ev.name (by repeat (first | with_reducible exact List.mem_cons_self | with_reducible apply List.mem_cons_of_mem))) (EvL.cons Ev.str (EvL.cons (Ev.bin (Ev.name (by repeat (first | with_reducible exact List.mem_cons_self | with_reducible apply List.mem_cons_of_mem))) Ev.int Op2.add) EvL.nil)) PySem.F.slot_str_find PySem.F.type_str_find Bi.find3) (by rw [hR])) (.inl (by kernel_rfl)) (fun _ h => h) (by repeat (first | exact ne_nil | refine ne_cons (by decide) ?_)) own_none)
      (Ex.ifRaise (Ts.conv (Ts.cmp (Ev.name (by repeat (first | with_reducible exact List.mem_cons_self | with_reducible apply List.mem_cons_of_mem))) Ev.int Op2.lt) (decide_eq_true hR0)) (Ex.stop (X1.raise (Ev.name (by repeat (first | with_reducible exact List.mem_cons_self | with_reducible apply List.mem_cons_of_mem))) (own_proto W)) (fun _ _ e => nomatch e)))))))
theorem bix229_f3 {x : Str} {pd : PyData} {L : Int} (hl : x.length ≤ 1000) (h0 : Txt.slice x none (some 3) = "229") (hL : Txt.find x "(" = L) (hL0 : ¬ L < 0) {R : Int} (hR : Txt.find3 x ")" (L + 1) = R) (hR0 : ¬ R < 0) {a b : Nat} (ha : chr x (L + 1) = some a) (hb : chr x (R - 1) = some b) (hab : ¬ a = b) : BiX c 1 (.ref 72) [.str x, pd] 63 x :=
  BiX.of2 (x1 := "resp") (x2 := "peer") (f := 72) (C := []) W rfl rfl rfl ⟨rfl, rfl, rfl, rfl, rfl, rfl, by kernel_rfl, by decide, by decide, by decide, bind2 fun _ _ => rfl⟩
    (Ex.ifNot (Ts.conv (Ts.cmp (Ev.sliceS (Ev.name (by repeat (first | with_reducible exact List.mem_cons_self | with_reducible apply List.mem_cons_of_mem))) EvP.no (EvP.at Ev.int) (by have e : sizeLine = 16777216 := rfl; omega)) Ev.str Op2.neS) (by rw [decide_eq_true h0]; rfl))
      (Ex.cons (X1.assign (d := .int L) (ρ' := [("resp", .str x), ("peer", pd)]) (Ev.conv (Ev.meth (Ev.name (by repeat (first | with_reducible exact List.mem_cons_self | with_reducible apply List.mem_cons_of_mem))) (EvL.cons Ev.str EvL.nil) PySem.F.slot_str_find PySem.F.type_str_find Bi.find) (by rw [hL])) (.inl (by kernel_rfl)) (fun _ h => h) (by repeat (first | exact ne_nil | refine ne_cons (by decide) ?_)) own_none)
      (Ex.ifNot (Ts.conv (Ts.cmp (Ev.name (by repeat (first | with_reducible exact List.mem_cons_self | with_reducible apply List.mem_cons_of_mem))) Ev.int Op2.lt) (decide_eq_false hL0))
      (Ex.cons (X1.assign (d := .int R) (ρ' := [("left", .int L), ("resp", .str x), ("peer", pd)]) (Ev.conv (Ev.meth (Ev.name (by repeat (first | with_reducible exact List.mem_cons_self | with_reducible apply List.mem_cons_of_mem))) (EvL.cons Ev.str (EvL.cons (Ev.bin (Ev.name (by repeat (first | with_reducible exact List.mem_cons_self | with_reducible apply List.mem_cons_of_mem))) Ev.int Op2.add) EvL.nil)) PySem.F.slot_str_find PySem.F.type_str_find Bi.find3) (by rw [hR])) (.inl (by kernel_rfl)) (fun _ h => h) (by repeat (first | exact ne_nil | refine ne_cons (by decide) ?_)) own_none)
      (Ex.ifNot (Ts.conv (Ts.cmp (Ev.name (by repeat (first | with_reducible exact List.mem_cons_self | with_reducible apply List.mem_cons_of_mem))) Ev.int Op2.lt) (decide_eq_false hR0))
      (Ex.ifRaise (Ts.conv (Ts.cmp (Ev.itemS (Ev.name (by repeat (first | with_reducible exact List.mem_cons_self | with_reducible apply List.mem_cons_of_mem))) (Ev.bin (Ev.name (by repeat (first | with_reducible exact List.mem_cons_self | with_reducible apply List.mem_cons_of_mem))) Ev.int Op2.add) ha (by have := chr_bound ha; omega) (by have := chr_bound ha; omega)) (Ev.itemS (Ev.name (by repeat (first | with_reducible exact List.mem_cons_self | with_reducible apply List.mem_cons_of_mem))) (Ev.bin (Ev.name (by repeat (first | with_reducible exact List.mem_cons_self | with_reducible apply List.mem_cons_of_mem))) Ev.int Op2.sub) hb (by have := chr_bound hb; omega) (by have := chr_bound hb; omega)) Op2.neS) (by rw [one_cp_eq]; rw [decide_eq_false hab]; rfl)) (Ex.stop (X1.raise (Ev.name (by repeat (first | with_reducible exact List.mem_cons_self | with_reducible apply List.mem_cons_of_mem))) (own_proto W)) (fun _ _ e => nomatch e))))))))
theorem bix229_f4 {x : Str} {pd : PyData} {L : Int} (hl : x.length ≤ 1000) (h0 : Txt.slice x none (some 3) = "229") (hL : Txt.find x "(" = L) (hL0 : ¬ L < 0) {R : Int} (hR : Txt.find3 x ")" (L + 1) = R) (hR0 : ¬ R < 0) {a b : Nat} (ha : chr x (L + 1) = some a) (hb : chr x (R - 1) = some b) (hab : a = b) (hn : (Builtin.Str.partsBetween (Txt.slice x (some (L + 1)) (some R)) (Builtin.Str.occurrences (Txt.slice x (some (L + 1)) (some R)) ⟨#[a]⟩ 0 (Txt.slice x (some (L + 1)) (some R)).length ((Txt.slice x (some (L + 1)) (some R)).length + 1)) 1).length ≤ 1000) (h5 : ¬ (Txt.split (Txt.slice x (some (L + 1)) (some R)) ⟨#[a]⟩).length = 5) : BiX c 1 (.ref 72) [.str x, pd] 63 x :=
  BiX.of2 (x1 := "resp") (x2 := "peer") (f := 72) (C := []) W rfl rfl rfl ⟨rfl, rfl, rfl, rfl, rfl, rfl, by kernel_rfl, by decide, by decide, by decide, bind2 fun _ _ => rfl⟩
    (Ex.ifNot (Ts.conv (Ts.cmp (Ev.sliceS (Ev.name (by repeat (first | with_reducible exact List.mem_cons_self | with_reducible apply List.mem_cons_of_mem))) EvP.no (EvP.at Ev.int) (by have e : sizeLine = 16777216 := rfl; omega)) Ev.str Op2.neS) (by rw [decide_eq_true h0]; rfl))
      (Ex.cons (X1.assign (d := .int L) (ρ' := [("resp", .str x), ("peer", pd)]) (Ev.conv (Ev.meth (Ev.name (by repeat (first | with_reducible exact List.mem_cons_self | with_reducible apply List.mem_cons_of_mem))) (EvL.cons Ev.str EvL.nil) PySem.F.slot_str_find PySem.F.type_str_find Bi.find) (by rw [hL])) (.inl (by kernel_rfl)) (fun _ h => h) (by repeat (first | exact ne_nil | refine ne_cons (by decide) ?_)) own_none)
      (Ex.ifNot (Ts.conv (Ts.cmp (Ev.name (by repeat (first | with_reducible exact List.mem_cons_self | with_reducible apply List.mem_cons_of_mem))) Ev.int Op2.lt) (decide_eq_false hL0))
      (Ex.cons (X1.assign (d := .int R) (ρ' := [("left", .int L), ("resp", .str x), ("peer", pd)]) (Ev.conv (Ev.meth (Ev.name (by repeat (first | with_reducible exact List.mem_cons_self | with_reducible apply List.mem_cons_of_mem))) (EvL.cons Ev.str (EvL.cons (Ev.bin (Ev.name (by repeat (first | with_reducible exact List.mem_cons_self | with_reducible apply List.mem_cons_of_mem))) Ev.int Op2.add) EvL.nil)) PySem.F.slot_str_find PySem.F.type_str_find Bi.find3) (by rw [hR])) (.inl (by kernel_rfl)) (fun _ h => h) (by repeat (first | exact ne_nil | refine ne_cons (by decide) ?_)) own_none)
      (Ex.ifNot (Ts.conv (Ts.cmp (Ev.name (by repeat (first | with_reducible exact List.mem_cons_self | with_reducible apply List.mem_cons_of_mem))) Ev.int Op2.lt) (decide_eq_false hR0))
      (Ex.ifNot (Ts.conv (Ts.cmp (Ev.itemS (Ev.name (by repeat (first | with_reducible exact List.mem_cons_self | with_reducible apply List.mem_cons_of_mem))) (Ev.bin (Ev.name (by repeat (first | with_reducible exact List.mem_cons_self | with_reducible apply List.mem_cons_of_mem))) Ev.int Op2.add) ha (by have := chr_bound ha; omega) (by have := chr_bound ha; omega)) (Ev.itemS (Ev.name (by repeat (first | with_reducible exact List.mem_cons_self | with_reducible apply List.mem_cons_of_mem))) (Ev.bin (Ev.name (by repeat (first | with_reducible exact List.mem_cons_self | with_reducible apply List.mem_cons_of_mem))) Ev.int Op2.sub) hb (by have := chr_bound hb; omega) (by have := chr_bound hb; omega)) Op2.neS) (by rw [one_cp_eq]; rw [decide_eq_true hab]; rfl))
      (Ex.cons (X1.assign (d := .list ((Txt.split (Txt.slice x (some (L + 1)) (some R)) ⟨#[a]⟩).map .str)) (ρ' := [("right", .int R), ("left", .int L), ("resp", .str x), ("peer", pd)])
        (Ev.meth (Ev.sliceS (Ev.name (by repeat (first | with_reducible exact List.mem_cons_self | with_reducible apply List.mem_cons_of_mem))) (EvP.at (Ev.bin (Ev.name (by repeat (first | with_reducible exact List.mem_cons_self | with_reducible apply List.mem_cons_of_mem))) Ev.int Op2.add)) (EvP.at (Ev.name (by repeat (first | with_reducible exact List.mem_cons_self | with_reducible apply List.mem_cons_of_mem)))) (by have e : sizeLine = 16777216 := rfl; omega)) (EvL.cons (Ev.itemS (Ev.name (by repeat (first | with_reducible exact List.mem_cons_self | with_reducible apply List.mem_cons_of_mem))) (Ev.bin (Ev.name (by repeat (first | with_reducible exact List.mem_cons_self | with_reducible apply List.mem_cons_of_mem))) Ev.int Op2.add) ha (by have := chr_bound ha; omega) (by have := chr_bound ha; omega)) EvL.nil) PySem.F.slot_str_split PySem.F.type_str_split
          (Bi.split rfl (by have := slice_len x (some (L + 1)) (some R); have e : sizeLine = 16777216 := rfl; omega) (by have e : sizeLine = 16777216 := rfl; exact Nat.le_trans hn (by omega)))) (.inl (by kernel_rfl)) (fun _ h => h) (by repeat (first | exact ne_nil | refine ne_cons (by decide) ?_)) own_none)
      (Ex.ifRaise (Ts.conv (Ts.cmp (Ev.callB (EvL.cons (Ev.name (by repeat (first | with_reducible exact List.mem_cons_self | with_reducible apply List.mem_cons_of_mem))) EvL.nil) (g_len W) (b_len W) (Bi.lenList (by rw [List.length_map]; have := split_len (n := 1) rfl hn; omega))) Ev.int Op2.neI) (by rw [List.length_map]; rw [decide_eq_false (by omega)]; rfl)) (Ex.stop (X1.raise (Ev.name (by repeat (first | with_reducible exact List.mem_cons_self | with_reducible apply List.mem_cons_of_mem))) (own_proto W)) (fun _ _ e => nomatch e))))))))))
theorem bi229_ok {x : Str} {L : Int} (hl : x.length ≤ 1000) (h0 : Txt.slice x none (some 3) = "229") (hL : Txt.find x "(" = L) (hL0 : ¬ L < 0) {R : Int} (hR : Txt.find3 x ")" (L + 1) = R) (hR0 : ¬ R < 0) {a b : Nat} (ha : chr x (L + 1) = some a) (hb : chr x (R - 1) = some b) (hab : a = b) (hn : (Builtin.Str.partsBetween (Txt.slice x (some (L + 1)) (some R)) (Builtin.Str.occurrences (Txt.slice x (some (L + 1)) (some R)) ⟨#[a]⟩ 0 (Txt.slice x (some (L + 1)) (some R)).length ((Txt.slice x (some (L + 1)) (some R)).length + 1)) 1).length ≤ 1000) {q : Str} {n : Int} (h5 : (Txt.split (Txt.slice x (some (L + 1)) (some R)) ⟨#[a]⟩).length = 5) (hq : (Txt.split (Txt.slice x (some (L + 1)) (some R)) ⟨#[a]⟩)[3]? = some q) (hq1 : q.length ≤ 640) (hq2 : PySem.intText? q = some n) : Bi c 1 (.ref 72) [.str x, .tuple [.str "here", .int 7]] (.tuple [.str "here", .int n]) :=
  Bi.ofK (names := ["resp", "peer"]) (f := 72) (C := []) W rfl rfl rfl ⟨rfl, rfl, rfl, rfl, rfl, rfl, by kernel_rfl, by decide, by decide, by decide, bind2 fun _ _ => rfl⟩ rfl (show Ex c _ _ _ [("resp", .str x), ("peer", .tuple [.str "here", .int 7])] _ _ _ from 
    Ex.ifNot (Ts.conv (Ts.cmp (Ev.sliceS (Ev.name (by repeat (first | with_reducible exact List.mem_cons_self | with_reducible apply List.mem_cons_of_mem))) EvP.no (EvP.at Ev.int) (by have e : sizeLine = 16777216 := rfl; omega)) Ev.str Op2.neS) (by rw [decide_eq_true h0]; rfl))
      (Ex.cons (X1.assign (d := .int L) (ρ' := [("resp", .str x), ("peer", .tuple [.str "here", .int 7])]) (Ev.conv (Ev.meth (Ev.name (by repeat (first | with_reducible exact List.mem_cons_self | with_reducible apply List.mem_cons_of_mem))) (EvL.cons Ev.str EvL.nil) PySem.F.slot_str_find PySem.F.type_str_find Bi.find) (by rw [hL])) (.inl (by kernel_rfl)) (fun _ h => h) (by repeat (first | exact ne_nil | refine ne_cons (by decide) ?_)) own_none)
      (Ex.ifNot (Ts.conv (Ts.cmp (Ev.name (by repeat (first | with_reducible exact List.mem_cons_self | with_reducible apply List.mem_cons_of_mem))) Ev.int Op2.lt) (decide_eq_false hL0))
      (Ex.cons (X1.assign (d := .int R) (ρ' := [("left", .int L), ("resp", .str x), ("peer", .tuple [.str "here", .int 7])]) (Ev.conv (Ev.meth (Ev.name (by repeat (first | with_reducible exact List.mem_cons_self | with_reducible apply List.mem_cons_of_mem))) (EvL.cons Ev.str (EvL.cons (Ev.bin (Ev.name (by repeat (first | with_reducible exact List.mem_cons_self | with_reducible apply List.mem_cons_of_mem))) Ev.int Op2.add) EvL.nil)) PySem.F.slot_str_find PySem.F.type_str_find Bi.find3) (by rw [hR])) (.inl (by kernel_rfl)) (fun _ h => h) (by repeat (first | exact ne_nil | refine ne_cons (by decide) ?_)) own_none)
      (Ex.ifNot (Ts.conv (Ts.cmp (Ev.name (by repeat (first | with_reducible exact List.mem_cons_self | with_reducible apply List.mem_cons_of_mem))) Ev.int Op2.lt) (decide_eq_false hR0))
      (Ex.ifNot (Ts.conv (Ts.cmp (Ev.itemS (Ev.name (by repeat (first | with_reducible exact List.mem_cons_self | with_reducible apply List.mem_cons_of_mem))) (Ev.bin (Ev.name (by repeat (first | with_reducible exact List.mem_cons_self | with_reducible apply List.mem_cons_of_mem))) Ev.int Op2.add) ha (by have := chr_bound ha; omega) (by have := chr_bound ha; omega)) (Ev.itemS (Ev.name (by repeat (first | with_reducible exact List.mem_cons_self | with_reducible apply List.mem_cons_of_mem))) (Ev.bin (Ev.name (by repeat (first | with_reducible exact List.mem_cons_self | with_reducible apply List.mem_cons_of_mem))) Ev.int Op2.sub) hb (by have := chr_bound hb; omega) (by have := chr_bound hb; omega)) Op2.neS) (by rw [one_cp_eq]; rw [decide_eq_true hab]; rfl))
      (Ex.cons (X1.assign (d := .list ((Txt.split (Txt.slice x (some (L + 1)) (some R)) ⟨#[a]⟩).map .str)) (ρ' := [("right", .int R), ("left", .int L), ("resp", .str x), ("peer", .tuple [.str "here", .int 7])])
        (Ev.meth (Ev.sliceS (Ev.name (by repeat (first | with_reducible exact List.mem_cons_self | with_reducible apply List.mem_cons_of_mem))) (EvP.at (Ev.bin (Ev.name (by repeat (first | with_reducible exact List.mem_cons_self | with_reducible apply List.mem_cons_of_mem))) Ev.int Op2.add)) (EvP.at (Ev.name (by repeat (first | with_reducible exact List.mem_cons_self | with_reducible apply List.mem_cons_of_mem)))) (by have e : sizeLine = 16777216 := rfl; omega)) (EvL.cons (Ev.itemS (Ev.name (by repeat (first | with_reducible exact List.mem_cons_self | with_reducible apply List.mem_cons_of_mem))) (Ev.bin (Ev.name (by repeat (first | with_reducible exact List.mem_cons_self | with_reducible apply List.mem_cons_of_mem))) Ev.int Op2.add) ha (by have := chr_bound ha; omega) (by have := chr_bound ha; omega)) EvL.nil) PySem.F.slot_str_split PySem.F.type_str_split
          (Bi.split rfl (by have := slice_len x (some (L + 1)) (some R); have e : sizeLine = 16777216 := rfl; omega) (by have e : sizeLine = 16777216 := rfl; exact Nat.le_trans hn (by omega)))) (.inl (by kernel_rfl)) (fun _ h => h) (by repeat (first | exact ne_nil | refine ne_cons (by decide) ?_)) own_none)
      (Ex.ifNot (Ts.conv (Ts.cmp (Ev.callB (EvL.cons (Ev.name (by repeat (first | with_reducible exact List.mem_cons_self | with_reducible apply List.mem_cons_of_mem))) EvL.nil) (g_len W) (b_len W) (Bi.lenList (by rw [List.length_map]; have := split_len (n := 1) rfl hn; omega))) Ev.int Op2.neI) (by rw [List.length_map]; rw [decide_eq_true (by omega)]; rfl))
      (Ex.cons (X1.assign (d := .str "here") (ρ' := [("parts", .list ((Txt.split (Txt.slice x (some (L + 1)) (some R)) ⟨#[a]⟩).map .str)), ("right", .int R), ("left", .int L), ("resp", .str x), ("peer", .tuple [.str "here", .int 7])]) (Ev.itemT (Ev.name (by repeat (first | with_reducible exact List.mem_cons_self | with_reducible apply List.mem_cons_of_mem))) Ev.int (idx_at 0 (by decide)) rfl (by decide) (by decide)) (.inl (by kernel_rfl)) (fun _ h => h) (by repeat (first | exact ne_nil | refine ne_cons (by decide) ?_)) own_none)
      (Ex.cons (X1.assign (d := .int n) (ρ' := [("host", .str "here"), ("parts", .list ((Txt.split (Txt.slice x (some (L + 1)) (some R)) ⟨#[a]⟩).map .str)), ("right", .int R), ("left", .int L), ("resp", .str x), ("peer", .tuple [.str "here", .int 7])])
          (Ev.callT (EvL.cons (Ev.itemL (Ev.name (by repeat (first | with_reducible exact List.mem_cons_self | with_reducible apply List.mem_cons_of_mem))) Ev.int (idx_at 3 (by rw [List.length_map]; omega)) (by rw [List.getElem?_map, hq]; rfl) (by rw [List.length_map]; omega)) EvL.nil) (g_int W) (b_int W) (Bi.intStr hq2 hq1)) (.inl (by kernel_rfl)) (fun _ h => h) (by repeat (first | exact ne_nil | refine ne_cons (by decide) ?_)) own_none)
      (Ex.ret (Ev.tuple (EvL.cons (Ev.name (by repeat (first | with_reducible exact List.mem_cons_self | with_reducible apply List.mem_cons_of_mem))) (EvL.cons (Ev.name (by repeat (first | with_reducible exact List.mem_cons_self | with_reducible apply List.mem_cons_of_mem))) EvL.nil))))))))))))))
end

end Mine
namespace Mine
section
variable {c : Cx} (W : W0 c)
include W
theorem x229_code {x : Str} {pd : PyData} (hl : x.length ≤ 1000) (h : spec229 x = .code) : BiX c 1 (.ref 72) [.str x, pd] 51 x := by
  unfold spec229 at h
  split at h
  · dsimp only at h
    (repeat' split at h) <;> cases h
  · exact bix229_code W hl ‹_›
theorem x229_form {x : Str} {pd : PyData} (hl : x.length ≤ 1000) (h : spec229 x = .form) : BiX c 1 (.ref 72) [.str x, pd] 63 x := by
  unfold spec229 at h
  split at h
  · rename_i h0
    dsimp only at h
    split at h
    · rename_i h1; exact bix229_f1 W hl h0 rfl h1
    · rename_i h1
      split at h
      · rename_i h2; exact bix229_f2 W hl h0 rfl h1 rfl h2
      · rename_i h2
        split at h
        · rename_i a b ha hb
          split at h
          · rename_i hab
            split at h
            · rename_i hn
              split at h
              · (repeat' split at h) <;> cases h
              · rename_i h5; exact bix229_f4 W hl h0 rfl h1 rfl h2 ha hb hab hn h5
            · cases h
          · rename_i hab; exact bix229_f3 W hl h0 rfl h1 rfl h2 ha hb hab
        · cases h
  · cases h
theorem b229_ok {x : Str} {n : Int} (hl : x.length ≤ 1000) (h : spec229 x = .ok n) : Bi c 1 (.ref 72) [.str x, .tuple [.str "here", .int 7]] (.tuple [.str "here", .int n]) := by
  unfold spec229 at h
  split at h
  · rename_i h0
    dsimp only at h
    split at h
    · cases h
    · rename_i h1
      split at h
      · cases h
      · rename_i h2
        split at h
        · rename_i a b ha hb
          split at h
          · rename_i hab
            split at h
            · rename_i hn
              split at h
              · rename_i h5
                split at h
                · rename_i q hq
                  split at h
                  · rename_i hq1
                    split at h
                    · rename_i k hq2
                      cases h
                      exact bi229_ok W hl h0 rfl h1 rfl h2 ha hb hab hn h5 hq hq1 hq2
                    · cases h
                  · cases h
                · cases h
              · cases h
            · cases h
          · cases h
        · cases h
  · cases h

theorem m_229 : c.mg "parse229" = some (.ref 72) := W.gv (by kernel_rfl)
theorem m_257 : c.mg "parse257" = some (.ref 79) := W.gv (by kernel_rfl)
theorem exk_reply : ExcK c.K 51 := ⟨by rw [W.K]; kernel_rfl, by rw [W.K]; kernel_rfl⟩
theorem exk_proto : ExcK c.K 63 := ⟨by rw [W.K]; kernel_rfl, by rw [W.K]; kernel_rfl⟩
theorem exm_rr : exmOne c.K (.ref 51) (.ref 51) = some true := by rw [W.K]; kernel_rfl
theorem exm_pp : exmOne c.K (.ref 63) (.ref 63) = some true := by rw [W.K]; kernel_rfl
theorem exm_pr : exmOne c.K (.ref 63) (.ref 51) = some false := by rw [W.K]; kernel_rfl

theorem fn_read229 {x : Str} {n : Int} (hl : x.length ≤ 1000) (h : spec229 x = .ok n) : Fn c 2 "_law_read" [.str x, .bool false] (.tuple [.str "here", .int n]) :=
  Fn.of2 (x1 := "reply") (x2 := "quoted") (f := 173) (C := []) W (by kernel_rfl) rfl rfl rfl ⟨rfl, rfl, rfl, rfl, rfl, rfl, by kernel_rfl, by decide, by decide, by decide, bind2 fun _ _ => rfl⟩
    (Ex.stop (X1.tryRet (Ev.ite (b := false) (Ts.val (Ev.name (by repeat (first | with_reducible exact List.mem_cons_self | with_reducible apply List.mem_cons_of_mem))) Tr.bool) (fun h => nomatch h)
      (fun _ => Ev.call (EvL.cons (Ev.name (by repeat (first | with_reducible exact List.mem_cons_self | with_reducible apply List.mem_cons_of_mem))) (EvL.cons (Ev.tuple (EvL.cons Ev.str (EvL.cons Ev.int EvL.nil))) EvL.nil)) ⟨72, _, _, m_229 W, W.at rfl, rfl, b229_ok W hl h⟩))) (fun _ _ e => nomatch e))

theorem fn_read_code {x : Str} {b : Bool} (hl : x.length ≤ 1000) (h : (b = false ∧ BiX c 1 (.ref 72) [.str x, .tuple [.str "here", .int 7]] 51 x) ∨ (b = true ∧ BiX c 1 (.ref 79) [.str x] 51 x)) : Fn c 2 "_law_read" [.str x, .bool b] (.str ("code " ++ x)) :=
  ⟨173, _, _, W.gv (by kernel_rfl), W.at rfl, rfl, Bi.ofDefTry (names := ["reply", "quoted"]) (C := []) (K := 51) (x := x) (W.at rfl) rfl rfl rfl rfl rfl rfl rfl rfl rfl (fun h X => codeRec_of X (by rw [W.K]; kernel_rfl)) (by decide) rfl (by decide) (by decide) (bind2 fun _ _ => rfl)
    (show EvX c 1 _ [("reply", .str x), ("quoted", .bool b)] _ 51 x from by
      rcases h with ⟨rfl, h⟩ | ⟨rfl, h⟩
      · exact EvX.iteF (Ts.val (Ev.name (by repeat (first | with_reducible exact List.mem_cons_self | with_reducible apply List.mem_cons_of_mem))) Tr.bool) (EvX.call (EvL.cons (Ev.name (by repeat (first | with_reducible exact List.mem_cons_self | with_reducible apply List.mem_cons_of_mem))) (EvL.cons (Ev.tuple (EvL.cons Ev.str (EvL.cons Ev.int EvL.nil))) EvL.nil)) (m_229 W) (W.at rfl) rfl h)
      · exact EvX.iteT (Ts.val (Ev.name (by repeat (first | with_reducible exact List.mem_cons_self | with_reducible apply List.mem_cons_of_mem))) Tr.bool) (EvX.call (EvL.cons (Ev.name (by repeat (first | with_reducible exact List.mem_cons_self | with_reducible apply List.mem_cons_of_mem))) EvL.nil) (m_257 W) (W.at rfl) rfl h))
    (fun F O X k => cat_hit F O X (own_reply W).1 (exm_rr W) (exk_reply W) (g_str W) (b_str W) (by have e : sizeLine = 16777216 := rfl; have e2 : ("code " : Str).length = 5 := rfl; omega) k (by kernel_rfl) (by decide) (by kernel_rfl) (by decide) (by kernel_rfl) (by decide))⟩
theorem fn_read_form {x : Str} (hl : x.length ≤ 1000) (h : BiX c 1 (.ref 72) [.str x, .tuple [.str "here", .int 7]] 63 x) : Fn c 2 "_law_read" [.str x, .bool false] (.str ("form " ++ x)) :=
  ⟨173, _, _, W.gv (by kernel_rfl), W.at rfl, rfl, Bi.ofDefTry (names := ["reply", "quoted"]) (C := []) (K := 63) (x := x) (W.at rfl) rfl rfl rfl rfl rfl rfl rfl rfl rfl (fun h X => codeRec_of X (by rw [W.K]; kernel_rfl)) (by decide) rfl (by decide) (by decide) (bind2 fun _ _ => rfl)
    (show EvX c 1 _ [("reply", .str x), ("quoted", .bool false)] _ 63 x from
      EvX.iteF (Ts.val (Ev.name (by repeat (first | with_reducible exact List.mem_cons_self | with_reducible apply List.mem_cons_of_mem))) Tr.bool) (EvX.call (EvL.cons (Ev.name (by repeat (first | with_reducible exact List.mem_cons_self | with_reducible apply List.mem_cons_of_mem))) (EvL.cons (Ev.tuple (EvL.cons Ev.str (EvL.cons Ev.int EvL.nil))) EvL.nil)) (m_229 W) (W.at rfl) rfl h))
    (fun F O X k => cat_miss (n₀ := fun _ => True) F X (own_reply W).1 (exm_pr W) (cat_hit F O X (own_proto W).1 (exm_pp W) (exk_proto W) (g_str W) (b_str W) (by have e : sizeLine = 16777216 := rfl; have e2 : ("form " : Str).length = 5 := rfl; omega) k (by kernel_rfl) (by decide) (by kernel_rfl) (by decide) (by kernel_rfl) (by decide)) (by kernel_rfl) (by decide))⟩
end

end Mine
namespace Mine
section
variable {c : Cx} {m : Nat} {T : Tab} {C : List Str} {ρ ρ' ρ₁ : Vars} {ω ω' ω₁ : Ow}
/-- a while, turn by turn -/
inductive Wh (c : Cx) (m : Nat) (T : Tab) (C : List Str) (test : PySem.Expr) (body : List PySem.Stmt) : Vars → Ow → Vars → Ow → Prop
  | done {ρ ρ' : Vars} {ω : Ow} : Ts c m T ρ test false → (∀ p ∈ ρ', p ∈ ρ) → Wh c m T C test body ρ ω ρ' ω
  | brk {ρ ρ' ρ₁ : Vars} {ω ω₁ : Ow} : Ts c m T ρ test true → Ex c m T C ρ ω body (.brk ρ₁ ω₁) → (∀ p ∈ ρ', p ∈ ρ₁) → Wh c m T C test body ρ ω ρ' ω₁
  | step {ρ ρ' ρ₁ : Vars} {ω ω' ω₁ : Ow} : Ts c m T ρ test true → Ex c m T C ρ ω body (.next ρ₁ ω₁) → Wh c m T C test body ρ₁ ω₁ ρ' ω' → Wh c m T C test body ρ ω ρ' ω'
theorem Wh.seq {test : PySem.Expr} {body : List PySem.Stmt} (h : Wh c m T C test body ρ ω ρ' ω') : ∃ (n : Nat) (ρs : Nat → Vars) (ωs : Nat → Ow) (ρf : Vars), ρs 0 = ρ ∧ ωs 0 = ω ∧
    (∀ i, i < n → Ts c m T (ρs i) test true ∧ Ex c m T C (ρs i) (ωs i) body (.next (ρs (i + 1)) (ωs (i + 1)))) ∧ (∀ p ∈ ρ', p ∈ ρf) ∧
    ((Ts c m T (ρs n) test false ∧ Out.next ρf ω' = .next (ρs n) (ωs n)) ∨ (∃ ρ₂ ω₂, Ts c m T (ρs n) test true ∧ Ex c m T C (ρs n) (ωs n) body (.brk ρ₂ ω₂) ∧ Out.next ρf ω' = .next ρ₂ ω₂)) := by
  induction h with
  | done h s => exact ⟨0, fun _ => _, fun _ => _, _, rfl, rfl, fun i hi => absurd hi (Nat.not_lt_zero _), s, .inl ⟨h, rfl⟩⟩
  | brk h b s => exact ⟨0, fun _ => _, fun _ => _, _, rfl, rfl, fun i hi => absurd hi (Nat.not_lt_zero _), s, .inr ⟨_, _, h, b, rfl⟩⟩
  | step h b _ ih =>
    rename_i ρa ρb ρc ωa ωb ωc _
    obtain ⟨n, ρs, ωs, ρf, h1, h2, h3, h4, h5⟩ := ih
    refine ⟨n + 1, fun k => match k with | 0 => ρa | k + 1 => ρs k, fun k => match k with | 0 => ωa | k + 1 => ωs k, ρf, rfl, rfl, fun i hi => ?_, h4, h5⟩
    cases i with
    | zero => subst h1 h2; exact ⟨h, b⟩
    | succ i => exact h3 i (Nat.lt_of_succ_lt_succ hi)
theorem X1.whileI {test : PySem.Expr} {body : List PySem.Stmt} {pos : Pos} (h : Wh c m T C test body ρ ω ρ' ω') : X1 c m T C ρ ω (.While test body [] pos) (.next ρ' ω') := by
  obtain ⟨n, ρs, ωs, ρf, h1, h2, h3, h4, h5⟩ := h.seq
  have := (X1.while ρs ωs n h3 h5 : X1 c m T C (ρs 0) (ωs 0) (.While test body [] pos) (.next ρf ω'))
  subst h1 h2
  exact X1.drop this h4
end

def unq : List Nat → List Nat
  | [] => []
  | [34] => []
  | a :: b :: r => if a = 34 then (if b = 34 then 34 :: unq r else []) else a :: unq (b :: r)
  | [a] => [a]
def strOf' (l : List Nat) : Str := ⟨l.toArray⟩
theorem strOf_app (d : Str) (a : Nat) (l : List Nat) : d ++ (⟨#[a]⟩ : Str) ++ strOf' l = d ++ strOf' (a :: l) := by
  show (⟨(d.cps ++ #[a]) ++ l.toArray⟩ : Str) = ⟨d.cps ++ (a :: l).toArray⟩
  congr 1
  apply Array.toList_inj.mp
  simp

theorem unq_other {a : Nat} {r : List Nat} (h : a ≠ 34) : unq (a :: r) = a :: unq r := by
  cases r with
  | nil => rw [unq.eq_def]; split <;> simp_all [unq]
  | cons b r => rw [unq.eq_def]; simp [h]
theorem unq_two {r : List Nat} : unq (34 :: 34 :: r) = 34 :: unq r := by
  rw [unq.eq_def]; simp
theorem unq_end {b : Nat} {r : List Nat} (h : b ≠ 34) : unq (34 :: b :: r) = [] := by
  rw [unq.eq_def]; simp [h]
section
variable {c : Cx} (W : W0 c)
include W
theorem bix257_code {x : Str} (hl : x.length ≤ 1000) (h : ¬ Txt.slice x none (some 3) = "257") : BiX c 1 (.ref 79) [.str x] 51 x :=
  BiX.of1 (x1 := "resp") (f := 79) (C := []) W rfl rfl rfl ⟨rfl, rfl, rfl, rfl, rfl, rfl, by kernel_rfl, by decide, by decide, by decide, bind1 fun _ => rfl⟩
    (Ex.ifRaise (Ts.conv (Ts.cmp (Ev.sliceS (Ev.name (by repeat (first | with_reducible exact List.mem_cons_self | with_reducible apply List.mem_cons_of_mem))) EvP.no (EvP.at Ev.int) (by have e : sizeLine = 16777216 := rfl; omega)) Ev.str Op2.neS) (by rw [decide_eq_false h]; rfl)) (Ex.stop (X1.raise (Ev.name (by repeat (first | with_reducible exact List.mem_cons_self | with_reducible apply List.mem_cons_of_mem))) (own_reply W)) (fun _ _ e => nomatch e)))
theorem bi257_none {x : Str} (hl : x.length ≤ 1000) (h0 : Txt.slice x none (some 3) = "257") (h1 : ¬ Txt.slice x (some 3) (some 5) = " \"") : Bi c 1 (.ref 79) [.str x] (.str "") :=
  Bi.ofK (names := ["resp"]) (f := 79) (C := []) W rfl rfl rfl ⟨rfl, rfl, rfl, rfl, rfl, rfl, by kernel_rfl, by decide, by decide, by decide, bind1 fun _ => rfl⟩ rfl (show Ex c _ _ _ [("resp", .str x)] _ _ _ from
    Ex.ifNot (Ts.conv (Ts.cmp (Ev.sliceS (Ev.name (by repeat (first | with_reducible exact List.mem_cons_self | with_reducible apply List.mem_cons_of_mem))) EvP.no (EvP.at Ev.int) (by have e : sizeLine = 16777216 := rfl; omega)) Ev.str Op2.neS) (by rw [decide_eq_true h0]; rfl))
      (Ex.ifRet (v := true) (Ts.conv (Ts.cmp (Ev.sliceS (Ev.name (by repeat (first | with_reducible exact List.mem_cons_self | with_reducible apply List.mem_cons_of_mem))) (EvP.at Ev.int) (EvP.at Ev.int) (by have e : sizeLine = 16777216 := rfl; omega)) Ev.str Op2.neS) (by rw [decide_eq_false h1]; rfl)) (fun _ => Ex.ret Ev.str) (fun h => nomatch h)))
end

end Mine
namespace Mine
abbrev NF (x : Str) (i : Nat) (dir : Str) : Vars := [("n", .int x.length), ("i", .int i), ("dirname", .str dir), ("resp", .str x)]
theorem loop257 {c : Cx} {m : Nat} {T : Tab} {C : List Str} {x : Str} {test : PySem.Expr} {body : List PySem.Stmt}
    (ht : ∀ (i : Nat) dir, Ts c m T (NF x i dir) test (decide ((i : Int) < x.length)))
    (hp : ∀ (i : Nat) dir a, x.cps[i]? = some a → a ≠ 34 → dir.length ≤ 2000 → Ex c m T C (NF x i dir) none body (.next (NF x (i + 1) (dir ++ ⟨#[a]⟩)) none))
    (h2 : ∀ (i : Nat) dir, x.cps[i]? = some 34 → x.cps[i + 1]? = some 34 → dir.length ≤ 2000 → Ex c m T C (NF x i dir) none body (.next (NF x (i + 2) (dir ++ ⟨#[34]⟩)) none))
    (ρe : Nat → Str → Vars) (hm : ∀ i dir, (("dirname" : Str), PyData.str dir) ∈ ρe i dir) (he : ∀ (i : Nat) dir, x.cps[i]? = some 34 → x.cps[i + 1]? ≠ some 34 → Ex c m T C (NF x i dir) none body (.brk (ρe i dir) none)) :
    ∀ (k i : Nat) (dir : Str), x.length - i ≤ k → i ≤ x.length → dir.length + (x.length - i) ≤ 2000 → Wh c m T C test body (NF x i dir) none [("dirname", .str (dir ++ strOf' (unq (x.cps.toList.drop i))))] none := by
  intro k
  have fin : ∀ (i : Nat) (dir : Str), x.length ≤ i → Wh c m T C test body (NF x i dir) none [("dirname", .str (dir ++ strOf' (unq (x.cps.toList.drop i))))] none := fun i dir h => by
    have e : x.cps.toList.drop i = [] := List.drop_eq_nil_of_le (by simpa [Str.length] using h)
    rw [e]
    have e2 : dir ++ strOf' (unq []) = dir := by
      show (⟨dir.cps ++ ([] : List Nat).toArray⟩ : Str) = dir
      simp
    rw [e2]
    refine Wh.done (Ts.conv (ht i dir) (decide_eq_false (by omega))) fun p hp => ?_
    rw [List.mem_singleton.mp hp]; exact .tail _ (.tail _ (.head _))
  induction k with
  | zero => intro i dir h1 h2' _; exact fin i dir (by omega)
  | succ k ih =>
    intro i dir h1 hi hl
    by_cases hlt : i < x.length
    · have hx : i < x.cps.size := hlt
      have ha : x.cps[i]? = some x.cps[i] := Array.getElem?_eq_getElem hx
      have hd : x.cps.toList.drop i = x.cps[i] :: x.cps.toList.drop (i + 1) := by
        rw [List.drop_eq_getElem_cons (by simpa using hx)]; simp
      have tt : Ts c m T (NF x i dir) test true := Ts.conv (ht i dir) (decide_eq_true (by omega))
      have dl : ∀ a : Nat, (dir ++ (⟨#[a]⟩ : Str)).length = dir.length + 1 := fun a => by
        show (dir.cps ++ #[a]).size = _; rw [Array.size_append]; rfl
      by_cases q : x.cps[i] = 34
      · rw [q] at ha hd
        by_cases q2 : x.cps[i + 1]? = some 34
        · have hx2 : i + 1 < x.cps.size := by
            rcases Nat.lt_or_ge (i + 1) x.cps.size with h | h
            · exact h
            · rw [Array.getElem?_eq_none h] at q2; cases q2
          have hd2 : x.cps.toList.drop (i + 1) = 34 :: x.cps.toList.drop (i + 2) := by
            rw [List.drop_eq_getElem_cons (by simpa using hx2)]
            rw [Array.getElem?_eq_getElem hx2] at q2
            simp at q2; simp [q2]
          rw [hd, hd2, unq_two, ← strOf_app]
          have hlen : x.cps.size = x.length := rfl
          exact Wh.step tt (h2 i dir ha q2 (by omega)) (ih (i + 2) _ (by omega) (by omega) (by rw [dl]; omega))
        · have hb := he i dir ha q2
          have e : unq (x.cps.toList.drop i) = [] := by
            rw [hd]
            cases hd2 : x.cps.toList.drop (i + 1) with
            | nil => rfl
            | cons b r =>
              have : x.cps[i + 1]? = some b := by
                have h3 : (x.cps.toList.drop (i + 1))[0]? = some b := by rw [hd2]; rfl
                rw [List.getElem?_drop] at h3
                simpa using h3
              exact unq_end fun e => q2 (by rw [this, e])
          have e2 : dir ++ strOf' (unq (x.cps.toList.drop i)) = dir := by
            rw [e]
            show (⟨dir.cps ++ ([] : List Nat).toArray⟩ : Str) = dir
            simp
          rw [e2]
          refine Wh.brk tt hb fun p hp => ?_
          rw [List.mem_singleton.mp hp]; exact hm i dir
      · rw [hd, unq_other q, ← strOf_app]
        exact Wh.step tt (hp i dir _ ha q (by omega)) (ih (i + 1) _ (by omega) (by omega) (by rw [dl]; omega))
    · exact fin i dir (by omega)
theorem bindAt {x : Str} {i : Nat} {a : Nat} (h : x.cps[i]? = some a) : ((seqIndex? (i : Int) x.length).bind fun j => x.cps[j]?) = some a := by
  have : i < x.length := by
    rcases Nat.lt_or_ge i x.cps.size with h' | h'
    · exact h'
    · rw [Array.getElem?_eq_none h'] at h; cases h
  rw [idx_at i this]; exact h
theorem at_lt {x : Str} {i : Nat} {a : Nat} (h : x.cps[i]? = some a) : i < x.length := by
  rcases Nat.lt_or_ge i x.cps.size with h' | h'
  · exact h'
  · rw [Array.getElem?_eq_none h'] at h; cases h
theorem sub_nil {ρ : Vars} : ∀ p ∈ ([] : Vars), p ∈ ρ := fun _ h => nomatch h
theorem sub_cons {a : Str} {d : PyData} {ρ ρ' : Vars} (h : (a, d) ∈ ρ) (r : ∀ p ∈ ρ', p ∈ ρ) : ∀ p ∈ (a, d) :: ρ', p ∈ ρ := fun p hp => (List.mem_cons.mp hp).elim (fun e => e ▸ h) (r p)
theorem ts257 {c : Cx} {m : Nat} {T : Tab} {ρ : Vars} {x : Str} {i : Nat} {e e' : PySem.Expr} (hb : x.cps[i + 1]? ≠ some 34) (h1 : Ts c m T ρ e (decide ((x.length : Int) ≤ ((i + 1 : Nat) : Int))))
    (h2 : ∀ b : Nat, x.cps[i + 1]? = some b → Ts c m T ρ e' (!decide ((⟨#[b]⟩ : Str) = "\""))) : TsA c m T ρ .Or [e, e'] true := by
  by_cases q : i + 1 < x.length
  · have hx : x.cps[i + 1]? = some x.cps[i + 1] := Array.getElem?_eq_getElem q
    have e1 : (⟨#[x.cps[i + 1]]⟩ : Str) ≠ "\"" := fun e => hb (by
      have : x.cps[i + 1] = 34 := by
        have q2 : ("\"" : Str) = ⟨#[34]⟩ := by decide
        rw [q2] at e; simpa using e
      rw [hx, this])
    exact TsA.or (a := false) (b := true) (Ts.conv h1 (decide_eq_false (by omega))) (fun _ => TsA.or (a := true) (b := false) (Ts.conv (h2 _ hx) (by rw [decide_eq_false e1]; rfl)) (fun h => nomatch h))
  · exact TsA.or (a := true) (b := false) (Ts.conv h1 (decide_eq_true (by omega))) (fun h => nomatch h)
theorem cast_succ (i : Nat) : PyData.int ((i : Int) + 1) = .int ((i + 1 : Nat) : Int) := by push_cast; rfl
theorem empty_app (y : Str) : ("" : Str) ++ y = y := by
  show (⟨("" : Str).cps ++ y.cps⟩ : Str) = y
  have : ("" : Str).cps = #[] := by decide
  rw [this]; simp
theorem quote_eq : ("\"" : Str) = ⟨#[34]⟩ := by decide
section
variable {c : Cx} {m : Nat} {T : Tab} {C : List Str} {ρ : Vars} {ω : Ow}
theorem Ev.reint {e : PySem.Expr} {a b : Int} (h : Ev c m T ρ e (.int a)) (q : a = b) : Ev c m T ρ e (.int b) := q ▸ h
end
theorem Ex.brk1 {c : Cx} {m : Nat} {T : Tab} {C : List Str} {ρ : Vars} {ω : Ow} {pos : Pos} {rest : List PySem.Stmt} : Ex c m T C ρ ω (.Break pos :: rest) (.brk ρ ω) := Ex.stop X1.brk (fun _ _ e => nomatch e)
theorem Ex.ifB {c : Cx} {m : Nat} {T : Tab} {C : List Str} {ρ ρ₁ : Vars} {ω ω₁ : Ow} {t : PySem.Expr} {b rest : List PySem.Stmt} {pos : Pos} (ht : Ts c m T ρ t true) (h1 : Ex c m T C ρ ω b (.brk ρ₁ ω₁)) : Ex c m T C ρ ω (.If t b [] pos :: rest) (.brk ρ₁ ω₁) := Ex.stop (X1.ifT ht h1) (fun _ _ e => nomatch e)
theorem Ev.itemAt {c : Cx} {m : Nat} {T : Tab} {ρ : Vars} {value slice : PySem.Expr} {pos : Pos} {x : Str} {k b : Nat} (hx : x.cps[k]? = some b) (hl : x.length ≤ 1000) (h1 : Ev c m T ρ value (.str x)) (h2 : Ev c m T ρ slice (.int (k : Int)))
    (hs : ∀ o i, subscripted slice false o i = operate [o, i] (getItem o i) := by intro _ _; rfl) : Ev c m T ρ (.Subscript value slice pos) (.str ⟨#[b]⟩) := by
  have := at_lt hx
  exact Ev.itemS h1 h2 (bindAt hx) (by omega) (by omega) hs
section
variable {c : Cx} (W : W0 c)
include W
theorem bi257_ok {x : Str} (hl : x.length ≤ 1000) (h5 : 5 ≤ x.length) (h0 : Txt.slice x none (some 3) = "257") (h1 : Txt.slice x (some 3) (some 5) = " \"") : Bi c 1 (.ref 79) [.str x] (.str (strOf' (unq (x.cps.toList.drop 5)))) :=
  Bi.ofK (names := ["resp"]) (f := 79) (C := []) W rfl rfl rfl ⟨rfl, rfl, rfl, rfl, rfl, rfl, by kernel_rfl, by decide, by decide, by decide, bind1 fun _ => rfl⟩ rfl (show Ex c _ _ _ [("resp", .str x)] _ _ _ from
    (Ex.ifNot (Ts.conv (Ts.cmp (Ev.sliceS (Ev.name (by repeat (first | with_reducible exact List.mem_cons_self | with_reducible apply List.mem_cons_of_mem))) EvP.no (EvP.at Ev.int) (by have e : sizeLine = 16777216 := rfl; omega)) Ev.str Op2.neS) (by rw [decide_eq_true h0]; rfl)) (Ex.ifNot (Ts.conv (Ts.cmp (Ev.sliceS (Ev.name (by repeat (first | with_reducible exact List.mem_cons_self | with_reducible apply List.mem_cons_of_mem))) (EvP.at Ev.int) (EvP.at Ev.int) (by have e : sizeLine = 16777216 := rfl; omega)) Ev.str Op2.neS) (by rw [decide_eq_true h1]; rfl)) (Ex.cons (X1.assign (d := .str "") (ρ' := [("resp", .str x)]) Ev.str (.inl (by kernel_rfl)) (fun _ h => h) (by repeat (first | exact ne_nil | refine ne_cons (by decide) ?_)) own_none) (Ex.cons (X1.assign (d := .int 5) (ρ' := [("dirname", .str ""), ("resp", .str x)]) Ev.int (.inl (by kernel_rfl)) (fun _ h => h) (by repeat (first | exact ne_nil | refine ne_cons (by decide) ?_)) own_none) (Ex.cons (X1.assign (d := .int x.length) (ρ' := [("i", .int 5), ("dirname", .str ""), ("resp", .str x)]) (Ev.callB (EvL.cons (Ev.name (by repeat (first | with_reducible exact List.mem_cons_self | with_reducible apply List.mem_cons_of_mem))) EvL.nil) (g_len W) (b_len W) (Bi.lenStr (by omega))) (.inl (by kernel_rfl)) (fun _ h => h) (by repeat (first | exact ne_nil | refine ne_cons (by decide) ?_)) own_none) (Ex.cons (X1.whileI (ρ' := [("dirname", .str ("" ++ strOf' (unq (x.cps.toList.drop 5))))]) (loop257 (x := x)
                  (fun i dir => Ts.cmp (Ev.name (.tail _ (.head _))) (Ev.name (.head _)) Op2.lt)
                  (fun i dir a ha hne hd => (Ex.cons (X1.assign (d := .str ⟨#[a]⟩) (ρ' := NF x i dir) (Ev.itemAt ha hl (Ev.name (by repeat (first | with_reducible exact List.mem_cons_self | with_reducible apply List.mem_cons_of_mem))) (Ev.name (by repeat (first | with_reducible exact List.mem_cons_self | with_reducible apply List.mem_cons_of_mem)))) (.inl (by kernel_rfl)) (fun _ h => h) (by repeat (first | exact ne_nil | refine ne_cons (by decide) ?_)) own_none) (Ex.cons (X1.assign (d := .int ((i + 1 : Nat) : Int)) (ρ' := [("c", .str ⟨#[a]⟩), ("n", .int x.length), ("dirname", .str dir), ("resp", .str x)]) (Ev.conv (Ev.bin (Ev.name (by repeat (first | with_reducible exact List.mem_cons_self | with_reducible apply List.mem_cons_of_mem))) Ev.int Op2.add) (cast_succ i)) (.inl (by kernel_rfl)) (by repeat (first | exact sub_nil | refine sub_cons (by repeat (first | with_reducible exact List.mem_cons_self | with_reducible apply List.mem_cons_of_mem)) ?_)) (by repeat (first | exact ne_nil | refine ne_cons (by decide) ?_)) own_none) (Ex.cons (X1.ifF (Ts.conv (Ts.cmp (Ev.name (by repeat (first | with_reducible exact List.mem_cons_self | with_reducible apply List.mem_cons_of_mem))) Ev.str Op2.eqS) (by rw [quote_eq, one_cp_eq, decide_eq_false hne])) Ex.nil) (Ex.cons (X1.assign (d := .str (dir ++ ⟨#[a]⟩)) (ρ' := [("i", .int ((i + 1 : Nat) : Int)), ("c", .str ⟨#[a]⟩), ("n", .int x.length), ("resp", .str x)]) (Ev.bin (Ev.name (by repeat (first | with_reducible exact List.mem_cons_self | with_reducible apply List.mem_cons_of_mem))) (Ev.name (by repeat (first | with_reducible exact List.mem_cons_self | with_reducible apply List.mem_cons_of_mem))) (Op2.addStr (by show dir.length + 1 ≤ sizeLine; have e : sizeLine = 16777216 := rfl; omega))) (.inl (by kernel_rfl)) (by repeat (first | exact sub_nil | refine sub_cons (by repeat (first | with_reducible exact List.mem_cons_self | with_reducible apply List.mem_cons_of_mem)) ?_)) (by repeat (first | exact ne_nil | refine ne_cons (by decide) ?_)) own_none) (Ex.drop Ex.nil (by repeat (first | exact sub_nil | refine sub_cons (by repeat (first | with_reducible exact List.mem_cons_self | with_reducible apply List.mem_cons_of_mem)) ?_))))))))
                  (fun i dir ha hb hd => (Ex.cons (X1.assign (d := .str ⟨#[34]⟩) (ρ' := NF x i dir) (Ev.itemAt ha hl (Ev.name (by repeat (first | with_reducible exact List.mem_cons_self | with_reducible apply List.mem_cons_of_mem))) (Ev.name (by repeat (first | with_reducible exact List.mem_cons_self | with_reducible apply List.mem_cons_of_mem)))) (.inl (by kernel_rfl)) (fun _ h => h) (by repeat (first | exact ne_nil | refine ne_cons (by decide) ?_)) own_none) (Ex.cons (X1.assign (d := .int ((i + 1 : Nat) : Int)) (ρ' := [("c", .str ⟨#[34]⟩), ("n", .int x.length), ("dirname", .str dir), ("resp", .str x)]) (Ev.conv (Ev.bin (Ev.name (by repeat (first | with_reducible exact List.mem_cons_self | with_reducible apply List.mem_cons_of_mem))) Ev.int Op2.add) (cast_succ i)) (.inl (by kernel_rfl)) (by repeat (first | exact sub_nil | refine sub_cons (by repeat (first | with_reducible exact List.mem_cons_self | with_reducible apply List.mem_cons_of_mem)) ?_)) (by repeat (first | exact ne_nil | refine ne_cons (by decide) ?_)) own_none) (Ex.cons (X1.ifT (Ts.conv (Ts.cmp (Ev.name (by repeat (first | with_reducible exact List.mem_cons_self | with_reducible apply List.mem_cons_of_mem))) Ev.str Op2.eqS) (by rw [quote_eq, one_cp_eq]; rfl))
                        (Ex.cons (X1.ifF (Ts.bool (TsA.or (a := false) (b := false) (Ts.conv (Ts.cmp (Ev.name (by repeat (first | with_reducible exact List.mem_cons_self | with_reducible apply List.mem_cons_of_mem))) (Ev.name (by repeat (first | with_reducible exact List.mem_cons_self | with_reducible apply List.mem_cons_of_mem))) Op2.ge) (decide_eq_false (by have := at_lt hb; push_cast; omega))) (fun _ => TsA.or (a := false) (b := false) (Ts.conv (Ts.cmp (Ev.itemAt hb hl (Ev.name (by repeat (first | with_reducible exact List.mem_cons_self | with_reducible apply List.mem_cons_of_mem))) (Ev.name (by repeat (first | with_reducible exact List.mem_cons_self | with_reducible apply List.mem_cons_of_mem)))) Ev.str Op2.neS) (by rw [quote_eq, one_cp_eq]; rfl)) (fun _ => TsA.nilO)))) Ex.nil) (Ex.cons (X1.assign (d := .int ((i + 2 : Nat) : Int)) (ρ' := [("c", .str ⟨#[34]⟩), ("n", .int x.length), ("dirname", .str dir), ("resp", .str x)]) (Ev.conv (Ev.bin (Ev.name (by repeat (first | with_reducible exact List.mem_cons_self | with_reducible apply List.mem_cons_of_mem))) Ev.int Op2.add) (cast_succ (i + 1))) (.inl (by kernel_rfl)) (by repeat (first | exact sub_nil | refine sub_cons (by repeat (first | with_reducible exact List.mem_cons_self | with_reducible apply List.mem_cons_of_mem)) ?_)) (by repeat (first | exact ne_nil | refine ne_cons (by decide) ?_)) own_none) (Ex.nil)))) (Ex.cons (X1.assign (d := .str (dir ++ ⟨#[34]⟩)) (ρ' := [("i", .int ((i + 2 : Nat) : Int)), ("c", .str ⟨#[34]⟩), ("n", .int x.length), ("resp", .str x)]) (Ev.bin (Ev.name (by repeat (first | with_reducible exact List.mem_cons_self | with_reducible apply List.mem_cons_of_mem))) (Ev.name (by repeat (first | with_reducible exact List.mem_cons_self | with_reducible apply List.mem_cons_of_mem))) (Op2.addStr (by show dir.length + 1 ≤ sizeLine; have e : sizeLine = 16777216 := rfl; omega))) (.inl (by kernel_rfl)) (by repeat (first | exact sub_nil | refine sub_cons (by repeat (first | with_reducible exact List.mem_cons_self | with_reducible apply List.mem_cons_of_mem)) ?_)) (by repeat (first | exact ne_nil | refine ne_cons (by decide) ?_)) own_none) (Ex.drop Ex.nil (by repeat (first | exact sub_nil | refine sub_cons (by repeat (first | with_reducible exact List.mem_cons_self | with_reducible apply List.mem_cons_of_mem)) ?_))))))))
                  (fun i dir => [("i", .int ((i + 1 : Nat) : Int)), ("c", .str ⟨#[34]⟩), ("n", .int x.length), ("dirname", .str dir), ("resp", .str x)]) (fun _ _ => .tail _ (.tail _ (.tail _ (.head _))))
                  (fun i dir ha hb => (Ex.cons (X1.assign (d := .str ⟨#[34]⟩) (ρ' := NF x i dir) (Ev.itemAt ha hl (Ev.name (by repeat (first | with_reducible exact List.mem_cons_self | with_reducible apply List.mem_cons_of_mem))) (Ev.name (by repeat (first | with_reducible exact List.mem_cons_self | with_reducible apply List.mem_cons_of_mem)))) (.inl (by kernel_rfl)) (fun _ h => h) (by repeat (first | exact ne_nil | refine ne_cons (by decide) ?_)) own_none) (Ex.cons (X1.assign (d := .int ((i + 1 : Nat) : Int)) (ρ' := [("c", .str ⟨#[34]⟩), ("n", .int x.length), ("dirname", .str dir), ("resp", .str x)]) (Ev.conv (Ev.bin (Ev.name (by repeat (first | with_reducible exact List.mem_cons_self | with_reducible apply List.mem_cons_of_mem))) Ev.int Op2.add) (cast_succ i)) (.inl (by kernel_rfl)) (by repeat (first | exact sub_nil | refine sub_cons (by repeat (first | with_reducible exact List.mem_cons_self | with_reducible apply List.mem_cons_of_mem)) ?_)) (by repeat (first | exact ne_nil | refine ne_cons (by decide) ?_)) own_none) (Ex.ifB (Ts.conv (Ts.cmp (Ev.name (by repeat (first | with_reducible exact List.mem_cons_self | with_reducible apply List.mem_cons_of_mem))) Ev.str Op2.eqS) (by rw [quote_eq, one_cp_eq]; rfl))
                        (Ex.ifB (Ts.bool (ts257 hb (Ts.cmp (Ev.name (by repeat (first | with_reducible exact List.mem_cons_self | with_reducible apply List.mem_cons_of_mem))) (Ev.name (by repeat (first | with_reducible exact List.mem_cons_self | with_reducible apply List.mem_cons_of_mem))) Op2.ge) (fun b hx => Ts.cmp (Ev.itemAt hx hl (Ev.name (by repeat (first | with_reducible exact List.mem_cons_self | with_reducible apply List.mem_cons_of_mem))) (Ev.name (by repeat (first | with_reducible exact List.mem_cons_self | with_reducible apply List.mem_cons_of_mem)))) Ev.str Op2.neS))) Ex.brk1))))) 1000 5 "" (by omega) h5 (by show 0 + (x.length - 5) ≤ 2000; omega))) (Ex.ret (Ev.conv (Ev.name (by repeat (first | with_reducible exact List.mem_cons_self | with_reducible apply List.mem_cons_of_mem))) (by rw [empty_app]))))))))))
end

end Mine
namespace Mine
section
variable {c : Cx} (W : W0 c)
include W
theorem fn_read257 {x : Str} {d : PyData} (h : Bi c 1 (.ref 79) [.str x] d) : Fn c 2 "_law_read" [.str x, .bool true] d :=
  Fn.of2 (x1 := "reply") (x2 := "quoted") (f := 173) (C := []) W (by kernel_rfl) rfl rfl rfl ⟨rfl, rfl, rfl, rfl, rfl, rfl, by kernel_rfl, by decide, by decide, by decide, bind2 fun _ _ => rfl⟩
    (Ex.stop (X1.tryRet (Ev.ite (b := true) (Ts.val (Ev.name (by repeat (first | with_reducible exact List.mem_cons_self | with_reducible apply List.mem_cons_of_mem))) Tr.bool) (fun _ => Ev.call (EvL.cons (Ev.name (by repeat (first | with_reducible exact List.mem_cons_self | with_reducible apply List.mem_cons_of_mem))) EvL.nil) ⟨79, _, _, m_257 W, W.at rfl, rfl, h⟩) (fun h => nomatch h))) (fun _ _ e => nomatch e))

def lawReply (kind : Nat) (inside mark : Str) : Str × Str :=
  let whole : Str := "229 ok) (" ++ inside ++ mark
  match kind with
  | 0 | 1 | 2 | 3 | 4 => ("", whole ++ ") (x" ++ mark ++ ")")
  | 5 => ("form ", whole ++ "x) (x" ++ mark ++ ")")
  | 6 => ("code ", "226" ++ Txt.slice whole (some 3) none ++ ")")
  | 7 => ("form ", whole ++ mark ++ ")")
  | 8 => ("form ", "229 (" ++ mark ++ "9" ++ mark ++ "9" ++ mark ++ ")")
  | 9 => ("form ", "229 ok292)")
  | 10 => ("form ", whole ++ "x")
  | 11 => ("code ", "219" ++ Txt.slice whole (some 3) none ++ ")")
  | _ => ("code ", "129" ++ Txt.slice whole (some 3) none ++ ")")
def pr (p : Str × Str) : PyData := .list [.str p.1, .str p.2]
end
theorem app_len (x y : Str) : (x ++ y).length = x.length + y.length := by show (x.cps ++ y.cps).size = _; rw [Array.size_append]; rfl
section
variable {c : Cx} {m : Nat} {T : Tab} {ρ : Vars}
structure EvS (c : Cx) (m : Nat) (T : Tab) (ρ : Vars) (e : PySem.Expr) (x : Str) (n : Nat) : Prop where
  ev : Ev c m T ρ e (.str x)
  le : x.length ≤ n
theorem EvS.app {l r : PySem.Expr} {pos : Pos} {x y : Str} {a b : Nat} (h1 : EvS c m T ρ l x a) (h2 : EvS c m T ρ r y b) (h : a + b ≤ 16777216 := by decide) : EvS c m T ρ (.BinOp l .Add r pos) (x ++ y) (a + b) :=
  ⟨Ev.bin h1.ev h2.ev (Op2.addStr (Nat.le_trans (Nat.add_le_add h1.le h2.le) h)), by rw [app_len]; exact Nat.add_le_add h1.le h2.le⟩
theorem EvS.lit {x : Str} {k pos n} (h : x.length ≤ n := by decide) : EvS c m T ρ (.Constant (.str x) k pos) x n := ⟨Ev.str, h⟩
theorem EvS.tail {value : PySem.Expr} {lower : PySem.Expr} {p pos : Pos} {x : Str} {l : Int} {n : Nat} (h : EvS c m T ρ value x n) (hl : Ev c m T ρ lower (.int l)) (hn : n ≤ 16777216 := by decide)
    (ht : ∀ o r, letTemporaryGo value o r = pure () := by intro _ _; rfl) : EvS c m T ρ (.Subscript value (.Slice (some lower) none none p) pos) (Txt.slice x (some l) none) n :=
  ⟨Ev.sliceS h.ev (EvP.at hl) EvP.no (Nat.le_trans h.le hn) ht, Nat.le_trans (slice_len _ _ _) h.le⟩
theorem Ev.app {l r : PySem.Expr} {pos : Pos} {x y : Str} (h1 : Ev c m T ρ l (.str x)) (h2 : Ev c m T ρ r (.str y)) (h : x.length + y.length ≤ 16777216) : Ev c m T ρ (.BinOp l .Add r pos) (.str (x ++ y)) := Ev.bin h1 h2 (Op2.addStr h)
end
theorem hw_len {i k : Str} (hi : i.length ≤ 100) (hk : k.length ≤ 100) : (("229 ok) (" : Str) ++ i ++ k).length ≤ 220 := by
  have h : (("229 ok) (" : Str)).length = 9 := by decide
  rw [app_len, app_len]; omega
def rawL (i k : Str) : List PyData := [.list [.str "form ", .str ((("229 ok) (" : Str) ++ i ++ k) ++ "x) (x" ++ k ++ ")")], .list [.str "code ", .str ("226" ++ Txt.slice (("229 ok) (" : Str) ++ i ++ k) (some 3) none ++ ")")], .list [.str "form ", .str ((("229 ok) (" : Str) ++ i ++ k) ++ k ++ ")")], .list [.str "form ", .str ("229 (" ++ k ++ "9" ++ k ++ "9" ++ k ++ ")")], .list [.str "form ", .str ("229 ok292)")], .list [.str "form ", .str ((("229 ok) (" : Str) ++ i ++ k) ++ "x")]] ++ [.list [.str "code ", .str ("219" ++ Txt.slice (("229 ok) (" : Str) ++ i ++ k) (some 3) none ++ ")")], .list [.str "code ", .str ("129" ++ Txt.slice (("229 ok) (" : Str) ++ i ++ k) (some 3) none ++ ")")]]
section
variable {c : Cx} (W : W0 c)
include W
theorem fn_reply_ok {i k : Str} {n : Nat} (hi : i.length ≤ 100) (hk : k.length ≤ 100) (hn : n < 5) : Fn c 1 "_law_reply" [.int n, .str i, .str k] (pr ("", "229 ok) (" ++ i ++ k ++ ") (x" ++ k ++ ")")) := by
  have hw := hw_len hi hk
  exact Fn.of3 (x1 := "kind") (x2 := "inside") (x3 := "mark") (f := 180) (C := []) W (by kernel_rfl) rfl rfl rfl ⟨rfl, rfl, rfl, rfl, rfl, rfl, by kernel_rfl, by decide, by decide, by decide, bind3 fun _ _ _ => rfl⟩
    (Ex.cons (X1.assign (d := .str ("229 ok) (" ++ i ++ k)) (ρ' := [("kind", .int n), ("inside", .str i), ("mark", .str k)]) ((EvS.app (EvS.app (EvS.lit (n := 20)) (EvS.mk (Ev.name (by repeat (first | with_reducible exact List.mem_cons_self | with_reducible apply List.mem_cons_of_mem))) hi)) (EvS.mk (Ev.name (by repeat (first | with_reducible exact List.mem_cons_self | with_reducible apply List.mem_cons_of_mem))) hk))).ev (.inl (by kernel_rfl)) (fun _ h => h) (by repeat (first | exact ne_nil | refine ne_cons (by decide) ?_)) own_none) (Ex.ifRet (v := true) (Ts.conv (Ts.cmp (Ev.name (by repeat (first | with_reducible exact List.mem_cons_self | with_reducible apply List.mem_cons_of_mem))) Ev.int Op2.lt) (decide_eq_true (by omega))) (fun _ => Ex.ret (Ev.list (EvL.cons Ev.str (EvL.cons ((EvS.app (EvS.app (EvS.app (EvS.mk (Ev.name (by repeat (first | with_reducible exact List.mem_cons_self | with_reducible apply List.mem_cons_of_mem))) hw) (EvS.lit (n := 20))) (EvS.mk (Ev.name (by repeat (first | with_reducible exact List.mem_cons_self | with_reducible apply List.mem_cons_of_mem))) hk)) (EvS.lit (n := 20)))).ev EvL.nil)))) (fun h => nomatch h)))
theorem fn_reply_bad {i k : Str} {n : Nat} (hi : i.length ≤ 100) (hk : k.length ≤ 100) {j : Nat} {p : PyData} (hn : n = j + 5) (hj : j < 8) (hp : (rawL i k)[j]? = some p) : Fn c 1 "_law_reply" [.int n, .str i, .str k] p := by
  have hw := hw_len hi hk
  exact Fn.of3 (x1 := "kind") (x2 := "inside") (x3 := "mark") (f := 180) (C := []) W (by kernel_rfl) rfl rfl rfl ⟨rfl, rfl, rfl, rfl, rfl, rfl, by kernel_rfl, by decide, by decide, by decide, bind3 fun _ _ _ => rfl⟩
    (Ex.cons (X1.assign (d := .str ("229 ok) (" ++ i ++ k)) (ρ' := [("kind", .int n), ("inside", .str i), ("mark", .str k)]) ((EvS.app (EvS.app (EvS.lit (n := 20)) (EvS.mk (Ev.name (by repeat (first | with_reducible exact List.mem_cons_self | with_reducible apply List.mem_cons_of_mem))) hi)) (EvS.mk (Ev.name (by repeat (first | with_reducible exact List.mem_cons_self | with_reducible apply List.mem_cons_of_mem))) hk))).ev (.inl (by kernel_rfl)) (fun _ h => h) (by repeat (first | exact ne_nil | refine ne_cons (by decide) ?_)) own_none) (Ex.ifNot (Ts.conv (Ts.cmp (Ev.name (by repeat (first | with_reducible exact List.mem_cons_self | with_reducible apply List.mem_cons_of_mem))) Ev.int Op2.lt) (decide_eq_false (by omega))) (Ex.cons (X1.ownList (ρ' := [("whole", .str ("229 ok) (" ++ i ++ k)), ("kind", .int n), ("inside", .str i), ("mark", .str k)]) (ds := [.list [.str "form ", .str ((("229 ok) (" : Str) ++ i ++ k) ++ "x) (x" ++ k ++ ")")], .list [.str "code ", .str ("226" ++ Txt.slice (("229 ok) (" : Str) ++ i ++ k) (some 3) none ++ ")")], .list [.str "form ", .str ((("229 ok) (" : Str) ++ i ++ k) ++ k ++ ")")]]) (EvL.cons (Ev.list (EvL.cons Ev.str (EvL.cons ((EvS.app (EvS.app (EvS.app (EvS.mk (Ev.name (by repeat (first | with_reducible exact List.mem_cons_self | with_reducible apply List.mem_cons_of_mem))) hw) (EvS.lit (n := 20))) (EvS.mk (Ev.name (by repeat (first | with_reducible exact List.mem_cons_self | with_reducible apply List.mem_cons_of_mem))) hk)) (EvS.lit (n := 20)))).ev EvL.nil))) (EvL.cons (Ev.list (EvL.cons Ev.str (EvL.cons ((EvS.app (EvS.app (EvS.lit (n := 20)) (EvS.tail (EvS.mk (Ev.name (by repeat (first | with_reducible exact List.mem_cons_self | with_reducible apply List.mem_cons_of_mem))) hw) Ev.int)) (EvS.lit (n := 20)))).ev EvL.nil))) (EvL.cons (Ev.list (EvL.cons Ev.str (EvL.cons ((EvS.app (EvS.app (EvS.mk (Ev.name (by repeat (first | with_reducible exact List.mem_cons_self | with_reducible apply List.mem_cons_of_mem))) hw) (EvS.mk (Ev.name (by repeat (first | with_reducible exact List.mem_cons_self | with_reducible apply List.mem_cons_of_mem))) hk)) (EvS.lit (n := 20)))).ev EvL.nil))) EvL.nil))) (.inl (by kernel_rfl)) (fun _ h => h) (by repeat (first | exact ne_nil | refine ne_cons (by decide) ?_))) (Ex.cons (X1.augList (es := [.list [.str "form ", .str ("229 (" ++ k ++ "9" ++ k ++ "9" ++ k ++ ")")], .list [.str "form ", .str ("229 ok292)")], .list [.str "form ", .str ((("229 ok) (" : Str) ++ i ++ k) ++ "x")]]) (Ev.list (EvL.cons (Ev.list (EvL.cons Ev.str (EvL.cons ((EvS.app (EvS.app (EvS.app (EvS.app (EvS.app (EvS.app (EvS.lit (n := 20)) (EvS.mk (Ev.name (by repeat (first | with_reducible exact List.mem_cons_self | with_reducible apply List.mem_cons_of_mem))) hk)) (EvS.lit (n := 20))) (EvS.mk (Ev.name (by repeat (first | with_reducible exact List.mem_cons_self | with_reducible apply List.mem_cons_of_mem))) hk)) (EvS.lit (n := 20))) (EvS.mk (Ev.name (by repeat (first | with_reducible exact List.mem_cons_self | with_reducible apply List.mem_cons_of_mem))) hk)) (EvS.lit (n := 20)))).ev EvL.nil))) (EvL.cons (Ev.list (EvL.cons Ev.str (EvL.cons Ev.str EvL.nil))) (EvL.cons (Ev.list (EvL.cons Ev.str (EvL.cons ((EvS.app (EvS.mk (Ev.name (by repeat (first | with_reducible exact List.mem_cons_self | with_reducible apply List.mem_cons_of_mem))) hw) (EvS.lit (n := 20)))).ev EvL.nil))) EvL.nil)))) (.inl (by kernel_rfl)) (by show 3 + 3 ≤ 8388608; decide)) (Ex.freeze (Ex.ret (Ev.itemL (j := j) (xs := rawL i k) (Ev.conv (Ev.bin (Ev.conv (Ev.name (by repeat (first | with_reducible exact List.mem_cons_self | with_reducible apply List.mem_cons_of_mem))) (by rfl)) (Ev.list (EvL.cons (Ev.list (EvL.cons Ev.str (EvL.cons ((EvS.app (EvS.app (EvS.lit (n := 20)) (EvS.tail (EvS.mk (Ev.name (by repeat (first | with_reducible exact List.mem_cons_self | with_reducible apply List.mem_cons_of_mem))) hw) Ev.int)) (EvS.lit (n := 20)))).ev EvL.nil))) (EvL.cons (Ev.list (EvL.cons Ev.str (EvL.cons ((EvS.app (EvS.app (EvS.lit (n := 20)) (EvS.tail (EvS.mk (Ev.name (by repeat (first | with_reducible exact List.mem_cons_self | with_reducible apply List.mem_cons_of_mem))) hw) Ev.int)) (EvS.lit (n := 20)))).ev EvL.nil))) EvL.nil))) (Op2.addList (by show 6 + 2 ≤ sizeLine; have e : sizeLine = 16777216 := rfl; omega))) rfl) (Ev.conv (Ev.bin (Ev.name (by repeat (first | with_reducible exact List.mem_cons_self | with_reducible apply List.mem_cons_of_mem))) Ev.int Op2.sub) (by rw [hn]; congr 1; push_cast; omega)) (idx_at (n := 8) j hj) hp (by show 8 < 2 ^ 62; decide))))))))
end

end Mine
namespace Mine
theorem slice_is (x : Str) (l u : Option Int) : Txt.slice x l u = StrLaws.sliceText x l u := rfl
theorem clip_hi (k n : Nat) (h : n ≤ k) : Builtin.Str.strSliceIndices none (some (k : Int)) 1 n = Builtin.Str.strSliceIndices none (some (n : Int)) 1 n := by
  have a : ¬ ((k : Int) < 0) := by omega
  have b : ¬ ((n : Int) < 0) := by omega
  have e : min (k : Int) n = n := by omega
  simp [Builtin.Str.strSliceIndices, a, b, e]
theorem clip_lo (k n : Nat) (h : n ≤ k) : Builtin.Str.strSliceIndices (some (k : Int)) none 1 n = Builtin.Str.strSliceIndices (some (n : Int)) none 1 n := by
  have a : ¬ ((k : Int) < 0) := by omega
  have b : ¬ ((n : Int) < 0) := by omega
  have e : min (k : Int) n = n := by omega
  simp [Builtin.Str.strSliceIndices, a, b, e]
theorem slice_take (x : Str) (k : Nat) : Txt.slice x none (some (k : Int)) = strOf' (x.cps.toList.take k) := by
  have hl : x.cps.toList.length = x.length := by simp [Str.length]
  by_cases h : k ≤ x.length
  · rw [slice_is, StrLaws.sliceText_to ⟨by omega, by rw [hl]; omega⟩]
    simp [strOf']
  · have e : Txt.slice x none (some (k : Int)) = Txt.slice x none (some (x.length : Int)) := by
      rw [slice_is, slice_is]; unfold StrLaws.sliceText; rw [clip_hi k x.length (by omega)]
    rw [e, slice_is, StrLaws.sliceText_to ⟨by omega, by rw [hl]; omega⟩]
    rw [List.take_of_length_le (i := k) (by rw [hl]; omega)]
    simp only [List.drop_zero, Int.sub_zero, Int.toNat_natCast, strOf']
    rw [List.take_of_length_le (by rw [hl]; omega)]
theorem slice_drop (x : Str) (k : Nat) : Txt.slice x (some (k : Int)) none = strOf' (x.cps.toList.drop k) := by
  have hl : x.cps.toList.length = x.length := by simp [Str.length]
  by_cases h : k ≤ x.length
  · rw [slice_is, StrLaws.sliceText_from ⟨by omega, by rw [hl]; omega⟩]
    simp only [Int.toNat_natCast, strOf']
    rw [List.take_of_length_le (by rw [List.length_drop, hl]; omega)]
  · have e : Txt.slice x (some (k : Int)) none = Txt.slice x (some (x.length : Int)) none := by
      rw [slice_is, slice_is]; unfold StrLaws.sliceText; rw [clip_lo k x.length (by omega)]
    rw [e, slice_is, StrLaws.sliceText_from ⟨by omega, by rw [hl]; omega⟩]
    rw [List.drop_eq_nil_of_le (i := k) (by rw [hl]; omega), Int.toNat_natCast, List.drop_eq_nil_of_le (by rw [hl]; omega)]
    simp [strOf']
theorem strOf_list (l : List Nat) : (strOf' l).cps.toList = l := by simp [strOf']
theorem strOf_len (l : List Nat) : (strOf' l).length = l.length := by simp [strOf', Str.length]

def sz (tok : Str → Option Int) (l : List Nat) : Nat := if (tok (strOf' (l.take 3))).isSome then 3 else if (tok (strOf' (l.take 2))).isSome then 2 else 1
def symVal (tok : Str → Option Int) (l : List Nat) : Int := (tok (strOf' (l.take (sz tok l)))).getD (256 + Txt.find "dt" (strOf' (l.take 1)))
def sym (tok : Str → Option Int) : Nat → List Nat → List Int
  | 0, _ => []
  | k + 1, l => if l = [] then [] else symVal tok l :: sym tok k (l.drop (sz tok l))

theorem sym_len (tok : Str → Option Int) : ∀ (k : Nat) (l : List Nat), (sym tok k l).length ≤ k
  | 0, _ => Nat.le_refl _
  | k + 1, l => by
    unfold sym
    split
    · exact Nat.zero_le _
    · rw [List.length_cons]; exact Nat.succ_le_succ (sym_len tok k _)
abbrev NS (l : List Nat) : Vars := [("text", .str (strOf' l))]
theorem loopSym {c : Cx} {m : Nat} {T : Tab} {C : List Str} {tok : Str → Option Int} {test : PySem.Expr} {body : List PySem.Stmt}
    (ht : ∀ l, Ts c m T (NS l) test (!decide (strOf' l = "")))
    (hb : ∀ l ds, l ≠ [] → l.length ≤ 1000 → ds.length ≤ 2000 → Ex c m T C (NS l) (some ("row", ds)) body (.next (NS (l.drop (sz tok l))) (some ("row", ds ++ [.int (symVal tok l)])))) :
    ∀ (k : Nat) (l : List Nat) (ds : List PyData), l.length ≤ k → l.length ≤ 1000 → ds.length + l.length ≤ 2000 → Wh c m T C test body (NS l) (some ("row", ds)) [] (some ("row", ds ++ (sym tok k l).map .int)) := by
  have es : strOf' [] = "" := by decide
  have ne : ∀ l : List Nat, l ≠ [] → strOf' l ≠ "" := fun l h e => h (by
    have := congrArg (fun x : Str => x.cps.toList) e
    simp only [strOf_list] at this
    rw [this]; decide)
  intro k
  induction k with
  | zero =>
    intro l ds h1 _ _
    obtain rfl : l = [] := List.length_eq_zero_iff.mp (by omega)
    have e : ds ++ (sym tok 0 []).map PyData.int = ds := by simp [sym]
    rw [e]
    exact Wh.done (Ts.conv (ht []) (by rw [es]; rfl)) fun p hp => nomatch hp
  | succ k ih =>
    intro l ds h1 h2 h3
    by_cases q : l = []
    · subst q
      have e : ds ++ (sym tok (k + 1) []).map PyData.int = ds := by simp [sym]
      rw [e]
      exact Wh.done (Ts.conv (ht []) (by rw [es]; rfl)) fun p hp => nomatch hp
    · have e : ds ++ (sym tok (k + 1) l).map PyData.int = (ds ++ [.int (symVal tok l)]) ++ (sym tok k (l.drop (sz tok l))).map PyData.int := by
        simp [sym, q]
      rw [e]
      have hs : 1 ≤ sz tok l := by unfold sz; split <;> (try split) <;> omega
      have hp : 0 < l.length := List.length_pos_iff.mpr q
      exact Wh.step (Ts.conv (ht l) (by rw [decide_eq_false (ne l q)]; rfl)) (hb l ds q h2 (by omega)) (ih _ _ (by rw [List.length_drop]; omega) (by rw [List.length_drop]; omega) (by rw [List.length_drop, List.length_append, List.length_singleton]; omega))
theorem innerSym {c : Cx} {m : Nat} {T : Tab} {C : List Str} {tok : Str → Option Int} {l : List Nat} {ω : Ow} {test : PySem.Expr} {body : List PySem.Stmt}
    (ht : ∀ s : Nat, Ts c m T (("size", .int s) :: NS l) test (decide ((1 : Int) < s) && ((tok (strOf' (l.take s))).isNone && true)))
    (hb : ∀ s : Nat, Ex c m T C (("size", .int ((s + 1 : Nat) : Int)) :: NS l) ω body (.next (("size", .int s) :: NS l) ω)) :
    Wh c m T C test body (("size", .int (3 : Nat)) :: NS l) ω (("size", .int (sz tok l)) :: NS l) ω := by
  unfold sz
  cases h3 : tok (strOf' (l.take 3)) with
  | some v => exact Wh.done (Ts.conv (ht 3) (by rw [h3]; rfl)) fun p hp => hp
  | none =>
    refine Wh.step (Ts.conv (ht 3) (by rw [h3]; rfl)) (hb 2) ?_
    cases h2 : tok (strOf' (l.take 2)) with
    | some v => exact Wh.done (Ts.conv (ht 2) (by rw [h2]; rfl)) fun p hp => hp
    | none =>
      refine Wh.step (Ts.conv (ht 2) (by rw [h2]; rfl)) (hb 1) ?_
      exact Wh.done (Ts.conv (ht 1) (by rfl)) fun p hp => hp
theorem own_row {x y : Str} {ds : List PyData} (h : x ≠ y) : ∀ z es, (some (x, ds) : Ow) = some (z, es) → z ≠ y := fun z es e => by cases e; exact h
theorem X1.assignSub {c : Cx} {m : Nat} {T : Tab} {C : List Str} {ρ ρ' : Vars} {ω : Ow} {x : Str} {np pos : Pos} {e : PySem.Expr} (s : Nat) (ha : (x, PyData.int ((s + 1 : Nat) : Int)) ∈ ρ) (h : Ev c m T ρ e (.int 1)) (hk : T.lookup x = some .local ∨ x ∈ C) (hs : ∀ p ∈ ρ', p ∈ ρ) (hx : ∀ p ∈ ρ', p.1 ≠ x) (ho : ∀ y ds, ω = some (y, ds) → y ≠ x)
    (hc : (x == ("__classdict__" : Str)) = false := by decide) : X1 c m T C ρ ω (.AugAssign (.Name x np) .Sub e pos) (.next ((x, .int s) :: ρ') ω) := by
  have := X1.augSub (np := np) (pos := pos) ha h hk hs hx ho hc
  have e : ((s + 1 : Nat) : Int) - 1 = s := by omega
  rw [e] at this; exact this
section
variable {c : Cx} {m : Nat} {T : Tab} {ρ : Vars}
theorem Ev.takeS {value upper : PySem.Expr} {p pos : Pos} {l : List Nat} {s : Nat} (hl : l.length ≤ 1000) (h : Ev c m T ρ value (.str (strOf' l))) (hu : Ev c m T ρ upper (.int (s : Nat)))
    (ht : ∀ o r, letTemporaryGo value o r = pure () := by intro _ _; rfl) : Ev c m T ρ (.Subscript value (.Slice none (some upper) none p) pos) (.str (strOf' (l.take s))) :=
  Ev.conv (Ev.sliceS h EvP.no (EvP.at hu) (by rw [strOf_len]; have e : sizeLine = 16777216 := rfl; omega) ht) (by rw [slice_take, strOf_list])
theorem Ev.dropS {value upper : PySem.Expr} {p pos : Pos} {l : List Nat} {s : Nat} (hl : l.length ≤ 1000) (h : Ev c m T ρ value (.str (strOf' l))) (hu : Ev c m T ρ upper (.int (s : Nat)))
    (ht : ∀ o r, letTemporaryGo value o r = pure () := by intro _ _; rfl) : Ev c m T ρ (.Subscript value (.Slice (some upper) none none p) pos) (.str (strOf' (l.drop s))) :=
  Ev.conv (Ev.sliceS h (EvP.at hu) EvP.no (by rw [strOf_len]; have e : sizeLine = 16777216 := rfl; omega) ht) (by rw [slice_drop, strOf_list])
theorem Ev.headS {value slice : PySem.Expr} {pos : Pos} {l : List Nat} (hn : l ≠ []) (hl : l.length ≤ 1000) (h1 : Ev c m T ρ value (.str (strOf' l))) (h2 : Ev c m T ρ slice (.int (0 : Nat)))
    (hs : ∀ o i, subscripted slice false o i = operate [o, i] (getItem o i) := by intro _ _; rfl) : Ev c m T ρ (.Subscript value slice pos) (.str (strOf' (l.take 1))) := by
  cases l with
  | nil => exact absurd rfl hn
  | cons a r => exact Ev.itemAt (k := 0) (b := a) (by simp [strOf']) (by rw [strOf_len]; exact hl) h1 h2 hs
end
section
variable {c : Cx} (W : W0 c)
include W
theorem fn_symbols {tok : Str → Option Int} (D : Dic c "EXACT_TOKEN_TYPES" tok) {l : List Nat} (hl : l.length ≤ 1000) : Fn c 1 "_law_symbols" [.str (strOf' l)] (.list ((sym tok l.length l).map .int ++ [.int 0])) :=
  Fn.of1 (x1 := "text") (f := 201) (C := []) W (by kernel_rfl) rfl rfl rfl ⟨rfl, rfl, rfl, rfl, rfl, rfl, by kernel_rfl, by decide, by decide, by decide, bind1 fun _ => rfl⟩
    (Ex.cons (X1.ownList (ρ' := [("text", .str (strOf' l))]) (ds := []) EvL.nil (.inl (by kernel_rfl)) (fun _ h => h) (by repeat (first | exact ne_nil | refine ne_cons (by decide) ?_))) (Ex.cons (X1.whileI (ρ' := []) (ω' := some ("row", [] ++ (sym tok l.length l).map .int)) (loopSym (tok := tok)
        (fun l => Ts.cmp (Ev.name (by repeat (first | with_reducible exact List.mem_cons_self | with_reducible apply List.mem_cons_of_mem))) Ev.str Op2.neS)
        (fun l ds hn hl hd =>
          (Ex.cons (X1.assign (d := .int (3 : Nat)) (ρ' := NS l) Ev.int (.inl (by kernel_rfl)) (fun _ h => h) (by repeat (first | exact ne_nil | refine ne_cons (by decide) ?_)) (own_row (by decide))) (Ex.cons (X1.whileI (innerSym (tok := tok)
              (fun s => Ts.bool (TsA.and (Ts.cmp (Ev.name (by repeat (first | with_reducible exact List.mem_cons_self | with_reducible apply List.mem_cons_of_mem))) Ev.int Op2.gt) (fun _ => TsA.and (Ts.notInDic D (Ev.takeS hl (Ev.name (by repeat (first | with_reducible exact List.mem_cons_self | with_reducible apply List.mem_cons_of_mem))) (Ev.name (by repeat (first | with_reducible exact List.mem_cons_self | with_reducible apply List.mem_cons_of_mem))))) (fun _ => TsA.nilA))))
              (fun s => (Ex.cons (X1.assignSub s (ρ' := NS l) (by repeat (first | with_reducible exact List.mem_cons_self | with_reducible apply List.mem_cons_of_mem)) Ev.int (.inl (by kernel_rfl)) (by repeat (first | exact sub_nil | refine sub_cons (by repeat (first | with_reducible exact List.mem_cons_self | with_reducible apply List.mem_cons_of_mem)) ?_)) (by repeat (first | exact ne_nil | refine ne_cons (by decide) ?_)) (own_row (by decide))) (Ex.nil))))) (Ex.cons (X1.append (d := .int (symVal tok l)) (Ev.getDic D (Ev.takeS hl (Ev.name (by repeat (first | with_reducible exact List.mem_cons_self | with_reducible apply List.mem_cons_of_mem))) (Ev.name (by repeat (first | with_reducible exact List.mem_cons_self | with_reducible apply List.mem_cons_of_mem)))) (Ev.bin Ev.int (Ev.meth Ev.str (EvL.cons (Ev.headS hn hl (Ev.name (by repeat (first | with_reducible exact List.mem_cons_self | with_reducible apply List.mem_cons_of_mem))) Ev.int) EvL.nil) PySem.F.slot_str_find PySem.F.type_str_find Bi.find) Op2.add)) (by omega)) (Ex.cons (X1.assign (d := .str (strOf' (l.drop (sz tok l)))) (ρ' := [("size", .int (sz tok l))]) (Ev.dropS hl (Ev.name (by repeat (first | with_reducible exact List.mem_cons_self | with_reducible apply List.mem_cons_of_mem))) (Ev.name (by repeat (first | with_reducible exact List.mem_cons_self | with_reducible apply List.mem_cons_of_mem)))) (.inl (by kernel_rfl)) (by repeat (first | exact sub_nil | refine sub_cons (by repeat (first | with_reducible exact List.mem_cons_self | with_reducible apply List.mem_cons_of_mem)) ?_)) (by repeat (first | exact ne_nil | refine ne_cons (by decide) ?_)) (own_row (by decide))) (Ex.drop Ex.nil (by repeat (first | exact sub_nil | refine sub_cons (by repeat (first | with_reducible exact List.mem_cons_self | with_reducible apply List.mem_cons_of_mem)) ?_))))))))
        l.length l [] (Nat.le_refl _) hl (by simp; omega))) (Ex.freeze (Ex.ret (Ev.bin (Ev.conv (d' := .list ((sym tok l.length l).map .int)) (Ev.name (by repeat (first | with_reducible exact List.mem_cons_self | with_reducible apply List.mem_cons_of_mem))) (by rfl)) (Ev.list (EvL.cons Ev.int EvL.nil)) (Op2.addList (by have := sym_len tok l.length l; rw [List.length_map]; have e : sizeLine = 16777216 := rfl; show _ + 1 ≤ _; omega)))))))
end

end Mine
namespace Mine
/-! the while loops of the distance: the common head, the common tail -/
def preLen : List Nat → List Nat → Nat
  | x :: xs, y :: ys => if x = y then preLen xs ys + 1 else 0
  | _, _ => 0
def headEq : List Nat → List Nat → Bool
  | x :: _, y :: _ => decide (x = y)
  | _, _ => false
theorem preLen_le : ∀ (a b : List Nat), preLen a b ≤ a.length ∧ preLen a b ≤ b.length
  | [], _ => ⟨Nat.zero_le _, Nat.zero_le _⟩
  | _ :: _, [] => ⟨Nat.zero_le _, Nat.zero_le _⟩
  | x :: xs, y :: ys => by
    unfold preLen
    split
    · have := preLen_le xs ys
      simp only [List.length_cons]; omega
    · exact ⟨Nat.zero_le _, Nat.zero_le _⟩
theorem preLen_step {a b : List Nat} (h : headEq a b = true) : preLen a b = preLen (a.drop 1) (b.drop 1) + 1 := by
  cases a with
  | nil => cases h
  | cons x xs =>
    cases b with
    | nil => cases h
    | cons y ys =>
      have : x = y := by simpa [headEq] using h
      subst this
      simp [preLen]
theorem preLen_stop {a b : List Nat} (h : headEq a b = false) : preLen a b = 0 := by
  cases a with
  | nil => rfl
  | cons x xs =>
    cases b with
    | nil => rfl
    | cons y ys =>
      have : x ≠ y := by simpa [headEq] using h
      simp [preLen, this]
/-- a counter that climbs while two lists agree -/
theorem loopPre {c : Cx} {m : Nat} {T : Tab} {C : List Str} {V : Nat → Vars} {test : PySem.Expr} {body : List PySem.Stmt} (a b : List Nat)
    (ht : ∀ k, k ≤ a.length → k ≤ b.length → Ts c m T (V k) test (headEq (a.drop k) (b.drop k)))
    (hb : ∀ k, k < a.length → k < b.length → Ex c m T C (V k) none body (.next (V (k + 1)) none)) :
    ∀ n k, a.length - k ≤ n → k ≤ a.length → k ≤ b.length → Wh c m T C test body (V k) none (V (k + preLen (a.drop k) (b.drop k))) none := by
  intro n
  have stop : ∀ k, k ≤ a.length → k ≤ b.length → headEq (a.drop k) (b.drop k) = false → Wh c m T C test body (V k) none (V (k + preLen (a.drop k) (b.drop k))) none := fun k h1 h2 h => by
    rw [preLen_stop h]
    exact Wh.done (Ts.conv (ht k h1 h2) h) fun p hp => hp
  induction n with
  | zero =>
    intro k h1 h2 h3
    refine stop k h2 h3 ?_
    rw [List.drop_eq_nil_of_le (by omega)]; rfl
  | succ n ih =>
    intro k h1 h2 h3
    cases q : headEq (a.drop k) (b.drop k) with
    | false => exact stop k h2 h3 q
    | true =>
      have la : k < a.length := by
        rcases Nat.lt_or_ge k a.length with h | h
        · exact h
        · rw [List.drop_eq_nil_of_le h] at q; cases q
      have lb : k < b.length := by
        rcases Nat.lt_or_ge k b.length with h | h
        · exact h
        · rw [List.drop_eq_nil_of_le h] at q; cases hh : a.drop k <;> rw [hh] at q <;> cases q
      rw [preLen_step q, List.drop_drop, List.drop_drop]
      have := ih (k + 1) (by omega) la lb
      have e : k + (preLen (a.drop (k + 1)) (b.drop (k + 1)) + 1) = k + 1 + preLen (a.drop (k + 1)) (b.drop (k + 1)) := by omega
      rw [e]
      exact Wh.step (Ts.conv (ht k h2 h3) q) (hb k la lb) this
/-- the text without its last k signs -/
def cutEnd (l : List Nat) (k : Nat) : List Nat := l.take (l.length - k)
theorem slice_neg (x : Str) (k : Nat) (h0 : 0 < k) (hk : k ≤ x.length) : Txt.slice x none (some (-(k : Int))) = strOf' (cutEnd x.cps.toList k) := by
  have hl : x.cps.toList.length = x.length := by simp [Str.length]
  have e : Txt.slice x none (some (-(k : Int))) = Txt.slice x none (some ((x.length - k : Nat) : Int)) := by
    rw [slice_is, slice_is]
    unfold StrLaws.sliceText
    have e1 : Builtin.Str.strSliceIndices none (some (-(k : Int))) 1 x.length = Builtin.Str.strSliceIndices none (some ((x.length - k : Nat) : Int)) 1 x.length := by
      have a : (-(k : Int)) < 0 := by omega
      have b : ¬ (((x.length - k : Nat) : Int) < 0) := by omega
      have e2 : -(k : Int) + (x.length : Int) = ((x.length - k : Nat) : Int) := by omega
      simp only [Builtin.Str.strSliceIndices, a, b, if_true, if_false, e2]
    rw [e1]
  rw [e, slice_take, cutEnd, hl]
def lastIs (l : List Nat) (k : Nat) : Option Nat := l[l.length - 1 - k]?
theorem cut_rev (l : List Nat) (k : Nat) : (cutEnd l k).reverse = l.reverse.drop k := by
  unfold cutEnd
  rw [List.drop_reverse]
section
variable {c : Cx} {m : Nat} {T : Tab} {ρ : Vars}
theorem Tr.strL {l : List Nat} (hl : l.length ≤ 1000) : Tr c m (.str (strOf' l)) (!l.isEmpty) := by
  have := Tr.str (c := c) (m := m) (x := strOf' l) (by rw [strOf_len]; omega)
  have e : (((strOf' l).length : Int) != 0) = !l.isEmpty := by rw [strOf_len]; cases l with
    | nil => rfl
    | cons a r => simp; omega
  rw [e] at this; exact this
theorem Ts.head {A B : List Nat} {k : Nat} {e1 e2 e3 : PySem.Expr} {pos : Pos} (h1 : Ts c m T ρ e1 (!(A.drop k).isEmpty)) (h2 : Ts c m T ρ e2 (!(B.drop k).isEmpty)) (h3 : ∀ x y, A[k]? = some x → B[k]? = some y → Ts c m T ρ e3 (decide (x = y))) :
    Ts c m T ρ (.BoolOp .And [e1, e2, e3] pos) (headEq (A.drop k) (B.drop k)) := by
  have at0 : ∀ (l : List Nat) a r, l.drop k = a :: r → l[k]? = some a := fun l a r h => by
    have : (l.drop k)[0]? = some a := by rw [h]; rfl
    rw [List.getElem?_drop] at this; simpa using this
  cases hA : A.drop k with
  | nil =>
    rw [hA] at h1
    exact Ts.conv (Ts.bool (TsA.and (a := false) (b := false) h1 (fun h => nomatch h))) rfl
  | cons a r =>
    rw [hA] at h1
    cases hB : B.drop k with
    | nil =>
      rw [hB] at h2
      exact Ts.conv (Ts.bool (TsA.and (a := true) (b := false) h1 (fun _ => TsA.and (a := false) (b := false) h2 (fun h => nomatch h)))) rfl
    | cons b r' =>
      rw [hB] at h2
      refine Ts.conv (Ts.bool (TsA.and (a := true) (b := decide (a = b) && true) h1 (fun _ => TsA.and (a := true) (b := decide (a = b) && true) h2 (fun _ => TsA.and (h3 a b (at0 A a r hA) (at0 B b r' hB)) (fun _ => TsA.nilA))))) ?_
      simp [headEq]
theorem Ev.orNone {e : PySem.Expr} {k : Nat} {p1 pos : Pos} {kk : Nat} (h : Ev c m T ρ e (.int (-(k : Int)))) : EvP c m T ρ (some (.BoolOp .Or [e, .Constant .none kk p1] pos)) (if k = 0 then none else some (-(k : Int))) := by
  by_cases q : k = 0
  · subst q
    exact EvP.nil (Ev.or2 (b := false) h (by exact Tr.int) (fun h => nomatch h) (fun _ => Ev.noneE))
  · rw [if_neg q]
    have e1 : ((-(k : Int)) != 0) = true := by simp; omega
    exact EvP.at (Ev.or2 (b := true) h (by have := Tr.int (c := c) (m := m) (i := -(k : Int)); rw [e1] at this; exact this) (fun _ => rfl) (fun h => nomatch h))
theorem cut_zero (l : List Nat) : cutEnd l 0 = l := by unfold cutEnd; rw [Nat.sub_zero, List.take_length]
theorem slice_all (x : Str) : Txt.slice x none none = x := by
  rw [slice_is]; unfold StrLaws.sliceText
  rw [StrLaws.sliceIdx_none_hi]
  have : Txt.slice x none (some (x.length : Int)) = strOf' (x.cps.toList.take x.length) := slice_take x x.length
  rw [slice_is] at this; unfold StrLaws.sliceText at this
  rw [this]
  have hl : x.cps.toList.length = x.length := by simp [Str.length]
  rw [List.take_of_length_le (by omega)]
  cases x; simp [strOf']
theorem Ev.cutS {value e : PySem.Expr} {p p1 p2 pos : Pos} {kk : Nat} {l : List Nat} {k : Nat} (hl : l.length ≤ 1000) (hk : k ≤ l.length) (h : Ev c m T ρ value (.str (strOf' l))) (hu : Ev c m T ρ e (.int (-(k : Int))))
    (ht : ∀ o r, letTemporaryGo value o r = pure () := by intro _ _; rfl) : Ev c m T ρ (.Subscript value (.Slice none (some (.BoolOp .Or [e, .Constant .none kk p1] p2)) none p) pos) (.str (strOf' (cutEnd l k))) :=
  Ev.conv (Ev.sliceS h EvP.no (Ev.orNone hu) (by rw [strOf_len]; have e : sizeLine = 16777216 := rfl; omega) ht) (by
    by_cases q : k = 0
    · subst q; rw [if_pos rfl, cut_zero, slice_all]
    · rw [if_neg q, slice_neg _ k (by omega) (by rw [strOf_len]; exact hk), strOf_list])
theorem rev_at (l : List Nat) {k x : Nat} (h : l.reverse[k]? = some x) : k < l.length ∧ l[l.length - 1 - k]? = some x := by
  have hk : k < l.length := by
    rcases Nat.lt_or_ge k l.length with h' | h'
    · exact h'
    · rw [List.getElem?_eq_none (by simpa using h')] at h; cases h
  exact ⟨hk, by rw [← List.getElem?_reverse hk]; exact h⟩
theorem Ev.lastS {value slice : PySem.Expr} {pos : Pos} {l : List Nat} {k x : Nat} (hl : l.length ≤ 1000) (hx : l.reverse[k]? = some x) (h1 : Ev c m T ρ value (.str (strOf' l))) (h2 : Ev c m T ρ slice (.int (-(k : Int) - 1)))
    (hs : ∀ o i, subscripted slice false o i = operate [o, i] (getItem o i) := by intro _ _; rfl) : Ev c m T ρ (.Subscript value slice pos) (.str ⟨#[x]⟩) := by
  obtain ⟨hk, hx'⟩ := rev_at l hx
  refine Ev.itemS h1 h2 ?_ (by omega) (by omega) hs
  rw [strOf_len]
  unfold seqIndex?
  have a : (-(k : Int) - 1) < 0 := by omega
  simp only [a, if_true]
  have e : (-(k : Int) - 1 + (l.length : Int)) = ((l.length - 1 - k : Nat) : Int) := by omega
  rw [e]
  have cc : (decide (0 ≤ ((l.length - 1 - k : Nat) : Int)) && decide (((l.length - 1 - k : Nat) : Int) < (l.length : Int))) = true := by
    rw [Bool.and_eq_true]; exact ⟨decide_eq_true (by omega), decide_eq_true (by omega)⟩
  rw [if_pos cc]
  show (strOf' l).cps[((l.length - 1 - k : Nat) : Int).toNat]? = some x
  rw [Int.toNat_natCast]
  simpa [strOf'] using hx'
end

end Mine
namespace Mine
section
/-- a for, turn by turn -/
inductive Fh (c : Cx) (m : Nat) (T : Tab) (C : List Str) (x : Str) (body : List PySem.Stmt) : List PyData → Vars → Ow → Out → Prop
  | nil {ρ : Vars} {ω : Ow} : (∀ p ∈ ρ, p.1 ≠ x) → (∀ y es, ω = some (y, es) → y ≠ x) → Fh c m T C x body [] ρ ω (.next ρ ω)
  | step {d : PyData} {ds : List PyData} {ρ ρ₁ : Vars} {ω ω₁ : Ow} {out : Out} : (∀ p ∈ ρ, p.1 ≠ x) → (∀ y es, ω = some (y, es) → y ≠ x) → Ex c m T C ((x, d) :: ρ) ω body (.next ρ₁ ω₁) → Fh c m T C x body ds ρ₁ ω₁ out → Fh c m T C x body (d :: ds) ρ ω out
  | ret {d r : PyData} {ds : List PyData} {ρ : Vars} {ω : Ow} : (∀ p ∈ ρ, p.1 ≠ x) → (∀ y es, ω = some (y, es) → y ≠ x) → Ex c m T C ((x, d) :: ρ) ω body (.ret r) → Fh c m T C x body (d :: ds) ρ ω (.ret r)
variable {c : Cx} {m : Nat} {T : Tab} {C : List Str} {ρ ρ' : Vars} {ω : Ow} {out : Out} {x : Str} {body : List PySem.Stmt} {ds : List PyData}
theorem Fh.seq (h : Fh c m T C x body ds ρ ω out) : ∃ (n : Nat) (ρs : Nat → Vars) (ωs : Nat → Ow), n ≤ ds.length ∧ ρs 0 = ρ ∧ ωs 0 = ω ∧ (∀ i, i ≤ n → ∀ p ∈ ρs i, p.1 ≠ x) ∧ (∀ i, i ≤ n → ∀ y es, ωs i = some (y, es) → y ≠ x) ∧
    (∀ i d, i < n → ds[i]? = some d → Ex c m T C ((x, d) :: ρs i) (ωs i) body (.next (ρs (i + 1)) (ωs (i + 1)))) ∧
    ((n = ds.length ∧ out = .next (ρs n) (ωs n)) ∨ (∃ d r, ds[n]? = some d ∧ Ex c m T C ((x, d) :: ρs n) (ωs n) body (.ret r) ∧ out = .ret r)) := by
  induction h with
  | nil h1 h2 => exact ⟨0, fun _ => _, fun _ => _, Nat.le_refl _, rfl, rfl, fun _ _ => h1, fun _ _ => h2, fun i d hi => absurd hi (Nat.not_lt_zero _), .inl ⟨rfl, rfl⟩⟩
  | ret h1 h2 h => exact ⟨0, fun _ => _, fun _ => _, Nat.zero_le _, rfl, rfl, fun _ _ => h1, fun _ _ => h2, fun i d hi => absurd hi (Nat.not_lt_zero _), .inr ⟨_, _, rfl, h, rfl⟩⟩
  | step h1 h2 h _ ih =>
    rename_i d ds ρa ρb ωa ωb out' _
    obtain ⟨n, ρs, ωs, q0, q1, q2, q3, q4, q5, q6⟩ := ih
    refine ⟨n + 1, fun k => match k with | 0 => ρa | k + 1 => ρs k, fun k => match k with | 0 => ωa | k + 1 => ωs k, Nat.succ_le_succ q0, rfl, rfl, fun i hi => ?_, fun i hi => ?_, fun i d' hi hd => ?_, ?_⟩
    · cases i with
      | zero => exact h1
      | succ i => exact q3 i (Nat.le_of_succ_le_succ hi)
    · cases i with
      | zero => exact h2
      | succ i => exact q4 i (Nat.le_of_succ_le_succ hi)
    · cases i with
      | zero => cases hd; subst q1 q2; exact h
      | succ i => exact q5 i d' (Nat.lt_of_succ_lt_succ hi) hd
    · rcases q6 with ⟨e, q⟩ | ⟨d', r, q, h', e⟩
      · exact .inl ⟨by rw [List.length_cons, e], q⟩
      · exact .inr ⟨d', r, q, h', e⟩
theorem X1.forI {np pos : Pos} {iter : PySem.Expr} (hi : Its c m T ρ iter ds) (hk : T.lookup x = some .local ∨ x ∈ C) (h : Fh c m T C x body ds ρ ω out)
    (hf : ∀ (env : Env) x, foldedSetIterable iter env x = pure x := by intro _ _; rfl) : X1 c m T C ρ ω (.For (.Name x np) iter body [] pos) out := by
  obtain ⟨n, ρs, ωs, q0, q1, q2, q3, q4, q5, q6⟩ := h.seq
  have e : ∀ i, i ≤ n → (if i ≤ n then ωs i else none) = ωs i := fun i hi => if_pos hi
  have := (X1.for (np := np) (pos := pos) ρs (fun i => if i ≤ n then ωs i else none) n q0 (by rw [q1]; exact hi) hk q3 (fun i y es he => by
      by_cases hin : i ≤ n
      · rw [e i hin] at he; exact q4 i hin y es he
      · simp only [hin, if_false] at he; cases he)
    (fun i d hi hd => by rw [e i (Nat.le_of_lt hi), e (i + 1) hi]; exact q5 i d hi hd) (fin := out) (by rw [e n (Nat.le_refl _)]; exact q6) hf : X1 c m T C (ρs 0) _ (.For (.Name x np) iter body [] pos) out)
  have this' : X1 c m T C (ρs 0) (if 0 ≤ n then ωs 0 else none) (.For (.Name x np) iter body [] pos) out := this
  rw [e 0 (Nat.zero_le _), q1, q2] at this'
  exact this'
end

/-! the table of the distance -/
def minI (x y : Int) : Int := if y < x then y else x
structure Cell where
  row : List Int
  dist : Int
  res : Int
  mn : Int
def Cell.next (bc ai i : Nat) (s : Cell) : Cell :=
  let r := minI (minI s.res (s.row.getD i 0) + 2) (s.dist + subCost ⟨#[bc]⟩ ⟨#[ai]⟩)
  ⟨s.row.set i r, s.row.getD i 0, r, if r < s.mn then r else s.mn⟩
/-- the cells from place i on -/
def cells (bc : Nat) : List Nat → Nat → Cell → Cell
  | [], _, s => s
  | ai :: as, i, s => cells bc as (i + 1) (s.next bc ai i)
def big : Int := 9223372036854775807
/-- the rows from place j on -/
def rows (a : List Nat) (mx : Int) : List Nat → Nat → List Int → Int → Int
  | [], _, _, res => res
  | bc :: bs, j, row, _ =>
    let s := cells bc a 0 ⟨row, (j : Int) * 2, (j : Int) * 2, big⟩
    if mx < s.mn then mx + 1 else rows a mx bs (j + 1) s.row s.res
def row0 (n : Nat) : List Int := (List.range n).map fun i : Nat => 2 + (i : Int) * 2
def levAB (a b : List Nat) (mx : Int) : Int := if mx < ((b.length : Int) - a.length) * 2 then mx + 1 else rows a mx b 0 (row0 a.length) 0
def levCut (a b : List Nat) (mx : Int) : Int :=
  if a.isEmpty || b.isEmpty then 2 * ((a.length : Int) + b.length) else
  if 40 < a.length || 40 < b.length then mx + 1 else
  if b.length < a.length then levAB b a mx else levAB a b mx
def lev (a b : List Nat) (mx : Int) : Int :=
  if a = b then 0 else
  let k := preLen a b
  let a := a.drop k; let b := b.drop k
  let k := preLen a.reverse b.reverse
  levCut (cutEnd a k) (cutEnd b k) mx

end Mine
namespace Mine
abbrev VI (s : Cell) (R : Vars) : Vars := ("minimum", .int s.mn) :: ("result", .int s.res) :: ("distance", .int s.dist) :: R
abbrev rowD (r : List Int) : Ow := some ("row", r.map .int)
abbrev places (i n : Nat) : List PyData := (List.range' i n).map fun k : Nat => .int (0 + (k : Int))
theorem rng_places (n : Nat) : rng 0 n = places 0 n := by unfold rng places; rw [List.range_eq_range']
theorem places_succ (i n : Nat) : places i (n + 1) = .int (0 + (i : Int)) :: places (i + 1) n := by
  unfold places; rw [List.range'_succ, List.map_cons]
theorem next_len (bc ai i : Nat) (s : Cell) : (s.next bc ai i).row.length = s.row.length := by unfold Cell.next; simp
theorem cells_len (bc : Nat) : ∀ (as : List Nat) (i : Nat) (s : Cell), (cells bc as i s).row.length = s.row.length
  | [], _, _ => rfl
  | a :: as, i, s => by unfold cells; rw [cells_len bc as, next_len]
section
variable {c : Cx} {m : Nat} {T : Tab} {C : List Str} {body : List PySem.Stmt}
theorem fhInner {bc : Nat} {A : List Nat} {R : Vars} (hR : ∀ p ∈ R, p.1 ≠ "index")
    (hb : ∀ (i ai : Nat) (s : Cell), A[i]? = some ai → s.row.length = A.length → Ex c m T C (("index", .int (0 + (i : Int))) :: VI s R) (rowD s.row) body (.next (VI (s.next bc ai i) R) (rowD (s.next bc ai i).row))) :
    ∀ (as : List Nat) (i : Nat) (s : Cell), A.drop i = as → s.row.length = A.length → Fh c m T C "index" body (places i as.length) (VI s R) (rowD s.row) (.next (VI (cells bc as i s) R) (rowD (cells bc as i s).row)) := by
  have ne : ∀ s : Cell, ∀ p ∈ VI s R, p.1 ≠ "index" := fun s => ne_cons (by decide) (ne_cons (by decide) (ne_cons (by decide) hR))
  intro as
  induction as with
  | nil => intro i s _ _; exact Fh.nil (ne s) (own_row (by decide))
  | cons a as ih =>
    intro i s hd hl
    rw [List.length_cons, places_succ]
    have ha : A[i]? = some a := by
      have : (A.drop i)[0]? = some a := by rw [hd]; rfl
      rw [List.getElem?_drop] at this; simpa using this
    have hd' : A.drop (i + 1) = as := by
      have := congrArg List.tail hd
      rw [List.tail_drop] at this; exact this
    exact Fh.step (ne s) (own_row (by decide)) (hb i a s ha hl) (ih (i + 1) _ hd' (by rw [next_len]; exact hl))
theorem fhOuter {A B : List Nat} {mx : Int} {R : Vars} (hR : ∀ p ∈ R, p.1 ≠ "bindex")
    (hb : ∀ (j bc : Nat) (row : List Int) (res : Int), B[j]? = some bc → row.length = A.length →
      (mx < (cells bc A 0 ⟨row, (j : Int) * 2, (j : Int) * 2, big⟩).mn → Ex c m T C (("bindex", .int (0 + (j : Int))) :: ("result", .int res) :: R) (rowD row) body (.ret (.int (mx + 1)))) ∧
      (¬ mx < (cells bc A 0 ⟨row, (j : Int) * 2, (j : Int) * 2, big⟩).mn → Ex c m T C (("bindex", .int (0 + (j : Int))) :: ("result", .int res) :: R) (rowD row) body (.next (("result", .int (cells bc A 0 ⟨row, (j : Int) * 2, (j : Int) * 2, big⟩).res) :: R) (rowD (cells bc A 0 ⟨row, (j : Int) * 2, (j : Int) * 2, big⟩).row)))) :
    ∀ (bs : List Nat) (j : Nat) (row : List Int) (res : Int), B.drop j = bs → row.length = A.length → ∃ out, Fh c m T C "bindex" body (places j bs.length) (("result", .int res) :: R) (rowD row) out ∧
      (out = .ret (.int (rows A mx bs j row res)) ∨ ∃ row', out = .next (("result", .int (rows A mx bs j row res)) :: R) (rowD row')) := by
  have ne : ∀ res : Int, ∀ p ∈ (("result", .int res) :: R : Vars), p.1 ≠ "bindex" := fun res => ne_cons (by decide) hR
  intro bs
  induction bs with
  | nil => intro j row res _ _; exact ⟨_, Fh.nil (ne res) (own_row (by decide)), .inr ⟨row, rfl⟩⟩
  | cons bc bs ih =>
    intro j row res hd hl
    rw [List.length_cons, places_succ]
    have ha : B[j]? = some bc := by
      have : (B.drop j)[0]? = some bc := by rw [hd]; rfl
      rw [List.getElem?_drop] at this; simpa using this
    have hd' : B.drop (j + 1) = bs := by
      have := congrArg List.tail hd
      rw [List.tail_drop] at this; exact this
    obtain ⟨h1, h2⟩ := hb j bc row res ha hl
    by_cases q : mx < (cells bc A 0 ⟨row, (j : Int) * 2, (j : Int) * 2, big⟩).mn
    · refine ⟨_, Fh.ret (ne res) (own_row (by decide)) (h1 q), .inl ?_⟩
      unfold rows; simp only [q, if_true]
    · obtain ⟨out, g1, g2⟩ := ih (j + 1) (cells bc A 0 ⟨row, (j : Int) * 2, (j : Int) * 2, big⟩).row (cells bc A 0 ⟨row, (j : Int) * 2, (j : Int) * 2, big⟩).res hd' (by rw [cells_len]; exact hl)
      refine ⟨out, Fh.step (ne res) (own_row (by decide)) (h2 q) g1, ?_⟩
      have e : rows A mx (bc :: bs) j row res = rows A mx bs (j + 1) (cells bc A 0 ⟨row, (j : Int) * 2, (j : Int) * 2, big⟩).row (cells bc A 0 ⟨row, (j : Int) * 2, (j : Int) * 2, big⟩).res := by
        rw [rows]; simp only [q, if_false]
      rw [e]; exact g2
theorem Ex.outC {ρ : Vars} {ω : Ow} {ss : List PySem.Stmt} {o o' : Out} (h : Ex c m T C ρ ω ss o) (e : o = o') : Ex c m T C ρ ω ss o' := e ▸ h
theorem X1.outC {ρ : Vars} {ω : Ow} {ss : PySem.Stmt} {o o' : Out} (h : X1 c m T C ρ ω ss o) (e : o = o') : X1 c m T C ρ ω ss o' := e ▸ h
/-- a for that may leave, and what follows it -/
theorem Ex.forThen {ρ : Vars} {ω : Ow} {st : PySem.Stmt} {rest : List PySem.Stmt} {d : PyData} {R : Vars} {x : Str} {out : Out} (h : X1 c m T C ρ ω st out) (ho : out = .ret d ∨ ∃ row', out = .next ((x, d) :: R) (rowD row'))
    (hr : ∀ row', Ex c m T C ((x, d) :: R) (rowD row') rest (.ret d)) : Ex c m T C ρ ω (st :: rest) (.ret d) := by
  rcases ho with rfl | ⟨row', rfl⟩
  · exact Ex.stop h (fun _ _ e => nomatch e)
  · exact Ex.cons h (hr row')
end

end Mine
namespace Mine
theorem X1.assignAdd {c : Cx} {m : Nat} {T : Tab} {C : List Str} {ρ ρ' : Vars} {ω : Ow} {x : Str} {np pos : Pos} {e : PySem.Expr} (s : Nat) (ha : (x, PyData.int (s : Int)) ∈ ρ) (h : Ev c m T ρ e (.int 1)) (hk : T.lookup x = some .local ∨ x ∈ C) (hs : ∀ p ∈ ρ', p ∈ ρ) (hx : ∀ p ∈ ρ', p.1 ≠ x) (ho : ∀ y ds, ω = some (y, ds) → y ≠ x)
    (hc : (x == ("__classdict__" : Str)) = false := by decide) : X1 c m T C ρ ω (.AugAssign (.Name x np) .Add e pos) (.next ((x, .int ((s + 1 : Nat) : Int)) :: ρ') ω) := by
  have := X1.augAdd (np := np) (pos := pos) ha h hk hs hx ho hc
  have e : (s : Int) + 1 = ((s + 1 : Nat) : Int) := by omega
  rw [e] at this; exact this
theorem X1.assignNeg {c : Cx} {m : Nat} {T : Tab} {C : List Str} {ρ ρ' : Vars} {ω : Ow} {x : Str} {np pos : Pos} {e : PySem.Expr} (s : Nat) (ha : (x, PyData.int (-(s : Int))) ∈ ρ) (h : Ev c m T ρ e (.int 1)) (hk : T.lookup x = some .local ∨ x ∈ C) (hs : ∀ p ∈ ρ', p ∈ ρ) (hx : ∀ p ∈ ρ', p.1 ≠ x) (ho : ∀ y ds, ω = some (y, ds) → y ≠ x)
    (hc : (x == ("__classdict__" : Str)) = false := by decide) : X1 c m T C ρ ω (.AugAssign (.Name x np) .Sub e pos) (.next ((x, .int (-((s + 1 : Nat) : Int))) :: ρ') ω) := by
  have := X1.augSub (np := np) (pos := pos) ha h hk hs hx ho hc
  have e : -(s : Int) - 1 = -((s + 1 : Nat) : Int) := by omega
  rw [e] at this; exact this
theorem cut_empty (l : List Nat) (k : Nat) : (cutEnd l k).isEmpty = (l.reverse.drop k).isEmpty := by
  rw [← cut_rev, List.isEmpty_reverse]
theorem cut_len (l : List Nat) (k : Nat) : (cutEnd l k).length ≤ l.length := by unfold cutEnd; rw [List.length_take]; omega
abbrev VP (a b : List Nat) (mx : Int) (k : Nat) : Vars := [("pre", .int (k : Nat)), ("a", .str (strOf' a)), ("b", .str (strOf' b)), ("max_cost", .int mx)]
abbrev VQ (a b : List Nat) (mx : Int) (k : Nat) : Vars := [("post", .int (-(k : Int))), ("b", .str (strOf' b)), ("a", .str (strOf' a)), ("max_cost", .int mx)]
abbrev VA (a b : List Nat) (mx : Int) : Vars := [("a", .str (strOf' a)), ("b", .str (strOf' b)), ("max_cost", .int mx)]
theorem strOf_inj {a b : List Nat} : strOf' a = strOf' b ↔ a = b := ⟨fun h => by have := congrArg (fun x : Str => x.cps.toList) h; simpa only [strOf_list] using this, fun h => h ▸ rfl⟩
theorem lev_ne {a b : List Nat} {mx : Int} (h : ¬ a = b) : lev a b mx = levCut (cutEnd (a.drop (preLen a b)) (preLen (a.drop (preLen a b)).reverse (b.drop (preLen a b)).reverse)) (cutEnd (b.drop (preLen a b)) (preLen (a.drop (preLen a b)).reverse (b.drop (preLen a b)).reverse)) mx := by
  unfold lev; rw [if_neg h]
section
variable {c : Cx} {m : Nat} {T : Tab} {ρ : Vars} (W : W0 c)
include W
theorem Ev.lenS {p pos : Pos} {e : PySem.Expr} {l : List Nat} (hl : l.length ≤ 1000) (h : Ev c m T ρ e (.str (strOf' l))) (hx : T.lookup ("len" : Str) = some .globalImplicit := by kernel_rfl)
    (he : ∀ env : Env, starEach [e] env = (false, eval e env) :: starEach [] env := by intro _; rfl) (hp : ∀ env : Env, (backTo pos (starEach [] env)).any (·.1) = false := by intro _; rfl) : Ev c m T ρ (.Call (.Name "len" p) [e] [] pos) (.int (l.length : Nat)) :=
  Ev.conv (Ev.callB (EvL.cons h EvL.nil he) (g_len W) (b_len W) (Bi.lenStr (by rw [strOf_len]; omega)) hx (by decide) he hp) (by rw [strOf_len])
end
section
variable {c : Cx} {m : Nat} {T : Tab} {C : List Str} {ρ : Vars} {ω : Ow}
theorem Its.conv {e : PySem.Expr} {ds ds' : List PyData} (h : Its c m T ρ e ds) (q : ds = ds') : Its c m T ρ e ds' := q ▸ h
theorem Ex.forEx {np pos : Pos} {iter : PySem.Expr} {body rest : List PySem.Stmt} {ds : List PyData} {d : PyData} {R : Vars} {x z : Str} (hi : Its c m T ρ iter ds) (hk : T.lookup z = some .local ∨ z ∈ C)
    (h : ∃ out, Fh c m T C z body ds ρ ω out ∧ (out = .ret d ∨ ∃ row', out = .next ((x, d) :: R) (rowD row'))) (hr : ∀ row', Ex c m T C ((x, d) :: R) (rowD row') rest (.ret d))
    (hf : ∀ (env : Env) x, foldedSetIterable iter env x = pure x := by intro _ _; rfl) : Ex c m T C ρ ω (.For (.Name z np) iter body [] pos :: rest) (.ret d) := by
  obtain ⟨out, h1, h2⟩ := h
  exact Ex.forThen (X1.forI hi hk h1 hf) h2 hr
end
theorem row_at {r : List Int} {i : Nat} (h : i < r.length) : (r.map PyData.int)[i]? = some (.int (r.getD i 0)) := by
  rw [List.getElem?_map, List.getElem?_eq_getElem h]
  simp [List.getD, h]
theorem size2 (n : Nat) : Builtin.Range.rangeSize 2 (2 * ((n : Int) + 1)) 2 = (n : Int) := by
  unfold Builtin.Range.rangeSize
  simp only [show (2 : Int) > 0 from by decide, if_true]
  split <;> omega
theorem small2 {n : Nat} (h : n ≤ 1000) : Builtin.Range.small 2 (2 * ((n : Int) + 1)) 2 = true := by
  unfold Builtin.Range.small
  rw [size2]
  unfold Builtin.Range.rangeFitsLong
  simp only [show (2 : Int) > 0 from by decide, if_true]
  simp only [Bool.and_eq_true, Bool.or_eq_true, decide_eq_true_eq]
  refine ⟨⟨⟨⟨⟨?_, ?_⟩, ⟨?_, ?_⟩⟩, ⟨?_, ?_⟩⟩, ⟨?_, ?_⟩⟩, .inr ⟨?_, ?_⟩⟩ <;> omega
theorem cut_big {a b : List Nat} {mx : Int} (h0 : ¬ (a.isEmpty || b.isEmpty) = true) (h : 40 < a.length ∨ 40 < b.length) : levCut a b mx = mx + 1 := by
  unfold levCut; rw [if_neg h0, if_pos (by simpa using h)]
theorem bits_small {a : Int} (h1 : -2000 ≤ a) (h2 : a ≤ 2000) : Builtin.Int.intBits a ≤ 64 := by
  unfold Builtin.Int.intBits
  split
  · omega
  · have : a.natAbs.log2 < 64 := by
      by_cases h0 : a.natAbs = 0
      · rw [h0]; decide
      · exact (Nat.log2_lt h0).mpr (by omega)
    omega
section
variable {c : Cx} (W : W0 c)
include W
theorem fn_lev {a b : List Nat} {mx : Int} (ha : a.length ≤ 500) (hb : b.length ≤ 500) : Fn c 2 "_levenshtein_distance" [.str (strOf' a), .str (strOf' b), .int mx] (.int (lev a b mx)) := by
  have la : a.length ≤ 1000 := by omega
  have lb : b.length ≤ 1000 := by omega
  by_cases hab : a = b
  · exact Fn.of3 (x1 := "a") (x2 := "b") (x3 := "max_cost") (f := 28) (C := []) W (by kernel_rfl) rfl rfl rfl ⟨rfl, rfl, rfl, rfl, rfl, rfl, by kernel_rfl, by decide, by decide, by decide, bind3 fun _ _ _ => rfl⟩
      (Ex.ifRet (v := true) (Ts.conv (Ts.cmp (Ev.name (by repeat (first | with_reducible exact List.mem_cons_self | with_reducible apply List.mem_cons_of_mem))) (Ev.name (by repeat (first | with_reducible exact List.mem_cons_self | with_reducible apply List.mem_cons_of_mem))) Op2.eqS) (decide_eq_true (strOf_inj.mpr hab))) (fun _ => Ex.ret (Ev.conv Ev.int (by unfold lev; rw [if_pos hab]))) (fun h => nomatch h))
  rw [lev_ne hab]
  obtain ⟨A, hA⟩ : ∃ A, A = a.drop (preLen a b) := ⟨_, rfl⟩
  obtain ⟨B, hB⟩ : ∃ B, B = b.drop (preLen a b) := ⟨_, rfl⟩
  have lA : A.length ≤ 500 := by rw [hA, List.length_drop]; omega
  have lB : B.length ≤ 500 := by rw [hB, List.length_drop]; omega
  rw [← hA, ← hB]
  obtain ⟨k, hk⟩ : ∃ k, k = preLen A.reverse B.reverse := ⟨_, rfl⟩
  have hkl := preLen_le A.reverse B.reverse
  rw [← hk, List.length_reverse, List.length_reverse] at hkl
  rw [← hk]
  obtain ⟨P, hP⟩ : ∃ P, P = cutEnd A k := ⟨_, rfl⟩
  obtain ⟨Q, hQ⟩ : ∃ Q, Q = cutEnd B k := ⟨_, rfl⟩
  have lP : P.length ≤ 500 := by rw [hP]; exact Nat.le_trans (cut_len _ _) lA
  have lQ : Q.length ≤ 500 := by rw [hQ]; exact Nat.le_trans (cut_len _ _) lB
  rw [← hP, ← hQ]
  obtain ⟨P', hP'⟩ : ∃ P', P' = if Q.length < P.length then Q else P := ⟨_, rfl⟩
  obtain ⟨Q', hQ'⟩ : ∃ Q', Q' = if Q.length < P.length then P else Q := ⟨_, rfl⟩
  have lP' : P'.length ≤ 500 := by rw [hP']; split <;> assumption
  have lQ' : Q'.length ≤ 500 := by rw [hQ']; split <;> assumption
  exact Fn.of3 (x1 := "a") (x2 := "b") (x3 := "max_cost") (f := 28) (C := []) W (by kernel_rfl) rfl rfl rfl ⟨rfl, rfl, rfl, rfl, rfl, rfl, by kernel_rfl, by decide, by decide, by decide, bind3 fun _ _ _ => rfl⟩
    (Ex.ifNot (Ts.conv (Ts.cmp (Ev.name (by repeat (first | with_reducible exact List.mem_cons_self | with_reducible apply List.mem_cons_of_mem))) (Ev.name (by repeat (first | with_reducible exact List.mem_cons_self | with_reducible apply List.mem_cons_of_mem))) Op2.eqS) (decide_eq_false fun h => hab (strOf_inj.mp h))) (Ex.cons (X1.assign (d := .int (0 : Nat)) (ρ' := VA a b mx) Ev.int (.inl (by kernel_rfl)) (fun _ h => h) (by repeat (first | exact ne_nil | refine ne_cons (by decide) ?_)) own_none) (Ex.cons (X1.outC (o' := .next (VP a b mx (preLen a b)) none) (X1.whileI (loopPre (V := VP a b mx) a b
        (fun k _ _ => Ts.head (Ts.val (Ev.dropS la (Ev.name (by repeat (first | with_reducible exact List.mem_cons_self | with_reducible apply List.mem_cons_of_mem))) (Ev.name (by repeat (first | with_reducible exact List.mem_cons_self | with_reducible apply List.mem_cons_of_mem)))) (Tr.strL (by rw [List.length_drop]; omega))) (Ts.val (Ev.dropS lb (Ev.name (by repeat (first | with_reducible exact List.mem_cons_self | with_reducible apply List.mem_cons_of_mem))) (Ev.name (by repeat (first | with_reducible exact List.mem_cons_self | with_reducible apply List.mem_cons_of_mem)))) (Tr.strL (by rw [List.length_drop]; omega)))
          (fun x y hx hy => Ts.conv (Ts.cmp (Ev.itemAt (x := strOf' a) (k := k) (b := x) (by simpa [strOf'] using hx) (by rw [strOf_len]; exact la) (Ev.name (by repeat (first | with_reducible exact List.mem_cons_self | with_reducible apply List.mem_cons_of_mem))) (Ev.name (by repeat (first | with_reducible exact List.mem_cons_self | with_reducible apply List.mem_cons_of_mem)))) (Ev.itemAt (x := strOf' b) (k := k) (b := y) (by simpa [strOf'] using hy) (by rw [strOf_len]; exact lb) (Ev.name (by repeat (first | with_reducible exact List.mem_cons_self | with_reducible apply List.mem_cons_of_mem))) (Ev.name (by repeat (first | with_reducible exact List.mem_cons_self | with_reducible apply List.mem_cons_of_mem)))) Op2.eqS) one_cp_eq))
        (fun k _ _ => (Ex.cons (X1.assignAdd k (ρ' := VA a b mx) (by repeat (first | with_reducible exact List.mem_cons_self | with_reducible apply List.mem_cons_of_mem)) Ev.int (.inl (by kernel_rfl)) (by repeat (first | exact sub_nil | refine sub_cons (by repeat (first | with_reducible exact List.mem_cons_self | with_reducible apply List.mem_cons_of_mem)) ?_)) (by repeat (first | exact ne_nil | refine ne_cons (by decide) ?_)) own_none) (Ex.nil))) a.length 0 (by omega) (by omega) (by omega))) (by simp only [Nat.zero_add, List.drop_zero])) (Ex.cons (X1.assign (d := .str (strOf' A)) (ρ' := [("pre", .int (preLen a b : Nat)), ("b", .str (strOf' b)), ("max_cost", .int mx)]) (Ev.conv (Ev.dropS la (Ev.name (by repeat (first | with_reducible exact List.mem_cons_self | with_reducible apply List.mem_cons_of_mem))) (Ev.name (by repeat (first | with_reducible exact List.mem_cons_self | with_reducible apply List.mem_cons_of_mem)))) (by rw [hA])) (.inl (by kernel_rfl)) (by repeat (first | exact sub_nil | refine sub_cons (by repeat (first | with_reducible exact List.mem_cons_self | with_reducible apply List.mem_cons_of_mem)) ?_)) (by repeat (first | exact ne_nil | refine ne_cons (by decide) ?_)) own_none) (Ex.cons (X1.assign (d := .str (strOf' B)) (ρ' := [("a", .str (strOf' A)), ("max_cost", .int mx)]) (Ev.conv (Ev.dropS lb (Ev.name (by repeat (first | with_reducible exact List.mem_cons_self | with_reducible apply List.mem_cons_of_mem))) (Ev.name (by repeat (first | with_reducible exact List.mem_cons_self | with_reducible apply List.mem_cons_of_mem)))) (by rw [hB])) (.inl (by kernel_rfl)) (by repeat (first | exact sub_nil | refine sub_cons (by repeat (first | with_reducible exact List.mem_cons_self | with_reducible apply List.mem_cons_of_mem)) ?_)) (by repeat (first | exact ne_nil | refine ne_cons (by decide) ?_)) own_none) (Ex.cons (X1.assign (d := .int (-((0 : Nat) : Int))) (ρ' := [("b", .str (strOf' B)), ("a", .str (strOf' A)), ("max_cost", .int mx)]) (Ev.conv Ev.int (by rfl)) (.inl (by kernel_rfl)) (fun _ h => h) (by repeat (first | exact ne_nil | refine ne_cons (by decide) ?_)) own_none) (Ex.cons (X1.outC (o' := .next (VQ A B mx k) none) (X1.whileI (loopPre (V := VQ A B mx) A.reverse B.reverse
        (fun k h1 h2 => Ts.head (Ts.conv (Ts.val (Ev.cutS (l := A) (k := k) (by omega) (by simpa using h1) (Ev.name (by repeat (first | with_reducible exact List.mem_cons_self | with_reducible apply List.mem_cons_of_mem))) (Ev.name (by repeat (first | with_reducible exact List.mem_cons_self | with_reducible apply List.mem_cons_of_mem)))) (Tr.strL (Nat.le_trans (cut_len _ _) (by omega)))) (by rw [cut_empty])) (Ts.conv (Ts.val (Ev.cutS (l := B) (k := k) (by omega) (by simpa using h2) (Ev.name (by repeat (first | with_reducible exact List.mem_cons_self | with_reducible apply List.mem_cons_of_mem))) (Ev.name (by repeat (first | with_reducible exact List.mem_cons_self | with_reducible apply List.mem_cons_of_mem)))) (Tr.strL (Nat.le_trans (cut_len _ _) (by omega)))) (by rw [cut_empty]))
          (fun x y hx hy => Ts.conv (Ts.cmp (Ev.lastS (l := A) (k := k) (x := x) (by omega) hx (Ev.name (by repeat (first | with_reducible exact List.mem_cons_self | with_reducible apply List.mem_cons_of_mem))) (Ev.bin (Ev.name (by repeat (first | with_reducible exact List.mem_cons_self | with_reducible apply List.mem_cons_of_mem))) Ev.int Op2.sub)) (Ev.lastS (l := B) (k := k) (x := y) (by omega) hy (Ev.name (by repeat (first | with_reducible exact List.mem_cons_self | with_reducible apply List.mem_cons_of_mem))) (Ev.bin (Ev.name (by repeat (first | with_reducible exact List.mem_cons_self | with_reducible apply List.mem_cons_of_mem))) Ev.int Op2.sub)) Op2.eqS) one_cp_eq))
        (fun k _ _ => (Ex.cons (X1.assignNeg k (ρ' := [("b", .str (strOf' B)), ("a", .str (strOf' A)), ("max_cost", .int mx)]) (by repeat (first | with_reducible exact List.mem_cons_self | with_reducible apply List.mem_cons_of_mem)) Ev.int (.inl (by kernel_rfl)) (by repeat (first | exact sub_nil | refine sub_cons (by repeat (first | with_reducible exact List.mem_cons_self | with_reducible apply List.mem_cons_of_mem)) ?_)) (by repeat (first | exact ne_nil | refine ne_cons (by decide) ?_)) own_none) (Ex.nil))) A.reverse.length 0 (by omega) (by omega) (by omega))) (by simp only [Nat.zero_add, List.drop_zero]; rw [hk])) (Ex.cons (X1.assign (d := .str (strOf' P)) (ρ' := [("post", .int (-(k : Int))), ("b", .str (strOf' B)), ("max_cost", .int mx)]) (Ev.conv (Ev.cutS (l := A) (k := k) (by omega) hkl.1 (Ev.name (by repeat (first | with_reducible exact List.mem_cons_self | with_reducible apply List.mem_cons_of_mem))) (Ev.name (by repeat (first | with_reducible exact List.mem_cons_self | with_reducible apply List.mem_cons_of_mem)))) (by rw [hP])) (.inl (by kernel_rfl)) (by repeat (first | exact sub_nil | refine sub_cons (by repeat (first | with_reducible exact List.mem_cons_self | with_reducible apply List.mem_cons_of_mem)) ?_)) (by repeat (first | exact ne_nil | refine ne_cons (by decide) ?_)) own_none) (Ex.cons (X1.assign (d := .str (strOf' Q)) (ρ' := [("a", .str (strOf' P)), ("max_cost", .int mx)]) (Ev.conv (Ev.cutS (l := B) (k := k) (by omega) hkl.2 (Ev.name (by repeat (first | with_reducible exact List.mem_cons_self | with_reducible apply List.mem_cons_of_mem))) (Ev.name (by repeat (first | with_reducible exact List.mem_cons_self | with_reducible apply List.mem_cons_of_mem)))) (by rw [hQ])) (.inl (by kernel_rfl)) (by repeat (first | exact sub_nil | refine sub_cons (by repeat (first | with_reducible exact List.mem_cons_self | with_reducible apply List.mem_cons_of_mem)) ?_)) (by repeat (first | exact ne_nil | refine ne_cons (by decide) ?_)) own_none) (Ex.ifRet (v := (!(!P.isEmpty)) || ((!(!Q.isEmpty)) || false)) (Ts.bool (TsA.or (Ts.not (Ts.val (Ev.name (by repeat (first | with_reducible exact List.mem_cons_self | with_reducible apply List.mem_cons_of_mem))) (Tr.strL (l := P) (by omega)))) (fun _ => TsA.or (Ts.not (Ts.val (Ev.name (by repeat (first | with_reducible exact List.mem_cons_self | with_reducible apply List.mem_cons_of_mem))) (Tr.strL (l := Q) (by omega)))) (fun _ => TsA.nilO))))
       (fun h => Ex.ret (Ev.conv (Ev.bin (W.gi (i_move _)) (Ev.bin (Ev.lenS (l := P) W (by omega) (Ev.name (by repeat (first | with_reducible exact List.mem_cons_self | with_reducible apply List.mem_cons_of_mem)))) (Ev.lenS (l := Q) W (by omega) (Ev.name (by repeat (first | with_reducible exact List.mem_cons_self | with_reducible apply List.mem_cons_of_mem)))) Op2.add) (Op2.mul (IntMulOk.of_left (by decide)))) (by
          have h' : (P.isEmpty || Q.isEmpty) = true := by simpa using h
          unfold levCut; rw [if_pos h'])))
       (fun h => by
      have h0 : ¬ (P.isEmpty || Q.isEmpty) = true := by simpa using h
      have hfin : ¬ (40 < P.length ∨ 40 < Q.length) → levCut P Q mx = levAB P' Q' mx := fun h1 => by
        unfold levCut; rw [if_neg h0, if_neg (by simpa using h1), hP', hQ']
        split <;> rfl
      exact (Ex.ifRet (v := decide ((40 : Int) < (P.length : Nat)) || (decide ((40 : Int) < (Q.length : Nat)) || false)) (Ts.bool (TsA.or (Ts.cmp (Ev.lenS (l := P) W (by omega) (Ev.name (by repeat (first | with_reducible exact List.mem_cons_self | with_reducible apply List.mem_cons_of_mem)))) (W.gi (i_max _)) Op2.gt) (fun _ => TsA.or (Ts.cmp (Ev.lenS (l := Q) W (by omega) (Ev.name (by repeat (first | with_reducible exact List.mem_cons_self | with_reducible apply List.mem_cons_of_mem)))) (W.gi (i_max _)) Op2.gt) (fun _ => TsA.nilO))))
       (fun h' => Ex.ret (Ev.conv (Ev.bin (Ev.name (by repeat (first | with_reducible exact List.mem_cons_self | with_reducible apply List.mem_cons_of_mem))) Ev.int Op2.add) (by rw [cut_big h0 (by simp only [Bool.or_eq_true, decide_eq_true_eq, Bool.or_false] at h'; omega)])))
       (fun h' => (Ex.cons (X1.ite (out := .next (VA P' Q' mx) none) (v := decide (((Q.length : Nat) : Int) < (P.length : Nat))) (Ts.cmp (Ev.lenS (l := Q) W (by omega) (Ev.name (by repeat (first | with_reducible exact List.mem_cons_self | with_reducible apply List.mem_cons_of_mem)))) (Ev.lenS (l := P) W (by omega) (Ev.name (by repeat (first | with_reducible exact List.mem_cons_self | with_reducible apply List.mem_cons_of_mem)))) Op2.lt)
          (fun hv => Ex.outC (Ex.cons (X1.swap2 (a := .str (strOf' Q)) (b := .str (strOf' P)) (ρ' := [("max_cost", .int mx)]) (Ev.tuple (EvL.cons (Ev.name (by repeat (first | with_reducible exact List.mem_cons_self | with_reducible apply List.mem_cons_of_mem))) (EvL.cons (Ev.name (by repeat (first | with_reducible exact List.mem_cons_self | with_reducible apply List.mem_cons_of_mem))) EvL.nil))) (.inl (by kernel_rfl)) (.inl (by kernel_rfl)) (by decide) (by repeat (first | exact sub_nil | refine sub_cons (by repeat (first | with_reducible exact List.mem_cons_self | with_reducible apply List.mem_cons_of_mem)) ?_)) (fun p hp => ⟨ne_cons (by decide) ne_nil p hp, ne_cons (by decide) ne_nil p hp⟩) (fun env h1 h2 => by
            cases env with | mk scope l g ce q f cd fr bu => cases scope with | mk sk sn s3 s4 s5 => (simp only at h1 h2; subst h1 h2; rfl))) (Ex.nil)) (by have h := of_decide_eq_true hv; rw [hP', hQ', if_pos (by omega), if_pos (by omega)]))
          (fun hv => Ex.drop (Ex.outC (o' := .next [("b", .str (strOf' Q')), ("a", .str (strOf' P')), ("max_cost", .int mx)] none) Ex.nil (by have h := of_decide_eq_false hv; rw [hP', hQ', if_neg (by omega), if_neg (by omega)])) (by repeat (first | exact sub_nil | refine sub_cons (by repeat (first | with_reducible exact List.mem_cons_self | with_reducible apply List.mem_cons_of_mem)) ?_)))) (Ex.ifRet (v := decide (mx < (((Q'.length : Nat) : Int) - (P'.length : Nat)) * 2)) (Ts.cmp (Ev.bin (Ev.bin (Ev.lenS (l := Q') W (by omega) (Ev.name (by repeat (first | with_reducible exact List.mem_cons_self | with_reducible apply List.mem_cons_of_mem)))) (Ev.lenS (l := P') W (by omega) (Ev.name (by repeat (first | with_reducible exact List.mem_cons_self | with_reducible apply List.mem_cons_of_mem)))) Op2.sub) (W.gi (i_move _)) (Op2.mul (IntMulOk.of_right (by decide)))) (Ev.name (by repeat (first | with_reducible exact List.mem_cons_self | with_reducible apply List.mem_cons_of_mem))) Op2.gt)
         (fun h2 => Ex.ret (Ev.conv (Ev.bin (Ev.name (by repeat (first | with_reducible exact List.mem_cons_self | with_reducible apply List.mem_cons_of_mem))) Ev.int Op2.add) (by rw [hfin (by simp only [Bool.or_eq_false_iff, decide_eq_false_iff_not, Bool.or_false] at h'; omega)]; unfold levAB; rw [if_pos (of_decide_eq_true h2)])))
         (fun h2 => (Ex.cons (X1.outC (o' := .next (VA P' Q' mx) (rowD (row0 P'.length))) (X1.ownRange (ρ' := VA P' Q' mx) (a := 2) (b := 2 * (((P'.length : Nat) : Int) + 1)) (k := 2) P'.length (W.gi (i_move _)) (Ev.bin (W.gi (i_move _)) (Ev.bin (Ev.lenS (l := P') W (by omega) (Ev.name (by repeat (first | with_reducible exact List.mem_cons_self | with_reducible apply List.mem_cons_of_mem)))) Ev.int Op2.add) (Op2.mul (IntMulOk.of_left (by decide)))) (W.gi (i_move _)) (by decide) (PyProof.noPylong_small (by decide)) (small2 (by omega)) (size2 _) (by omega) (g_list W) (b_list W) (g_range W) (b_range W) (.inl (by kernel_rfl)) (fun _ h => h) (by repeat (first | exact ne_nil | refine ne_cons (by decide) ?_))) (by unfold row0; show Out.next _ (some (_, _)) = Out.next _ (some (_, _)); rw [List.map_map]; rfl)) (Ex.cons (X1.assign (d := .int 0) (ρ' := VA P' Q' mx) Ev.int (.inl (by kernel_rfl)) (fun _ h => h) (by repeat (first | exact ne_nil | refine ne_cons (by decide) ?_)) (own_row (by decide))) (Ex.outC (o := .ret (.int (rows P' mx Q' 0 (row0 P'.length) 0))) (Ex.forEx (R := VA P' Q' mx) (x := "result") (d := .int (rows P' mx Q' 0 (row0 P'.length) 0)) (Its.conv (Its.range1 Q'.length (Ev.lenS (l := Q') W (by omega) (Ev.name (by repeat (first | with_reducible exact List.mem_cons_self | with_reducible apply List.mem_cons_of_mem)))) (g_range W) (b_range W) (by omega) (by omega) (by omega)) (rng_places _)) (.inl (by kernel_rfl))
            (fhOuter (A := P') (B := Q') (mx := mx) (R := VA P' Q' mx) (by repeat (first | exact ne_nil | refine ne_cons (by decide) ?_)) (fun j bc row res hbc hrow => ⟨fun q => (Ex.cons (X1.assign (d := .str ⟨#[bc]⟩) (ρ' := ("bindex", .int (0 + (j : Int))) :: ("result", .int res) :: [("a", .str (strOf' P')), ("b", .str (strOf' Q')), ("max_cost", .int mx)]) (Ev.itemAt (x := strOf' Q') (k := j) (b := bc) (by simpa [strOf'] using hbc) (by rw [strOf_len]; omega) (Ev.name (by repeat (first | with_reducible exact List.mem_cons_self | with_reducible apply List.mem_cons_of_mem))) (Ev.conv (Ev.name (by repeat (first | with_reducible exact List.mem_cons_self | with_reducible apply List.mem_cons_of_mem))) (by rw [Int.zero_add]))) (.inl (by kernel_rfl)) (fun _ h => h) (by repeat (first | exact ne_nil | refine ne_cons (by decide) ?_)) (own_row (by decide))) (Ex.cons (X1.assign2 (d := .int ((j : Int) * 2)) (ρ' := [("bchar", .str ⟨#[bc]⟩), ("bindex", .int (0 + (j : Int))), ("a", .str (strOf' P')), ("b", .str (strOf' Q')), ("max_cost", .int mx)]) (Ev.conv (Ev.bin (Ev.name (by repeat (first | with_reducible exact List.mem_cons_self | with_reducible apply List.mem_cons_of_mem))) (W.gi (i_move _)) (Op2.mul (IntMulOk.of_right (by decide)))) (by rw [Int.zero_add])) (.inl (by kernel_rfl)) (.inl (by kernel_rfl)) (by repeat (first | exact sub_nil | refine sub_cons (by repeat (first | with_reducible exact List.mem_cons_self | with_reducible apply List.mem_cons_of_mem)) ?_)) (by repeat (first | exact ne_nil | refine ne_cons (by decide) ?_)) (by repeat (first | exact ne_nil | refine ne_cons (by decide) ?_)) (by decide) (fun z es q => by cases q; exact ⟨by decide, by decide⟩)) (Ex.cons (X1.assign (d := .int big) (ρ' := ("result", .int ((j : Int) * 2)) :: ("distance", .int ((j : Int) * 2)) :: [("bchar", .str ⟨#[bc]⟩), ("bindex", .int (0 + (j : Int))), ("a", .str (strOf' P')), ("b", .str (strOf' Q')), ("max_cost", .int mx)]) Ev.int (.inl (by kernel_rfl)) (fun _ h => h) (by repeat (first | exact ne_nil | refine ne_cons (by decide) ?_)) (own_row (by decide))) (Ex.cons (X1.forI (Its.conv (Its.range1 P'.length (Ev.lenS (l := P') W (by omega) (Ev.name (by repeat (first | with_reducible exact List.mem_cons_self | with_reducible apply List.mem_cons_of_mem)))) (g_range W) (b_range W) (by omega) (by omega) (by omega)) (rng_places _)) (.inl (by kernel_rfl)) (fhInner (bc := bc) (A := P') (R := [("bchar", .str ⟨#[bc]⟩), ("bindex", .int (0 + (j : Int))), ("a", .str (strOf' P')), ("b", .str (strOf' Q')), ("max_cost", .int mx)]) (by repeat (first | exact ne_nil | refine ne_cons (by decide) ?_))
          (fun i ai s hai hs => (Ex.cons (X1.assign (d := .int (s.dist + subCost ⟨#[bc]⟩ ⟨#[ai]⟩)) (ρ' := ("index", .int (0 + (i : Int))) :: VI s [("bchar", .str ⟨#[bc]⟩), ("bindex", .int (0 + (j : Int))), ("a", .str (strOf' P')), ("b", .str (strOf' Q')), ("max_cost", .int mx)]) (Ev.bin (Ev.name (by repeat (first | with_reducible exact List.mem_cons_self | with_reducible apply List.mem_cons_of_mem))) (Ev.call (EvL.cons (Ev.name (by repeat (first | with_reducible exact List.mem_cons_self | with_reducible apply List.mem_cons_of_mem))) (EvL.cons (Ev.itemAt (x := strOf' P') (k := i) (b := ai) (by simpa [strOf'] using hai) (by rw [strOf_len]; omega) (Ev.name (by repeat (first | with_reducible exact List.mem_cons_self | with_reducible apply List.mem_cons_of_mem))) (Ev.conv (Ev.name (by repeat (first | with_reducible exact List.mem_cons_self | with_reducible apply List.mem_cons_of_mem))) (by rw [Int.zero_add]))) EvL.nil)) (fn_sub W (by show 1 ≤ 1000; decide) (by show 1 ≤ 1000; decide))) Op2.add) (.inl (by kernel_rfl)) (fun _ h => h) (by repeat (first | exact ne_nil | refine ne_cons (by decide) ?_)) (own_row (by decide))) (Ex.cons (X1.getOwn (d := .int (s.row.getD i 0)) (k := i) (ρ' := ("substitute", .int (s.dist + subCost ⟨#[bc]⟩ ⟨#[ai]⟩)) :: ("index", .int (0 + (i : Int))) :: ("minimum", .int s.mn) :: ("result", .int s.res) :: [("bchar", .str ⟨#[bc]⟩), ("bindex", .int (0 + (j : Int))), ("a", .str (strOf' P')), ("b", .str (strOf' Q')), ("max_cost", .int mx)]) (Ev.conv (Ev.name (by repeat (first | with_reducible exact List.mem_cons_self | with_reducible apply List.mem_cons_of_mem))) (by rw [Int.zero_add])) (row_at (by obtain ⟨hh, _⟩ := List.getElem?_eq_some_iff.mp hai; omega)) (by rw [List.length_map]; omega) (.inl (by kernel_rfl)) (by repeat (first | exact sub_nil | refine sub_cons (by repeat (first | with_reducible exact List.mem_cons_self | with_reducible apply List.mem_cons_of_mem)) ?_)) (by repeat (first | exact ne_nil | refine ne_cons (by decide) ?_)) (by decide)) (Ex.cons (X1.assign (d := .int (minI s.res (s.row.getD i 0) + 2)) (ρ' := ("distance", .int (s.row.getD i 0)) :: ("substitute", .int (s.dist + subCost ⟨#[bc]⟩ ⟨#[ai]⟩)) :: ("index", .int (0 + (i : Int))) :: ("minimum", .int s.mn) :: ("result", .int s.res) :: [("bchar", .str ⟨#[bc]⟩), ("bindex", .int (0 + (j : Int))), ("a", .str (strOf' P')), ("b", .str (strOf' Q')), ("max_cost", .int mx)]) (Ev.bin (Ev.callB (EvL.cons (Ev.name (by repeat (first | with_reducible exact List.mem_cons_self | with_reducible apply List.mem_cons_of_mem))) (EvL.cons (Ev.name (by repeat (first | with_reducible exact List.mem_cons_self | with_reducible apply List.mem_cons_of_mem))) EvL.nil)) (g_min W) (b_min W) Bi.min) (W.gi (i_move _)) Op2.add) (.inl (by kernel_rfl)) (fun _ h => h) (by repeat (first | exact ne_nil | refine ne_cons (by decide) ?_)) (own_row (by decide))) (Ex.cons (X1.assign (d := .int (minI (minI s.res (s.row.getD i 0) + 2) (s.dist + subCost ⟨#[bc]⟩ ⟨#[ai]⟩))) (ρ' := ("distance", .int (s.row.getD i 0)) :: ("index", .int (0 + (i : Int))) :: ("minimum", .int s.mn) :: [("bchar", .str ⟨#[bc]⟩), ("bindex", .int (0 + (j : Int))), ("a", .str (strOf' P')), ("b", .str (strOf' Q')), ("max_cost", .int mx)]) (Ev.callB (EvL.cons (Ev.name (by repeat (first | with_reducible exact List.mem_cons_self | with_reducible apply List.mem_cons_of_mem))) (EvL.cons (Ev.name (by repeat (first | with_reducible exact List.mem_cons_self | with_reducible apply List.mem_cons_of_mem))) EvL.nil)) (g_min W) (b_min W) Bi.min) (.inl (by kernel_rfl)) (by repeat (first | exact sub_nil | refine sub_cons (by repeat (first | with_reducible exact List.mem_cons_self | with_reducible apply List.mem_cons_of_mem)) ?_)) (by repeat (first | exact ne_nil | refine ne_cons (by decide) ?_)) (own_row (by decide))) (Ex.cons (X1.outC (o' := .next (("result", .int (minI (minI s.res (s.row.getD i 0) + 2) (s.dist + subCost ⟨#[bc]⟩ ⟨#[ai]⟩))) :: ("distance", .int (s.row.getD i 0)) :: ("index", .int (0 + (i : Int))) :: ("minimum", .int s.mn) :: [("bchar", .str ⟨#[bc]⟩), ("bindex", .int (0 + (j : Int))), ("a", .str (strOf' P')), ("b", .str (strOf' Q')), ("max_cost", .int mx)]) (rowD (s.next bc ai i).row)) (X1.setItem (k := i) (Ev.name (by repeat (first | with_reducible exact List.mem_cons_self | with_reducible apply List.mem_cons_of_mem))) (Ev.conv (Ev.name (by repeat (first | with_reducible exact List.mem_cons_self | with_reducible apply List.mem_cons_of_mem))) (by rw [Int.zero_add])) (by rw [List.length_map]; obtain ⟨hh, _⟩ := List.getElem?_eq_some_iff.mp hai; omega) (by rw [List.length_map]; omega)) (by rw [← List.map_set]; rfl)) (Ex.cons (X1.ite (out := .next (("minimum", .int (s.next bc ai i).mn) :: ("result", .int (minI (minI s.res (s.row.getD i 0) + 2) (s.dist + subCost ⟨#[bc]⟩ ⟨#[ai]⟩))) :: ("distance", .int (s.row.getD i 0)) :: [("bchar", .str ⟨#[bc]⟩), ("bindex", .int (0 + (j : Int))), ("a", .str (strOf' P')), ("b", .str (strOf' Q')), ("max_cost", .int mx)]) (rowD (s.next bc ai i).row)) (v := decide (minI (minI s.res (s.row.getD i 0) + 2) (s.dist + subCost ⟨#[bc]⟩ ⟨#[ai]⟩) < s.mn)) (Ts.cmp (Ev.name (by repeat (first | with_reducible exact List.mem_cons_self | with_reducible apply List.mem_cons_of_mem))) (Ev.name (by repeat (first | with_reducible exact List.mem_cons_self | with_reducible apply List.mem_cons_of_mem))) Op2.lt)
              (fun hv => (Ex.cons (X1.assign (d := .int (s.next bc ai i).mn) (ρ' := ("result", .int (minI (minI s.res (s.row.getD i 0) + 2) (s.dist + subCost ⟨#[bc]⟩ ⟨#[ai]⟩))) :: ("distance", .int (s.row.getD i 0)) :: [("bchar", .str ⟨#[bc]⟩), ("bindex", .int (0 + (j : Int))), ("a", .str (strOf' P')), ("b", .str (strOf' Q')), ("max_cost", .int mx)]) (Ev.conv (Ev.name (by repeat (first | with_reducible exact List.mem_cons_self | with_reducible apply List.mem_cons_of_mem))) (by have h := of_decide_eq_true hv; unfold Cell.next; simp only [if_pos h])) (.inl (by kernel_rfl)) (by repeat (first | exact sub_nil | refine sub_cons (by repeat (first | with_reducible exact List.mem_cons_self | with_reducible apply List.mem_cons_of_mem)) ?_)) (by repeat (first | exact ne_nil | refine ne_cons (by decide) ?_)) (own_row (by decide))) (Ex.nil)))
              (fun hv => Ex.drop (Ex.outC (o' := .next (("result", .int (minI (minI s.res (s.row.getD i 0) + 2) (s.dist + subCost ⟨#[bc]⟩ ⟨#[ai]⟩))) :: ("distance", .int (s.row.getD i 0)) :: ("index", .int (0 + (i : Int))) :: ("minimum", .int (s.next bc ai i).mn) :: [("bchar", .str ⟨#[bc]⟩), ("bindex", .int (0 + (j : Int))), ("a", .str (strOf' P')), ("b", .str (strOf' Q')), ("max_cost", .int mx)]) (rowD (s.next bc ai i).row)) Ex.nil (by have h := of_decide_eq_false hv; unfold Cell.next; simp only [if_neg h])) (by repeat (first | exact sub_nil | refine sub_cons (by repeat (first | with_reducible exact List.mem_cons_self | with_reducible apply List.mem_cons_of_mem)) ?_)))) (Ex.outC Ex.nil (by rfl))))))))) P' 0 ⟨row, (j : Int) * 2, (j : Int) * 2, big⟩ rfl hrow)) (Ex.ifRet (v := true) (Ts.conv (Ts.cmp (Ev.name (by repeat (first | with_reducible exact List.mem_cons_self | with_reducible apply List.mem_cons_of_mem))) (Ev.name (by repeat (first | with_reducible exact List.mem_cons_self | with_reducible apply List.mem_cons_of_mem))) Op2.gt) (decide_eq_true q)) (fun _ => Ex.ret (Ev.bin (Ev.name (by repeat (first | with_reducible exact List.mem_cons_self | with_reducible apply List.mem_cons_of_mem))) Ev.int Op2.add)) (fun h => nomatch h)))))),
              fun q => (Ex.cons (X1.assign (d := .str ⟨#[bc]⟩) (ρ' := ("bindex", .int (0 + (j : Int))) :: ("result", .int res) :: [("a", .str (strOf' P')), ("b", .str (strOf' Q')), ("max_cost", .int mx)]) (Ev.itemAt (x := strOf' Q') (k := j) (b := bc) (by simpa [strOf'] using hbc) (by rw [strOf_len]; omega) (Ev.name (by repeat (first | with_reducible exact List.mem_cons_self | with_reducible apply List.mem_cons_of_mem))) (Ev.conv (Ev.name (by repeat (first | with_reducible exact List.mem_cons_self | with_reducible apply List.mem_cons_of_mem))) (by rw [Int.zero_add]))) (.inl (by kernel_rfl)) (fun _ h => h) (by repeat (first | exact ne_nil | refine ne_cons (by decide) ?_)) (own_row (by decide))) (Ex.cons (X1.assign2 (d := .int ((j : Int) * 2)) (ρ' := [("bchar", .str ⟨#[bc]⟩), ("bindex", .int (0 + (j : Int))), ("a", .str (strOf' P')), ("b", .str (strOf' Q')), ("max_cost", .int mx)]) (Ev.conv (Ev.bin (Ev.name (by repeat (first | with_reducible exact List.mem_cons_self | with_reducible apply List.mem_cons_of_mem))) (W.gi (i_move _)) (Op2.mul (IntMulOk.of_right (by decide)))) (by rw [Int.zero_add])) (.inl (by kernel_rfl)) (.inl (by kernel_rfl)) (by repeat (first | exact sub_nil | refine sub_cons (by repeat (first | with_reducible exact List.mem_cons_self | with_reducible apply List.mem_cons_of_mem)) ?_)) (by repeat (first | exact ne_nil | refine ne_cons (by decide) ?_)) (by repeat (first | exact ne_nil | refine ne_cons (by decide) ?_)) (by decide) (fun z es q => by cases q; exact ⟨by decide, by decide⟩)) (Ex.cons (X1.assign (d := .int big) (ρ' := ("result", .int ((j : Int) * 2)) :: ("distance", .int ((j : Int) * 2)) :: [("bchar", .str ⟨#[bc]⟩), ("bindex", .int (0 + (j : Int))), ("a", .str (strOf' P')), ("b", .str (strOf' Q')), ("max_cost", .int mx)]) Ev.int (.inl (by kernel_rfl)) (fun _ h => h) (by repeat (first | exact ne_nil | refine ne_cons (by decide) ?_)) (own_row (by decide))) (Ex.cons (X1.forI (Its.conv (Its.range1 P'.length (Ev.lenS (l := P') W (by omega) (Ev.name (by repeat (first | with_reducible exact List.mem_cons_self | with_reducible apply List.mem_cons_of_mem)))) (g_range W) (b_range W) (by omega) (by omega) (by omega)) (rng_places _)) (.inl (by kernel_rfl)) (fhInner (bc := bc) (A := P') (R := [("bchar", .str ⟨#[bc]⟩), ("bindex", .int (0 + (j : Int))), ("a", .str (strOf' P')), ("b", .str (strOf' Q')), ("max_cost", .int mx)]) (by repeat (first | exact ne_nil | refine ne_cons (by decide) ?_))
          (fun i ai s hai hs => (Ex.cons (X1.assign (d := .int (s.dist + subCost ⟨#[bc]⟩ ⟨#[ai]⟩)) (ρ' := ("index", .int (0 + (i : Int))) :: VI s [("bchar", .str ⟨#[bc]⟩), ("bindex", .int (0 + (j : Int))), ("a", .str (strOf' P')), ("b", .str (strOf' Q')), ("max_cost", .int mx)]) (Ev.bin (Ev.name (by repeat (first | with_reducible exact List.mem_cons_self | with_reducible apply List.mem_cons_of_mem))) (Ev.call (EvL.cons (Ev.name (by repeat (first | with_reducible exact List.mem_cons_self | with_reducible apply List.mem_cons_of_mem))) (EvL.cons (Ev.itemAt (x := strOf' P') (k := i) (b := ai) (by simpa [strOf'] using hai) (by rw [strOf_len]; omega) (Ev.name (by repeat (first | with_reducible exact List.mem_cons_self | with_reducible apply List.mem_cons_of_mem))) (Ev.conv (Ev.name (by repeat (first | with_reducible exact List.mem_cons_self | with_reducible apply List.mem_cons_of_mem))) (by rw [Int.zero_add]))) EvL.nil)) (fn_sub W (by show 1 ≤ 1000; decide) (by show 1 ≤ 1000; decide))) Op2.add) (.inl (by kernel_rfl)) (fun _ h => h) (by repeat (first | exact ne_nil | refine ne_cons (by decide) ?_)) (own_row (by decide))) (Ex.cons (X1.getOwn (d := .int (s.row.getD i 0)) (k := i) (ρ' := ("substitute", .int (s.dist + subCost ⟨#[bc]⟩ ⟨#[ai]⟩)) :: ("index", .int (0 + (i : Int))) :: ("minimum", .int s.mn) :: ("result", .int s.res) :: [("bchar", .str ⟨#[bc]⟩), ("bindex", .int (0 + (j : Int))), ("a", .str (strOf' P')), ("b", .str (strOf' Q')), ("max_cost", .int mx)]) (Ev.conv (Ev.name (by repeat (first | with_reducible exact List.mem_cons_self | with_reducible apply List.mem_cons_of_mem))) (by rw [Int.zero_add])) (row_at (by obtain ⟨hh, _⟩ := List.getElem?_eq_some_iff.mp hai; omega)) (by rw [List.length_map]; omega) (.inl (by kernel_rfl)) (by repeat (first | exact sub_nil | refine sub_cons (by repeat (first | with_reducible exact List.mem_cons_self | with_reducible apply List.mem_cons_of_mem)) ?_)) (by repeat (first | exact ne_nil | refine ne_cons (by decide) ?_)) (by decide)) (Ex.cons (X1.assign (d := .int (minI s.res (s.row.getD i 0) + 2)) (ρ' := ("distance", .int (s.row.getD i 0)) :: ("substitute", .int (s.dist + subCost ⟨#[bc]⟩ ⟨#[ai]⟩)) :: ("index", .int (0 + (i : Int))) :: ("minimum", .int s.mn) :: ("result", .int s.res) :: [("bchar", .str ⟨#[bc]⟩), ("bindex", .int (0 + (j : Int))), ("a", .str (strOf' P')), ("b", .str (strOf' Q')), ("max_cost", .int mx)]) (Ev.bin (Ev.callB (EvL.cons (Ev.name (by repeat (first | with_reducible exact List.mem_cons_self | with_reducible apply List.mem_cons_of_mem))) (EvL.cons (Ev.name (by repeat (first | with_reducible exact List.mem_cons_self | with_reducible apply List.mem_cons_of_mem))) EvL.nil)) (g_min W) (b_min W) Bi.min) (W.gi (i_move _)) Op2.add) (.inl (by kernel_rfl)) (fun _ h => h) (by repeat (first | exact ne_nil | refine ne_cons (by decide) ?_)) (own_row (by decide))) (Ex.cons (X1.assign (d := .int (minI (minI s.res (s.row.getD i 0) + 2) (s.dist + subCost ⟨#[bc]⟩ ⟨#[ai]⟩))) (ρ' := ("distance", .int (s.row.getD i 0)) :: ("index", .int (0 + (i : Int))) :: ("minimum", .int s.mn) :: [("bchar", .str ⟨#[bc]⟩), ("bindex", .int (0 + (j : Int))), ("a", .str (strOf' P')), ("b", .str (strOf' Q')), ("max_cost", .int mx)]) (Ev.callB (EvL.cons (Ev.name (by repeat (first | with_reducible exact List.mem_cons_self | with_reducible apply List.mem_cons_of_mem))) (EvL.cons (Ev.name (by repeat (first | with_reducible exact List.mem_cons_self | with_reducible apply List.mem_cons_of_mem))) EvL.nil)) (g_min W) (b_min W) Bi.min) (.inl (by kernel_rfl)) (by repeat (first | exact sub_nil | refine sub_cons (by repeat (first | with_reducible exact List.mem_cons_self | with_reducible apply List.mem_cons_of_mem)) ?_)) (by repeat (first | exact ne_nil | refine ne_cons (by decide) ?_)) (own_row (by decide))) (Ex.cons (X1.outC (o' := .next (("result", .int (minI (minI s.res (s.row.getD i 0) + 2) (s.dist + subCost ⟨#[bc]⟩ ⟨#[ai]⟩))) :: ("distance", .int (s.row.getD i 0)) :: ("index", .int (0 + (i : Int))) :: ("minimum", .int s.mn) :: [("bchar", .str ⟨#[bc]⟩), ("bindex", .int (0 + (j : Int))), ("a", .str (strOf' P')), ("b", .str (strOf' Q')), ("max_cost", .int mx)]) (rowD (s.next bc ai i).row)) (X1.setItem (k := i) (Ev.name (by repeat (first | with_reducible exact List.mem_cons_self | with_reducible apply List.mem_cons_of_mem))) (Ev.conv (Ev.name (by repeat (first | with_reducible exact List.mem_cons_self | with_reducible apply List.mem_cons_of_mem))) (by rw [Int.zero_add])) (by rw [List.length_map]; obtain ⟨hh, _⟩ := List.getElem?_eq_some_iff.mp hai; omega) (by rw [List.length_map]; omega)) (by rw [← List.map_set]; rfl)) (Ex.cons (X1.ite (out := .next (("minimum", .int (s.next bc ai i).mn) :: ("result", .int (minI (minI s.res (s.row.getD i 0) + 2) (s.dist + subCost ⟨#[bc]⟩ ⟨#[ai]⟩))) :: ("distance", .int (s.row.getD i 0)) :: [("bchar", .str ⟨#[bc]⟩), ("bindex", .int (0 + (j : Int))), ("a", .str (strOf' P')), ("b", .str (strOf' Q')), ("max_cost", .int mx)]) (rowD (s.next bc ai i).row)) (v := decide (minI (minI s.res (s.row.getD i 0) + 2) (s.dist + subCost ⟨#[bc]⟩ ⟨#[ai]⟩) < s.mn)) (Ts.cmp (Ev.name (by repeat (first | with_reducible exact List.mem_cons_self | with_reducible apply List.mem_cons_of_mem))) (Ev.name (by repeat (first | with_reducible exact List.mem_cons_self | with_reducible apply List.mem_cons_of_mem))) Op2.lt)
              (fun hv => (Ex.cons (X1.assign (d := .int (s.next bc ai i).mn) (ρ' := ("result", .int (minI (minI s.res (s.row.getD i 0) + 2) (s.dist + subCost ⟨#[bc]⟩ ⟨#[ai]⟩))) :: ("distance", .int (s.row.getD i 0)) :: [("bchar", .str ⟨#[bc]⟩), ("bindex", .int (0 + (j : Int))), ("a", .str (strOf' P')), ("b", .str (strOf' Q')), ("max_cost", .int mx)]) (Ev.conv (Ev.name (by repeat (first | with_reducible exact List.mem_cons_self | with_reducible apply List.mem_cons_of_mem))) (by have h := of_decide_eq_true hv; unfold Cell.next; simp only [if_pos h])) (.inl (by kernel_rfl)) (by repeat (first | exact sub_nil | refine sub_cons (by repeat (first | with_reducible exact List.mem_cons_self | with_reducible apply List.mem_cons_of_mem)) ?_)) (by repeat (first | exact ne_nil | refine ne_cons (by decide) ?_)) (own_row (by decide))) (Ex.nil)))
              (fun hv => Ex.drop (Ex.outC (o' := .next (("result", .int (minI (minI s.res (s.row.getD i 0) + 2) (s.dist + subCost ⟨#[bc]⟩ ⟨#[ai]⟩))) :: ("distance", .int (s.row.getD i 0)) :: ("index", .int (0 + (i : Int))) :: ("minimum", .int (s.next bc ai i).mn) :: [("bchar", .str ⟨#[bc]⟩), ("bindex", .int (0 + (j : Int))), ("a", .str (strOf' P')), ("b", .str (strOf' Q')), ("max_cost", .int mx)]) (rowD (s.next bc ai i).row)) Ex.nil (by have h := of_decide_eq_false hv; unfold Cell.next; simp only [if_neg h])) (by repeat (first | exact sub_nil | refine sub_cons (by repeat (first | with_reducible exact List.mem_cons_self | with_reducible apply List.mem_cons_of_mem)) ?_)))) (Ex.outC Ex.nil (by rfl))))))))) P' 0 ⟨row, (j : Int) * 2, (j : Int) * 2, big⟩ rfl hrow)) (Ex.ifNot (Ts.conv (Ts.cmp (Ev.name (by repeat (first | with_reducible exact List.mem_cons_self | with_reducible apply List.mem_cons_of_mem))) (Ev.name (by repeat (first | with_reducible exact List.mem_cons_self | with_reducible apply List.mem_cons_of_mem))) Op2.gt) (decide_eq_false q)) (Ex.drop Ex.nil (by repeat (first | exact sub_nil | refine sub_cons (by repeat (first | with_reducible exact List.mem_cons_self | with_reducible apply List.mem_cons_of_mem)) ?_))))))))⟩) Q' 0 (row0 P'.length) 0 rfl (by unfold row0; rw [List.length_map, List.length_range]))
            (fun row' => Ex.ret (Ev.name (by repeat (first | with_reducible exact List.mem_cons_self | with_reducible apply List.mem_cons_of_mem))))) (by rw [hfin (by simp only [Bool.or_eq_false_iff, decide_eq_false_iff_not, Bool.or_false] at h'; omega)]; unfold levAB; rw [if_neg (of_decide_eq_false h2)]))))))))))))))))))))
end

end Mine
namespace Mine
def blkB (T : Tab) (xs xs' : List Str) (sc : Scope) (C' : List Str) : Bool :=
  sc.kind == .function && decide ((sc.names.map (·.1)).Nodup) && sc.names.all (fun x => x.2 != .free || (xs.contains x.1 && (T.lookup x.1 == some .cell || T.lookup x.1 == some .free))) && xs'.all (fun x => sc.names.lookup x == some .free) && C'.all (fun x => sc.names.lookup x == some .cell)
theorem Blk.of {T : Tab} {ρ ρ' : Vars} {sc : Scope} {C' : List Str} (hs : ∀ p ∈ ρ', p ∈ ρ) (hb : blkB T (ρ.map (·.1)) (ρ'.map (·.1)) sc C' = true) : Blk T ρ ρ' sc (relab T sc.names) C' := by
  unfold blkB at hb
  simp only [Bool.and_eq_true, decide_eq_true_eq, List.all_eq_true, beq_iff_eq] at hb
  obtain ⟨⟨⟨⟨h1, h2⟩, h3⟩, h4⟩, h5⟩ := hb
  refine ⟨rfl, h1, h2, fun x hx hf => ?_, fun p hp => ⟨hs p hp, h4 _ (List.mem_map.mpr ⟨p, hp, rfl⟩)⟩, fun x hx => h5 x hx⟩
  have := h3 x hx
  rcases Bool.or_eq_true_iff.mp this with h | h
  · rw [hf] at h; cases h
  obtain ⟨h6, h7⟩ := Bool.and_eq_true_iff.mp h
  obtain ⟨p, hp, e⟩ := List.mem_map.mp (List.contains_iff_mem.mp h6)
  have h : T.lookup x.1 = some .cell ∨ T.lookup x.1 = some .free := (Bool.or_eq_true_iff.mp h7).imp beq_iff_eq.mp beq_iff_eq.mp
  exact ⟨p.2, by rw [← e]; exact hp, h⟩
theorem dis1 {ρ : Vars} {x : Str} {d : PyData} (h : ∀ p ∈ ρ, p.1 ≠ x) : ∀ p ∈ ρ, ∀ q ∈ ([(x, d)] : Vars), p.1 ≠ q.1 := fun p hp q hq => by rw [List.mem_singleton.mp hq]; exact h p hp
theorem dis2 {ρ : Vars} {x y : Str} {d e : PyData} (h : ∀ p ∈ ρ, p.1 ≠ x) (h' : ∀ p ∈ ρ, p.1 ≠ y) : ∀ p ∈ ρ, ∀ q ∈ ([(y, e), (x, d)] : Vars), p.1 ≠ q.1 := fun p hp q hq => by
  rcases List.mem_cons.mp hq with rfl | hq
  · exact h' p hp
  · rw [List.mem_singleton.mp hq]; exact h p hp
section
variable {c : Cx} {m : Nat} {T : Tab} {C : List Str} {ρ ρ' : Vars} {ω : Ow} {elt : PySem.Expr} {sc : Scope} {pos : Pos} {target iter : PySem.Expr} {ifs : List PySem.Expr} {ds : List PyData}
theorem CL.mapN {gens : List Comprehension} {k : Nat} (n : Nat) (f : Nat → PyData) (hg : gens[k]? = some ⟨target, iter, ifs, 0⟩) (hn : ∀ g, gens[k + 1]? = some g → g.is_async = 0) (hl : ds.length = n)
    (h : ∀ i d, i < n → ds[i]? = some d → It c m T C elt gens sc pos k target ifs ρ d [f i]) : CL c m T C elt gens sc pos k ρ ds ((List.range n).map f) := by
  have := CL.intro (fun i => [f i]) hg hn (fun i d hd => h i d (by rw [← hl]; exact (List.getElem?_eq_some_iff.mp hd).1) hd)
  have e : ∀ l : List Nat, l.flatMap (fun i => [f i]) = l.map f := fun l => by
    induction l with
    | nil => rfl
    | cons a l ih => rw [List.flatMap_cons, ih]; rfl
  rw [e, hl] at this; exact this
theorem CL.filtN {gens : List Comprehension} {k : Nat} (n : Nat) (p : Nat → Bool) (f : Nat → PyData) (hg : gens[k]? = some ⟨target, iter, ifs, 0⟩) (hn : ∀ g, gens[k + 1]? = some g → g.is_async = 0) (hl : ds.length = n)
    (h1 : ∀ i d, i < n → ds[i]? = some d → p i = true → It c m T C elt gens sc pos k target ifs ρ d [f i]) (h2 : ∀ i d, i < n → ds[i]? = some d → p i = false → It c m T C elt gens sc pos k target ifs ρ d []) :
    CL c m T C elt gens sc pos k ρ ds (((List.range n).filter p).map f) := by
  have := CL.intro (fun i => if p i then [f i] else []) hg hn (fun i d hd => by
    have hi : i < n := by rw [← hl]; exact (List.getElem?_eq_some_iff.mp hd).1
    cases q : p i with
    | true => exact h1 i d hi hd q
    | false => exact h2 i d hi hd q)
  have e : ∀ l : List Nat, l.flatMap (fun i => if p i then [f i] else []) = (l.filter p).map f := fun l => by
    induction l with
    | nil => rfl
    | cons a l ih => cases q : p a <;> simp [List.flatMap_cons, q, ih]
  rw [e, hl] at this; exact this
theorem It.emit1 {gens : List Comprehension} {k : Nat} {x : Str} {np : Pos} {d r : PyData} (hk : T.lookup x = some .local ∨ x ∈ C) (hx : ∀ p ∈ ρ, p.1 ≠ x) (ht : TsI c m T ((x, d) :: ρ) ifs true) (he : Ev c m T ((x, d) :: ρ) elt r) (hn : gens[k + 1]? = none) : It c m T C elt gens sc pos k (.Name x np) ifs ρ d [r] :=
  It.emit (β := [(x, d)]) (Bd.name hk) (dis1 hx) ht he hn
theorem It.skip1 {gens : List Comprehension} {k : Nat} {x : Str} {np : Pos} {d : PyData} (hk : T.lookup x = some .local ∨ x ∈ C) (hx : ∀ p ∈ ρ, p.1 ≠ x) (ht : TsI c m T ((x, d) :: ρ) ifs false) : It c m T C elt gens sc pos k (.Name x np) ifs ρ d [] :=
  It.skip (β := [(x, d)]) (Bd.name hk) (dis1 hx) ht
theorem It.emit2 {gens : List Comprehension} {k n : Nat} {x y : Str} {xp yp tp : Pos} {a b r : PyData} (hk : T.lookup x = some .local ∨ x ∈ C) (hk' : T.lookup y = some .local ∨ y ∈ C) (hxy : x ≠ y) (hx : ∀ p ∈ ρ, p.1 ≠ x) (hy : ∀ p ∈ ρ, p.1 ≠ y) (ht : TsI c m T ((y, b) :: (x, a) :: ρ) ifs true) (he : Ev c m T ((y, b) :: (x, a) :: ρ) elt r) (hn : gens[k + 1]? = none) : It c m T C elt gens sc pos k (.Tuple [.Name x xp, .Name y yp] n tp) ifs ρ (.tuple [a, b]) [r] :=
  It.emit (β := [(y, b), (x, a)]) (Bd.pair hk hk' hxy) (dis2 hx hy) ht he hn
theorem It.inner1 {gens : List Comprehension} {k : Nat} {x : Str} {np : Pos} {d : PyData} {out ds' : List PyData} {target' iter' : PySem.Expr} {ifs' : List PySem.Expr} (hk : T.lookup x = some .local ∨ x ∈ C) (hx : ∀ p ∈ ρ, p.1 ≠ x) (ht : TsI c m T ((x, d) :: ρ) ifs true)
    (hn : gens[k + 1]? = some ⟨target', iter', ifs', 0⟩) (hi : Its c m T ((x, d) :: ρ) iter' ds') (hl : CL c m T C elt gens sc pos (k + 1) ((x, d) :: ρ) ds' out)
    (hs : ∀ (env : Env) x, foldedSetIterable iter' env x = pure x := by intro _ _; rfl) : It c m T C elt gens sc pos k (.Name x np) ifs ρ d out :=
  It.inner (β := [(x, d)]) (Bd.name hk) (dis1 hx) ht hn hi hl hs
theorem rng_at {a : Int} {n i : Nat} {d : PyData} (h : (rng a n)[i]? = some d) : d = .int (a + i) := by
  unfold rng at h
  rw [List.getElem?_map] at h
  cases q : (List.range n)[i]? with
  | none => rw [q] at h; cases h
  | some j =>
    obtain ⟨hlt, e⟩ := List.getElem?_eq_some_iff.mp q
    rw [List.getElem_range] at e
    rw [q] at h; cases h; rw [e]
theorem rng_len (a : Int) (n : Nat) : (rng a n).length = n := by unfold rng; rw [List.length_map, List.length_range]
end

/-! who is near whom, as masks -/
def tied (ties : List (Nat × Nat)) (i j : Nat) : Bool := (ties.any fun p => p.1 == i && p.2 == j) || (ties.any fun p => p.1 == j && p.2 == i)
def nearRow (n : Nat) (ties : List (Nat × Nat)) (i : Nat) : List Int := ((List.range n).filter (tied ties i)).map fun j => (2 : Int) ^ j
def nearAt (n : Nat) (ties : List (Nat × Nat)) (i : Nat) : Int := 2 ^ i + (nearRow n ties i).sum
def pairD (p : Nat × Nat) : PyData := .tuple [.int (p.1 : Nat), .int (p.2 : Nat)]
abbrev tiesD (ties : List (Nat × Nat)) : PyData := .list (ties.map pairD)
theorem shaped_pair (p : Nat × Nat) : (pairD p).canLay0 = true := rfl
theorem ties_lay : ∀ ties : List (Nat × Nat), PyData.canLayAll0 (ties.map pairD) = true
  | [] => rfl
  | p :: r => by rw [List.map_cons, PyData.canLayAll0, ties_lay r]; rfl
theorem ties_depth : ∀ ties : List (Nat × Nat), PyData.depthAll (ties.map pairD) ≤ 10
  | [] => by decide
  | p :: r => by
    have := ties_depth r
    rw [List.map_cons, PyData.depthAll]
    have h : (pairD p).depth ≤ 9 := by show PyData.depth (.tuple [.int _, .int _]) ≤ 9; simp [PyData.depth, PyData.depthAll]
    omega
theorem ties_shaped (ties : List (Nat × Nat)) : SeqAt.shaped (tiesD ties) = true := by
  unfold SeqAt.shaped
  have := ties_depth ties
  rw [Bool.and_eq_true]
  refine ⟨ties_lay ties, decide_eq_true ?_⟩
  rw [PyData.depth]; omega
theorem any_pair (ties : List (Nat × Nat)) (i j : Nat) : ((ties.map pairD).any fun y => PyData.eqv y (.tuple [.int (i : Nat), .int (j : Nat)])) = ties.any fun p => p.1 == i && p.2 == j := by
  rw [List.any_map]
  congr 1; funext p
  show (((p.1 : Int) == (i : Int)) && (((p.2 : Int) == (j : Int)) && true)) = _
  rw [Bool.and_true]
  congr 1 <;> exact Bool.eq_iff_iff.mpr (by simp only [beq_iff_eq]; omega)

theorem pow_ok {i : Nat} (h : i ≤ 100) : (Builtin.Int.intBits 2 : Int) * (i : Nat) ≤ 2 ^ 27 := by
  have : Builtin.Int.intBits 2 = 2 := by decide
  rw [this]; omega
theorem Op2.pow2 {c : Cx} {m : Nat} {i : Nat} (h : i ≤ 100) : Op2 c m (binaryOp .Pow) (.int 2) (.int (i : Nat)) (.int (2 ^ i)) := by
  have := Op2.pow (c := c) (m := m) (a := 2) (n := (i : Int)) (by omega) (pow_ok h)
  rw [Int.toNat_natCast] at this; exact this
section
variable {c : Cx} (W : W0 c)
include W
theorem fn_near {n : Nat} {ties : List (Nat × Nat)} (hn : n ≤ 100) : Fn c 1 "_law_near" [.int (n : Nat), tiesD ties] (.list ((List.range n).map fun i => .int (nearAt n ties i))) :=
  Fn.of2 (x1 := "size") (x2 := "ties") (f := 213) (C := []) W (by kernel_rfl) rfl rfl rfl ⟨rfl, rfl, rfl, rfl, rfl, rfl, by kernel_rfl, by decide, by decide, by decide, bind2 fun _ _ => rfl⟩
    (Ex.ret (Ev.comp (ρ' := [("size", .int (n : Nat)), ("ties", tiesD ties)]) (C' := ["i"]) (ds := rng 0 n) rfl (Its.range1 n (Ev.name (by repeat (first | with_reducible exact List.mem_cons_self | with_reducible apply List.mem_cons_of_mem))) (g_range W) (b_range W) (by omega) (by omega) (by omega)) (Blk.of (fun _ h => h) (by kernel_rfl))
      (CL.mapN n _ rfl (fun g h => nomatch h) (rng_len 0 n) (fun i d hi hd => by
        rw [rng_at hd, Int.zero_add]
        exact It.emit1 (r := .int (nearAt n ties i)) (.inr (by decide)) (by repeat (first | exact ne_nil | refine ne_cons (by decide) ?_)) TsI.nil
          (Ev.bin (Ev.bin Ev.int (Ev.name (by repeat (first | with_reducible exact List.mem_cons_self | with_reducible apply List.mem_cons_of_mem))) (Op2.pow2 (by omega)))
            (Ev.callB (EvL.cons (Ev.conv (d' := .list ((nearRow n ties i).map .int)) (Ev.comp (ρ' := [("i", .int (i : Nat)), ("ties", tiesD ties)]) (C' := []) (ds := rng 0 n) rfl (Its.range1 n (Ev.name (by repeat (first | with_reducible exact List.mem_cons_self | with_reducible apply List.mem_cons_of_mem))) (g_range W) (b_range W) (by omega) (by omega) (by omega)) (Blk.of (by repeat (first | exact sub_nil | refine sub_cons (by repeat (first | with_reducible exact List.mem_cons_self | with_reducible apply List.mem_cons_of_mem)) ?_)) (by kernel_rfl))
                (CL.filtN n (tied ties i) (fun j => .int (2 ^ j)) rfl (fun g h => nomatch h) (rng_len 0 n)
                  (fun j d hj hd q => by
                    rw [rng_at hd, Int.zero_add]
                    exact It.emit1 (.inl (by kernel_rfl)) (by repeat (first | exact ne_nil | refine ne_cons (by decide) ?_)) (TsI.one (Ts.conv (Ts.bool (TsA.or (Ts.cmp (Ev.tuple (EvL.cons (Ev.name (by repeat (first | with_reducible exact List.mem_cons_self | with_reducible apply List.mem_cons_of_mem))) (EvL.cons (Ev.name (by repeat (first | with_reducible exact List.mem_cons_self | with_reducible apply List.mem_cons_of_mem))) EvL.nil))) (Ev.name (by repeat (first | with_reducible exact List.mem_cons_self | with_reducible apply List.mem_cons_of_mem))) (Op2.inList (ties_shaped ties) rfl)) (fun _ => TsA.or (Ts.cmp (Ev.tuple (EvL.cons (Ev.name (by repeat (first | with_reducible exact List.mem_cons_self | with_reducible apply List.mem_cons_of_mem))) (EvL.cons (Ev.name (by repeat (first | with_reducible exact List.mem_cons_self | with_reducible apply List.mem_cons_of_mem))) EvL.nil))) (Ev.name (by repeat (first | with_reducible exact List.mem_cons_self | with_reducible apply List.mem_cons_of_mem))) (Op2.inList (ties_shaped ties) rfl)) (fun _ => TsA.nilO)))) (by rw [any_pair, any_pair, Bool.or_false]; exact q))) (Ev.bin Ev.int (Ev.name (by repeat (first | with_reducible exact List.mem_cons_self | with_reducible apply List.mem_cons_of_mem))) (Op2.pow2 (by omega))) rfl)
                  (fun j d hj hd q => by
                    rw [rng_at hd, Int.zero_add]
                    exact It.skip1 (.inl (by kernel_rfl)) (by repeat (first | exact ne_nil | refine ne_cons (by decide) ?_)) (TsI.one (Ts.conv (Ts.bool (TsA.or (Ts.cmp (Ev.tuple (EvL.cons (Ev.name (by repeat (first | with_reducible exact List.mem_cons_self | with_reducible apply List.mem_cons_of_mem))) (EvL.cons (Ev.name (by repeat (first | with_reducible exact List.mem_cons_self | with_reducible apply List.mem_cons_of_mem))) EvL.nil))) (Ev.name (by repeat (first | with_reducible exact List.mem_cons_self | with_reducible apply List.mem_cons_of_mem))) (Op2.inList (ties_shaped ties) rfl)) (fun _ => TsA.or (Ts.cmp (Ev.tuple (EvL.cons (Ev.name (by repeat (first | with_reducible exact List.mem_cons_self | with_reducible apply List.mem_cons_of_mem))) (EvL.cons (Ev.name (by repeat (first | with_reducible exact List.mem_cons_self | with_reducible apply List.mem_cons_of_mem))) EvL.nil))) (Ev.name (by repeat (first | with_reducible exact List.mem_cons_self | with_reducible apply List.mem_cons_of_mem))) (Op2.inList (ties_shaped ties) rfl)) (fun _ => TsA.nilO)))) (by rw [any_pair, any_pair, Bool.or_false]; exact q)))))
                (by rw [List.length_map]; exact Nat.le_trans (List.length_filter_le _ _) (by rw [List.length_range]; omega))) (by unfold nearRow; rw [List.map_map]; rfl)) EvL.nil) (g_sum W) (b_sum W) Bi.sum) Op2.add) rfl))
      (by rw [List.length_map, List.length_range]; omega)))
end

end Mine
namespace Mine
/-! _law_away -/
section
variable {c : Cx} {m : Nat} {T : Tab} {C : List Str} {ρ ρ' : Vars} {elt : PySem.Expr} {sc : Scope} {pos : Pos} {target iter : PySem.Expr} {ifs : List PySem.Expr}
theorem flat_idx {α β : Type} (xs : List α) (f : α → List β) (d : α) : (List.range xs.length).flatMap (fun i => f (xs.getD i d)) = xs.flatMap f := by
  have h : xs = (List.range xs.length).map fun i => xs.getD i d := by
    apply List.ext_getElem
    · rw [List.length_map, List.length_range]
    · intro i h1 h2; rw [List.getElem_map, List.getElem_range, List.getD_eq_getElem?_getD, List.getElem?_eq_getElem h1]; rfl
  conv => rhs; rw [h]
  rw [List.flatMap_map]
theorem CL.ofAll {gens : List Comprehension} {k : Nat} (xs : List PyData) (f : PyData → List PyData) (hg : gens[k]? = some ⟨target, iter, ifs, 0⟩) (hn : ∀ g, gens[k + 1]? = some g → g.is_async = 0)
    (h : ∀ d ∈ xs, It c m T C elt gens sc pos k target ifs ρ d (f d)) : CL c m T C elt gens sc pos k ρ xs (xs.flatMap f) := by
  have := CL.intro (c := c) (m := m) (T := T) (C := C) (ρ := ρ) (elt := elt) (sc := sc) (pos := pos) (ds := xs) (fun i => f (xs.getD i .none)) hg hn (fun i d hd => by
    obtain ⟨hi, e⟩ := List.getElem?_eq_some_iff.mp hd
    have e2 : xs.getD i .none = d := by rw [List.getD_eq_getElem?_getD, hd]; rfl
    show It _ _ _ _ _ _ _ _ _ _ _ _ _ (f (xs.getD i .none))
    rw [e2]; exact h d (by rw [← e]; exact List.getElem_mem hi))
  rw [flat_idx xs f] at this; exact this
/-- a loop over ints -/
theorem CL.ints {gens : List Comprehension} {k : Nat} (xs : List Int) (f : Int → List PyData) (hg : gens[k]? = some ⟨target, iter, ifs, 0⟩) (hn : ∀ g, gens[k + 1]? = some g → g.is_async = 0)
    (h : ∀ x ∈ xs, It c m T C elt gens sc pos k target ifs ρ (.int x) (f x)) : CL c m T C elt gens sc pos k ρ (xs.map .int) (xs.flatMap f) := by
  have := CL.ofAll (c := c) (m := m) (T := T) (C := C) (ρ := ρ) (elt := elt) (sc := sc) (pos := pos) (xs.map .int) (fun d => match d with | .int x => f x | _ => []) hg hn (fun d hd => by
    obtain ⟨x, hx, rfl⟩ := List.mem_map.mp hd
    exact h x hx)
  rw [List.flatMap_map] at this; exact this
theorem flat_one {α β : Type} (g : α → β) : ∀ xs : List α, (xs.flatMap fun x => [g x]) = xs.map g
  | [] => rfl
  | x :: xs => by rw [List.flatMap_cons, flat_one g xs]; rfl
theorem flat_filter {α β : Type} (p : α → Bool) (g : α → β) : ∀ xs : List α, (xs.flatMap fun x => if p x then [g x] else []) = (xs.filter p).map g
  | [] => rfl
  | x :: xs => by rw [List.flatMap_cons, flat_filter p g xs]; cases q : p x <;> simp [q]
theorem CL.intsMap {gens : List Comprehension} {k : Nat} (xs : List Int) (f : Int → PyData) (hg : gens[k]? = some ⟨target, iter, ifs, 0⟩) (hn : ∀ g, gens[k + 1]? = some g → g.is_async = 0)
    (h : ∀ x ∈ xs, It c m T C elt gens sc pos k target ifs ρ (.int x) [f x]) : CL c m T C elt gens sc pos k ρ (xs.map .int) (xs.map f) := by
  have := CL.ints (c := c) (m := m) (T := T) (C := C) (ρ := ρ) (elt := elt) (sc := sc) (pos := pos) xs (fun x => [f x]) hg hn h
  rw [flat_one] at this; exact this
theorem CL.intsFilter {gens : List Comprehension} {k : Nat} (xs : List Int) (p : Int → Bool) (f : Int → PyData) (hg : gens[k]? = some ⟨target, iter, ifs, 0⟩) (hn : ∀ g, gens[k + 1]? = some g → g.is_async = 0)
    (h1 : ∀ x ∈ xs, p x = true → It c m T C elt gens sc pos k target ifs ρ (.int x) [f x]) (h2 : ∀ x ∈ xs, p x = false → It c m T C elt gens sc pos k target ifs ρ (.int x) []) : CL c m T C elt gens sc pos k ρ (xs.map .int) ((xs.filter p).map f) := by
  have := CL.ints (c := c) (m := m) (T := T) (C := C) (ρ := ρ) (elt := elt) (sc := sc) (pos := pos) xs (fun x => if p x then [f x] else []) hg hn (fun x hx => by
    cases q : p x with
    | true => exact h1 x hx q
    | false => exact h2 x hx q)
  rw [flat_filter] at this; exact this
end
/-! the spec -/
def comms (n : Nat) : List Int → List Int → List Int
  | [], l => l
  | mk :: ms, l => comms n ms (l ++ l.map fun ch => Builtin.bitAnd ch (2 ^ n - 1 - mk))
def cnts : List Int → List Int → List Int
  | [], l => l
  | _ :: ms, l => cnts ms (l ++ l.map (· + 1))
def masksL (n : Nat) (ties : List (Nat × Nat)) : List Int := (List.range n).map (nearAt n ties)
def commL (n : Nat) (ties : List (Nat × Nat)) : List Int := comms n (masksL n ties) [2 ^ n - 1]
def cntL (n : Nat) (ties : List (Nat × Nat)) : List Int := cnts (masksL n ties) [0]
def parL (n : Nat) (ties : List (Nat × Nat)) (r : Int) : List Int := ((List.range (2 ^ n - 1)).filter fun i => decide (((cntL n ties).getD (i + 1) 0).fmod 2 = r)).map fun i => ((i + 1 : Nat) : Int)
def reachB (n : Nat) (ties : List (Nat × Nat)) (one other : Int) : Bool := decide (one < other) && decide (Builtin.bitAnd other ((commL n ties).getD one.toNat 0) = other)
def pairsL (n : Nat) (ties : List (Nat × Nat)) (xs : List Int) : List Int := xs.flatMap fun one => (xs.filter (reachB n ties one)).map fun _ => one
def away (n : Nat) (ties : List (Nat × Nat)) : Int := ((pairsL n ties (parL n ties 0)).length : Int) - ((pairsL n ties (parL n ties 1)).length : Int)

theorem comms_len (n : Nat) : ∀ ms l, (comms n ms l).length = 2 ^ ms.length * l.length
  | [], l => by simp [comms]
  | mk :: ms, l => by rw [comms, comms_len n ms]; simp [Nat.pow_succ]; rw [Nat.mul_assoc, Nat.two_mul]
theorem cnts_len : ∀ ms l, (cnts ms l).length = 2 ^ ms.length * l.length
  | [], l => by simp [cnts]
  | mk :: ms, l => by rw [cnts, cnts_len ms]; simp [Nat.pow_succ]; rw [Nat.mul_assoc, Nat.two_mul]
theorem masksL_len (n : Nat) (ties) : (masksL n ties).length = n := by unfold masksL; rw [List.length_map, List.length_range]
theorem commL_len (n ties) : (commL n ties).length = 2 ^ n := by unfold commL; rw [comms_len, masksL_len]; simp
theorem cntL_len (n ties) : (cntL n ties).length = 2 ^ n := by unfold cntL; rw [cnts_len, masksL_len]; simp
theorem parL_mem {n ties r x} (h : x ∈ parL n ties r) : 1 ≤ x ∧ x.toNat < 2 ^ n := by
  unfold parL at h
  obtain ⟨i, hi, rfl⟩ := List.mem_map.mp h
  have := List.mem_range.mp (List.mem_filter.mp hi).1
  rw [Int.toNat_natCast]
  generalize 2 ^ n = k at this ⊢
  omega
theorem parL_len (n ties r) : (parL n ties r).length ≤ 2 ^ n := by
  unfold parL; rw [List.length_map]
  exact Nat.le_trans (List.length_filter_le _ _) (by rw [List.length_range]; exact Nat.sub_le _ _)
theorem pairsL_len (n ties) (xs : List Int) : (pairsL n ties xs).length ≤ xs.length * xs.length := by
  unfold pairsL
  have : ∀ ys : List Int, (ys.flatMap fun one => (xs.filter (reachB n ties one)).map fun _ => one).length ≤ ys.length * xs.length := fun ys => by
    induction ys with
    | nil => simp
    | cons y ys ih =>
      rw [List.flatMap_cons, List.length_append, List.length_map, List.length_cons, Nat.succ_mul]
      have := List.length_filter_le (reachB n ties y) xs
      omega
  exact this xs
theorem pow_le10 {n : Nat} (h : n ≤ 10) : 2 ^ n ≤ 1024 := Nat.le_trans (Nat.pow_le_pow_right (by decide) h) (by decide)

theorem seq_get {xs : List Int} {i : Int} (h0 : 0 ≤ i) (h : i.toNat < xs.length) : seqIndex? i (xs.map PyData.int).length = some i.toNat ∧ (xs.map PyData.int)[i.toNat]? = some (.int (xs.getD i.toNat 0)) := by
  constructor
  · unfold seqIndex?
    rw [List.length_map]
    have e : (if i < 0 then i + (xs.length : Int) else i) = i := if_neg (by omega)
    have e2 : (decide (0 ≤ i) && decide (i < (xs.length : Int))) = true := by rw [Bool.and_eq_true]; exact ⟨decide_eq_true h0, decide_eq_true (by omega)⟩
    simp only [e, e2, if_true]
  · rw [List.getElem?_map, List.getElem?_eq_getElem h, List.getD_eq_getElem?_getD, List.getElem?_eq_getElem h]; rfl
theorem Ev.intAt {c : Cx} {m : Nat} {T : Tab} {ρ : Vars} {value slice : PySem.Expr} {pos : Pos} {xs : List Int} {i : Int} (h1 : Ev c m T ρ value (.list (xs.map .int))) (h2 : Ev c m T ρ slice (.int i)) (h0 : 0 ≤ i) (h : i.toNat < xs.length) (hl : xs.length < 2 ^ 62)
    (hs : ∀ o i, subscripted slice false o i = operate [o, i] (getItem o i) := by intro _ _; rfl) : Ev c m T ρ (.Subscript value slice pos) (.int (xs.getD i.toNat 0)) :=
  Ev.itemL h1 h2 (seq_get h0 h).1 (seq_get h0 h).2 (by rw [List.length_map]; exact hl) hs

end Mine
namespace Mine
theorem CL.outC {c : Cx} {m : Nat} {T : Tab} {C : List Str} {ρ : Vars} {elt : PySem.Expr} {gens : List Comprehension} {sc : Scope} {pos : Pos} {k : Nat} {ds out out' : List PyData} (h : CL c m T C elt gens sc pos k ρ ds out) (e : out = out') : CL c m T C elt gens sc pos k ρ ds out' := e ▸ h
abbrev LI (l : List Int) : PyData := .list (l.map .int)
abbrev VAw (n : Nat) (ties : List (Nat × Nat)) (l k : List Int) : Vars := [("counts", LI k), ("common", LI l), ("size", .int (n : Nat)), ("ties", tiesD ties)]
theorem fh_away {c : Cx} {m : Nat} {T : Tab} {C : List Str} {n : Nat} {ties : List (Nat × Nat)} {body : List PySem.Stmt} (B : Nat)
    (hb : ∀ mk (l k : List Int), l.length ≤ B → k.length ≤ B → Ex c m T C (("mask", .int mk) :: VAw n ties l k) none body (.next (VAw n ties (l ++ l.map fun ch => Builtin.bitAnd ch (2 ^ n - 1 - mk)) (k ++ k.map (· + 1))) none)) :
    ∀ (ms l k : List Int), 2 ^ ms.length * l.length ≤ B → 2 ^ ms.length * k.length ≤ B → Fh c m T C "mask" body (ms.map .int) (VAw n ties l k) none (.next (VAw n ties (comms n ms l) (cnts ms k)) none)
  | [], l, k, _, _ => Fh.nil (by repeat (first | exact ne_nil | refine ne_cons (by decide) ?_)) own_none
  | mk :: ms, l, k, h1, h2 => by
    have e : ∀ x : Nat, 2 ^ (ms.length + 1) * x = 2 ^ ms.length * (x + x) := fun x => by rw [Nat.pow_succ, Nat.mul_assoc, Nat.two_mul]
    have p : 1 ≤ 2 ^ ms.length := Nat.one_le_two_pow
    have q : ∀ x : Nat, x ≤ 2 ^ (ms.length + 1) * x := fun x => by
      rw [e]; exact Nat.le_trans (by omega) (Nat.le_mul_of_pos_left (x + x) p)
    refine Fh.step (by repeat (first | exact ne_nil | refine ne_cons (by decide) ?_)) own_none (hb mk l k (Nat.le_trans (q _) h1) (Nat.le_trans (q _) h2)) (fh_away B hb ms _ _ ?_ ?_)
    · rw [List.length_append, List.length_map, ← e]; exact h1
    · rw [List.length_append, List.length_map, ← e]; exact h2
theorem two_pow_nat (n : Nat) : ((2 : Int) ^ n - 1).toNat = 2 ^ n - 1 := by
  have : ((2 ^ n : Nat) : Int) = (2 : Int) ^ n := by simp
  have := Nat.two_pow_pos n
  omega
theorem par_out (n ties r) : (((List.range (2 ^ n - 1)).filter fun i => decide (((cntL n ties).getD (i + 1) 0).fmod 2 = r)).map fun i => PyData.int ((i + 1 : Nat) : Int)) = (parL n ties r).map .int := by
  unfold parL; rw [List.map_map]; rfl
theorem pairs_out (n ties) (xs : List Int) : (xs.flatMap fun one => (xs.filter (reachB n ties one)).map fun _ => PyData.int one) = (pairsL n ties xs).map .int := by
  unfold pairsL; rw [List.map_flatMap]
  congr 1; funext one; rw [List.map_map]; rfl
section
variable {c : Cx} (W : W0 c)
include W
theorem fn_away {n : Nat} {ties : List (Nat × Nat)} (hn : n ≤ 10) : Fn c 2 "_law_away" [.int (n : Nat), tiesD ties] (.int (away n ties)) := by
  have hp := pow_le10 hn
  have hi : (2 : Int) ^ n = ((2 ^ n : Nat) : Int) := by simp
  have hc := commL_len n ties
  have hk := cntL_len n ties
  have h0 := parL_len n ties 0
  have h1 := parL_len n ties 1
  have P : ∀ {x : Nat} , x ≤ 2 ^ n → x * x ≤ 8388608 := fun {x} h => Nat.le_trans (Nat.mul_le_mul (Nat.le_trans h hp) (Nat.le_trans h hp)) (by decide)
  have g0 : (pairsL n ties (parL n ties 0)).length ≤ 8388608 := Nat.le_trans (pairsL_len _ _ _) (P h0)
  have g1 : (pairsL n ties (parL n ties 1)).length ≤ 8388608 := Nat.le_trans (pairsL_len _ _ _) (P h1)
  refine Fn.of2 (x1 := "size") (x2 := "ties") (f := 218) (C := ["common", "counts", "mask", "even", "odd"]) W (by kernel_rfl) rfl rfl rfl ⟨rfl, rfl, rfl, rfl, rfl, rfl, by kernel_rfl, by decide, by decide, by decide, bind2 fun _ _ => rfl⟩ ?_
  refine Ex.cons (X1.assign (d := LI [2 ^ n - 1]) (ρ' := [("size", .int (n : Nat)), ("ties", tiesD ties)]) (Ev.list (EvL.cons (Ev.bin (Ev.bin Ev.int (Ev.name (by repeat (first | with_reducible exact List.mem_cons_self | with_reducible apply List.mem_cons_of_mem))) (Op2.pow2 (by omega))) Ev.int Op2.sub) EvL.nil)) (.inr (by decide)) (fun _ h => h) (by repeat (first | exact ne_nil | refine ne_cons (by decide) ?_)) own_none) ?_
  refine Ex.cons (X1.assign (d := LI [0]) (ρ' := [("common", LI [2 ^ n - 1]), ("size", .int (n : Nat)), ("ties", tiesD ties)]) (Ev.list (EvL.cons Ev.int EvL.nil)) (.inr (by decide)) (fun _ h => h) (by repeat (first | exact ne_nil | refine ne_cons (by decide) ?_)) own_none) ?_
  refine Ex.cons (ρ₁ := VAw n ties (commL n ties) (cntL n ties)) (ω₁ := none) (X1.forI (ds := (masksL n ties).map .int) (Its.list (Ev.conv (Ev.call (EvL.cons (Ev.name (by repeat (first | with_reducible exact List.mem_cons_self | with_reducible apply List.mem_cons_of_mem))) (EvL.cons (Ev.name (by repeat (first | with_reducible exact List.mem_cons_self | with_reducible apply List.mem_cons_of_mem))) EvL.nil)) (fn_near W (ties := ties) (n := n) (by omega))) (by unfold masksL; rw [List.map_map]; rfl))) (.inr (by decide)) (fh_away 1024 (fun mk l k hl hk => ?_) _ _ _ (by rw [masksL_len]; simpa using hp) (by rw [masksL_len]; simpa using hp))) ?_
  · refine Ex.cons (X1.assign (d := LI (l ++ l.map fun ch => Builtin.bitAnd ch (2 ^ n - 1 - mk))) (ρ' := [("mask", .int mk), ("counts", LI k), ("size", .int (n : Nat)), ("ties", tiesD ties)])
      (Ev.conv (Ev.bin (Ev.name (by repeat (first | with_reducible exact List.mem_cons_self | with_reducible apply List.mem_cons_of_mem))) (Ev.comp (ρ' := [("mask", .int mk), ("size", .int (n : Nat))]) (C' := []) (ds := l.map .int) rfl (Its.list (Ev.name (by repeat (first | with_reducible exact List.mem_cons_self | with_reducible apply List.mem_cons_of_mem)))) (Blk.of (by repeat (first | exact sub_nil | refine sub_cons (by repeat (first | with_reducible exact List.mem_cons_self | with_reducible apply List.mem_cons_of_mem)) ?_)) (by kernel_rfl)) (CL.intsMap l (fun ch => .int (Builtin.bitAnd ch (2 ^ n - 1 - mk))) rfl (fun g h => nomatch h) (fun x hx => It.emit1 (.inl (by kernel_rfl)) (by repeat (first | exact ne_nil | refine ne_cons (by decide) ?_)) TsI.nil (Ev.bin (Ev.name (by repeat (first | with_reducible exact List.mem_cons_self | with_reducible apply List.mem_cons_of_mem))) (Ev.bin (Ev.bin (Ev.bin Ev.int (Ev.name (by repeat (first | with_reducible exact List.mem_cons_self | with_reducible apply List.mem_cons_of_mem))) (Op2.pow2 (by omega))) Ev.int Op2.sub) (Ev.name (by repeat (first | with_reducible exact List.mem_cons_self | with_reducible apply List.mem_cons_of_mem))) Op2.sub) Op2.and) rfl)) (by rw [List.length_map]; omega)) (Op2.addList (by rw [List.length_map, List.length_map]; have e : sizeLine = 16777216 := rfl; omega))) (by show _ = PyData.list (List.map PyData.int _); rw [List.map_append, List.map_map]; rfl)) (.inr (by decide)) (by repeat (first | exact sub_nil | refine sub_cons (by repeat (first | with_reducible exact List.mem_cons_self | with_reducible apply List.mem_cons_of_mem)) ?_)) (by repeat (first | exact ne_nil | refine ne_cons (by decide) ?_)) own_none) ?_
    refine Ex.cons (X1.assign (d := LI (k ++ k.map (· + 1))) (ρ' := [("common", LI (l ++ l.map fun ch => Builtin.bitAnd ch (2 ^ n - 1 - mk))), ("size", .int (n : Nat)), ("ties", tiesD ties)])
      (Ev.conv (Ev.bin (Ev.name (by repeat (first | with_reducible exact List.mem_cons_self | with_reducible apply List.mem_cons_of_mem))) (Ev.comp (ρ' := []) (C' := []) (ds := k.map .int) rfl (Its.list (Ev.name (by repeat (first | with_reducible exact List.mem_cons_self | with_reducible apply List.mem_cons_of_mem)))) (Blk.of (by repeat (first | exact sub_nil | refine sub_cons (by repeat (first | with_reducible exact List.mem_cons_self | with_reducible apply List.mem_cons_of_mem)) ?_)) (by kernel_rfl)) (CL.intsMap k (fun x => .int (x + 1)) rfl (fun g h => nomatch h) (fun x hx => It.emit1 (.inl (by kernel_rfl)) (by repeat (first | exact ne_nil | refine ne_cons (by decide) ?_)) TsI.nil (Ev.bin (Ev.name (by repeat (first | with_reducible exact List.mem_cons_self | with_reducible apply List.mem_cons_of_mem))) Ev.int Op2.add) rfl)) (by rw [List.length_map]; omega)) (Op2.addList (by rw [List.length_map, List.length_map]; have e : sizeLine = 16777216 := rfl; omega))) (by show _ = PyData.list (List.map PyData.int _); rw [List.map_append, List.map_map]; rfl)) (.inr (by decide)) (by repeat (first | exact sub_nil | refine sub_cons (by repeat (first | with_reducible exact List.mem_cons_self | with_reducible apply List.mem_cons_of_mem)) ?_)) (by repeat (first | exact ne_nil | refine ne_cons (by decide) ?_)) own_none) Ex.nil
  refine Ex.cons (X1.assignC (x := "even") (d := LI (parL n ties 0)) (ρ' := VAw n ties (commL n ties) (cntL n ties)) (Ev.comp (out := (parL n ties 0).map .int) (ρ' := [("counts", LI (cntL n ties))]) (C' := []) (ds := rng 1 (2 ^ n - 1)) rfl (Its.range2 (2 ^ n - 1) Ev.int (Ev.bin Ev.int (Ev.name (by repeat (first | with_reducible exact List.mem_cons_self | with_reducible apply List.mem_cons_of_mem))) (Op2.pow2 (by omega))) (g_range W) (b_range W) (by omega) (by omega) (by omega) (by omega) (two_pow_nat n)) (Blk.of (by repeat (first | exact sub_nil | refine sub_cons (by repeat (first | with_reducible exact List.mem_cons_self | with_reducible apply List.mem_cons_of_mem)) ?_)) (by kernel_rfl))
    (CL.outC (CL.filtN (2 ^ n - 1) (fun i => decide (((cntL n ties).getD (i + 1) 0).fmod 2 = 0)) (fun i => .int ((i + 1 : Nat) : Int)) rfl (fun g h => nomatch h) (rng_len _ _)
      (fun i d hi hd q => by
        rw [rng_at hd, show (1 : Int) + (i : Nat) = ((i + 1 : Nat) : Int) by omega]
        exact It.emit1 (.inl (by kernel_rfl)) (by repeat (first | exact ne_nil | refine ne_cons (by decide) ?_)) (TsI.one (Ts.conv (Ts.cmp (Ev.bin (Ev.intAt (Ev.name (by repeat (first | with_reducible exact List.mem_cons_self | with_reducible apply List.mem_cons_of_mem))) (Ev.name (by repeat (first | with_reducible exact List.mem_cons_self | with_reducible apply List.mem_cons_of_mem))) (by omega) (by rw [Int.toNat_natCast, hk]; omega) (by rw [hk]; omega)) Ev.int (Op2.mod (by decide))) Ev.int Op2.eqI) (by rw [Int.toNat_natCast]; exact q))) (Ev.name (by repeat (first | with_reducible exact List.mem_cons_self | with_reducible apply List.mem_cons_of_mem))) rfl)
      (fun i d hi hd q => by
        rw [rng_at hd, show (1 : Int) + (i : Nat) = ((i + 1 : Nat) : Int) by omega]
        exact It.skip1 (.inl (by kernel_rfl)) (by repeat (first | exact ne_nil | refine ne_cons (by decide) ?_)) (TsI.one (Ts.conv (Ts.cmp (Ev.bin (Ev.intAt (Ev.name (by repeat (first | with_reducible exact List.mem_cons_self | with_reducible apply List.mem_cons_of_mem))) (Ev.name (by repeat (first | with_reducible exact List.mem_cons_self | with_reducible apply List.mem_cons_of_mem))) (by omega) (by rw [Int.toNat_natCast, hk]; omega) (by rw [hk]; omega)) Ev.int (Op2.mod (by decide))) Ev.int Op2.eqI) (by rw [Int.toNat_natCast]; exact q))))) (par_out n ties 0)) (by rw [List.length_map]; omega)) (.inr (by decide)) (fun _ h => h) (by repeat (first | exact ne_nil | refine ne_cons (by decide) ?_)) own_none (fun env h1 h2 => by cases env with | mk scope l g ce q f cd fr bu => cases scope with | mk sk sn s3 s4 s5 => (simp only at h1 h2; subst h1 h2; rfl))) ?_
  refine Ex.cons (X1.assignC (x := "odd") (d := LI (parL n ties 1)) (ρ' := ("even", LI (parL n ties 0)) :: VAw n ties (commL n ties) (cntL n ties)) (Ev.comp (out := (parL n ties 1).map .int) (ρ' := [("counts", LI (cntL n ties))]) (C' := []) (ds := rng 1 (2 ^ n - 1)) rfl (Its.range2 (2 ^ n - 1) Ev.int (Ev.bin Ev.int (Ev.name (by repeat (first | with_reducible exact List.mem_cons_self | with_reducible apply List.mem_cons_of_mem))) (Op2.pow2 (by omega))) (g_range W) (b_range W) (by omega) (by omega) (by omega) (by omega) (two_pow_nat n)) (Blk.of (by repeat (first | exact sub_nil | refine sub_cons (by repeat (first | with_reducible exact List.mem_cons_self | with_reducible apply List.mem_cons_of_mem)) ?_)) (by kernel_rfl))
    (CL.outC (CL.filtN (2 ^ n - 1) (fun i => decide (((cntL n ties).getD (i + 1) 0).fmod 2 = 1)) (fun i => .int ((i + 1 : Nat) : Int)) rfl (fun g h => nomatch h) (rng_len _ _)
      (fun i d hi hd q => by
        rw [rng_at hd, show (1 : Int) + (i : Nat) = ((i + 1 : Nat) : Int) by omega]
        exact It.emit1 (.inl (by kernel_rfl)) (by repeat (first | exact ne_nil | refine ne_cons (by decide) ?_)) (TsI.one (Ts.conv (Ts.cmp (Ev.bin (Ev.intAt (Ev.name (by repeat (first | with_reducible exact List.mem_cons_self | with_reducible apply List.mem_cons_of_mem))) (Ev.name (by repeat (first | with_reducible exact List.mem_cons_self | with_reducible apply List.mem_cons_of_mem))) (by omega) (by rw [Int.toNat_natCast, hk]; omega) (by rw [hk]; omega)) Ev.int (Op2.mod (by decide))) Ev.int Op2.eqI) (by rw [Int.toNat_natCast]; exact q))) (Ev.name (by repeat (first | with_reducible exact List.mem_cons_self | with_reducible apply List.mem_cons_of_mem))) rfl)
      (fun i d hi hd q => by
        rw [rng_at hd, show (1 : Int) + (i : Nat) = ((i + 1 : Nat) : Int) by omega]
        exact It.skip1 (.inl (by kernel_rfl)) (by repeat (first | exact ne_nil | refine ne_cons (by decide) ?_)) (TsI.one (Ts.conv (Ts.cmp (Ev.bin (Ev.intAt (Ev.name (by repeat (first | with_reducible exact List.mem_cons_self | with_reducible apply List.mem_cons_of_mem))) (Ev.name (by repeat (first | with_reducible exact List.mem_cons_self | with_reducible apply List.mem_cons_of_mem))) (by omega) (by rw [Int.toNat_natCast, hk]; omega) (by rw [hk]; omega)) Ev.int (Op2.mod (by decide))) Ev.int Op2.eqI) (by rw [Int.toNat_natCast]; exact q))))) (par_out n ties 1)) (by rw [List.length_map]; omega)) (.inr (by decide)) (fun _ h => h) (by repeat (first | exact ne_nil | refine ne_cons (by decide) ?_)) own_none (fun env h1 h2 => by cases env with | mk scope l g ce q f cd fr bu => cases scope with | mk sk sn s3 s4 s5 => (simp only at h1 h2; subst h1 h2; rfl))) ?_
  refine Ex.cons (X1.comp (y := "more") (out := (pairsL n ties (parL n ties 0)).map .int) (ρ₁ := ("odd", LI (parL n ties 1)) :: ("even", LI (parL n ties 0)) :: VAw n ties (commL n ties) (cntL n ties)) (ρ' := [("common", LI (commL n ties)), ("even", LI (parL n ties 0))]) (C' := []) (ds := (parL n ties 0).map .int) rfl (Its.list (Ev.name (by repeat (first | with_reducible exact List.mem_cons_self | with_reducible apply List.mem_cons_of_mem)))) (Blk.of (by repeat (first | exact sub_nil | refine sub_cons (by repeat (first | with_reducible exact List.mem_cons_self | with_reducible apply List.mem_cons_of_mem)) ?_)) (by kernel_rfl))
    (CL.outC (CL.ints (parL n ties 0) (fun one => ((parL n ties 0).filter (reachB n ties one)).map fun _ => .int one) rfl (fun g h => by cases h; rfl) (fun x hx => It.inner1 (.inl (by kernel_rfl)) (by repeat (first | exact ne_nil | refine ne_cons (by decide) ?_)) TsI.nil rfl (Its.list (Ev.name (by repeat (first | with_reducible exact List.mem_cons_self | with_reducible apply List.mem_cons_of_mem))))
      (CL.intsFilter (parL n ties 0) (reachB n ties x) (fun _ => .int x) rfl (fun g h => nomatch h)
        (fun y hy q => It.emit1 (.inl (by kernel_rfl)) (by repeat (first | exact ne_nil | refine ne_cons (by decide) ?_)) (TsI.one (Ts.conv (Ts.bool (TsA.and (Ts.cmp (Ev.name (by repeat (first | with_reducible exact List.mem_cons_self | with_reducible apply List.mem_cons_of_mem))) (Ev.name (by repeat (first | with_reducible exact List.mem_cons_self | with_reducible apply List.mem_cons_of_mem))) Op2.lt) (fun _ => TsA.and (Ts.cmp (Ev.bin (Ev.name (by repeat (first | with_reducible exact List.mem_cons_self | with_reducible apply List.mem_cons_of_mem))) (Ev.intAt (Ev.name (by repeat (first | with_reducible exact List.mem_cons_self | with_reducible apply List.mem_cons_of_mem))) (Ev.name (by repeat (first | with_reducible exact List.mem_cons_self | with_reducible apply List.mem_cons_of_mem))) (by have := parL_mem hx; omega) (by rw [hc]; exact (parL_mem hx).2) (by rw [hc]; omega)) Op2.and) (Ev.name (by repeat (first | with_reducible exact List.mem_cons_self | with_reducible apply List.mem_cons_of_mem))) Op2.eqI) (fun _ => TsA.nilA)))) (by rw [Bool.and_true]; exact q))) (Ev.name (by repeat (first | with_reducible exact List.mem_cons_self | with_reducible apply List.mem_cons_of_mem))) rfl)
        (fun y hy q => It.skip1 (.inl (by kernel_rfl)) (by repeat (first | exact ne_nil | refine ne_cons (by decide) ?_)) (TsI.one (Ts.conv (Ts.bool (TsA.and (Ts.cmp (Ev.name (by repeat (first | with_reducible exact List.mem_cons_self | with_reducible apply List.mem_cons_of_mem))) (Ev.name (by repeat (first | with_reducible exact List.mem_cons_self | with_reducible apply List.mem_cons_of_mem))) Op2.lt) (fun _ => TsA.and (Ts.cmp (Ev.bin (Ev.name (by repeat (first | with_reducible exact List.mem_cons_self | with_reducible apply List.mem_cons_of_mem))) (Ev.intAt (Ev.name (by repeat (first | with_reducible exact List.mem_cons_self | with_reducible apply List.mem_cons_of_mem))) (Ev.name (by repeat (first | with_reducible exact List.mem_cons_self | with_reducible apply List.mem_cons_of_mem))) (by have := parL_mem hx; omega) (by rw [hc]; exact (parL_mem hx).2) (by rw [hc]; omega)) Op2.and) (Ev.name (by repeat (first | with_reducible exact List.mem_cons_self | with_reducible apply List.mem_cons_of_mem))) Op2.eqI) (fun _ => TsA.nilA)))) (by rw [Bool.and_true]; exact q))))))) (pairs_out n ties _)) (by rw [List.length_map]; exact g0) (.inl (by kernel_rfl)) (fun _ h => h) (by repeat (first | exact ne_nil | refine ne_cons (by decide) ?_)) (fun env h1 h2 => by cases env with | mk scope l g ce q f cd fr bu => cases scope with | mk sk sn s3 s4 s5 => (simp only at h1 h2; subst h1 h2; rfl))) ?_
  refine Ex.cons (X1.comp (y := "less") (out := (pairsL n ties (parL n ties 1)).map .int) (ρ₁ := ("more", LI (pairsL n ties (parL n ties 0))) :: ("odd", LI (parL n ties 1)) :: ("even", LI (parL n ties 0)) :: VAw n ties (commL n ties) (cntL n ties)) (ρ' := [("common", LI (commL n ties)), ("odd", LI (parL n ties 1))]) (C' := []) (ds := (parL n ties 1).map .int) rfl (Its.list (Ev.name (by repeat (first | with_reducible exact List.mem_cons_self | with_reducible apply List.mem_cons_of_mem)))) (Blk.of (by repeat (first | exact sub_nil | refine sub_cons (by repeat (first | with_reducible exact List.mem_cons_self | with_reducible apply List.mem_cons_of_mem)) ?_)) (by kernel_rfl))
    (CL.outC (CL.ints (parL n ties 1) (fun one => ((parL n ties 1).filter (reachB n ties one)).map fun _ => .int one) rfl (fun g h => by cases h; rfl) (fun x hx => It.inner1 (.inl (by kernel_rfl)) (by repeat (first | exact ne_nil | refine ne_cons (by decide) ?_)) TsI.nil rfl (Its.list (Ev.name (by repeat (first | with_reducible exact List.mem_cons_self | with_reducible apply List.mem_cons_of_mem))))
      (CL.intsFilter (parL n ties 1) (reachB n ties x) (fun _ => .int x) rfl (fun g h => nomatch h)
        (fun y hy q => It.emit1 (.inl (by kernel_rfl)) (by repeat (first | exact ne_nil | refine ne_cons (by decide) ?_)) (TsI.one (Ts.conv (Ts.bool (TsA.and (Ts.cmp (Ev.name (by repeat (first | with_reducible exact List.mem_cons_self | with_reducible apply List.mem_cons_of_mem))) (Ev.name (by repeat (first | with_reducible exact List.mem_cons_self | with_reducible apply List.mem_cons_of_mem))) Op2.lt) (fun _ => TsA.and (Ts.cmp (Ev.bin (Ev.name (by repeat (first | with_reducible exact List.mem_cons_self | with_reducible apply List.mem_cons_of_mem))) (Ev.intAt (Ev.name (by repeat (first | with_reducible exact List.mem_cons_self | with_reducible apply List.mem_cons_of_mem))) (Ev.name (by repeat (first | with_reducible exact List.mem_cons_self | with_reducible apply List.mem_cons_of_mem))) (by have := parL_mem hx; omega) (by rw [hc]; exact (parL_mem hx).2) (by rw [hc]; omega)) Op2.and) (Ev.name (by repeat (first | with_reducible exact List.mem_cons_self | with_reducible apply List.mem_cons_of_mem))) Op2.eqI) (fun _ => TsA.nilA)))) (by rw [Bool.and_true]; exact q))) (Ev.name (by repeat (first | with_reducible exact List.mem_cons_self | with_reducible apply List.mem_cons_of_mem))) rfl)
        (fun y hy q => It.skip1 (.inl (by kernel_rfl)) (by repeat (first | exact ne_nil | refine ne_cons (by decide) ?_)) (TsI.one (Ts.conv (Ts.bool (TsA.and (Ts.cmp (Ev.name (by repeat (first | with_reducible exact List.mem_cons_self | with_reducible apply List.mem_cons_of_mem))) (Ev.name (by repeat (first | with_reducible exact List.mem_cons_self | with_reducible apply List.mem_cons_of_mem))) Op2.lt) (fun _ => TsA.and (Ts.cmp (Ev.bin (Ev.name (by repeat (first | with_reducible exact List.mem_cons_self | with_reducible apply List.mem_cons_of_mem))) (Ev.intAt (Ev.name (by repeat (first | with_reducible exact List.mem_cons_self | with_reducible apply List.mem_cons_of_mem))) (Ev.name (by repeat (first | with_reducible exact List.mem_cons_self | with_reducible apply List.mem_cons_of_mem))) (by have := parL_mem hx; omega) (by rw [hc]; exact (parL_mem hx).2) (by rw [hc]; omega)) Op2.and) (Ev.name (by repeat (first | with_reducible exact List.mem_cons_self | with_reducible apply List.mem_cons_of_mem))) Op2.eqI) (fun _ => TsA.nilA)))) (by rw [Bool.and_true]; exact q))))))) (pairs_out n ties _)) (by rw [List.length_map]; exact g1) (.inl (by kernel_rfl)) (fun _ h => h) (by repeat (first | exact ne_nil | refine ne_cons (by decide) ?_)) (fun env h1 h2 => by cases env with | mk scope l g ce q f cd fr bu => cases scope with | mk sk sn s3 s4 s5 => (simp only at h1 h2; subst h1 h2; rfl))) ?_
  exact Ex.ret (Ev.conv (Ev.bin (Ev.callB (EvL.cons (Ev.name (by repeat (first | with_reducible exact List.mem_cons_self | with_reducible apply List.mem_cons_of_mem))) EvL.nil) (g_len W) (b_len W) (Bi.lenList (by rw [List.length_map]; omega))) (Ev.callB (EvL.cons (Ev.name (by repeat (first | with_reducible exact List.mem_cons_self | with_reducible apply List.mem_cons_of_mem))) EvL.nil) (g_len W) (b_len W) (Bi.lenList (by rw [List.length_map]; omega))) Op2.sub) (by rw [List.length_map, List.length_map]; rfl))
end

end Mine
namespace Mine
/-! EXACT_TOKEN_TYPES -/
def tokL : List (List Nat × Int) := [([33], 54), ([33, 61], 28), ([37], 24), ([37, 61], 40), ([38], 19), ([38, 61], 41), ([40], 7), ([41], 8), ([42], 16), ([42, 42], 35), ([42, 42, 61], 46), ([42, 61], 38), ([43], 14), ([43, 61], 36), ([44], 12), ([45], 15), ([45, 61], 37), ([45, 62], 51), ([46], 23), ([46, 46, 46], 52), ([47], 17), ([47, 47], 47), ([47, 47, 61], 48), ([47, 61], 39), ([58], 11), ([58, 61], 53), ([59], 13), ([60], 20), ([60, 60], 33), ([60, 60, 61], 44), ([60, 61], 29), ([61], 22), ([61, 61], 27), ([62], 21), ([62, 61], 30), ([62, 62], 34), ([62, 62, 61], 45), ([64], 49), ([64, 61], 50), ([91], 9), ([93], 10), ([94], 32), ([94, 61], 43), ([123], 25), ([124], 18), ([124, 61], 42), ([125], 26), ([126], 31)]
def tokN (l : List Nat) : Option Int := (tokL.find? fun p => p.1 == l).map (·.2)
def tok (k : Str) : Option Int := tokN k.cps.toList
theorem tok_str (l : List Nat) : tok (strOf' l) = tokN l := rfl
noncomputable def dicEs (P : Params) : Array DictEntry := match (heapK P).lookup 143 with | some ⟨_, _, .dict es _, _⟩ => es | _ => #[]
noncomputable def dicN (P : Params) : Nat := match (heapK P).lookup 143 with | some ⟨_, _, .dict _ n, _⟩ => n | _ => 0
def rawE (e : DictEntry) : Option (List Nat × Tok × Int × Tok) := match e.key, e.val with | .str x t, .int i t' => some (x.cps.toList, t, i, t') | _, _ => none
def mkE (P : Params) (q : List Nat × Tok × Int × Tok) : DictEntry := ⟨PyData.keyHash P (strOf' q.1), .str (strOf' q.1) q.2.1, .int q.2.2.1 q.2.2.2⟩
noncomputable def dicL (P : Params) : List (List Nat × Tok × Int × Tok) := (dicEs P).toList.filterMap rawE
theorem raw_eq (P : Params) : (dicEs P).toList = (dicL P).map (mkE P) := by kernel_rfl
theorem raw_tok (P : Params) : (dicL P).map (fun q => (q.1, q.2.2.1)) = tokL := by kernel_rfl
theorem keys_lit (P : Params) : ∀ l : List (List Nat × Tok × Int × Tok), KeysLit P (l.map (mkE P))
  | [] => trivial
  | q :: l => ⟨⟨_, _, rfl, rfl⟩, keys_lit P l⟩
theorem find_lit (P : Params) (k : Str) : ∀ l : List (List Nat × Tok × Int × Tok), match ((l.map (mkE P)).find? fun e => Value.isStrOf k e.key).map (·.val) with
    | some v => ∃ i t, v = .int i t ∧ ((l.map fun q => (q.1, q.2.2.1)).find? fun p => p.1 == k.cps.toList).map (·.2) = some i
    | none => ((l.map fun q => (q.1, q.2.2.1)).find? fun p => p.1 == k.cps.toList).map (·.2) = none
  | [] => rfl
  | q :: l => by
    have e : Value.isStrOf k (mkE P q).key = (q.1 == k.cps.toList) := by
      show ((strOf' q.1 == k) : Bool) = _
      apply Bool.eq_iff_iff.mpr
      rw [beq_iff_eq, beq_iff_eq]
      constructor
      · rintro rfl; exact (strOf_list _).symm
      · intro h; unfold strOf'; rw [h]
    rw [List.map_cons, List.map_cons, List.find?_cons, List.find?_cons, e]
    cases h : (q.1 == k.cps.toList) with
    | true => exact ⟨_, _, rfl, rfl⟩
    | false => exact find_lit P k l
theorem dic_tok {c : Cx} (W : W0 c) : Dic c "EXACT_TOKEN_TYPES" tok := by
  refine ⟨143, dicEs c.w.params, dicN c.w.params, W.gv (by kernel_rfl), W.at (by kernel_rfl), ?_, by decide, fun k => ?_⟩
  · rw [raw_eq]; exact keys_lit _ _
  · have h := find_lit c.w.params k (dicL c.w.params)
    rw [raw_tok, ← raw_eq] at h
    unfold findBy
    rw [← Array.find?_toList]
    exact h
/-- what the cut tells -/
abbrev cut (l : List Nat) : List Int := sym tok l.length l ++ [0]
theorem fn_cut {c : Cx} (W : W0 c) {l : List Nat} (hl : l.length ≤ 1000) : Fn c 1 "_law_symbols" [.str (strOf' l)] (LI (cut l)) := by
  have := fn_symbols W (dic_tok W) hl
  have e : LI (cut l) = .list ((sym tok l.length l).map .int ++ [.int 0]) := by show PyData.list _ = _; rw [List.map_append]; rfl
  rw [e]; exact this

end Mine
namespace Mine
/-! the law's own def -/
noncomputable def lawFd (P : Params) : FuncData := match (heapK P).lookup 223 with | some ⟨_, _, .func fd, _⟩ => fd | _ => default
noncomputable def lawB (P : Params) : List PySem.Stmt := match (lawFd P).body with | .stmts b => b | _ => []
noncomputable def lawT (P : Params) : Tab := (lawFd P).scope.names
def lawC : List Str := ["script", "cells", "marks", "counts", "fills", "insides", "kinds", "replies", "told", "good", "words", "size", "due", "bound", "draw", "names", "page", "row", "order", "pairs", "costs", "free", "first", "second", "tell", "plain", "mask"]
theorem law_len (P : Params) : (lawB P).length = 57 := by kernel_rfl
noncomputable abbrev drawAt (c : Cx) (i : Nat) : List PySem.Stmt := (lawB c.w.params).drop i
abbrev LX (c : Cx) (ρ : Vars) (i : Nat) (out : Out) : Prop := Ex c 3 (lawT c.w.params) lawC ρ none (drawAt c i) out

section
variable {c : Cx} {m : Nat} {T : Tab} {C : List Str}
theorem unpackL {prog : Program} {w : World} {A : Around} {E : Value → Shared → Prop} {s : Shared} {env : Env} {elts : List PySem.Expr} {x1} {pos : Pos} {t : Addr} {items : Array Value} {Q : Unit → Shared → Prop} (hh : A.handled = none) (ht : s.heap.IsList t items)
    (hn : (assignEach elts env).length = items.size) (hstar : (assignEach elts env).findIdx? (·.1) = none)
    (h : ∀ h', Heap.ExtBut s.heap.objs.size s.heap h' → wpAny (model prog w) A (assignInOrder ((assignEach elts env).map (·.2)) items.toList) Q E { s with heap := h' }) :
    wpAny (model prog w) A (PySem.assign (.Tuple elts x1 pos) env (.ref t)) Q E s := by
  rw [arm_assign_Tuple]
  refine wpAny_bind (wpAny_standAt ?_)
  unfold unpack
  rw [hn, hstar]
  exact wpAny_bind (wpAny_holding (kun_itemsOf hh ht h))
theorem RBd.pairL {x y : Str} {p q pos : Pos} {n : Nat} {a b : PyData} (hk : T.lookup x = some .local ∨ x ∈ C) (hk' : T.lookup y = some .local ∨ y ∈ C) (hxy : x ≠ y) : RBd c m T C (.Tuple [.Name x p, .Name y q] n pos) (.list [a, b]) [(y, b), (x, a)] := fun {A n₀ P₀ O env ρ s v E Q} F W r hx k => by
  obtain ⟨t, vs, rfl, ht, ra⟩ := r.list_inv
  obtain ⟨u, w, e, ru, rw'⟩ := two_inv ra
  have ht' := isList_of_vis ht
  have hsz : vs.size = 2 := by rw [← Array.length_toList, e]; rfl
  refine unpackL F.hd ht' (by rw [hsz]; rfl) rfl fun h' he => ?_
  have e₁ : Ext (O ++ P₀) s { s with heap := h' } := .of_keeps (fun b o q => he b o (Nat.ne_of_lt (Heap.lt_size q)) q) rfl rfl
  rw [e]
  show wpAny _ A (holding [w] (PySem.assign (.Name x p) env u) >>= fun _ => holding [] (PySem.assign (.Name y q) env w) >>= fun _ => pure ()) Q E _
  refine wpAny_bind (wpAny_holding (wpAny_assign_Name (store_wp (F.ext e₁) (W.ext e₁) hk (ru.ext e₁) (fun p hp => hp) (fun p hp => hx p hp _ (.tail _ (.head _))) (fun _ _ e => nomatch e) fun s₂ k₂ vk sf F₂ W₂ =>
    wpAny_bind (wpAny_holding (wpAny_assign_Name (store_wp F₂ W₂ hk' ((rw'.ext e₁).mono vk) (fun p hp => hp) (fun p hp => ?_) (fun _ _ e => nomatch e) fun s₃ k₃ vk₃ sf₃ F₃ W₃ =>
      wpAny_pure (k s₃ (((e₁.kb W.above).trans k₂).trans k₃) (fun b o q => vk₃ _ _ (vk _ _ (e₁.vis b o q))) (fun b o q hq => sf₃ _ _ (sf _ _ (e₁.rest b o (fun es n => ?_) q) hq) hq) F₃ W₃)))))))
  · rcases List.mem_cons.mp hp with rfl | hp
    · exact hxy
    · exact hx p hp _ (.head _)
  · rcases hq with ⟨_, _, hq⟩ | ⟨_, hq⟩ <;> rw [hq] <;> exact fun e => nomatch e
theorem Bd.pairL {x y : Str} {p q pos : Pos} {n : Nat} {a b : PyData} (hk : T.lookup x = some .local ∨ x ∈ C) (hk' : T.lookup y = some .local ∨ y ∈ C) (hxy : x ≠ y) : Bd c m T C (.Tuple [.Name x p, .Name y q] n pos) (.list [a, b]) [(y, b), (x, a)] := ⟨RBd.pairL hk hk' hxy⟩
variable {ρ : Vars} {elt : PySem.Expr} {sc : Scope} {pos : Pos} {ifs : List PySem.Expr}
theorem It.emit2L {gens : List Comprehension} {k n : Nat} {x y : Str} {xp yp tp : Pos} {a b r : PyData} (hk : T.lookup x = some .local ∨ x ∈ C) (hk' : T.lookup y = some .local ∨ y ∈ C) (hxy : x ≠ y) (hx : ∀ p ∈ ρ, p.1 ≠ x) (hy : ∀ p ∈ ρ, p.1 ≠ y) (ht : TsI c m T ((y, b) :: (x, a) :: ρ) ifs true) (he : Ev c m T ((y, b) :: (x, a) :: ρ) elt r) (hn : gens[k + 1]? = none) : It c m T C elt gens sc pos k (.Tuple [.Name x xp, .Name y yp] n tp) ifs ρ (.list [a, b]) [r] :=
  It.emit (β := [(y, b), (x, a)]) (Bd.pairL hk hk' hxy) (dis2 hx hy) ht he hn
end

end Mine
namespace Mine
/-! lists told by place -/
abbrev RL (n : Nat) (f : Nat → PyData) : PyData := .list ((List.range n).map f)
theorem rl_at {α : Type} {n : Nat} {f : Nat → α} {i : Nat} {d : α} (h : ((List.range n).map f)[i]? = some d) : d = f i ∧ i < n := by
  rw [List.getElem?_map] at h
  cases q : (List.range n)[i]? with
  | none => rw [q] at h; cases h
  | some j =>
    obtain ⟨hlt, e⟩ := List.getElem?_eq_some_iff.mp q
    rw [List.getElem_range] at e
    rw [q] at h; cases h
    rw [List.length_range] at hlt
    exact ⟨by rw [e], hlt⟩
theorem rl_get {α : Type} {n : Nat} (f : Nat → α) {i : Nat} (h : i < n) : ((List.range n).map f)[i]? = some (f i) := by
  rw [List.getElem?_map, List.getElem?_range h]; rfl
theorem rl_len {α : Type} (n : Nat) (f : Nat → α) : ((List.range n).map f).length = n := by rw [List.length_map, List.length_range]
theorem map_rl {α β : Type} (l : List α) (d : α) (f : α → β) : l.map f = (List.range l.length).map fun i => f (l.getD i d) := by
  apply List.ext_getElem
  · rw [List.length_map, List.length_map, List.length_range]
  · intro i h1 h2
    rw [List.getElem_map, List.getElem_map, List.getElem_range, List.getD_eq_getElem?_getD, List.getElem?_eq_getElem (by rw [List.length_map] at h1; exact h1)]; rfl
theorem rng0 (n : Nat) : rng 0 n = (List.range n).map fun i : Nat => PyData.int (i : Nat) := by
  unfold rng; congr 1; funext i; rw [Int.zero_add]
section
variable {c : Cx} {m : Nat} {T : Tab} {C : List Str} {ρ ρ' : Vars} {elt : PySem.Expr} {sc : Scope} {pos : Pos} {target iter : PySem.Expr} {ifs : List PySem.Expr}
theorem Ev.rlAt {value slice : PySem.Expr} {n k : Nat} {f : Nat → PyData} (hk : k < n) (hn : n ≤ 1000) (h1 : Ev c m T ρ value (RL n f)) (h2 : Ev c m T ρ slice (.int (k : Nat)))
    (hs : ∀ o i, subscripted slice false o i = operate [o, i] (getItem o i) := by intro _ _; rfl) : Ev c m T ρ (.Subscript value slice pos) (f k) :=
  Ev.itemL h1 h2 (idx_at k (by rw [rl_len]; exact hk)) (rl_get f hk) (by rw [rl_len]; omega) hs
theorem idx_back {n k : Nat} (hk : k < n) : seqIndex? ((k : Int) - 1) n = some (if k = 0 then n - 1 else k - 1) := by
  unfold seqIndex?
  by_cases h : k = 0
  · subst h
    have e : (if ((0 : Nat) : Int) - 1 < 0 then ((0 : Nat) : Int) - 1 + (n : Int) else ((0 : Nat) : Int) - 1) = ((n - 1 : Nat) : Int) := by rw [if_pos (by omega)]; omega
    simp only [e, if_true]
    rw [if_pos (by rw [Bool.and_eq_true]; exact ⟨decide_eq_true (by omega), decide_eq_true (by omega)⟩), Int.toNat_natCast]
  · have e : (if (k : Int) - 1 < 0 then (k : Int) - 1 + (n : Int) else (k : Int) - 1) = ((k - 1 : Nat) : Int) := by rw [if_neg (by omega)]; omega
    simp only [e, h, if_false]
    rw [if_pos (by rw [Bool.and_eq_true]; exact ⟨decide_eq_true (by omega), decide_eq_true (by omega)⟩), Int.toNat_natCast]
theorem Ev.rlBack {value slice : PySem.Expr} {n k : Nat} {f : Nat → PyData} (hk : k < n) (hn : n ≤ 1000) (h1 : Ev c m T ρ value (RL n f)) (h2 : Ev c m T ρ slice (.int ((k : Int) - 1)))
    (hs : ∀ o i, subscripted slice false o i = operate [o, i] (getItem o i) := by intro _ _; rfl) : Ev c m T ρ (.Subscript value slice pos) (f (if k = 0 then n - 1 else k - 1)) :=
  Ev.itemL h1 h2 (by rw [rl_len]; exact idx_back hk) (rl_get f (by split <;> omega)) (by rw [rl_len]; omega) hs
theorem getD_at {α : Type} {l : List α} {i : Nat} {d e : α} (h : l[i]? = some d) : l.getD i e = d := by rw [List.getD_eq_getElem?_getD, h]; rfl
/-- a loop that keeps all -/
theorem CL.mapL {α : Type} {gens : List Comprehension} {k : Nat} (L : List α) (g f : α → PyData) (hg : gens[k]? = some ⟨target, iter, ifs, 0⟩) (hn : ∀ g, gens[k + 1]? = some g → g.is_async = 0)
    (h : ∀ x ∈ L, It c m T C elt gens sc pos k target ifs ρ (g x) [f x]) : CL c m T C elt gens sc pos k ρ (L.map g) (L.map f) := by
  have h0 := CL.intro (c := c) (m := m) (T := T) (C := C) (ρ := ρ) (elt := elt) (sc := sc) (pos := pos) (ds := L.map g) (fun i => (L[i]?.map f).toList) hg hn (fun i d hd => by
    rw [List.getElem?_map] at hd
    cases q : L[i]? with
    | none => rw [q] at hd; cases hd
    | some x =>
      rw [q] at hd; cases hd
      obtain ⟨hi, e⟩ := List.getElem?_eq_some_iff.mp q
      exact h x (e ▸ List.getElem_mem hi))
  have e : ∀ l : List α, (List.range l.length).flatMap (fun i => (l[i]?.map f).toList) = l.map f := fun l => by
    induction l with
    | nil => rfl
    | cons a l ih =>
      rw [List.length_cons, List.range_succ_eq_map, List.flatMap_cons, List.flatMap_map]
      simpa using ih
  rw [List.length_map, e] at h0; exact h0
theorem CL.filtL {α : Type} {gens : List Comprehension} {k : Nat} (L : List α) (p : α → Bool) (g f : α → PyData) (hg : gens[k]? = some ⟨target, iter, ifs, 0⟩) (hn : ∀ g, gens[k + 1]? = some g → g.is_async = 0)
    (h1 : ∀ x ∈ L, p x = true → It c m T C elt gens sc pos k target ifs ρ (g x) [f x]) (h2 : ∀ x ∈ L, p x = false → It c m T C elt gens sc pos k target ifs ρ (g x) []) : CL c m T C elt gens sc pos k ρ (L.map g) ((L.filter p).map f) := by
  have h0 := CL.intro (c := c) (m := m) (T := T) (C := C) (ρ := ρ) (elt := elt) (sc := sc) (pos := pos) (ds := L.map g) (fun i => match L[i]? with | some x => if p x then [f x] else [] | none => []) hg hn (fun i d hd => by
    rw [List.getElem?_map] at hd
    cases q : L[i]? with
    | none => rw [q] at hd; cases hd
    | some x =>
      rw [q] at hd; cases hd
      obtain ⟨hi, e⟩ := List.getElem?_eq_some_iff.mp q
      have hm : x ∈ L := e ▸ List.getElem_mem hi
      simp only []
      cases r : p x with
      | true => exact h1 x hm r
      | false => exact h2 x hm r)
  have e : ∀ l : List α, (List.range l.length).flatMap (fun i => match l[i]? with | some x => if p x then [f x] else [] | none => []) = (l.filter p).map f := fun l => by
    induction l with
    | nil => rfl
    | cons a l ih =>
      rw [List.length_cons, List.range_succ_eq_map, List.flatMap_cons, List.flatMap_map]
      cases r : p a with
      | true => simp [r]; simpa using ih
      | false => simp [r]; simpa using ih
  rw [List.length_map, e] at h0; exact h0
theorem Its.list' {e : PySem.Expr} {ds : List PyData} {d : PyData} (h : Ev c m T ρ e d) (q : d = .list ds) : Its c m T ρ e ds := Its.list (Ev.conv h q)
theorem Its.range0 {x : Str} {p pos : Pos} {e : PySem.Expr} {b : Int} (n : Nat) (h : Ev c m T ρ e (.int b)) (hn : c.mg x = Option.none) (hv : c.mb x = some (.type "range")) (hb : b = (n : Nat)) (hl : n ≤ 1000) (hx : T.lookup x = some .globalImplicit := by kernel_rfl) (hd : (x == ("__debug__" : Str)) = false := by decide)
    (he : ∀ env : Env, starEach [e] env = (false, eval e env) :: starEach [] env := by intro _; rfl) (hp : ∀ env : Env, (backTo pos (starEach [] env)).any (·.1) = false := by intro _; rfl) : Its c m T ρ (.Call (.Name x p) [e] [] pos) ((List.range n).map fun i : Nat => PyData.int (i : Nat)) := by
  rw [← rng0]
  exact Its.range1 n h hn hv (by omega) (by omega) (by omega) hx hd he hp
/-! equal values -/
structure Okd (k : Nat) (d : PyData) : Prop where
  lay : d.canLay0 = true
  dep : d.depth ≤ k
theorem Okd.int {k : Nat} (i : Int) : Okd k (.int i) := ⟨rfl, Nat.zero_le _⟩
theorem Okd.bool {k : Nat} (b : Bool) : Okd k (.bool b) := ⟨rfl, Nat.zero_le _⟩
theorem Okd.str {k : Nat} {x : Str} (h : PyData.strOk x = true) : Okd k (.str x) := ⟨h, Nat.zero_le _⟩
theorem okd_all {k : Nat} : ∀ {ds : List PyData}, (∀ d ∈ ds, Okd k d) → PyData.canLayAll0 ds = true ∧ PyData.depthAll ds ≤ k
  | [], _ => ⟨rfl, Nat.zero_le _⟩
  | d :: ds, h => by
    obtain ⟨a, b⟩ := okd_all (fun x hx => h x (.tail _ hx))
    obtain ⟨a', b'⟩ := h d (.head _)
    refine ⟨?_, ?_⟩
    · rw [PyData.canLayAll0, a, a']; rfl
    · rw [PyData.depthAll]; omega
theorem Okd.list {k : Nat} {ds : List PyData} (h : ∀ d ∈ ds, Okd k d) : Okd (k + 1) (.list ds) := ⟨(okd_all h).1, by rw [PyData.depth]; have := (okd_all h).2; omega⟩
theorem Okd.tuple {k : Nat} {ds : List PyData} (h : ∀ d ∈ ds, Okd k d) : Okd (k + 1) (.tuple ds) := ⟨(okd_all h).1, by rw [PyData.depth]; have := (okd_all h).2; omega⟩
theorem Okd.map {α : Type} {k : Nat} {L : List α} {f : α → PyData} (h : ∀ x ∈ L, Okd k (f x)) : Okd (k + 1) (.list (L.map f)) := Okd.list fun d hd => by
  obtain ⟨x, hx, rfl⟩ := List.mem_map.mp hd; exact h x hx
theorem Okd.sh {k : Nat} {d : PyData} (h : Okd k d) (hk : k ≤ 64) : SeqAt.shaped d = true := by
  unfold SeqAt.shaped
  rw [Bool.and_eq_true]
  exact ⟨h.lay, decide_eq_true (Nat.le_trans h.dep hk)⟩
theorem Ts.neSame {k : Nat} {l r : PySem.Expr} {d : PyData} (h1 : Ev c m T ρ l d) (h2 : Ev c m T ρ r d) (hd : Okd k d) (hk : k ≤ 64 := by decide) (hm : behindInMarks .NotEq r = false := by with_unfolding_all rfl) : Ts c m T ρ (.Compare l [.NotEq] [r] pos) false :=
  Ts.conv (Ts.cmp h1 h2 (Op2.ne (hd.sh hk) (hd.sh hk)) hm) (by rw [SeqAt.eqv_refl d hd.lay]; rfl)
/-! strings -/
theorem ok_app {x y : Str} (h : PyData.strOk x = true) (h' : PyData.strOk y = true) : PyData.strOk (x ++ y) = true := by
  unfold PyData.strOk at *
  show (x.cps ++ y.cps).all _ = true
  rw [Array.all_append, h, h']; rfl
theorem ok_of {l : List Nat} (h : l.all (· < 0x110000) = true) : PyData.strOk (strOf' l) = true := by
  unfold PyData.strOk strOf'; simpa using h
theorem strOf_appd (l r : List Nat) : strOf' l ++ strOf' r = strOf' (l ++ r) := by
  show (⟨l.toArray ++ r.toArray⟩ : Str) = ⟨(l ++ r).toArray⟩
  rw [List.append_toArray]
theorem strOf_lit (x : Str) (l : List Nat) (h : x.cps.toList = l) : x = strOf' l := by
  cases x with | mk a => subst h; show (⟨a⟩ : Str) = ⟨a.toList.toArray⟩; rw [Array.toArray_toList]
end

end Mine
namespace Mine
/-! searches, on lists -/
def occF (c : Nat) : List Nat → Nat → Nat → List Nat
  | [], _, _ => []
  | a :: r, i, lim => bif Nat.beq a c && Nat.blt 0 lim then i :: occF c r (i + 1) (lim - 1) else occF c r (i + 1) lim
def idxF (c : Nat) : List Nat → Nat → Option Nat
  | [], _ => none
  | a :: r, i => bif Nat.beq a c then some i else idxF c r (i + 1)
theorem occF_zero (c : Nat) : ∀ (l : List Nat) (i : Nat), occF c l i 0 = []
  | [], _ => rfl
  | a :: r, i => by
    unfold occF
    have e : Nat.blt 0 0 = false := rfl
    rw [e, Bool.and_false]; exact occF_zero c r (i + 1)
theorem occF_one (c : Nat) : ∀ (l : List Nat) (i : Nat), occF c l i 1 = (idxF c l i).toList
  | [], _ => rfl
  | a :: r, i => by
    unfold occF idxF
    have e : Nat.blt 0 1 = true := rfl
    rw [e, Bool.and_true]
    cases Nat.beq a c with
    | true => show i :: occF c r (i + 1) 0 = _; rw [occF_zero]; rfl
    | false => exact occF_one c r (i + 1)
open StrLaws in
theorem occ_loop (x : Str) (c lim : Nat) : ∀ (k i : Nat) (arr : Array Nat) (fr : Nat), fr ≤ i → i + k = x.length + 1 →
    (forIn (List.range' i k) (arr, fr) (occBody x ⟨#[c]⟩ x.length lim)).run.fst.toList = arr.toList ++ occF c (x.cps.toList.drop i) i (lim - arr.size)
  | 0, i, arr, fr, h1, h2 => by
    have e : x.cps.toList.drop i = [] := List.drop_eq_nil_of_le (by simp [Str.length] at h2 ⊢; omega)
    rw [e, List.range'_zero]; simp [occF]
  | k + 1, i, arr, fr, h1, h2 => by
    rw [List.range'_succ, List.forIn_cons]
    unfold occBody
    by_cases hit : x.cps.toList[i]? = some c
    · obtain ⟨a1, a2⟩ := (subAt_one x c i).mpr hit
      obtain ⟨hlt, hval⟩ := List.getElem?_eq_some_iff.mp hit
      have ed : x.cps.toList.drop i = c :: x.cps.toList.drop (i + 1) := by rw [List.drop_eq_getElem_cons hlt, hval]
      rw [ed]
      unfold occF
      have eb : Nat.beq c c = true := Nat.beq_refl c
      by_cases hl : arr.size < lim
      · rw [if_pos ⟨⟨⟨hl, h1⟩, a1⟩, a2⟩]
        have el : Nat.blt 0 (lim - arr.size) = true := by rw [Nat.blt_eq]; omega
        rw [eb, el, Bool.and_true, cond_true]
        refine (occ_loop x c lim k (i + 1) (arr.push i) (i + 1) (Nat.le_refl _) (by omega)).trans ?_
        rw [Array.toList_push, Array.size_push, List.append_assoc, Nat.sub_sub]; rfl
      · rw [if_neg (fun q => hl q.1.1.1)]
        have el : lim - arr.size = 0 := by omega
        rw [el, eb]
        refine (occ_loop x c lim k (i + 1) arr fr (by omega) (by omega)).trans ?_
        rw [el]; rfl
    · have hn : ¬ (((arr.size < lim ∧ fr ≤ i) ∧ i + (⟨#[c]⟩ : Str).length ≤ x.length) ∧ Builtin.Str.subAt x ⟨#[c]⟩ i = true) := fun q => hit ((subAt_one x c i).mp ⟨q.1.2, q.2⟩)
      rw [if_neg hn]
      refine (occ_loop x c lim k (i + 1) arr fr (by omega) (by omega)).trans ?_
      by_cases hlt : i < x.cps.toList.length
      · rw [List.drop_eq_getElem_cons hlt]
        have eb : Nat.beq x.cps.toList[i] c = false := by
          cases q : Nat.beq x.cps.toList[i] c with
          | false => rfl
          | true => exact absurd (by rw [List.getElem?_eq_getElem hlt, Nat.eq_of_beq_eq_true q]) hit
        conv => rhs; unfold occF
        rw [eb]; rfl
      · rw [List.drop_eq_nil_of_le (by omega), List.drop_eq_nil_of_le (by omega)]; rfl
theorem occ_fast (x : Str) (c lo lim : Nat) (h : lo ≤ x.length) : Builtin.Str.occurrences x ⟨#[c]⟩ lo x.length lim = occF c (x.cps.toList.drop lo) lo lim := by
  rw [StrLaws.occ_eq]
  have := occ_loop x c lim (x.length + 1 - lo) lo #[] lo (Nat.le_refl _) (by omega)
  simpa using this
theorem len_of (l : List Nat) : (strOf' l).length = l.length := strOf_len l
theorem occ_of (l : List Nat) (c lo lim : Nat) (h : lo ≤ l.length) : Builtin.Str.occurrences (strOf' l) ⟨#[c]⟩ lo l.length lim = occF c (l.drop lo) lo lim := by
  have := occ_fast (strOf' l) c lo lim (by rw [len_of]; exact h)
  rw [len_of, strOf_list] at this; exact this
theorem find_of (l : List Nat) (c : Nat) : Txt.find (strOf' l) ⟨#[c]⟩ = match idxF c l 0 with | some i => (i : Int) | none => -1 := by
  unfold Txt.find
  rw [len_of, occ_of l c 0 1 (Nat.zero_le _), List.drop_zero, occF_one]
  cases idxF c l 0 <;> rfl
theorem idxF_lt {c : Nat} : ∀ {l : List Nat} {i k : Nat}, idxF c l i = some k → i ≤ k ∧ k < i + l.length
  | [], i, k, h => nomatch h
  | a :: r, i, k, h => by
    unfold idxF at h
    rw [List.length_cons]
    cases q : Nat.beq a c with
    | true => rw [q, cond_true] at h; cases h; omega
    | false => rw [q, cond_false] at h; have := idxF_lt h; omega
theorem find3_of (l : List Nat) (c lo : Nat) (h : lo ≤ l.length) : Txt.find3 (strOf' l) ⟨#[c]⟩ (lo : Int) = match idxF c (l.drop lo) lo with | some i => (i : Int) | none => -1 := by
  unfold Txt.find3
  have e : PySem.fromIndex (strOf' l).length (lo : Int) = lo := by
    unfold PySem.fromIndex
    have e0 : ¬ ((lo : Int) < 0) := by omega
    rw [if_neg e0]; omega
  rw [e, len_of, occ_of l c lo 1 h, occF_one]
  cases idxF c (l.drop lo) lo <;> rfl
theorem chr_of (l : List Nat) (k : Nat) (h : k < l.length) : chr (strOf' l) (k : Int) = l[k]? := by
  unfold chr
  rw [len_of, idx_at k h]
  show (strOf' l).cps[k]? = l[k]?
  unfold strOf'; simp
theorem sub_of (l : List Nat) (i j : Nat) : Builtin.Str.strSub (strOf' l) i j = strOf' ((l.take j).drop i) := by
  unfold Builtin.Str.strSub strOf'
  congr 1
  apply Array.toList_inj.mp
  rw [Array.toList_extract, List.drop_take]

theorem slice_mid (l : List Nat) (a b : Nat) (h1 : a ≤ b) (h2 : b ≤ l.length) : Txt.slice (strOf' l) (some (a : Int)) (some (b : Int)) = strOf' ((l.drop a).take (b - a)) := by
  rw [slice_is, StrLaws.sliceText_nat _ h1 (by rw [strOf_len]; exact h2), strOf_list]; rfl
def okL (l : List Nat) (n : Nat) : Bool :=
  Nat.ble l.length 500 && (l.take 3 == [50, 50, 57]) && match idxF 40 l 0 with
  | none => false
  | some L => match idxF 41 (l.drop (L + 1)) (L + 1) with
    | none => false
    | some R => match l[L + 1]?, l[R - 1]? with
      | some a, some b => Nat.beq a b && Nat.blt a 256 && match occF a ((l.drop (L + 1)).take (R - (L + 1))) 0 (((l.drop (L + 1)).take (R - (L + 1))).length + 1) with
        | [_, _, c2, c3] => ((((l.drop (L + 1)).take (R - (L + 1))).take c3).drop (c2 + 1) == [48 + n]) && Nat.blt n 10
        | _ => false
      | _, _ => false
theorem ascii_kind (x : Str) (a : Nat) (ha : a < 256) : decide (Builtin.Str.strKind x < Builtin.Str.strKind ⟨#[a]⟩) = false := by
  have e : Builtin.Str.strKind ⟨#[a]⟩ = 1 := by
    unfold Builtin.Str.strKind
    rw [if_pos (by simp [ha])]
  rw [e]
  have : 1 ≤ Builtin.Str.strKind x := by unfold Builtin.Str.strKind; split; decide; split <;> decide
  exact decide_eq_false (by omega)
theorem dig_text : ∀ n, n < 10 → PySem.intText? (strOf' [48 + n]) = some (n : Int) := by decide +kernel
theorem r229_head (l : List Nat) : (Txt.slice (strOf' l) none (some 3) = "229") ↔ l.take 3 = [50, 50, 57] := by
  have e : Txt.slice (strOf' l) none (some 3) = strOf' (l.take 3) := by have := slice_take (strOf' l) 3; rw [strOf_list] at this; exact this
  rw [e, show ("229" : Str) = strOf' [50, 50, 57] from by decide]
  exact strOf_inj
theorem spec_ok {l : List Nat} {n : Nat} (h : okL l n = true) : spec229 (strOf' l) = .ok (n : Int) := by
  unfold okL at h
  rw [Bool.and_eq_true, Bool.and_eq_true, beq_iff_eq, Nat.ble_eq] at h
  obtain ⟨⟨hlen, h3⟩, h⟩ := h
  split at h
  · cases h
  · rename_i L hL
    split at h
    · cases h
    · rename_i R hR
      have bL := idxF_lt hL
      have bR := idxF_lt hR
      rw [List.length_drop] at bR
      split at h
      · rename_i a b ha hb
        rw [Bool.and_eq_true, Bool.and_eq_true] at h
        obtain ⟨⟨hab, ha256⟩, h⟩ := h
        have hab := Nat.eq_of_beq_eq_true hab
        have ha256 : a < 256 := by simpa using ha256
        subst hab
        split at h
        · rename_i c0 c1 c2 c3 hocc
          rw [Bool.and_eq_true, beq_iff_eq] at h
          obtain ⟨hp, hn⟩ := h
          have hn : n < 10 := by simpa using hn
          unfold spec229
          rw [if_pos ((r229_head l).mpr h3)]
          have e1 : Txt.find (strOf' l) "(" = (L : Int) := by
            have := find_of l 40; rw [hL] at this; exact this
          have e2 : Txt.find3 (strOf' l) ")" ((L : Int) + 1) = (R : Int) := by
            have := find3_of l 41 (L + 1) (by omega); rw [hR] at this; exact this
          have e3 : chr (strOf' l) ((L : Int) + 1) = some a := by
            have := chr_of l (L + 1) (by omega); rw [ha] at this; exact this
          have e4 : chr (strOf' l) ((R : Int) - 1) = some a := by
            have := chr_of l (R - 1) (by omega); rw [hb] at this; rw [← this]; congr 1; omega
          have e5 : Txt.slice (strOf' l) (some ((L : Int) + 1)) (some (R : Int)) = strOf' ((l.drop (L + 1)).take (R - (L + 1))) := slice_mid l (L + 1) R (by omega) (by omega)
          simp only [e1, e2, e3, e4, e5]
          have hm := occ_of ((l.drop (L + 1)).take (R - (L + 1))) a 0 (((l.drop (L + 1)).take (R - (L + 1))).length + 1) (Nat.zero_le _)
          rw [List.drop_zero, hocc] at hm
          generalize hmid : (l.drop (L + 1)).take (R - (L + 1)) = mid at *
          rw [if_neg (by omega), if_neg (by omega), if_pos trivial, len_of, hm]
          rw [if_pos (by show 5 ≤ 1000; decide)]
          have hs : Txt.split (strOf' mid) ⟨#[a]⟩ = Builtin.Str.partsBetween (strOf' mid) [c0, c1, c2, c3] 1 := by
            unfold Txt.split
            have hne : ¬ ((strOf' mid).length < (⟨#[a]⟩ : Str).length) := by
              rw [len_of]
              cases mid with
              | nil => cases hocc
              | cons q r => show ¬ (r.length + 1 < 1); omega
            rw [decide_eq_false hne, ascii_kind _ a ha256, len_of, hm]
            rfl
          rw [hs, if_pos (show (Builtin.Str.partsBetween (strOf' mid) [c0, c1, c2, c3] 1).length = 5 from rfl)]
          have hq : (Builtin.Str.partsBetween (strOf' mid) [c0, c1, c2, c3] 1)[3]? = some (strOf' [48 + n]) := by
            show some (Builtin.Str.strSub (strOf' mid) (c2 + 1) c3) = _
            rw [sub_of, hp]
          rw [hq]
          show (if (strOf' [48 + n]).length ≤ 640 then _ else _) = _
          rw [if_pos (by rw [len_of]; show 1 ≤ 640; decide), dig_text n hn]
        · cases h
      · cases h
def formL (l : List Nat) : Bool :=
  Nat.ble l.length 500 && (l.take 3 == [50, 50, 57]) && match idxF 40 l 0 with
  | none => true
  | some L => match idxF 41 (l.drop (L + 1)) (L + 1) with
    | none => true
    | some R => match l[L + 1]?, l[R - 1]? with
      | some a, some b => !(Nat.beq a b) || (Nat.blt a 256 && match occF a ((l.drop (L + 1)).take (R - (L + 1))) 0 (((l.drop (L + 1)).take (R - (L + 1))).length + 1) with
        | [] => true
        | [_] => true
        | [_, _] => true
        | [_, _, _] => true
        | [_, _, _, _] => false
        | _ :: _ :: _ :: _ :: _ :: r => Nat.ble r.length 500)
      | _, _ => false
theorem parts_len (x : Str) (cs : List Nat) (w : Nat) : (Builtin.Str.partsBetween x cs w).length = cs.length + 1 := by
  unfold Builtin.Str.partsBetween
  simp
theorem spec_form {l : List Nat} (h : formL l = true) : spec229 (strOf' l) = .form := by
  unfold formL at h
  rw [Bool.and_eq_true, Bool.and_eq_true, beq_iff_eq, Nat.ble_eq] at h
  obtain ⟨⟨hlen, h3⟩, h⟩ := h
  unfold spec229
  rw [if_pos ((r229_head l).mpr h3)]
  have e1 : Txt.find (strOf' l) "(" = match idxF 40 l 0 with | some i => (i : Int) | none => -1 := find_of l 40
  rw [e1]
  split at h
  · rename_i hL
    rw [hL]; rfl
  · rename_i L hL
    have bL := idxF_lt hL
    have e2 : Txt.find3 (strOf' l) ")" ((L : Int) + 1) = match idxF 41 (l.drop (L + 1)) (L + 1) with | some i => (i : Int) | none => -1 := find3_of l 41 (L + 1) (by omega)
    rw [hL]
    dsimp only
    rw [e2, if_neg (by omega)]
    split at h
    · rename_i hR
      rw [hR]; rfl
    · rename_i R hR
      have bR := idxF_lt hR
      rw [List.length_drop] at bR
      rw [hR]
      dsimp only
      rw [if_neg (by omega)]
      split at h
      · rename_i a b ha hb
        have e3 : chr (strOf' l) ((L : Int) + 1) = some a := by
          have := chr_of l (L + 1) (by omega); rw [ha] at this; exact this
        have e4 : chr (strOf' l) ((R : Int) - 1) = some b := by
          have := chr_of l (R - 1) (by omega); rw [hb] at this; rw [← this]; congr 1; omega
        have e5 : Txt.slice (strOf' l) (some ((L : Int) + 1)) (some (R : Int)) = strOf' ((l.drop (L + 1)).take (R - (L + 1))) := slice_mid l (L + 1) R (by omega) (by omega)
        rw [e3, e4, e5]
        dsimp only
        by_cases hab : a = b
        · subst hab
          rw [Nat.beq_refl, Bool.not_true, Bool.false_or, Bool.and_eq_true] at h
          obtain ⟨ha256, h⟩ := h
          have ha256 : a < 256 := by simpa using ha256
          have hm := occ_of ((l.drop (L + 1)).take (R - (L + 1))) a 0 (((l.drop (L + 1)).take (R - (L + 1))).length + 1) (Nat.zero_le _)
          rw [List.drop_zero] at hm
          generalize hmid : (l.drop (L + 1)).take (R - (L + 1)) = mid at *
          rw [if_pos rfl, len_of, hm]
          generalize hc : occF a mid 0 (mid.length + 1) = cuts at *
          have hcl : cuts.length ≠ 4 ∧ cuts.length ≤ 600 := by
            split at h
            all_goals first
              | (simp only [List.length_cons, List.length_nil]; omega)
              | exact absurd h (by decide)
              | (rw [Nat.ble_eq] at h; simp only [List.length_cons]; omega)
          rw [if_pos (by rw [parts_len]; omega)]
          have hs : (Txt.split (strOf' mid) ⟨#[a]⟩).length ≠ 5 := by
            unfold Txt.split
            split
            · exact (by decide : (1 : Nat) ≠ 5)
            · split
              · exact (by decide : (1 : Nat) ≠ 5)
              · rw [len_of, hm]; show (Builtin.Str.partsBetween _ _ 1).length ≠ 5; rw [parts_len]; omega
          rw [if_neg hs]
        · rw [if_neg hab]
      · cases h
theorem spec_code {l : List Nat} (h : (l.take 3 == [50, 50, 57]) = false) : spec229 (strOf' l) = .code := by
  unfold spec229
  rw [if_neg (fun q => by rw [(r229_head l).mp q] at h; cases h)]

/-! the replies, as lists -/
def letter : Nat → Nat | 0 => 97 | 1 => 65 | 2 => 98 | _ => 66
def fillL : Nat → List Nat | 0 => [] | 1 => [40] | _ => [55]
def insL (m f f' n : Nat) : List Nat := [letter m] ++ fillL f ++ [letter m] ++ fillL f' ++ [letter m] ++ [48 + n]
def wholeL (i : List Nat) (k : Nat) : List Nat := [50, 50, 57, 32, 111, 107, 41, 32, 40] ++ i ++ [k]
def replyL (kind : Nat) (i : List Nat) (k : Nat) : List Nat := match kind with
  | 0 | 1 | 2 | 3 | 4 => wholeL i k ++ [41, 32, 40, 120] ++ [k] ++ [41]
  | 5 => wholeL i k ++ [120, 41, 32, 40, 120] ++ [k] ++ [41]
  | 6 => [50, 50, 54] ++ (wholeL i k).drop 3 ++ [41]
  | 7 => wholeL i k ++ [k] ++ [41]
  | 8 => [50, 50, 57, 32, 40] ++ [k] ++ [57] ++ [k] ++ [57] ++ [k] ++ [41]
  | 9 => [50, 50, 57, 32, 111, 107, 50, 57, 50, 41]
  | 10 => wholeL i k ++ [120]
  | 11 => [50, 49, 57] ++ (wholeL i k).drop 3 ++ [41]
  | _ => [49, 50, 57] ++ (wholeL i k).drop 3 ++ [41]
def headK (kind : Nat) : Str := match kind with
  | 0 | 1 | 2 | 3 | 4 => ""
  | 6 | 11 => "code "
  | 5 | 7 | 8 | 9 | 10 => "form "
  | _ => "code "
theorem lit_whole : ("229 ok) (" : Str) = strOf' [50, 50, 57, 32, 111, 107, 41, 32, 40] := by decide
theorem whole_of (i : List Nat) (k : Nat) : ("229 ok) (" : Str) ++ strOf' i ++ strOf' [k] = strOf' (wholeL i k) := by
  rw [lit_whole, strOf_appd, strOf_appd]; rfl
theorem lawReply_of (kind : Nat) (i : List Nat) (k : Nat) : lawReply kind (strOf' i) (strOf' [k]) = (headK kind, strOf' (replyL kind i k)) := by
  have hd := slice_drop (strOf' (wholeL i k)) 3
  rw [strOf_list] at hd
  have hd : Txt.slice (strOf' (wholeL i k)) (some 3) none = strOf' ((wholeL i k).drop 3) := hd
  have ok : ∀ n, n < 5 → lawReply n (strOf' i) (strOf' [k]) = (("" : Str), strOf' (wholeL i k ++ [41, 32, 40, 120] ++ [k] ++ [41])) := fun n hn => by
    have e : lawReply n (strOf' i) (strOf' [k]) = (("" : Str), ("229 ok) (" : Str) ++ strOf' i ++ strOf' [k] ++ ") (x" ++ strOf' [k] ++ ")") := by
      match n, hn with
      | 0, _ => rfl
      | 1, _ => rfl
      | 2, _ => rfl
      | 3, _ => rfl
      | 4, _ => rfl
    rw [e, whole_of, show (") (x" : Str) = strOf' [41, 32, 40, 120] from by decide, show (")" : Str) = strOf' [41] from by decide, strOf_appd, strOf_appd, strOf_appd]
  match kind with
  | 0 => exact ok 0 (by decide)
  | 1 => exact ok 1 (by decide)
  | 2 => exact ok 2 (by decide)
  | 3 => exact ok 3 (by decide)
  | 4 => exact ok 4 (by decide)
  | 5 =>
    show (("form " : Str), ("229 ok) (" : Str) ++ strOf' i ++ strOf' [k] ++ "x) (x" ++ strOf' [k] ++ ")") = _
    rw [whole_of, show ("x) (x" : Str) = strOf' [120, 41, 32, 40, 120] from by decide, show (")" : Str) = strOf' [41] from by decide, strOf_appd, strOf_appd, strOf_appd]; rfl
  | 6 =>
    show (("code " : Str), ("226" : Str) ++ Txt.slice (("229 ok) (" : Str) ++ strOf' i ++ strOf' [k]) (some 3) none ++ ")") = _
    rw [whole_of, hd, show ("226" : Str) = strOf' [50, 50, 54] from by decide, show (")" : Str) = strOf' [41] from by decide, strOf_appd, strOf_appd]; rfl
  | 7 =>
    show (("form " : Str), ("229 ok) (" : Str) ++ strOf' i ++ strOf' [k] ++ strOf' [k] ++ ")") = _
    rw [whole_of, show (")" : Str) = strOf' [41] from by decide, strOf_appd, strOf_appd]; rfl
  | 8 =>
    show (("form " : Str), ("229 (" : Str) ++ strOf' [k] ++ "9" ++ strOf' [k] ++ "9" ++ strOf' [k] ++ ")") = _
    rw [show ("229 (" : Str) = strOf' [50, 50, 57, 32, 40] from by decide, show ("9" : Str) = strOf' [57] from by decide, show (")" : Str) = strOf' [41] from by decide]
    rw [strOf_appd, strOf_appd, strOf_appd, strOf_appd, strOf_appd, strOf_appd]; rfl
  | 9 =>
    show (("form " : Str), ("229 ok292)" : Str)) = _
    rw [show ("229 ok292)" : Str) = strOf' [50, 50, 57, 32, 111, 107, 50, 57, 50, 41] from by decide]; rfl
  | 10 =>
    show (("form " : Str), ("229 ok) (" : Str) ++ strOf' i ++ strOf' [k] ++ "x") = _
    rw [whole_of, show ("x" : Str) = strOf' [120] from by decide, strOf_appd]; rfl
  | 11 =>
    show (("code " : Str), ("219" : Str) ++ Txt.slice (("229 ok) (" : Str) ++ strOf' i ++ strOf' [k]) (some 3) none ++ ")") = _
    rw [whole_of, hd, show ("219" : Str) = strOf' [50, 49, 57] from by decide, show (")" : Str) = strOf' [41] from by decide, strOf_appd, strOf_appd]; rfl
  | k' + 12 =>
    show (("code " : Str), ("129" : Str) ++ Txt.slice (("229 ok) (" : Str) ++ strOf' i ++ strOf' [k]) (some 3) none ++ ")") = _
    rw [whole_of, hd, show ("129" : Str) = strOf' [49, 50, 57] from by decide, show (")" : Str) = strOf' [41] from by decide, strOf_appd, strOf_appd]; rfl

/-- what the reading tells: the number, or the kind of the fault -/
def chkRep (kind m f f' n : Nat) : Bool :=
  let l := replyL kind (insL m f f' n) (letter m)
  Nat.ble l.length 100 && l.all (fun a => Nat.blt a 128) && (bif Nat.blt kind 5 then okL l n else bif Nat.beq kind 6 || Nat.blt 10 kind then !(l.take 3 == [50, 50, 57]) else formL l)
theorem chk_rep0 : ∀ m, m < 4 → ∀ f, f < 3 → ∀ f', f' < 3 → ∀ n, n < 5 → chkRep 0 m f f' n = true := by decide +kernel
theorem chk_rep5 : ∀ m, m < 4 → ∀ f, f < 3 → ∀ f', f' < 3 → ∀ n, n < 5 → chkRep 5 m f f' n = true := by decide +kernel
theorem chk_rep6 : ∀ m, m < 4 → ∀ f, f < 3 → ∀ f', f' < 3 → ∀ n, n < 5 → chkRep 6 m f f' n = true := by decide +kernel
theorem chk_rep7 : ∀ m, m < 4 → ∀ f, f < 3 → ∀ f', f' < 3 → ∀ n, n < 5 → chkRep 7 m f f' n = true := by decide +kernel
theorem chk_rep8 : ∀ m, m < 4 → ∀ f, f < 3 → ∀ f', f' < 3 → ∀ n, n < 5 → chkRep 8 m f f' n = true := by decide +kernel
theorem chk_rep9 : ∀ m, m < 4 → ∀ f, f < 3 → ∀ f', f' < 3 → ∀ n, n < 5 → chkRep 9 m f f' n = true := by decide +kernel
theorem chk_rep10 : ∀ m, m < 4 → ∀ f, f < 3 → ∀ f', f' < 3 → ∀ n, n < 5 → chkRep 10 m f f' n = true := by decide +kernel
theorem chk_rep11 : ∀ m, m < 4 → ∀ f, f < 3 → ∀ f', f' < 3 → ∀ n, n < 5 → chkRep 11 m f f' n = true := by decide +kernel
theorem chk_rep12 : ∀ m, m < 4 → ∀ f, f < 3 → ∀ f', f' < 3 → ∀ n, n < 5 → chkRep 12 m f f' n = true := by decide +kernel
theorem chk_rep {kind m f f' n : Nat} (hk : kind < 13) (hm : m < 4) (hf : f < 3) (hf' : f' < 3) (hn : n < 5) : chkRep kind m f f' n = true := by
  match kind, hk with
  | 0, _ => exact chk_rep0 m hm f hf f' hf' n hn
  | 1, _ => exact chk_rep0 m hm f hf f' hf' n hn
  | 2, _ => exact chk_rep0 m hm f hf f' hf' n hn
  | 3, _ => exact chk_rep0 m hm f hf f' hf' n hn
  | 4, _ => exact chk_rep0 m hm f hf f' hf' n hn
  | 5, _ => exact chk_rep5 m hm f hf f' hf' n hn
  | 6, _ => exact chk_rep6 m hm f hf f' hf' n hn
  | 7, _ => exact chk_rep7 m hm f hf f' hf' n hn
  | 8, _ => exact chk_rep8 m hm f hf f' hf' n hn
  | 9, _ => exact chk_rep9 m hm f hf f' hf' n hn
  | 10, _ => exact chk_rep10 m hm f hf f' hf' n hn
  | 11, _ => exact chk_rep11 m hm f hf f' hf' n hn
  | 12, _ => exact chk_rep12 m hm f hf f' hf' n hn

end Mine
namespace Mine
/-! what the script draws -/
def md (a : Int) (k : Nat) : Nat := (a.fmod k).toNat
theorem md_eq (a : Int) {k : Nat} (hk : 0 < k) : a.fmod k = (md a k : Nat) := by
  unfold md
  have := Int.fmod_nonneg_of_pos a (b := (k : Int)) (by omega)
  omega
theorem md_lt (a : Int) {k : Nat} (hk : 0 < k) : md a k < k := by
  have h := Int.fmod_lt_of_pos a (b := (k : Int)) (by omega)
  have := md_eq a hk
  omega
def m4 (cs : Nat → Int) (i : Nat) : Nat := md (cs i) 4
def ct (cs : Nat → Int) (i : Nat) : Nat := md ((cs i).fdiv 12) 5
def f3 (cs : Nat → Int) (i : Nat) : Nat := md ((cs i).fdiv 4) 3
def kd (cs : Nat → Int) (i : Nat) : Nat := if i < 2 then 0 else md ((cs i).fdiv 60) 13
def prev (i : Nat) : Nat := if i = 0 then 5 - 1 else i - 1
theorem m4_lt (cs i) : m4 cs i < 4 := md_lt _ (by decide)
theorem ct_lt (cs i) : ct cs i < 5 := md_lt _ (by decide)
theorem f3_lt (cs i) : f3 cs i < 3 := md_lt _ (by decide)
theorem kd_lt (cs i) : kd cs i < 13 := by unfold kd; split; decide; exact md_lt _ (by decide)
def insC (cs : Nat → Int) (i : Nat) : List Nat := insL (m4 cs i) (f3 cs i) (f3 cs (prev i)) (ct cs i)
def repC (cs : Nat → Int) (i : Nat) : List Nat := replyL (kd cs i) (insC cs i) (letter (m4 cs i))
def toldD (cs : Nat → Int) (i : Nat) : PyData := if kd cs i < 5 then .tuple [.str "here", .int (ct cs i : Nat)] else .str (headK (kd cs i) ++ strOf' (repC cs i))
def goodL (cs : Nat → Int) : List Nat := (List.range 5).filter fun i => Nat.blt (kd cs i) 5
abbrev dCells (cs : Nat → Int) : PyData := RL 7 fun i => .int (cs i)
abbrev dMarks (cs : Nat → Int) : PyData := RL 5 fun i => .str (strOf' [letter (m4 cs i)])
abbrev dCounts (cs : Nat → Int) : PyData := RL 5 fun i => .int (ct cs i : Nat)
abbrev dFills (cs : Nat → Int) : PyData := RL 5 fun i => .str (strOf' (fillL (f3 cs i)))
abbrev dInsides (cs : Nat → Int) : PyData := RL 5 fun i => .str (strOf' (insC cs i))
abbrev dKinds (cs : Nat → Int) : PyData := RL 5 fun i => .int (kd cs i : Nat)
abbrev dReplies (cs : Nat → Int) : PyData := RL 5 fun i => pr (headK (kd cs i), strOf' (repC cs i))
abbrev dTold (cs : Nat → Int) : PyData := RL 5 (toldD cs)
abbrev dGood (cs : Nat → Int) : PyData := .list ((goodL cs).map fun i => .int (i : Nat))
theorem repC_chk (cs i) : chkRep (kd cs i) (m4 cs i) (f3 cs i) (f3 cs (prev i)) (ct cs i) = true := chk_rep (kd_lt cs i) (m4_lt cs i) (f3_lt cs i) (f3_lt cs _) (ct_lt cs i)
theorem repC_len (cs i) : (repC cs i).length ≤ 100 := by
  have h := repC_chk cs i
  unfold chkRep at h
  rw [Bool.and_eq_true, Bool.and_eq_true, Nat.ble_eq] at h
  exact h.1.1
theorem repC_ok (cs i) : PyData.strOk (strOf' (repC cs i)) = true := by
  have h := repC_chk cs i
  unfold chkRep at h
  rw [Bool.and_eq_true, Bool.and_eq_true, Nat.ble_eq] at h
  refine ok_of (List.all_eq_true.mpr fun a ha => ?_)
  have := List.all_eq_true.mp h.1.2 a ha
  rw [Nat.blt_eq] at this
  exact decide_eq_true (by omega)
theorem headK_ok (k) : PyData.strOk (headK k) = true := by unfold headK; split <;> decide +kernel
theorem insL_len {m f f' n : Nat} : (insL m f f' n).length ≤ 20 := by
  have : ∀ f, (fillL f).length ≤ 1 := fun f => by unfold fillL; split <;> decide
  have h1 := this f; have h2 := this f'
  unfold insL; simp only [List.length_append, List.length_cons, List.length_nil]; omega
theorem fill_len (f : Nat) : (fillL f).length ≤ 1 := by unfold fillL; split <;> decide
/-! the reply's and the reading's contracts -/
theorem rawL_at (i : List Nat) (k : Nat) : ∀ j, j < 8 → (rawL (strOf' i) (strOf' [k]))[j]? = some (pr (lawReply (j + 5) (strOf' i) (strOf' [k])))
  | 0, _ => rfl | 1, _ => rfl | 2, _ => rfl | 3, _ => rfl | 4, _ => rfl | 5, _ => rfl | 6, _ => rfl | 7, _ => rfl
theorem lawReply_lt (i : List Nat) (k : Nat) : ∀ n, n < 5 → lawReply n (strOf' i) (strOf' [k]) = (("" : Str), ("229 ok) (" : Str) ++ strOf' i ++ strOf' [k] ++ ") (x" ++ strOf' [k] ++ ")")
  | 0, _ => rfl
  | 1, _ => rfl
  | 2, _ => rfl
  | 3, _ => rfl
  | 4, _ => rfl
section
variable {c : Cx} (W : W0 c)
include W
theorem fn_reply {kind : Nat} {i : List Nat} {k : Nat} (hk : kind < 13) (hi : i.length ≤ 100) : Fn c 1 "_law_reply" [.int kind, .str (strOf' i), .str (strOf' [k])] (pr (headK kind, strOf' (replyL kind i k))) := by
  have e := lawReply_of kind i k
  by_cases h : kind < 5
  · have := fn_reply_ok W (i := strOf' i) (k := strOf' [k]) (n := kind) (by rw [len_of]; exact hi) (by rw [len_of]; show 1 ≤ 100; decide) h
    have e0 := lawReply_lt i k kind h
    rw [← e, e0]; exact this
  · have h8 : kind - 5 < 8 := by omega
    have := fn_reply_bad W (i := strOf' i) (k := strOf' [k]) (n := kind) (j := kind - 5) (by rw [len_of]; exact hi) (by rw [len_of]; show 1 ≤ 100; decide) (by omega) h8 (rawL_at i k _ h8)
    rw [show kind - 5 + 5 = kind by omega, e] at this; exact this
theorem fn_told (cs i) : Fn c 2 "_law_read" [.str (strOf' (repC cs i)), .bool false] (toldD cs i) := by
  have h := repC_chk cs i
  have hl : (strOf' (repC cs i)).length ≤ 1000 := by rw [len_of]; exact Nat.le_trans (repC_len cs i) (by decide)
  unfold chkRep at h
  rw [Bool.and_eq_true] at h
  obtain ⟨_, h⟩ := h
  show Fn c 2 "_law_read" [.str (strOf' (repC cs i)), .bool false] (if kd cs i < 5 then _ else _)
  by_cases hk : kd cs i < 5
  · rw [if_pos hk]
    have e : Nat.blt (kd cs i) 5 = true := by rw [Nat.blt_eq]; exact hk
    rw [e, cond_true] at h
    exact fn_read229 W hl (spec_ok h)
  · rw [if_neg hk]
    have e : Nat.blt (kd cs i) 5 = false := by
      cases q : Nat.blt (kd cs i) 5 with
      | false => rfl
      | true => rw [Nat.blt_eq] at q; exact absurd q hk
    rw [e, cond_false] at h
    cases q : (Nat.beq (kd cs i) 6 || Nat.blt 10 (kd cs i)) with
    | true =>
      rw [q, cond_true] at h
      have hh : headK (kd cs i) = "code " := by
        have hlt := kd_lt cs i
        rw [Bool.or_eq_true, Nat.blt_eq] at q
        have : kd cs i = 6 ∨ kd cs i = 11 ∨ kd cs i = 12 := by
          rcases q with q | q
          · exact .inl (Nat.eq_of_beq_eq_true q)
          · omega
        rcases this with q | q | q <;> rw [q] <;> rfl
      rw [hh]
      have sc := spec_code (l := repC cs i) (by rw [Bool.not_eq_true'] at h; exact h)
      exact fn_read_code W hl (.inl ⟨rfl, x229_code W hl sc⟩)
    | false =>
      rw [q, cond_false] at h
      have hh : headK (kd cs i) = "form " := by
        have hlt := kd_lt cs i
        rw [Bool.or_eq_false_iff] at q
        have q1 : kd cs i ≠ 6 := fun z => by rw [z] at q; exact absurd q.1 (by decide)
        have q2 : ¬ 10 < kd cs i := fun z => by rw [(Nat.blt_eq).mpr z] at q; exact absurd q.2 (by decide)
        have : kd cs i = 5 ∨ kd cs i = 7 ∨ kd cs i = 8 ∨ kd cs i = 9 ∨ kd cs i = 10 := by omega
        rcases this with q | q | q | q | q <;> rw [q] <;> rfl
      rw [hh]
      exact fn_read_form W hl (x229_form W hl (spec_form h))
end
/-! slices of ints -/
theorem fm_map {α β : Type} (f : α → β) (xs : List α) : ∀ is : List Nat, is.filterMap ((xs.map f)[·]?) = (is.filterMap (xs[·]?)).map f
  | [] => rfl
  | i :: is => by
    rw [List.filterMap_cons, List.filterMap_cons, List.getElem?_map, fm_map f xs is]
    cases xs[i]? <;> rfl
theorem pickL_map {α β : Type} (f : α → β) (xs : List α) (l u s : Option Int) : pickL (xs.map f) l u s = (pickL xs l u s).map f := by
  unfold pickL
  rw [List.length_map, fm_map]
theorem fm_len {α : Type} (xs : List α) : ∀ is : List Nat, (is.filterMap (xs[·]?)).length ≤ is.length := fun is => List.length_filterMap_le _ _
def baseF : Nat → Int | 0 => 24 | 1 => 17 | 2 => 46 | 3 => 15 | 4 => 390 | 5 => 3 | _ => 14
def cellsOf (script : List Int) (k : Nat) : Int := baseF k + (pickL script (some (k : Int)) none (some 7)).sum
theorem letter_at : ∀ r : Nat, r < 4 → ((seqIndex? (r : Int) ("aAbB" : Str).length).bind fun j => ("aAbB" : Str).cps[j]?) = some (letter r) := by decide
theorem strOf_one (a : Nat) : (⟨#[a]⟩ : Str) = strOf' [a] := rfl

end Mine
namespace Mine
section
variable {c : Cx} {m : Nat} {T : Tab} {C : List Str} {ρ ρ' : Vars}
theorem Ev.modN {l : PySem.Expr} {a k : Int} {kk : Nat} {p pos : Pos} (n : Nat) (h : Ev c m T ρ l (.int a)) (hn : 0 < n := by decide) (e : k = (n : Int) := by rfl) : Ev c m T ρ (.BinOp l .Mod (.Constant (.int k) kk p) pos) (.int (md a n : Nat)) := by
  subst e
  exact Ev.conv (Ev.bin h Ev.int (Op2.mod (by omega))) (by rw [md_eq a hn])
theorem Ev.divC {l : PySem.Expr} {a k : Int} {kk : Nat} {p pos : Pos} (h : Ev c m T ρ l (.int a)) (hk : k ≠ 0 := by decide) (hs : k.natAbs < 1073741824 := by decide) : Ev c m T ρ (.BinOp l .FloorDiv (.Constant (.int k) kk p) pos) (.int (a.fdiv k)) :=
  Ev.bin h Ev.int (Op2.div hk (PyProof.noPylong_small hs))
end
abbrev R0 (xs : List Int) : Vars := [("script", LI xs)]
abbrev R1 (cs : Nat → Int) : Vars := [("cells", dCells cs)]
abbrev R4 (cs : Nat → Int) : Vars := [("fills", dFills cs), ("counts", dCounts cs), ("marks", dMarks cs), ("cells", dCells cs)]
theorem str_dig : ∀ n : Nat, n < 10 → ((toString (n : Int) : String) : Str) = strOf' [48 + n] := by decide +kernel
theorem log_small : ∀ n : Nat, n < 10 → ((n : Int).natAbs).log2 < 1920 := by decide +kernel
theorem kind_list {cs : Nat → Int} : PyData.list ([.int 0, .int 0] ++ (List.range 3).map fun i => PyData.int (md ((cs (i + 2)).fdiv 60) 13 : Nat)) = dKinds cs := by kernel_rfl
theorem its5 {cs : Nat → Int} : PyData.list (pickL ((List.range 7).map fun i => PyData.int (cs i)) none (some 5) none) = .list ((List.range 5).map fun i => .int (cs i)) := by kernel_rfl
theorem its25 {cs : Nat → Int} : PyData.list (pickL ((List.range 7).map fun i => PyData.int (cs i)) (some 2) (some 5) none) = .list ((List.range 3).map fun i => .int (cs (i + 2))) := by kernel_rfl
section
variable {c : Cx} (W : W0 c)
include W
theorem st0 {out : Out} {xs : List Int} (hx : xs.length ≤ 63) (h : LX c (R1 (cellsOf xs)) 1 out) : LX c (R0 xs) 0 out := by
  refine Ex.cons (X1.assignC (x := "cells") (d := dCells (cellsOf xs)) (ρ' := []) (Ev.comp (ρ' := [("script", LI xs)]) (C' := []) rfl (Its.range0 7 Ev.int (g_range W) (b_range W) (by omega) (by omega)) (Blk.of (by repeat (first | exact sub_nil | refine sub_cons (by repeat (first | with_reducible exact List.mem_cons_self | with_reducible apply List.mem_cons_of_mem)) ?_)) (by kernel_rfl))
    (CL.mapL (List.range 7) _ (fun i => .int (cellsOf xs i)) rfl (fun _ h => nomatch h) (fun i hi => ?_)) (by rw [rl_len]; decide)) (.inr (by decide)) (by repeat (first | exact sub_nil | refine sub_cons (by repeat (first | with_reducible exact List.mem_cons_self | with_reducible apply List.mem_cons_of_mem)) ?_)) (by repeat (first | exact ne_nil | refine ne_cons (by decide) ?_)) own_none (fun env h1 h2 => by cases env with | mk scope l g ce q f cd fr bu => cases scope with | mk sk sn s3 s4 s5 => (simp only at h1 h2; subst h1 h2; rfl))) h
  have hi := List.mem_range.mp hi
  have hp := pickL_map PyData.int xs (some (i : Int)) none (some 7)
  refine It.emit1 (.inl (by kernel_rfl)) (by repeat (first | exact ne_nil | refine ne_cons (by decide) ?_)) TsI.nil (Ev.bin (Ev.rlAt (f := fun i => .int (baseF i)) hi (by decide) (Ev.conv (Ev.list (EvL.cons Ev.int (EvL.cons Ev.int (EvL.cons Ev.int (EvL.cons Ev.int (EvL.cons Ev.int (EvL.cons Ev.int (EvL.cons Ev.int EvL.nil)))))))) (by rfl)) (Ev.name (by repeat (first | with_reducible exact List.mem_cons_self | with_reducible apply List.mem_cons_of_mem))))
    (Ev.callB (EvL.cons (Ev.conv (Ev.sliceLS (Ev.name (by repeat (first | with_reducible exact List.mem_cons_self | with_reducible apply List.mem_cons_of_mem))) (EvP.at (Ev.name (by repeat (first | with_reducible exact List.mem_cons_self | with_reducible apply List.mem_cons_of_mem)))) EvP.no Ev.int (by decide) (by rw [List.length_map]; have e : sizeLine = 16777216 := rfl; omega)) (congrArg PyData.list hp)) EvL.nil) (g_sum W) (b_sum W) Bi.sum) Op2.add) rfl
theorem st1 {out : Out} {cs : Nat → Int} (h : LX c (R4 cs) 4 out) : LX c (R1 cs) 1 out := by
  refine Ex.cons (X1.assignC (x := "marks") (d := dMarks cs) (ρ' := [("cells", dCells cs)]) (Ev.comp (ρ' := []) (C' := []) rfl (Its.list' (Ev.sliceL (Ev.name (by repeat (first | with_reducible exact List.mem_cons_self | with_reducible apply List.mem_cons_of_mem))) EvP.no (EvP.at Ev.int) (by rw [rl_len]; decide)) its5) (Blk.of (by repeat (first | exact sub_nil | refine sub_cons (by repeat (first | with_reducible exact List.mem_cons_self | with_reducible apply List.mem_cons_of_mem)) ?_)) (by kernel_rfl))
    (CL.mapL (List.range 5) _ (fun i => .str (strOf' [letter (m4 cs i)])) rfl (fun _ h => nomatch h) (fun i hi => It.emit1 (.inl (by kernel_rfl)) (by repeat (first | exact ne_nil | refine ne_cons (by decide) ?_)) TsI.nil (Ev.itemS (n := letter (m4 cs i)) Ev.str (Ev.modN 4 (Ev.name (by repeat (first | with_reducible exact List.mem_cons_self | with_reducible apply List.mem_cons_of_mem)))) (letter_at _ (m4_lt cs i)) (by omega) (by have := m4_lt cs i; unfold m4 at this; omega)) rfl)) (by rw [rl_len]; decide)) (.inr (by decide)) (by repeat (first | exact sub_nil | refine sub_cons (by repeat (first | with_reducible exact List.mem_cons_self | with_reducible apply List.mem_cons_of_mem)) ?_)) (by repeat (first | exact ne_nil | refine ne_cons (by decide) ?_)) own_none (fun env h1 h2 => by cases env with | mk scope l g ce q f cd fr bu => cases scope with | mk sk sn s3 s4 s5 => (simp only at h1 h2; subst h1 h2; rfl))) ?_
  refine Ex.cons (X1.assignC (x := "counts") (d := dCounts cs) (ρ' := [("marks", dMarks cs), ("cells", dCells cs)]) (Ev.comp (ρ' := []) (C' := []) rfl (Its.list' (Ev.sliceL (Ev.name (by repeat (first | with_reducible exact List.mem_cons_self | with_reducible apply List.mem_cons_of_mem))) EvP.no (EvP.at Ev.int) (by rw [rl_len]; decide)) its5) (Blk.of (by repeat (first | exact sub_nil | refine sub_cons (by repeat (first | with_reducible exact List.mem_cons_self | with_reducible apply List.mem_cons_of_mem)) ?_)) (by kernel_rfl))
    (CL.mapL (List.range 5) _ (fun i => .int (ct cs i : Nat)) rfl (fun _ h => nomatch h) (fun i hi => It.emit1 (.inl (by kernel_rfl)) (by repeat (first | exact ne_nil | refine ne_cons (by decide) ?_)) TsI.nil (Ev.modN 5 (Ev.divC (Ev.name (by repeat (first | with_reducible exact List.mem_cons_self | with_reducible apply List.mem_cons_of_mem))))) rfl)) (by rw [rl_len]; decide)) (.inr (by decide)) (by repeat (first | exact sub_nil | refine sub_cons (by repeat (first | with_reducible exact List.mem_cons_self | with_reducible apply List.mem_cons_of_mem)) ?_)) (by repeat (first | exact ne_nil | refine ne_cons (by decide) ?_)) own_none (fun env h1 h2 => by cases env with | mk scope l g ce q f cd fr bu => cases scope with | mk sk sn s3 s4 s5 => (simp only at h1 h2; subst h1 h2; rfl))) ?_
  refine Ex.cons (X1.assignC (x := "fills") (d := dFills cs) (ρ' := [("counts", dCounts cs), ("marks", dMarks cs), ("cells", dCells cs)]) (Ev.comp (ρ' := []) (C' := []) rfl (Its.list' (Ev.sliceL (Ev.name (by repeat (first | with_reducible exact List.mem_cons_self | with_reducible apply List.mem_cons_of_mem))) EvP.no (EvP.at Ev.int) (by rw [rl_len]; decide)) its5) (Blk.of (by repeat (first | exact sub_nil | refine sub_cons (by repeat (first | with_reducible exact List.mem_cons_self | with_reducible apply List.mem_cons_of_mem)) ?_)) (by kernel_rfl))
    (CL.mapL (List.range 5) _ (fun i => .str (strOf' (fillL (f3 cs i)))) rfl (fun _ h => nomatch h) (fun i hi => It.emit1 (.inl (by kernel_rfl)) (by repeat (first | exact ne_nil | refine ne_cons (by decide) ?_)) TsI.nil (Ev.rlAt (f := fun r => .str (strOf' (fillL r))) (f3_lt cs i) (by decide) (Ev.conv (Ev.list (EvL.cons Ev.str (EvL.cons Ev.str (EvL.cons Ev.str EvL.nil)))) (by kernel_rfl)) (Ev.modN 3 (Ev.divC (Ev.name (by repeat (first | with_reducible exact List.mem_cons_self | with_reducible apply List.mem_cons_of_mem)))))) rfl)) (by rw [rl_len]; decide)) (.inr (by decide)) (by repeat (first | exact sub_nil | refine sub_cons (by repeat (first | with_reducible exact List.mem_cons_self | with_reducible apply List.mem_cons_of_mem)) ?_)) (by repeat (first | exact ne_nil | refine ne_cons (by decide) ?_)) own_none (fun env h1 h2 => by cases env with | mk scope l g ce q f cd fr bu => cases scope with | mk sk sn s3 s4 s5 => (simp only at h1 h2; subst h1 h2; rfl))) ?_
  exact h
omit W in
theorem ins_of (cs i) : strOf' [letter (m4 cs i)] ++ strOf' (fillL (f3 cs i)) ++ strOf' [letter (m4 cs i)] ++ strOf' (fillL (f3 cs (if i = 0 then 5 - 1 else i - 1))) ++ strOf' [letter (m4 cs i)] ++ strOf' [48 + ct cs i] = strOf' (insC cs i) := by
  rw [strOf_appd, strOf_appd, strOf_appd, strOf_appd, strOf_appd]; rfl
theorem st4 {out : Out} {cs : Nat → Int} (h : LX c [("kinds", dKinds cs), ("insides", dInsides cs), ("counts", dCounts cs), ("marks", dMarks cs), ("cells", dCells cs)] 6 out) : LX c (R4 cs) 4 out := by
  have sl : ∀ (l : List Nat), l.length ≤ 20 → ∀ (r : List Nat), r.length ≤ 20 → (strOf' l).length + (strOf' r).length ≤ 16777216 := fun l h r h' => by rw [len_of, len_of]; omega
  refine Ex.cons (X1.assignC (x := "insides") (d := dInsides cs) (ρ' := [("counts", dCounts cs), ("marks", dMarks cs), ("cells", dCells cs)]) (Ev.comp (ρ' := [("fills", dFills cs), ("counts", dCounts cs), ("marks", dMarks cs)]) (C' := []) rfl (Its.range0 5 Ev.int (g_range W) (b_range W) (by omega) (by omega)) (Blk.of (by repeat (first | exact sub_nil | refine sub_cons (by repeat (first | with_reducible exact List.mem_cons_self | with_reducible apply List.mem_cons_of_mem)) ?_)) (by kernel_rfl))
    (CL.mapL (List.range 5) _ (fun i => .str (strOf' (insC cs i))) rfl (fun _ h => nomatch h) (fun i hi => ?_)) (by rw [rl_len]; decide)) (.inr (by decide)) (by repeat (first | exact sub_nil | refine sub_cons (by repeat (first | with_reducible exact List.mem_cons_self | with_reducible apply List.mem_cons_of_mem)) ?_)) (by repeat (first | exact ne_nil | refine ne_cons (by decide) ?_)) own_none (fun env h1 h2 => by cases env with | mk scope l g ce q f cd fr bu => cases scope with | mk sk sn s3 s4 s5 => (simp only at h1 h2; subst h1 h2; rfl))) ?_
  · have hi := List.mem_range.mp hi
    have b1 := fill_len (f3 cs i)
    have b2 := fill_len (f3 cs (if i = 0 then 5 - 1 else i - 1))
    refine It.emit1 (.inl (by kernel_rfl)) (by repeat (first | exact ne_nil | refine ne_cons (by decide) ?_)) TsI.nil (Ev.conv (d := .str (strOf' [letter (m4 cs i)] ++ strOf' (fillL (f3 cs i)) ++ strOf' [letter (m4 cs i)] ++ strOf' (fillL (f3 cs (if i = 0 then 5 - 1 else i - 1))) ++ strOf' [letter (m4 cs i)] ++ strOf' [48 + ct cs i])) ?_ (by rw [ins_of])) rfl
    refine (EvS.app (b := 1) (a := 5) (EvS.app (a := 4) (b := 1) (EvS.app (a := 3) (b := 1) (EvS.app (a := 2) (b := 1) (EvS.app (a := 1) (b := 1) (EvS.mk (Ev.rlAt (f := fun i => .str (strOf' [letter (m4 cs i)])) hi (by decide) (Ev.name (by repeat (first | with_reducible exact List.mem_cons_self | with_reducible apply List.mem_cons_of_mem))) (Ev.name (by repeat (first | with_reducible exact List.mem_cons_self | with_reducible apply List.mem_cons_of_mem)))) (by rw [len_of]; exact Nat.le_refl _)) (EvS.mk (Ev.rlAt (f := fun i => .str (strOf' (fillL (f3 cs i)))) hi (by decide) (Ev.name (by repeat (first | with_reducible exact List.mem_cons_self | with_reducible apply List.mem_cons_of_mem))) (Ev.name (by repeat (first | with_reducible exact List.mem_cons_self | with_reducible apply List.mem_cons_of_mem)))) (by rw [len_of]; exact b1)))
      (EvS.mk (Ev.rlAt (f := fun i => .str (strOf' [letter (m4 cs i)])) hi (by decide) (Ev.name (by repeat (first | with_reducible exact List.mem_cons_self | with_reducible apply List.mem_cons_of_mem))) (Ev.name (by repeat (first | with_reducible exact List.mem_cons_self | with_reducible apply List.mem_cons_of_mem)))) (by rw [len_of]; exact Nat.le_refl _)))
      (EvS.mk (Ev.rlBack (f := fun i => .str (strOf' (fillL (f3 cs i)))) hi (by decide) (Ev.name (by repeat (first | with_reducible exact List.mem_cons_self | with_reducible apply List.mem_cons_of_mem))) (Ev.bin (Ev.name (by repeat (first | with_reducible exact List.mem_cons_self | with_reducible apply List.mem_cons_of_mem))) Ev.int Op2.sub)) (by rw [len_of]; exact b2)))
      (EvS.mk (Ev.rlAt (f := fun i => .str (strOf' [letter (m4 cs i)])) hi (by decide) (Ev.name (by repeat (first | with_reducible exact List.mem_cons_self | with_reducible apply List.mem_cons_of_mem))) (Ev.name (by repeat (first | with_reducible exact List.mem_cons_self | with_reducible apply List.mem_cons_of_mem)))) (by rw [len_of]; exact Nat.le_refl _)))
      (EvS.mk (Ev.conv (Ev.callT (EvL.cons (Ev.rlAt (f := fun i => .int (ct cs i : Nat)) hi (by decide) (Ev.name (by repeat (first | with_reducible exact List.mem_cons_self | with_reducible apply List.mem_cons_of_mem))) (Ev.name (by repeat (first | with_reducible exact List.mem_cons_self | with_reducible apply List.mem_cons_of_mem)))) EvL.nil) (g_str W) (b_str W) (Bi.strInt (log_small _ (by have := ct_lt cs i; omega)))) (by rw [str_dig _ (by have := ct_lt cs i; omega)])) (by rw [len_of]; exact Nat.le_refl _))).ev
  refine Ex.cons (X1.assign (x := "kinds") (d := dKinds cs) (ρ' := [("insides", dInsides cs), ("counts", dCounts cs), ("marks", dMarks cs), ("cells", dCells cs)]) (Ev.conv (Ev.bin (Ev.list (EvL.cons Ev.int (EvL.cons Ev.int EvL.nil))) (Ev.comp (ρ' := []) (C' := []) rfl (Its.list' (Ev.sliceL (Ev.name (by repeat (first | with_reducible exact List.mem_cons_self | with_reducible apply List.mem_cons_of_mem))) (EvP.at Ev.int) (EvP.at Ev.int) (by rw [rl_len]; decide)) its25) (Blk.of (by repeat (first | exact sub_nil | refine sub_cons (by repeat (first | with_reducible exact List.mem_cons_self | with_reducible apply List.mem_cons_of_mem)) ?_)) (by kernel_rfl))
    (CL.mapL (List.range 3) _ (fun i => .int (md ((cs (i + 2)).fdiv 60) 13 : Nat)) rfl (fun _ h => nomatch h) (fun i hi => It.emit1 (.inl (by kernel_rfl)) (by repeat (first | exact ne_nil | refine ne_cons (by decide) ?_)) TsI.nil (Ev.modN 13 (Ev.divC (Ev.name (by repeat (first | with_reducible exact List.mem_cons_self | with_reducible apply List.mem_cons_of_mem))))) rfl)) (by rw [rl_len]; decide)) (Op2.addList (by rw [rl_len]; decide))) kind_list) (.inr (by decide)) (by repeat (first | exact sub_nil | refine sub_cons (by repeat (first | with_reducible exact List.mem_cons_self | with_reducible apply List.mem_cons_of_mem)) ?_)) (by repeat (first | exact ne_nil | refine ne_cons (by decide) ?_)) own_none) ?_
  exact h
end

end Mine
namespace Mine
theorem mul_fold (a : Nat) : ∀ (n : Nat) (acc : List Nat), (List.replicate n #[a]).foldl (· ++ ·) acc.toArray = (acc ++ List.replicate n a).toArray
  | 0, acc => by simp
  | n + 1, acc => by
    rw [List.replicate_succ, List.foldl_cons]
    have e : acc.toArray ++ #[a] = (acc ++ [a]).toArray := by simp
    rw [e, mul_fold a n (acc ++ [a]), List.append_assoc]; rfl
theorem mul_rep (a n : Nat) : Txt.mul (strOf' [a]) (n : Int) = strOf' (List.replicate n a) := by
  unfold Txt.mul
  by_cases h0 : n = 0
  · subst h0; rfl
  · rw [if_neg (by omega)]
    by_cases h1 : n = 1
    · subst h1; rfl
    · have e : ((n : Int) == 1 || (strOf' [a]).length == 0) = false := by
        have e1 : ((n : Int) == 1) = false := by rw [beq_eq_false_iff_ne]; omega
        rw [e1]; rfl
      rw [e, if_neg (by decide), Int.toNat_natCast]
      have := mul_fold a n []
      show (⟨_⟩ : Str) = ⟨_⟩
      congr 1
theorem mul_ok (a n : Nat) (h : n ≤ 100000) : MulOk (strOf' [a]) (n : Int) := by
  refine ⟨?_, fun h0 h1 => ?_, fun h0 h1 => ?_⟩
  · rw [Bool.or_eq_false_iff]; exact ⟨decide_eq_false (by omega), decide_eq_false (by omega)⟩
  · have : (1 : Int) ≤ (2 ^ 63 - 1) / (n : Int) := by
      rw [Int.le_ediv_iff_mul_le (by omega)]; omega
    show ¬ ((1 : Int) > _)
    omega
  · unfold Builtin.Str.tooLong
    show decide _ = false
    have e : sizeLine = 16777216 := rfl
    refine decide_eq_false ?_
    rw [Int.toNat_natCast]
    show ¬ (1 * n > sizeLine)
    omega
def wordL (cs : Nat → Int) (k : Nat) : List Nat := List.replicate (ct cs k) (letter (m4 cs k))
abbrev dWords (cs : Nat → Int) : PyData := .list ((goodL cs).map fun k => .str (strOf' (wordL cs k)))
abbrev dSize (cs : Nat → Int) : PyData := .int ((goodL cs).length : Nat)
def dueC (cs : Nat → Int) : Nat := md (cs 5) 9
def drawC (cs : Nat → Int) : Nat := md (cs 6) 6
def odC (cs : Nat → Int) : Nat := md ((cs 6).fdiv 6) 2
def nmL (od i : Nat) : Nat := if (od + i) % 2 = 0 then 100 else 116
def cmpL : Nat → List Nat | 0 => [60] | 1 => [62] | 2 => [60, 61] | 3 => [62, 61] | 4 => [61, 61] | _ => [33, 61]
def pageL (od dr : Nat) : List Nat := [32, 34] ++ [nmL od 0] ++ [34, 34] ++ cmpL dr ++ [34, 34] ++ [nmL od 1] ++ [34, 32, 97, 110, 100, 32, 34, 115, 111, 32, 111, 110, 34]
abbrev dDue (cs : Nat → Int) : PyData := .int (dueC cs : Nat)
abbrev dDraw (cs : Nat → Int) : PyData := .int (drawC cs : Nat)
abbrev dNames (cs : Nat → Int) : PyData := RL 2 fun i => .str (strOf' [nmL (odC cs) i])
abbrev dPage (cs : Nat → Int) : PyData := .str (strOf' (pageL (odC cs) (drawC cs)))
theorem mem_good {cs : Nat → Int} {i : Nat} (h : i ∈ goodL cs) : i < 5 ∧ kd cs i < 5 := by
  unfold goodL at h
  obtain ⟨a, b⟩ := List.mem_filter.mp h
  exact ⟨List.mem_range.mp a, by rwa [Nat.blt_eq] at b⟩
theorem good_len (cs : Nat → Int) : (goodL cs).length ≤ 5 := by
  unfold goodL
  exact Nat.le_trans (List.length_filter_le _ _) (by rw [List.length_range]; exact Nat.le_refl _)
theorem good_any {cs : Nat → Int} {i : Nat} (hi : i < 5) : (((goodL cs).map fun i => PyData.int (i : Nat)).any fun y => PyData.eqv y (.int (i : Nat))) = decide (kd cs i < 5) := by
  rw [List.any_map]
  apply Bool.eq_iff_iff.mpr
  rw [List.any_eq_true, decide_eq_true_eq]
  constructor
  · rintro ⟨x, hx, e⟩
    have e : ((x : Int) == (i : Int)) = true := e
    have : x = i := by rw [beq_iff_eq] at e; omega
    exact this ▸ (mem_good hx).2
  · intro h
    refine ⟨i, List.mem_filter.mpr ⟨List.mem_range.mpr hi, (by rw [Nat.blt_eq]; exact h)⟩, ?_⟩
    show ((i : Int) == (i : Int)) = true
    exact beq_self_eq_true _
theorem good_ok (cs : Nat → Int) : SeqAt.shaped (dGood cs) = true := (Okd.map (k := 0) fun _ _ => .int _).sh (by decide)
theorem told_ok (cs i) : Okd 1 (toldD cs i) := by
  unfold toldD; split
  · exact Okd.tuple (k := 0) fun d hd => by
      rcases List.mem_cons.mp hd with rfl | hd
      · exact Okd.str (by decide +kernel)
      · rw [List.mem_singleton.mp hd]; exact Okd.int _
  · exact Okd.str (ok_app (headK_ok _) (repC_ok cs i))
theorem headK_len (k) : (headK k).length ≤ 5 := by unfold headK; split <;> decide +kernel
section
variable {c : Cx} (W : W0 c)
include W
theorem st6 {out : Out} {cs : Nat → Int} (h : LX c [("good", dGood cs), ("told", dTold cs), ("counts", dCounts cs), ("marks", dMarks cs), ("cells", dCells cs)] 10 out) : LX c [("kinds", dKinds cs), ("insides", dInsides cs), ("counts", dCounts cs), ("marks", dMarks cs), ("cells", dCells cs)] 6 out := by
  refine Ex.cons (X1.assignC (x := "replies") (d := dReplies cs) (ρ' := [("kinds", dKinds cs), ("counts", dCounts cs), ("marks", dMarks cs), ("cells", dCells cs)]) (Ev.comp (ρ' := [("kinds", dKinds cs), ("insides", dInsides cs), ("marks", dMarks cs)]) (C' := []) rfl (Its.range0 5 Ev.int (g_range W) (b_range W) (by omega) (by omega)) (Blk.of (by repeat (first | exact sub_nil | refine sub_cons (by repeat (first | with_reducible exact List.mem_cons_self | with_reducible apply List.mem_cons_of_mem)) ?_)) (by kernel_rfl))
    (CL.mapL (List.range 5) _ (fun i => pr (headK (kd cs i), strOf' (repC cs i))) rfl (fun _ h => nomatch h) (fun i hi => ?_)) (by rw [rl_len]; decide)) (.inr (by decide)) (by repeat (first | exact sub_nil | refine sub_cons (by repeat (first | with_reducible exact List.mem_cons_self | with_reducible apply List.mem_cons_of_mem)) ?_)) (by repeat (first | exact ne_nil | refine ne_cons (by decide) ?_)) own_none (fun env h1 h2 => by cases env with | mk scope l g ce q f cd fr bu => cases scope with | mk sk sn s3 s4 s5 => (simp only at h1 h2; subst h1 h2; rfl))) ?_
  · have hi := List.mem_range.mp hi
    exact It.emit1 (.inl (by kernel_rfl)) (by repeat (first | exact ne_nil | refine ne_cons (by decide) ?_)) TsI.nil (Ev.call (EvL.cons (Ev.rlAt (f := fun i => .int (kd cs i : Nat)) hi (by decide) (Ev.name (by repeat (first | with_reducible exact List.mem_cons_self | with_reducible apply List.mem_cons_of_mem))) (Ev.name (by repeat (first | with_reducible exact List.mem_cons_self | with_reducible apply List.mem_cons_of_mem)))) (EvL.cons (Ev.rlAt (f := fun i => .str (strOf' (insC cs i))) hi (by decide) (Ev.name (by repeat (first | with_reducible exact List.mem_cons_self | with_reducible apply List.mem_cons_of_mem))) (Ev.name (by repeat (first | with_reducible exact List.mem_cons_self | with_reducible apply List.mem_cons_of_mem)))) (EvL.cons (Ev.rlAt (f := fun i => .str (strOf' [letter (m4 cs i)])) hi (by decide) (Ev.name (by repeat (first | with_reducible exact List.mem_cons_self | with_reducible apply List.mem_cons_of_mem))) (Ev.name (by repeat (first | with_reducible exact List.mem_cons_self | with_reducible apply List.mem_cons_of_mem)))) EvL.nil)))
      ((fn_reply W (kd_lt cs i) (Nat.le_trans insL_len (by decide))).le (by decide))) rfl
  refine Ex.cons (X1.assignC (x := "told") (d := dTold cs) (ρ' := [("replies", dReplies cs), ("kinds", dKinds cs), ("counts", dCounts cs), ("marks", dMarks cs), ("cells", dCells cs)]) (Ev.comp (ρ' := []) (C' := []) rfl (Its.list (Ev.name (by repeat (first | with_reducible exact List.mem_cons_self | with_reducible apply List.mem_cons_of_mem)))) (Blk.of (by repeat (first | exact sub_nil | refine sub_cons (by repeat (first | with_reducible exact List.mem_cons_self | with_reducible apply List.mem_cons_of_mem)) ?_)) (by kernel_rfl))
    (CL.mapL (List.range 5) (fun i => pr (headK (kd cs i), strOf' (repC cs i))) (toldD cs) rfl (fun _ h => nomatch h) (fun i hi => It.emit2L (a := .str (headK (kd cs i))) (b := .str (strOf' (repC cs i))) (.inl (by kernel_rfl)) (.inl (by kernel_rfl)) (by decide) (by repeat (first | exact ne_nil | refine ne_cons (by decide) ?_)) (by repeat (first | exact ne_nil | refine ne_cons (by decide) ?_)) TsI.nil (Ev.call (EvL.cons (Ev.name (by repeat (first | with_reducible exact List.mem_cons_self | with_reducible apply List.mem_cons_of_mem))) (EvL.cons Ev.bool EvL.nil)) ((fn_told W cs i).le (by decide))) rfl)) (by rw [rl_len]; decide)) (.inr (by decide)) (by repeat (first | exact sub_nil | refine sub_cons (by repeat (first | with_reducible exact List.mem_cons_self | with_reducible apply List.mem_cons_of_mem)) ?_)) (by repeat (first | exact ne_nil | refine ne_cons (by decide) ?_)) own_none (fun env h1 h2 => by cases env with | mk scope l g ce q f cd fr bu => cases scope with | mk sk sn s3 s4 s5 => (simp only at h1 h2; subst h1 h2; rfl))) ?_
  refine Ex.cons (X1.assignC (x := "good") (d := dGood cs) (ρ' := [("told", dTold cs), ("replies", dReplies cs), ("counts", dCounts cs), ("marks", dMarks cs), ("cells", dCells cs)]) (Ev.comp (ρ' := [("kinds", dKinds cs)]) (C' := []) rfl (Its.range0 5 Ev.int (g_range W) (b_range W) (by omega) (by omega)) (Blk.of (by repeat (first | exact sub_nil | refine sub_cons (by repeat (first | with_reducible exact List.mem_cons_self | with_reducible apply List.mem_cons_of_mem)) ?_)) (by kernel_rfl))
    (CL.filtL (List.range 5) (fun i => Nat.blt (kd cs i) 5) _ (fun i => .int (i : Nat)) rfl (fun _ h => nomatch h)
      (fun i hi q => It.emit1 (.inl (by kernel_rfl)) (by repeat (first | exact ne_nil | refine ne_cons (by decide) ?_)) (TsI.one (Ts.conv (Ts.cmp (Ev.rlAt (f := fun i => .int (kd cs i : Nat)) (List.mem_range.mp hi) (by decide) (Ev.name (by repeat (first | with_reducible exact List.mem_cons_self | with_reducible apply List.mem_cons_of_mem))) (Ev.name (by repeat (first | with_reducible exact List.mem_cons_self | with_reducible apply List.mem_cons_of_mem)))) Ev.int Op2.lt) (by rw [Nat.blt_eq] at q; exact decide_eq_true (by omega)))) (Ev.name (by repeat (first | with_reducible exact List.mem_cons_self | with_reducible apply List.mem_cons_of_mem))) rfl)
      (fun i hi q => It.skip1 (.inl (by kernel_rfl)) (by repeat (first | exact ne_nil | refine ne_cons (by decide) ?_)) (TsI.one (Ts.conv (Ts.cmp (Ev.rlAt (f := fun i => .int (kd cs i : Nat)) (List.mem_range.mp hi) (by decide) (Ev.name (by repeat (first | with_reducible exact List.mem_cons_self | with_reducible apply List.mem_cons_of_mem))) (Ev.name (by repeat (first | with_reducible exact List.mem_cons_self | with_reducible apply List.mem_cons_of_mem)))) Ev.int Op2.lt) (decide_eq_false (fun z => by have : Nat.blt (kd cs i) 5 = true := by { rw [Nat.blt_eq]; omega }; rw [this] at q; cases q)))))) (by rw [List.length_map]; exact Nat.le_trans (good_len cs) (by decide))) (.inr (by decide)) (by repeat (first | exact sub_nil | refine sub_cons (by repeat (first | with_reducible exact List.mem_cons_self | with_reducible apply List.mem_cons_of_mem)) ?_)) (by repeat (first | exact ne_nil | refine ne_cons (by decide) ?_)) own_none (fun env h1 h2 => by cases env with | mk scope l g ce q f cd fr bu => cases scope with | mk sk sn s3 s4 s5 => (simp only at h1 h2; subst h1 h2; rfl))) ?_
  refine Ex.ifNot (Ts.neSame (Ev.conv (d := dTold cs) (Ev.name (by repeat (first | with_reducible exact List.mem_cons_self | with_reducible apply List.mem_cons_of_mem))) rfl) (Ev.comp (ρ' := [("good", dGood cs), ("replies", dReplies cs), ("counts", dCounts cs)]) (C' := []) rfl (Its.range0 5 Ev.int (g_range W) (b_range W) (by omega) (by omega)) (Blk.of (by repeat (first | exact sub_nil | refine sub_cons (by repeat (first | with_reducible exact List.mem_cons_self | with_reducible apply List.mem_cons_of_mem)) ?_)) (by kernel_rfl))
    (CL.mapL (List.range 5) _ (toldD cs) rfl (fun _ h => nomatch h) (fun i hi => ?_)) (by rw [rl_len]; decide)) (Okd.map fun i _ => told_ok cs i)) (Ex.sub h (by repeat (first | exact sub_nil | refine sub_cons (by repeat (first | with_reducible exact List.mem_cons_self | with_reducible apply List.mem_cons_of_mem)) ?_)))
  have hi := List.mem_range.mp hi
  have b1 := repC_len cs i
  have b2 := headK_len (kd cs i)
  refine It.emit1 (.inl (by kernel_rfl)) (by repeat (first | exact ne_nil | refine ne_cons (by decide) ?_)) TsI.nil (Ev.ite (b := decide (kd cs i < 5)) (Ts.conv (Ts.cmp (Ev.name (by repeat (first | with_reducible exact List.mem_cons_self | with_reducible apply List.mem_cons_of_mem))) (Ev.name (by repeat (first | with_reducible exact List.mem_cons_self | with_reducible apply List.mem_cons_of_mem))) (Op2.inList (good_ok cs) rfl)) (good_any hi)) (fun q => ?_) (fun q => ?_)) rfl
  · exact Ev.conv (Ev.tuple (EvL.cons Ev.str (EvL.cons (Ev.rlAt (f := fun i => .int (ct cs i : Nat)) hi (by decide) (Ev.name (by repeat (first | with_reducible exact List.mem_cons_self | with_reducible apply List.mem_cons_of_mem))) (Ev.name (by repeat (first | with_reducible exact List.mem_cons_self | with_reducible apply List.mem_cons_of_mem)))) EvL.nil))) (by unfold toldD; rw [if_pos (of_decide_eq_true q)])
  · exact Ev.conv (Ev.app (Ev.itemL (xs := [.str (headK (kd cs i)), .str (strOf' (repC cs i))]) (j := 0) (Ev.rlAt (f := fun i => pr (headK (kd cs i), strOf' (repC cs i))) hi (by decide) (Ev.name (by repeat (first | with_reducible exact List.mem_cons_self | with_reducible apply List.mem_cons_of_mem))) (Ev.name (by repeat (first | with_reducible exact List.mem_cons_self | with_reducible apply List.mem_cons_of_mem)))) Ev.int (by show seqIndex? 0 2 = some 0; decide) rfl (by show 2 < 2 ^ 62; decide)) (Ev.itemL (xs := [.str (headK (kd cs i)), .str (strOf' (repC cs i))]) (j := 1) (Ev.rlAt (f := fun i => pr (headK (kd cs i), strOf' (repC cs i))) hi (by decide) (Ev.name (by repeat (first | with_reducible exact List.mem_cons_self | with_reducible apply List.mem_cons_of_mem))) (Ev.name (by repeat (first | with_reducible exact List.mem_cons_self | with_reducible apply List.mem_cons_of_mem)))) Ev.int (by show seqIndex? 1 2 = some 1; decide) rfl (by show 2 < 2 ^ 62; decide)) (by rw [len_of]; omega)) (by unfold toldD; rw [if_neg (of_decide_eq_false q)])
end

end Mine
namespace Mine
def boundL (due : Nat) : List Nat := [50, 50, 57, 32, 40, 124, 124, 124] ++ [48 + due] ++ [124, 41]
theorem bound_chk : ∀ d, d < 9 → okL (boundL d) d = true := by decide +kernel
theorem name_rl (od : Nat) (h : od < 2) : RL 2 (fun i => .str (strOf' [nmL od i])) = if od = 0 then .list [.str "d", .str "t"] else .list [.str "t", .str "d"] := by
  match od, h with
  | 0, _ => kernel_rfl
  | 1, _ => kernel_rfl
theorem cmp_rl : (.list [.str "<", .str ">", .str "<=", .str ">=", .str "==", .str "!="] : PyData) = RL 6 (fun i => .str (strOf' (cmpL i))) := by kernel_rfl
theorem cmp_len (i : Nat) : (cmpL i).length ≤ 2 := by unfold cmpL; split <;> decide
theorem due_lt (cs) : dueC cs < 9 := md_lt _ (by decide)
theorem draw_lt (cs) : drawC cs < 6 := md_lt _ (by decide)
theorem od_lt (cs) : odC cs < 2 := md_lt _ (by decide)
theorem told_good {cs : Nat → Int} {i : Nat} (h : kd cs i < 5) : toldD cs i = .tuple [.str "here", .int (ct cs i : Nat)] := by unfold toldD; rw [if_pos h]
abbrev B5 (cs : Nat → Int) : Vars := [("size", dSize cs), ("words", dWords cs), ("good", dGood cs), ("counts", dCounts cs), ("marks", dMarks cs), ("cells", dCells cs)]
abbrev B6 (cs : Nat → Int) : Vars := ("bound", dDue cs) :: ("due", dDue cs) :: B5 cs
section
variable {c : Cx} (W : W0 c)
include W
theorem st10 {out : Out} {cs : Nat → Int} (h : LX c (("page", dPage cs) :: ("names", dNames cs) :: ("draw", dDraw cs) :: B6 cs) 19 out) : LX c [("good", dGood cs), ("told", dTold cs), ("counts", dCounts cs), ("marks", dMarks cs), ("cells", dCells cs)] 10 out := by
  refine Ex.cons (X1.assignC (x := "words") (d := dWords cs) (ρ' := [("good", dGood cs), ("counts", dCounts cs), ("marks", dMarks cs), ("cells", dCells cs)]) (Ev.comp (ρ' := [("told", dTold cs), ("marks", dMarks cs)]) (C' := []) rfl (Its.list (Ev.name (by repeat (first | with_reducible exact List.mem_cons_self | with_reducible apply List.mem_cons_of_mem)))) (Blk.of (by repeat (first | exact sub_nil | refine sub_cons (by repeat (first | with_reducible exact List.mem_cons_self | with_reducible apply List.mem_cons_of_mem)) ?_)) (by kernel_rfl))
    (CL.mapL (goodL cs) _ (fun k => .str (strOf' (wordL cs k))) rfl (fun _ h => nomatch h) (fun i hi => ?_)) (by rw [List.length_map]; exact Nat.le_trans (good_len cs) (by decide))) (.inr (by decide)) (by repeat (first | exact sub_nil | refine sub_cons (by repeat (first | with_reducible exact List.mem_cons_self | with_reducible apply List.mem_cons_of_mem)) ?_)) (by repeat (first | exact ne_nil | refine ne_cons (by decide) ?_)) own_none (fun env h1 h2 => by cases env with | mk scope l g ce q f cd fr bu => cases scope with | mk sk sn s3 s4 s5 => (simp only at h1 h2; subst h1 h2; rfl))) ?_
  · obtain ⟨h5, hk⟩ := mem_good hi
    have hc := ct_lt cs i
    exact It.emit1 (.inl (by kernel_rfl)) (by repeat (first | exact ne_nil | refine ne_cons (by decide) ?_)) TsI.nil (Ev.conv (Ev.call (EvL.cons (Ev.rlAt (f := fun i => .str (strOf' [letter (m4 cs i)])) h5 (by decide) (Ev.name (by repeat (first | with_reducible exact List.mem_cons_self | with_reducible apply List.mem_cons_of_mem))) (Ev.name (by repeat (first | with_reducible exact List.mem_cons_self | with_reducible apply List.mem_cons_of_mem)))) (EvL.cons (Ev.itemT (xs := [.str "here", .int (ct cs i : Nat)]) (j := 1) (Ev.conv (Ev.rlAt (f := toldD cs) h5 (by decide) (Ev.name (by repeat (first | with_reducible exact List.mem_cons_self | with_reducible apply List.mem_cons_of_mem))) (Ev.name (by repeat (first | with_reducible exact List.mem_cons_self | with_reducible apply List.mem_cons_of_mem)))) (told_good hk)) Ev.int (by show seqIndex? 1 2 = some 1; decide) rfl (by decide) (by decide)) EvL.nil))
      ((fn_mulS W (mul_ok _ _ (by omega))).le (by decide))) (by rw [mul_rep]; rfl)) rfl
  refine Ex.cons (X1.assign (x := "size") (d := dSize cs) (ρ' := [("words", dWords cs), ("good", dGood cs), ("counts", dCounts cs), ("marks", dMarks cs), ("cells", dCells cs)]) (Ev.conv (Ev.callB (EvL.cons (Ev.name (by repeat (first | with_reducible exact List.mem_cons_self | with_reducible apply List.mem_cons_of_mem))) EvL.nil) (g_len W) (b_len W) (Bi.lenList (by rw [List.length_map]; have := good_len cs; omega))) (by rw [List.length_map])) (.inr (by decide)) (by repeat (first | exact sub_nil | refine sub_cons (by repeat (first | with_reducible exact List.mem_cons_self | with_reducible apply List.mem_cons_of_mem)) ?_)) (by repeat (first | exact ne_nil | refine ne_cons (by decide) ?_)) own_none) ?_
  refine Ex.cons (X1.assign (x := "due") (d := dDue cs) (ρ' := B5 cs) (Ev.modN 9 (Ev.rlAt (n := 7) (k := 5) (f := fun i => .int (cs i)) (by decide) (by decide) (Ev.name (by repeat (first | with_reducible exact List.mem_cons_self | with_reducible apply List.mem_cons_of_mem))) Ev.int)) (.inr (by decide)) (by repeat (first | exact sub_nil | refine sub_cons (by repeat (first | with_reducible exact List.mem_cons_self | with_reducible apply List.mem_cons_of_mem)) ?_)) (by repeat (first | exact ne_nil | refine ne_cons (by decide) ?_)) own_none) ?_
  have hd := due_lt cs
  have sp := spec_ok (bound_chk (dueC cs) hd)
  have hl : ∀ d, (strOf' (boundL d)).length ≤ 1000 := fun d => by rw [len_of]; show 11 ≤ 1000; decide
  refine Ex.cons (X1.assign (x := "bound") (d := .tuple [.str "here", dDue cs]) (ρ' := ("due", dDue cs) :: B5 cs) (Ev.call (EvL.cons (Ev.conv (d' := .str (strOf' (boundL (dueC cs)))) (Ev.app (x := strOf' [50, 50, 57, 32, 40, 124, 124, 124] ++ strOf' [48 + dueC cs]) (y := strOf' [124, 41]) (Ev.app (Ev.conv Ev.str (by congr 1)) (Ev.conv (Ev.callT (EvL.cons (Ev.name (by repeat (first | with_reducible exact List.mem_cons_self | with_reducible apply List.mem_cons_of_mem))) EvL.nil) (g_str W) (b_str W) (Bi.strInt (log_small _ (by omega)))) (by rw [str_dig _ (by omega)])) (by rw [len_of, len_of]; show 8 + 1 ≤ 16777216; decide)) (Ev.conv Ev.str (by congr 1)) (by rw [strOf_appd, len_of, len_of]; show 9 + 2 ≤ 16777216; decide)) (by rw [strOf_appd, strOf_appd]; rfl)) (EvL.cons Ev.bool EvL.nil)) ((fn_read229 W (hl _) sp).le (by decide))) (.inr (by decide)) (by repeat (first | exact sub_nil | refine sub_cons (by repeat (first | with_reducible exact List.mem_cons_self | with_reducible apply List.mem_cons_of_mem)) ?_)) (by repeat (first | exact ne_nil | refine ne_cons (by decide) ?_)) own_none) ?_
  refine Ex.ifNot (Ts.neSame (k := 1) (Ev.conv (d := .tuple [.str "here", dDue cs]) (Ev.name (by repeat (first | with_reducible exact List.mem_cons_self | with_reducible apply List.mem_cons_of_mem))) rfl) (Ev.tuple (EvL.cons Ev.str (EvL.cons (Ev.name (by repeat (first | with_reducible exact List.mem_cons_self | with_reducible apply List.mem_cons_of_mem))) EvL.nil))) (Okd.tuple (k := 0) fun d hd => by
      rcases List.mem_cons.mp hd with rfl | hd
      · exact Okd.str (by decide +kernel)
      · rw [List.mem_singleton.mp hd]; exact Okd.int _)) ?_
  refine Ex.cons (X1.assign (x := "bound") (d := dDue cs) (ρ' := ("due", dDue cs) :: B5 cs) (Ev.itemT (xs := [.str "here", dDue cs]) (j := 1) (Ev.name (by repeat (first | with_reducible exact List.mem_cons_self | with_reducible apply List.mem_cons_of_mem))) Ev.int (by show seqIndex? 1 2 = some 1; decide) rfl (by decide) (by decide)) (.inr (by decide)) (by repeat (first | exact sub_nil | refine sub_cons (by repeat (first | with_reducible exact List.mem_cons_self | with_reducible apply List.mem_cons_of_mem)) ?_)) (by repeat (first | exact ne_nil | refine ne_cons (by decide) ?_)) own_none) ?_
  refine Ex.cons (X1.assign (x := "draw") (d := dDraw cs) (ρ' := B6 cs) (Ev.modN 6 (Ev.rlAt (n := 7) (k := 6) (f := fun i => .int (cs i)) (by decide) (by decide) (Ev.name (by repeat (first | with_reducible exact List.mem_cons_self | with_reducible apply List.mem_cons_of_mem))) Ev.int)) (.inr (by decide)) (by repeat (first | exact sub_nil | refine sub_cons (by repeat (first | with_reducible exact List.mem_cons_self | with_reducible apply List.mem_cons_of_mem)) ?_)) (by repeat (first | exact ne_nil | refine ne_cons (by decide) ?_)) own_none) ?_
  have ho := od_lt cs
  have hdr := draw_lt cs
  refine Ex.cons (X1.assign (x := "names") (d := dNames cs) (ρ' := ("draw", dDraw cs) :: B6 cs) (Ev.ite (b := decide ((odC cs : Int) = 0)) (Ts.cmp (Ev.modN 2 (Ev.divC (Ev.rlAt (n := 7) (k := 6) (f := fun i => .int (cs i)) (by decide) (by decide) (Ev.name (by repeat (first | with_reducible exact List.mem_cons_self | with_reducible apply List.mem_cons_of_mem))) Ev.int))) Ev.int Op2.eqI)
    (fun q => Ev.conv (Ev.list (EvL.cons Ev.str (EvL.cons Ev.str EvL.nil))) (by have q := of_decide_eq_true q; show _ = RL 2 _; rw [name_rl _ ho, if_pos (by omega)]))
    (fun q => Ev.conv (Ev.list (EvL.cons Ev.str (EvL.cons Ev.str EvL.nil))) (by have q := of_decide_eq_false q; show _ = RL 2 _; rw [name_rl _ ho, if_neg (by omega)]))) (.inr (by decide)) (by repeat (first | exact sub_nil | refine sub_cons (by repeat (first | with_reducible exact List.mem_cons_self | with_reducible apply List.mem_cons_of_mem)) ?_)) (by repeat (first | exact ne_nil | refine ne_cons (by decide) ?_)) own_none) ?_
  have hcl := cmp_len (drawC cs)
  refine Ex.cons (X1.assign (x := "page") (d := dPage cs) (ρ' := ("names", dNames cs) :: ("draw", dDraw cs) :: B6 cs)
    (Ev.conv (d := .str (strOf' [32, 34] ++ strOf' [nmL (odC cs) 0] ++ strOf' [34, 34] ++ strOf' (cmpL (drawC cs)) ++ strOf' [34, 34] ++ strOf' [nmL (odC cs) 1] ++ strOf' [34, 32, 97, 110, 100, 32, 34, 115, 111, 32, 111, 110, 34]))
      (EvS.app (a := 10) (b := 13) (EvS.app (a := 9) (b := 1) (EvS.app (a := 7) (b := 2) (EvS.app (a := 5) (b := 2) (EvS.app (a := 3) (b := 2) (EvS.app (a := 2) (b := 1) (EvS.mk (Ev.conv Ev.str (by congr 1)) (by rw [len_of]; decide)) (EvS.mk (Ev.rlAt (n := 2) (k := 0) (f := fun i => .str (strOf' [nmL (odC cs) i])) (by decide) (by decide) (Ev.name (by repeat (first | with_reducible exact List.mem_cons_self | with_reducible apply List.mem_cons_of_mem))) Ev.int) (by rw [len_of]; exact Nat.le_refl _)))
        (EvS.mk (Ev.conv Ev.str (by congr 1)) (by rw [len_of]; decide)))
        (EvS.mk (Ev.rlAt (k := drawC cs) (f := fun i => .str (strOf' (cmpL i))) hdr (by decide) (Ev.conv (Ev.list (EvL.cons Ev.str (EvL.cons Ev.str (EvL.cons Ev.str (EvL.cons Ev.str (EvL.cons Ev.str (EvL.cons Ev.str EvL.nil))))))) cmp_rl) (Ev.name (by repeat (first | with_reducible exact List.mem_cons_self | with_reducible apply List.mem_cons_of_mem)))) (by rw [len_of]; exact hcl)))
        (EvS.mk (Ev.conv Ev.str (by congr 1)) (by rw [len_of]; decide)))
        (EvS.mk (Ev.rlAt (n := 2) (k := 1) (f := fun i => .str (strOf' [nmL (odC cs) i])) (by decide) (by decide) (Ev.name (by repeat (first | with_reducible exact List.mem_cons_self | with_reducible apply List.mem_cons_of_mem))) Ev.int) (by rw [len_of]; exact Nat.le_refl _)))
        (EvS.mk (Ev.conv Ev.str (by congr 1)) (by rw [len_of]; decide))).ev
      (by rw [strOf_appd, strOf_appd, strOf_appd, strOf_appd, strOf_appd, strOf_appd]; rfl)) (.inr (by decide)) (by repeat (first | exact sub_nil | refine sub_cons (by repeat (first | with_reducible exact List.mem_cons_self | with_reducible apply List.mem_cons_of_mem)) ?_)) (by repeat (first | exact ne_nil | refine ne_cons (by decide) ?_)) own_none) ?_
  exact h
end

end Mine
namespace Mine
def codeL : Nat → List Nat | 0 => [49, 53, 55] | 1 => [50, 52, 55] | _ => [50, 53, 54]
def qL (p : List Nat) : Nat → List Nat | 0 => codeL 0 ++ p | 1 => codeL 1 ++ p | 2 => codeL 2 ++ p | 3 => [50, 53, 55, 45] ++ p.drop 1 | _ => [50, 53, 55, 32, 39] ++ p.drop 2
def hD (p : List Nat) (i : Nat) : PyData := if i < 3 then .str ("code " ++ strOf' (qL p i)) else .str ""
def rowL (od dr : Nat) : List Int := [(256 + od : Nat), 255, symD dr, 255, (257 - od : Nat), 0]
def ordL (od : Nat) : List Int := [(256 + od : Nat), (257 - od : Nat)]
abbrev dRow (cs : Nat → Int) : PyData := LI (rowL (odC cs) (drawC cs))
abbrev dOrder (cs : Nat → Int) : PyData := LI (ordL (odC cs))
theorem row_of : ∀ od, od < 2 → ∀ dr, dr < 6 → cut (unq (([50, 53, 55] ++ pageL od dr).drop 5)) = rowL od dr := by decide +kernel
theorem row_term : ∀ od, od < 2 → ∀ dr, dr < 6 → (rowL od dr).filter (fun x => decide (x < 256)) = [255, symD dr, 255, 0] := by decide +kernel
theorem row_non : ∀ od, od < 2 → ∀ dr, dr < 6 → (rowL od dr).filter (fun x => decide (256 ≤ x)) = ordL od := by decide +kernel
theorem page_ok : ∀ od, od < 2 → ∀ dr, dr < 6 → (pageL od dr).all (· < 0x110000) = true ∧ (pageL od dr).length ≤ 40 ∧ ((pageL od dr).take 2 == [32, 34]) = true := by decide +kernel
theorem qL_ok : ∀ od, od < 2 → ∀ dr, dr < 6 → ∀ i, i < 5 → (qL (pageL od dr) i).all (· < 0x110000) = true ∧ (qL (pageL od dr) i).length ≤ 50 ∧ (if i < 3 then ((qL (pageL od dr) i).take 3 == [50, 53, 55]) = false else ((qL (pageL od dr) i).take 3 == [50, 53, 55]) = true ∧ (((qL (pageL od dr) i).drop 3).take 2 == [32, 34]) = false ∧ 5 ≤ (qL (pageL od dr) i).length) := by decide +kernel
theorem unq_len : ∀ l : List Nat, (unq l).length ≤ l.length
  | [] => by rw [unq.eq_def]; exact Nat.le_refl _
  | [a] => by
    by_cases h : a = 34
    · subst h; rw [unq.eq_def]; simp
    · rw [unq_other h]; rw [List.length_cons, List.length_cons]; exact Nat.succ_le_succ (unq_len [])
  | a :: b :: r => by
    by_cases h : a = 34
    · subst h
      by_cases h2 : b = 34
      · subst h2; rw [unq_two]; have := unq_len r; simp only [List.length_cons]; omega
      · rw [unq_end h2]; exact Nat.zero_le _
    · rw [unq_other h]; rw [List.length_cons, List.length_cons]; exact Nat.succ_le_succ (unq_len (b :: r))
theorem r257_head (l : List Nat) : (Txt.slice (strOf' l) none (some 3) = "257") ↔ l.take 3 = [50, 53, 55] := by
  have e : Txt.slice (strOf' l) none (some 3) = strOf' (l.take 3) := by have := slice_take (strOf' l) 3; rw [strOf_list] at this; exact this
  rw [e, show ("257" : Str) = strOf' [50, 53, 55] from by decide]
  exact strOf_inj
theorem r257_next (l : List Nat) (h : 5 ≤ l.length) : (Txt.slice (strOf' l) (some 3) (some 5) = " \"") ↔ (l.drop 3).take 2 = [32, 34] := by
  have e : Txt.slice (strOf' l) (some 3) (some 5) = strOf' ((l.drop 3).take 2) := slice_mid l 3 5 (by decide) h
  rw [e, show (" \"" : Str) = strOf' [32, 34] from by decide]
  exact strOf_inj
section
variable {c : Cx} (W : W0 c)
include W
theorem fn_heard {od dr i : Nat} (ho : od < 2) (hd : dr < 6) (hi : i < 5) : Fn c 2 "_law_read" [.str (strOf' (qL (pageL od dr) i)), .bool true] (hD (pageL od dr) i) := by
  obtain ⟨_, h2, h3⟩ := qL_ok od ho dr hd i hi
  have hl : (strOf' (qL (pageL od dr) i)).length ≤ 1000 := by rw [len_of]; omega
  unfold hD
  by_cases h : i < 3
  · rw [if_pos h] at h3 ⊢
    exact fn_read_code W hl (.inr ⟨rfl, bix257_code W hl (fun q => by rw [(r257_head _).mp q] at h3; cases h3)⟩)
  · rw [if_neg h] at h3 ⊢
    obtain ⟨a, b, e⟩ := h3
    exact fn_read257 W (bi257_none W hl ((r257_head _).mpr (beq_iff_eq.mp a)) (fun q => by rw [(r257_next _ e).mp q] at b; cases b))
theorem fn_heard' {l : List Nat} (h : ([50, 53, 55, 32, 34] ++ l).length ≤ 1000) : Fn c 2 "_law_read" [.str (strOf' ([50, 53, 55, 32, 34] ++ l)), .bool true] (.str (strOf' (unq l))) := by
  have := bi257_ok W (x := strOf' ([50, 53, 55, 32, 34] ++ l)) (by rw [len_of]; exact h) (by rw [len_of, List.length_append]; exact Nat.le_add_right 5 _) ((r257_head _).mpr rfl) ((r257_next _ (by rw [List.length_append]; exact Nat.le_add_right 5 _)).mpr rfl)
  rw [strOf_list] at this
  exact fn_read257 W this
omit W in
theorem heard_list (p : List Nat) : PyData.list ((List.range 3).map (fun i => PyData.str (strOf' (codeL i ++ p))) ++ [.str (strOf' ([50, 53, 55, 45] ++ p.drop 1)), .str (strOf' ([50, 53, 55, 32, 39] ++ p.drop 2))]) = RL 5 fun i => .str (strOf' (qL p i)) := by kernel_rfl
omit W in
theorem heard_list2 (p : List Nat) : PyData.list ((List.range 3).map (fun i => PyData.str (strOf' [99, 111, 100, 101, 32] ++ strOf' (codeL i ++ p))) ++ [.str "", .str ""]) = RL 5 (hD p) := by kernel_rfl
omit W in
theorem codes_list : PyData.list [.str "157", .str "247", .str "256"] = RL 3 fun i => .str (strOf' (codeL i)) := by kernel_rfl
omit W in
theorem codeL_len (i : Nat) : (codeL i).length = 3 := by unfold codeL; split <;> rfl
abbrev B7 (cs : Nat → Int) : Vars := ("names", dNames cs) :: ("draw", dDraw cs) :: B6 cs
theorem st19 {out : Out} {cs : Nat → Int} (h : LX c (("row", dRow cs) :: B7 cs) 23 out) : LX c (("page", dPage cs) :: B7 cs) 19 out := by
  have ho := od_lt cs
  have hdr := draw_lt cs
  obtain ⟨p1, p2, p3⟩ := page_ok _ ho _ hdr
  generalize hp : pageL (odC cs) (drawC cs) = p at *
  have hd : ∀ k, ((p.drop k).length ≤ 40) := fun k => by rw [List.length_drop]; omega
  have ee : dPage cs = .str (strOf' p) := by show PyData.str (strOf' (pageL _ _)) = _; rw [hp]
  rw [ee]
  refine Ex.cons (X1.comp (y := "codes") (out := (List.range 3).map fun i => .str (strOf' (codeL i ++ p))) (ρ₁ := ("page", .str (strOf' p)) :: B7 cs) (ρ' := [("page", .str (strOf' p))]) (C' := []) rfl (Its.list' (Ev.list (EvL.cons Ev.str (EvL.cons Ev.str (EvL.cons Ev.str EvL.nil)))) codes_list) (Blk.of (by repeat (first | exact sub_nil | refine sub_cons (by repeat (first | with_reducible exact List.mem_cons_self | with_reducible apply List.mem_cons_of_mem)) ?_)) (by kernel_rfl))
    (CL.mapL (List.range 3) _ (fun i => .str (strOf' (codeL i ++ p))) rfl (fun _ h => nomatch h) (fun i hi => It.emit1 (.inl (by kernel_rfl)) (by repeat (first | exact ne_nil | refine ne_cons (by decide) ?_)) TsI.nil (Ev.conv (Ev.app (Ev.name (by repeat (first | with_reducible exact List.mem_cons_self | with_reducible apply List.mem_cons_of_mem))) (Ev.name (by repeat (first | with_reducible exact List.mem_cons_self | with_reducible apply List.mem_cons_of_mem))) (by rw [len_of, len_of, codeL_len]; omega)) (by rw [strOf_appd])) rfl)) (by rw [rl_len]; decide) (.inl (by kernel_rfl)) (fun _ h => h) (by repeat (first | exact ne_nil | refine ne_cons (by decide) ?_)) (fun env h1 h2 => by cases env with | mk scope l g ce q f cd fr bu => cases scope with | mk sk sn s3 s4 s5 => (simp only at h1 h2; subst h1 h2; rfl))) ?_
  refine Ex.cons (X1.comp (y := "heard") (out := (List.range 5).map (hD p)) (ρ₁ := ("codes", RL 3 fun i => .str (strOf' (codeL i ++ p))) :: ("page", .str (strOf' p)) :: B7 cs) (ρ' := []) (C' := []) rfl
    (Its.list' (Ev.bin (Ev.name (by repeat (first | with_reducible exact List.mem_cons_self | with_reducible apply List.mem_cons_of_mem))) (Ev.list (EvL.cons (Ev.conv (Ev.app (x := strOf' [50, 53, 55, 45]) (Ev.conv Ev.str (by congr 1)) (Ev.dropS (l := p) (s := 1) (by omega) (Ev.name (by repeat (first | with_reducible exact List.mem_cons_self | with_reducible apply List.mem_cons_of_mem))) Ev.int) (by rw [len_of, len_of]; have := hd 1; show 4 + _ ≤ _; omega)) (by rw [strOf_appd])) (EvL.cons (Ev.conv (Ev.app (x := strOf' [50, 53, 55, 32, 39]) (Ev.conv Ev.str (by congr 1)) (Ev.dropS (l := p) (s := 2) (by omega) (Ev.name (by repeat (first | with_reducible exact List.mem_cons_self | with_reducible apply List.mem_cons_of_mem))) Ev.int) (by rw [len_of, len_of]; have := hd 2; show 5 + _ ≤ _; omega)) (by rw [strOf_appd])) EvL.nil))) (Op2.addList (by rw [rl_len]; show 3 + 2 ≤ sizeLine; decide))) (heard_list p)) (Blk.of (by repeat (first | exact sub_nil | refine sub_cons (by repeat (first | with_reducible exact List.mem_cons_self | with_reducible apply List.mem_cons_of_mem)) ?_)) (by kernel_rfl))
    (CL.mapL (List.range 5) _ (hD p) rfl (fun _ h => nomatch h) (fun i hi => It.emit1 (.inl (by kernel_rfl)) (by repeat (first | exact ne_nil | refine ne_cons (by decide) ?_)) TsI.nil (Ev.call (EvL.cons (Ev.name (by repeat (first | with_reducible exact List.mem_cons_self | with_reducible apply List.mem_cons_of_mem))) (EvL.cons Ev.bool EvL.nil)) ((hp ▸ fn_heard W ho hdr (List.mem_range.mp hi) : Fn c 2 "_law_read" [.str (strOf' (qL p i)), .bool true] (hD p i)).le (by decide))) rfl)) (by rw [rl_len]; decide) (.inl (by kernel_rfl)) (fun _ h => h) (by repeat (first | exact ne_nil | refine ne_cons (by decide) ?_)) (fun env h1 h2 => by cases env with | mk scope l g ce q f cd fr bu => cases scope with | mk sk sn s3 s4 s5 => (simp only at h1 h2; subst h1 h2; rfl))) ?_
  refine Ex.ifNot (Ts.neSame (k := 1) (Ev.conv (d := RL 5 (hD p)) (Ev.name (by repeat (first | with_reducible exact List.mem_cons_self | with_reducible apply List.mem_cons_of_mem))) rfl) (Ev.conv (Ev.bin (Ev.comp (out := (List.range 3).map fun i => .str (strOf' [99, 111, 100, 101, 32] ++ strOf' (codeL i ++ p))) (ρ' := []) (C' := []) rfl (Its.list (Ev.name (by repeat (first | with_reducible exact List.mem_cons_self | with_reducible apply List.mem_cons_of_mem)))) (Blk.of (by repeat (first | exact sub_nil | refine sub_cons (by repeat (first | with_reducible exact List.mem_cons_self | with_reducible apply List.mem_cons_of_mem)) ?_)) (by kernel_rfl))
    (CL.mapL (List.range 3) _ (fun i => .str (strOf' [99, 111, 100, 101, 32] ++ strOf' (codeL i ++ p))) rfl (fun _ h => nomatch h) (fun i hi => It.emit1 (.inl (by kernel_rfl)) (by repeat (first | exact ne_nil | refine ne_cons (by decide) ?_)) TsI.nil (Ev.app (Ev.conv Ev.str (by congr 1)) (Ev.name (by repeat (first | with_reducible exact List.mem_cons_self | with_reducible apply List.mem_cons_of_mem))) (by rw [len_of, len_of, List.length_append, codeL_len]; show 5 + _ ≤ _; omega)) rfl)) (by rw [rl_len]; decide)) (Ev.list (EvL.cons Ev.str (EvL.cons Ev.str EvL.nil))) (Op2.addList (by rw [rl_len]; decide))) (heard_list2 p)) (Okd.map fun i hi => ?_)) ?_
  · have hi := List.mem_range.mp hi
    have := (qL_ok _ ho _ hdr i hi).1
    rw [hp] at this
    unfold hD
    split
    · exact Okd.str (ok_app (by decide +kernel) (ok_of this))
    · exact Okd.str (by decide +kernel)
  have e2 : ([50, 53, 55] ++ p) = [50, 53, 55, 32, 34] ++ p.drop 2 := by
    have := beq_iff_eq.mp p3
    conv => lhs; rw [← List.take_append_drop 2 p, this]
    rfl
  have hl : ([50, 53, 55, 32, 34] ++ p.drop 2).length ≤ 1000 := by rw [List.length_append]; have := hd 2; show 5 + _ ≤ _; omega
  have hrow := row_of _ ho _ hdr
  rw [hp, e2] at hrow
  have hrow : cut (unq (p.drop 2)) = rowL (odC cs) (drawC cs) := hrow
  have hul : (unq (p.drop 2)).length ≤ 1000 := Nat.le_trans (unq_len _) (by have := hd 2; omega)
  have fc := fn_cut W hul
  rw [hrow] at fc
  refine Ex.cons (X1.assign (x := "row") (d := dRow cs) (ρ' := B7 cs) (Ev.call (EvL.cons (Ev.call (EvL.cons (Ev.conv (Ev.app (x := strOf' [50, 53, 55]) (Ev.conv Ev.str (by congr 1)) (Ev.name (by repeat (first | with_reducible exact List.mem_cons_self | with_reducible apply List.mem_cons_of_mem))) (by rw [len_of, len_of]; show 3 + _ ≤ _; omega)) (by rw [strOf_appd, e2])) (EvL.cons Ev.bool EvL.nil)) ((fn_heard' W hl).le (by decide))) EvL.nil) (fc.le (by decide))) (.inr (by decide)) (by repeat (first | exact sub_nil | refine sub_cons (by repeat (first | with_reducible exact List.mem_cons_self | with_reducible apply List.mem_cons_of_mem)) ?_)) (by repeat (first | exact ne_nil | refine ne_cons (by decide) ?_)) own_none) ?_
  exact h
end

end Mine
namespace Mine
abbrev LB (l : List Bool) : PyData := .list (l.map .bool)
theorem lb_map {α : Type} (L : List α) (p : α → Bool) : PyData.list (L.map fun i => .bool (p i)) = LB (L.map p) := by rw [LB, List.map_map]; rfl
theorem lb_app (xs ys : List Bool) : PyData.list (xs.map .bool ++ ys.map .bool) = LB (xs ++ ys) := by rw [LB, List.map_append]
theorem li_map {α : Type} (L : List α) (p : α → Int) : PyData.list (L.map fun i => .int (p i)) = LI (L.map p) := by rw [LI, List.map_map]; rfl
theorem li_app (xs ys : List Int) : PyData.list (xs.map .int ++ ys.map .int) = LI (xs ++ ys) := by rw [LI, List.map_append]
theorem ok_lb (l : List Bool) : Okd 1 (LB l) := Okd.map fun _ _ => .bool _
theorem ok_li (l : List Int) : Okd 1 (LI l) := Okd.map fun _ _ => .int _
def rcL (cs : Nat → Int) : List Int := rowL (odC cs) (drawC cs) ++ (List.range 7).map cs
def asked0 (cs : Nat → Int) : List Bool := ((List.range 7).map fun i => decide (cs i < 256)) ++ (List.range 7).map fun i => decide (256 ≤ cs i)
def asked1 (cs : Nat → Int) : List Bool := (rcL cs).map (fun a => a == 0) ++ (List.range 6).map fun k => cmpD (drawC cs) (cs k) (cs (k + 1))
theorem idx_ord : ∀ od, od < 2 → (ordL od).map (fun s => s - 256) = [(od : Int), 1 - od] ∧ (List.range 2).map (fun i => if nmL od i = 100 then (0 : Int) else 1) = [(od : Int), 1 - od] := by decide
theorem ord_mem : ∀ od, od < 2 → ∀ s ∈ ordL od, s = 256 ∨ s = 257 := by decide
theorem nm_mem (od i : Nat) : nmL od i = 100 ∨ nmL od i = 116 := by unfold nmL; split <;> simp
theorem sym_rl : PyData.list [.int 20, .int 21, .int 29, .int 30, .int 27, .int 28] = RL 6 fun i => .int (symD i) := by kernel_rfl
theorem min_eq (a : Int) : decide ((if 255 < a then 255 else a) = a) = decide (a < 256) := by
  apply Bool.eq_iff_iff.mpr; rw [decide_eq_true_eq, decide_eq_true_eq]; split <;> omega
theorem max_eq (a : Int) : decide ((if 256 > a then 256 else a) = a) = decide (256 ≤ a) := by
  apply Bool.eq_iff_iff.mpr; rw [decide_eq_true_eq, decide_eq_true_eq]; split <;> omega
theorem asked_drop (cs : Nat → Int) : PyData.list (pickL ((asked0 cs ++ asked1 cs).map PyData.bool) (some 14) none none) = LB (asked1 cs) := by kernel_rfl
theorem sq_eq (a b : Int) : ((a + b) ^ 2 - (a - b) ^ 2).fdiv 4 = a * b := by
  have e : (a + b) ^ 2 - (a - b) ^ 2 = 4 * (a * b) := by
    rw [Int.pow_succ, Int.pow_succ, Int.pow_zero, Int.one_mul, Int.pow_succ, Int.pow_succ, Int.pow_zero, Int.one_mul]
    rw [Int.add_mul, Int.mul_add, Int.mul_add, Int.sub_mul, Int.mul_sub, Int.mul_sub, Int.mul_comm b a]
    omega
  rw [e]
  exact Int.mul_fdiv_cancel_left _ (by decide)
abbrev B8 (cs : Nat → Int) : Vars := ("order", dOrder cs) :: ("row", dRow cs) :: B7 cs
section
variable {c : Cx} {m : Nat} {T : Tab} {C : List Str} {ρ ρ' : Vars}
theorem Ev.cellAt {value slice : PySem.Expr} {pos : Pos} {cs : Nat → Int} {n k : Nat} (hk : k < n) (hn : n ≤ 1000) (h1 : Ev c m T ρ value (RL n fun i => .int (cs i))) (h2 : Ev c m T ρ slice (.int (k : Nat)))
    (hs : ∀ o i, subscripted slice false o i = operate [o, i] (getItem o i) := by intro _ _; rfl) : Ev c m T ρ (.Subscript value slice pos) (.int (cs k)) := Ev.rlAt (f := fun i => .int (cs i)) hk hn h1 h2 hs
end
section
variable {c : Cx} (W : W0 c)
include W
theorem st23 {out : Out} {cs : Nat → Int} (h : LX c (B8 cs) 26 out) : LX c (("row", dRow cs) :: B7 cs) 23 out := by
  have ho := od_lt cs
  have hdr := draw_lt cs
  refine Ex.ifNot (Ts.neSame (k := 1) (Ev.conv (d' := LI [255, symD (drawC cs), 255, 0]) (Ev.comp (out := ((rowL (odC cs) (drawC cs)).filter fun x => decide (x < 256)).map .int) (ρ' := []) (C' := []) rfl (Its.list (Ev.name (by repeat (first | with_reducible exact List.mem_cons_self | with_reducible apply List.mem_cons_of_mem)))) (Blk.of (by repeat (first | exact sub_nil | refine sub_cons (by repeat (first | with_reducible exact List.mem_cons_self | with_reducible apply List.mem_cons_of_mem)) ?_)) (by kernel_rfl))
    (CL.filtL (rowL (odC cs) (drawC cs)) (fun x => decide (x < 256)) _ PyData.int rfl (fun _ h => nomatch h)
      (fun x hx q => It.emit1 (.inl (by kernel_rfl)) (by repeat (first | exact ne_nil | refine ne_cons (by decide) ?_)) (TsI.one (Ts.conv (Ts.val (Ev.call (EvL.cons (Ev.name (by repeat (first | with_reducible exact List.mem_cons_self | with_reducible apply List.mem_cons_of_mem))) EvL.nil) ((fn_term W).le (by decide))) Tr.bool) q)) (Ev.name (by repeat (first | with_reducible exact List.mem_cons_self | with_reducible apply List.mem_cons_of_mem))) rfl)
      (fun x hx q => It.skip1 (.inl (by kernel_rfl)) (by repeat (first | exact ne_nil | refine ne_cons (by decide) ?_)) (TsI.one (Ts.conv (Ts.val (Ev.call (EvL.cons (Ev.name (by repeat (first | with_reducible exact List.mem_cons_self | with_reducible apply List.mem_cons_of_mem))) EvL.nil) ((fn_term W).le (by decide))) Tr.bool) q)))) (by rw [row_term _ ho _ hdr]; show 4 ≤ _; decide)) (by rw [row_term _ ho _ hdr]))
    (Ev.list (EvL.cons Ev.int (EvL.cons (Ev.rlAt (n := 6) (f := fun i => .int (symD i)) hdr (by decide) (Ev.conv (Ev.list (EvL.cons Ev.int (EvL.cons Ev.int (EvL.cons Ev.int (EvL.cons Ev.int (EvL.cons Ev.int (EvL.cons Ev.int EvL.nil))))))) sym_rl) (Ev.name (by repeat (first | with_reducible exact List.mem_cons_self | with_reducible apply List.mem_cons_of_mem)))) (EvL.cons Ev.int (EvL.cons Ev.int EvL.nil))))) (ok_li _)) ?_
  refine Ex.cons (X1.assignC (x := "order") (d := dOrder cs) (ρ' := ("row", dRow cs) :: B7 cs) (Ev.conv (Ev.comp (out := ((rowL (odC cs) (drawC cs)).filter fun x => decide (256 ≤ x)).map .int) (ρ' := []) (C' := []) rfl (Its.list (Ev.name (by repeat (first | with_reducible exact List.mem_cons_self | with_reducible apply List.mem_cons_of_mem)))) (Blk.of (by repeat (first | exact sub_nil | refine sub_cons (by repeat (first | with_reducible exact List.mem_cons_self | with_reducible apply List.mem_cons_of_mem)) ?_)) (by kernel_rfl))
    (CL.filtL (rowL (odC cs) (drawC cs)) (fun x => decide (256 ≤ x)) _ PyData.int rfl (fun _ h => nomatch h)
      (fun x hx q => It.emit1 (.inl (by kernel_rfl)) (by repeat (first | exact ne_nil | refine ne_cons (by decide) ?_)) (TsI.one (Ts.conv (Ts.val (Ev.call (EvL.cons (Ev.name (by repeat (first | with_reducible exact List.mem_cons_self | with_reducible apply List.mem_cons_of_mem))) EvL.nil) ((fn_nonterm W).le (by decide))) Tr.bool) q)) (Ev.name (by repeat (first | with_reducible exact List.mem_cons_self | with_reducible apply List.mem_cons_of_mem))) rfl)
      (fun x hx q => It.skip1 (.inl (by kernel_rfl)) (by repeat (first | exact ne_nil | refine ne_cons (by decide) ?_)) (TsI.one (Ts.conv (Ts.val (Ev.call (EvL.cons (Ev.name (by repeat (first | with_reducible exact List.mem_cons_self | with_reducible apply List.mem_cons_of_mem))) EvL.nil) ((fn_nonterm W).le (by decide))) Tr.bool) q)))) (by rw [row_non _ ho _ hdr]; show 2 ≤ _; decide)) (by rw [row_non _ ho _ hdr])) (.inr (by decide)) (fun _ h => h) (by repeat (first | exact ne_nil | refine ne_cons (by decide) ?_)) own_none (fun env h1 h2 => by cases env with | mk scope l g ce q f cd fr bu => cases scope with | mk sk sn s3 s4 s5 => (simp only at h1 h2; subst h1 h2; rfl))) ?_
  refine Ex.ifNot (Ts.neSame (k := 1) (Ev.conv (d' := LI [(odC cs : Int), 1 - odC cs]) (Ev.comp (out := (ordL (odC cs)).map fun s => .int (s - 256)) (ρ' := []) (C' := []) rfl (Its.list (Ev.name (by repeat (first | with_reducible exact List.mem_cons_self | with_reducible apply List.mem_cons_of_mem)))) (Blk.of (by repeat (first | exact sub_nil | refine sub_cons (by repeat (first | with_reducible exact List.mem_cons_self | with_reducible apply List.mem_cons_of_mem)) ?_)) (by kernel_rfl))
    (CL.mapL (ordL (odC cs)) _ (fun s => .int (s - 256)) rfl (fun _ h => nomatch h) (fun s hs => ?_)) (by rw [List.length_map]; show 2 ≤ _; decide)) (by rw [li_map, (idx_ord _ ho).1]))
    (Ev.conv (d' := LI [(odC cs : Int), 1 - odC cs]) (Ev.comp (out := (List.range 2).map fun i => .int (if nmL (odC cs) i = 100 then (0 : Int) else 1)) (ρ' := []) (C' := []) rfl (Its.list (Ev.name (by repeat (first | with_reducible exact List.mem_cons_self | with_reducible apply List.mem_cons_of_mem)))) (Blk.of (by repeat (first | exact sub_nil | refine sub_cons (by repeat (first | with_reducible exact List.mem_cons_self | with_reducible apply List.mem_cons_of_mem)) ?_)) (by kernel_rfl))
    (CL.mapL (List.range 2) _ (fun i => .int (if nmL (odC cs) i = 100 then (0 : Int) else 1)) rfl (fun _ h => nomatch h) (fun i hi => ?_)) (by rw [rl_len]; decide)) (by rw [li_map, (idx_ord _ ho).2])) (ok_li _)) h
  · rcases ord_mem _ ho s hs with rfl | rfl
    · exact It.emit1 (.inl (by kernel_rfl)) (by repeat (first | exact ne_nil | refine ne_cons (by decide) ?_)) TsI.nil (Ev.dispMeth (xs := [.int 256, .int 257]) (EvL.cons Ev.int (EvL.cons Ev.int EvL.nil)) (EvL.cons (Ev.name (by repeat (first | with_reducible exact List.mem_cons_self | with_reducible apply List.mem_cons_of_mem))) EvL.nil) PySem.F.slot_list_index PySem.F.type_list_index (Bi.indexI (ns := [256, 257]) (k := 256) (j := 0) (by decide) (by decide) rfl (by decide))) rfl
    · exact It.emit1 (.inl (by kernel_rfl)) (by repeat (first | exact ne_nil | refine ne_cons (by decide) ?_)) TsI.nil (Ev.dispMeth (xs := [.int 256, .int 257]) (EvL.cons Ev.int (EvL.cons Ev.int EvL.nil)) (EvL.cons (Ev.name (by repeat (first | with_reducible exact List.mem_cons_self | with_reducible apply List.mem_cons_of_mem))) EvL.nil) PySem.F.slot_list_index PySem.F.type_list_index (Bi.indexI (ns := [256, 257]) (k := 257) (j := 1) (by decide) (by decide) rfl (by decide))) rfl
  · rcases nm_mem (odC cs) i with q | q
    · rw [q]
      exact It.emit1 (.inl (by kernel_rfl)) (by repeat (first | exact ne_nil | refine ne_cons (by decide) ?_)) TsI.nil (Ev.dispMeth (xs := [.str "d", .str "t"]) (EvL.cons Ev.str (EvL.cons Ev.str EvL.nil)) (EvL.cons (Ev.name (by repeat (first | with_reducible exact List.mem_cons_self | with_reducible apply List.mem_cons_of_mem))) EvL.nil) PySem.F.slot_list_index PySem.F.type_list_index (Bi.indexS (ns := ["d", "t"]) (j := 0) (by decide) (by decide) (by decide) (by decide))) rfl
    · rw [q]
      exact It.emit1 (.inl (by kernel_rfl)) (by repeat (first | exact ne_nil | refine ne_cons (by decide) ?_)) TsI.nil (Ev.dispMeth (xs := [.str "d", .str "t"]) (EvL.cons Ev.str (EvL.cons Ev.str EvL.nil)) (EvL.cons (Ev.name (by repeat (first | with_reducible exact List.mem_cons_self | with_reducible apply List.mem_cons_of_mem))) EvL.nil) PySem.F.slot_list_index PySem.F.type_list_index (Bi.indexS (ns := ["d", "t"]) (j := 1) (by decide) (by decide) (by decide) (by decide))) rfl
omit W in
theorem row_cells (cs : Nat → Int) : PyData.list ((rowL (odC cs) (drawC cs)).map PyData.int ++ (List.range 7).map fun i => PyData.int (cs i)) = LI (rcL cs) := by kernel_rfl
omit W in
theorem asked_list0 (cs : Nat → Int) : PyData.list (((List.range 7).map fun i => PyData.bool (decide (cs i < 256))) ++ (List.range 7).map fun i => PyData.bool (decide (256 ≤ cs i))) = LB (asked0 cs) := by kernel_rfl
omit W in
theorem asked_list1 (cs : Nat → Int) : PyData.list (((rcL cs).map fun a => PyData.bool (a == 0)) ++ (List.range 6).map fun k => PyData.bool (cmpD (drawC cs) (cs k) (cs (k + 1)))) = LB (asked1 cs) := by kernel_rfl
theorem st26 {out : Out} {cs : Nat → Int} (h : LX c (("asked", LB (asked0 cs ++ asked1 cs)) :: B8 cs) 30 out) : LX c (B8 cs) 26 out := by
  have hdr := draw_lt cs
  refine Ex.cons (X1.assign (x := "asked") (d := LB (asked0 cs)) (ρ' := B8 cs) (Ev.conv (Ev.bin (Ev.comp (ρ' := []) (C' := []) rfl (Its.list (Ev.name (by repeat (first | with_reducible exact List.mem_cons_self | with_reducible apply List.mem_cons_of_mem)))) (Blk.of (by repeat (first | exact sub_nil | refine sub_cons (by repeat (first | with_reducible exact List.mem_cons_self | with_reducible apply List.mem_cons_of_mem)) ?_)) (by kernel_rfl))
    (CL.mapL (List.range 7) (fun i => .int (cs i)) (fun i => .bool (decide (cs i < 256))) rfl (fun _ h => nomatch h) (fun i hi => It.emit1 (.inl (by kernel_rfl)) (by repeat (first | exact ne_nil | refine ne_cons (by decide) ?_)) TsI.nil (Ev.call (EvL.cons (Ev.name (by repeat (first | with_reducible exact List.mem_cons_self | with_reducible apply List.mem_cons_of_mem))) EvL.nil) ((fn_term W).le (by decide))) rfl)) (by rw [rl_len]; decide))
    (Ev.comp (ρ' := []) (C' := []) rfl (Its.list (Ev.name (by repeat (first | with_reducible exact List.mem_cons_self | with_reducible apply List.mem_cons_of_mem)))) (Blk.of (by repeat (first | exact sub_nil | refine sub_cons (by repeat (first | with_reducible exact List.mem_cons_self | with_reducible apply List.mem_cons_of_mem)) ?_)) (by kernel_rfl))
    (CL.mapL (List.range 7) (fun i => .int (cs i)) (fun i => .bool (decide (256 ≤ cs i))) rfl (fun _ h => nomatch h) (fun i hi => It.emit1 (.inl (by kernel_rfl)) (by repeat (first | exact ne_nil | refine ne_cons (by decide) ?_)) TsI.nil (Ev.call (EvL.cons (Ev.name (by repeat (first | with_reducible exact List.mem_cons_self | with_reducible apply List.mem_cons_of_mem))) EvL.nil) ((fn_nonterm W).le (by decide))) rfl)) (by rw [rl_len]; decide)) (Op2.addList (by rw [rl_len, rl_len]; decide))) (asked_list0 cs)) (.inl (by kernel_rfl)) (fun _ h => h) (by repeat (first | exact ne_nil | refine ne_cons (by decide) ?_)) own_none) ?_
  refine Ex.ifNot (Ts.neSame (k := 1) (Ev.conv (d := LB (asked0 cs)) (Ev.name (by repeat (first | with_reducible exact List.mem_cons_self | with_reducible apply List.mem_cons_of_mem))) rfl) (Ev.conv (Ev.bin (Ev.comp (ρ' := []) (C' := []) rfl (Its.list (Ev.name (by repeat (first | with_reducible exact List.mem_cons_self | with_reducible apply List.mem_cons_of_mem)))) (Blk.of (by repeat (first | exact sub_nil | refine sub_cons (by repeat (first | with_reducible exact List.mem_cons_self | with_reducible apply List.mem_cons_of_mem)) ?_)) (by kernel_rfl))
    (CL.mapL (List.range 7) (fun i => .int (cs i)) (fun i => .bool (decide (cs i < 256))) rfl (fun _ h => nomatch h) (fun i hi => It.emit1 (.inl (by kernel_rfl)) (by repeat (first | exact ne_nil | refine ne_cons (by decide) ?_)) TsI.nil (Ev.conv (Ev.cmp (Ev.callB (EvL.cons (Ev.name (by repeat (first | with_reducible exact List.mem_cons_self | with_reducible apply List.mem_cons_of_mem))) (EvL.cons Ev.int EvL.nil)) (g_min W) (b_min W) Bi.min) (Ev.name (by repeat (first | with_reducible exact List.mem_cons_self | with_reducible apply List.mem_cons_of_mem))) Op2.eqI) (by rw [min_eq])) rfl)) (by rw [rl_len]; decide))
    (Ev.comp (ρ' := []) (C' := []) rfl (Its.list (Ev.name (by repeat (first | with_reducible exact List.mem_cons_self | with_reducible apply List.mem_cons_of_mem)))) (Blk.of (by repeat (first | exact sub_nil | refine sub_cons (by repeat (first | with_reducible exact List.mem_cons_self | with_reducible apply List.mem_cons_of_mem)) ?_)) (by kernel_rfl))
    (CL.mapL (List.range 7) (fun i => .int (cs i)) (fun i => .bool (decide (256 ≤ cs i))) rfl (fun _ h => nomatch h) (fun i hi => It.emit1 (.inl (by kernel_rfl)) (by repeat (first | exact ne_nil | refine ne_cons (by decide) ?_)) TsI.nil (Ev.conv (Ev.cmp (Ev.callB (EvL.cons (Ev.name (by repeat (first | with_reducible exact List.mem_cons_self | with_reducible apply List.mem_cons_of_mem))) (EvL.cons Ev.int EvL.nil)) (g_max W) (b_max W) Bi.max) (Ev.name (by repeat (first | with_reducible exact List.mem_cons_self | with_reducible apply List.mem_cons_of_mem))) Op2.eqI) (by rw [max_eq])) rfl)) (by rw [rl_len]; decide)) (Op2.addList (by rw [rl_len, rl_len]; decide))) (asked_list0 cs)) (ok_lb _)) ?_
  have hrc : (rcL cs).length = 13 := rfl
  refine Ex.cons (X1.assign (x := "asked") (d := LB (asked0 cs ++ asked1 cs)) (ρ' := B8 cs) (Ev.conv (Ev.bin (Ev.bin (Ev.name (by repeat (first | with_reducible exact List.mem_cons_self | with_reducible apply List.mem_cons_of_mem))) (Ev.comp (ρ' := []) (C' := []) rfl (Its.list' (Ev.bin (Ev.name (by repeat (first | with_reducible exact List.mem_cons_self | with_reducible apply List.mem_cons_of_mem))) (Ev.name (by repeat (first | with_reducible exact List.mem_cons_self | with_reducible apply List.mem_cons_of_mem))) (Op2.addList (by rw [rl_len, List.length_map]; show 6 + 7 ≤ sizeLine; decide))) (row_cells cs)) (Blk.of (by repeat (first | exact sub_nil | refine sub_cons (by repeat (first | with_reducible exact List.mem_cons_self | with_reducible apply List.mem_cons_of_mem)) ?_)) (by kernel_rfl))
    (CL.mapL (rcL cs) PyData.int (fun a => .bool (a == 0)) rfl (fun _ h => nomatch h) (fun a ha => It.emit1 (.inl (by kernel_rfl)) (by repeat (first | exact ne_nil | refine ne_cons (by decide) ?_)) TsI.nil (Ev.call (EvL.cons (Ev.name (by repeat (first | with_reducible exact List.mem_cons_self | with_reducible apply List.mem_cons_of_mem))) EvL.nil) ((fn_eof W).le (by decide))) rfl)) (by rw [List.length_map, hrc]; decide)) (Op2.addList (by rw [List.length_map, List.length_map, hrc]; show 14 + 13 ≤ sizeLine; decide)))
    (Ev.comp (ρ' := [("row", dRow cs), ("cells", dCells cs)]) (C' := []) rfl (Its.range0 6 Ev.int (g_range W) (b_range W) (by omega) (by omega)) (Blk.of (by repeat (first | exact sub_nil | refine sub_cons (by repeat (first | with_reducible exact List.mem_cons_self | with_reducible apply List.mem_cons_of_mem)) ?_)) (by kernel_rfl))
    (CL.mapL (List.range 6) _ (fun k => .bool (cmpD (drawC cs) (cs k) (cs (k + 1)))) rfl (fun _ h => nomatch h) (fun k hk => It.emit1 (.inl (by kernel_rfl)) (by repeat (first | exact ne_nil | refine ne_cons (by decide) ?_)) TsI.nil (Ev.call (EvL.cons (Ev.itemL (xs := (rowL (odC cs) (drawC cs)).map .int) (d := .int (symD (drawC cs))) (j := 2) (Ev.name (by repeat (first | with_reducible exact List.mem_cons_self | with_reducible apply List.mem_cons_of_mem))) Ev.int (by show seqIndex? 2 6 = some 2; decide) rfl (by show 6 < 2 ^ 62; decide))
      (EvL.cons (Ev.cellAt (n := 7) (by have := List.mem_range.mp hk; omega) (by decide) (Ev.name (by repeat (first | with_reducible exact List.mem_cons_self | with_reducible apply List.mem_cons_of_mem))) (Ev.name (by repeat (first | with_reducible exact List.mem_cons_self | with_reducible apply List.mem_cons_of_mem)))) (EvL.cons (Ev.cellAt (n := 7) (k := k + 1) (by have := List.mem_range.mp hk; omega) (by decide) (Ev.name (by repeat (first | with_reducible exact List.mem_cons_self | with_reducible apply List.mem_cons_of_mem))) (Ev.reint (Ev.bin (Ev.name (by repeat (first | with_reducible exact List.mem_cons_self | with_reducible apply List.mem_cons_of_mem))) Ev.int Op2.add) (by push_cast; rfl))) EvL.nil))) ((fn_holds W _ hdr).le (by decide))) rfl)) (by rw [rl_len]; decide)) (Op2.addList (by rw [rl_len, List.length_append, List.length_map, List.length_map, hrc]; show 14 + 13 + 6 ≤ sizeLine; decide)))
    (by rw [List.append_assoc]; show PyData.list ((asked0 cs).map .bool ++ _) = _; rw [LB, List.map_append]; congr 2)) (.inl (by kernel_rfl)) (fun _ h => .tail _ h) (by repeat (first | exact ne_nil | refine ne_cons (by decide) ?_)) own_none) ?_
  refine Ex.ifNot (Ts.neSame (k := 1) (Ev.conv (Ev.sliceL (Ev.name (by repeat (first | with_reducible exact List.mem_cons_self | with_reducible apply List.mem_cons_of_mem))) (EvP.at Ev.int) EvP.no (by rw [List.length_map]; show 33 ≤ sizeLine; decide)) (asked_drop cs)) (Ev.conv (Ev.bin (Ev.comp (ρ' := []) (C' := []) rfl (Its.list' (Ev.bin (Ev.name (by repeat (first | with_reducible exact List.mem_cons_self | with_reducible apply List.mem_cons_of_mem))) (Ev.name (by repeat (first | with_reducible exact List.mem_cons_self | with_reducible apply List.mem_cons_of_mem))) (Op2.addList (by rw [rl_len, List.length_map]; show 6 + 7 ≤ sizeLine; decide))) (row_cells cs)) (Blk.of (by repeat (first | exact sub_nil | refine sub_cons (by repeat (first | with_reducible exact List.mem_cons_self | with_reducible apply List.mem_cons_of_mem)) ?_)) (by kernel_rfl))
    (CL.mapL (rcL cs) PyData.int (fun a => .bool (a == 0)) rfl (fun _ h => nomatch h) (fun a ha => It.emit1 (.inl (by kernel_rfl)) (by repeat (first | exact ne_nil | refine ne_cons (by decide) ?_)) TsI.nil (Ev.conv (Ev.not (Ev.name (by repeat (first | with_reducible exact List.mem_cons_self | with_reducible apply List.mem_cons_of_mem))) Tr.int) (by rw [bne, Bool.not_not])) rfl)) (by rw [List.length_map, hrc]; decide))
    (Ev.comp (ρ' := [("draw", dDraw cs), ("cells", dCells cs)]) (C' := []) rfl (Its.range0 6 Ev.int (g_range W) (b_range W) (by omega) (by omega)) (Blk.of (by repeat (first | exact sub_nil | refine sub_cons (by repeat (first | with_reducible exact List.mem_cons_self | with_reducible apply List.mem_cons_of_mem)) ?_)) (by kernel_rfl))
    (CL.mapL (List.range 6) _ (fun k => .bool (cmpD (drawC cs) (cs k) (cs (k + 1)))) rfl (fun _ h => nomatch h) (fun k hk => It.emit1 (.inl (by kernel_rfl)) (by repeat (first | exact ne_nil | refine ne_cons (by decide) ?_)) TsI.nil (Ev.call (EvL.cons (Ev.name (by repeat (first | with_reducible exact List.mem_cons_self | with_reducible apply List.mem_cons_of_mem)))
      (EvL.cons (Ev.cellAt (n := 7) (by have := List.mem_range.mp hk; omega) (by decide) (Ev.name (by repeat (first | with_reducible exact List.mem_cons_self | with_reducible apply List.mem_cons_of_mem))) (Ev.name (by repeat (first | with_reducible exact List.mem_cons_self | with_reducible apply List.mem_cons_of_mem)))) (EvL.cons (Ev.cellAt (n := 7) (k := k + 1) (by have := List.mem_range.mp hk; omega) (by decide) (Ev.name (by repeat (first | with_reducible exact List.mem_cons_self | with_reducible apply List.mem_cons_of_mem))) (Ev.reint (Ev.bin (Ev.name (by repeat (first | with_reducible exact List.mem_cons_self | with_reducible apply List.mem_cons_of_mem))) Ev.int Op2.add) (by push_cast; rfl))) EvL.nil))) ((fn_plain W hdr).le (by decide))) rfl)) (by rw [rl_len]; decide)) (Op2.addList (by rw [rl_len, List.length_map, hrc]; decide))) (asked_list1 cs)) (ok_lb _)) h
end

end Mine
namespace Mine
abbrev B9 (cs : Nat → Int) : Vars := ("asked", LB (asked0 cs ++ asked1 cs)) :: B8 cs
section
variable {c : Cx} (W : W0 c)
include W
theorem st30 {out : Out} {cs : Nat → Int} (hb : ∀ i, i < 7 → Builtin.Int.intBits (cs i) ≤ 1100000) (h : LX c (B9 cs) 32 out) : LX c (B9 cs) 30 out := by
  refine Ex.ifNot (Ts.conv (Ts.cmp (Ev.call (EvL.cons (Ev.cellAt (n := 7) (k := 0) (by decide) (by decide) (Ev.name (by repeat (first | with_reducible exact List.mem_cons_self | with_reducible apply List.mem_cons_of_mem))) Ev.int) (EvL.cons (Ev.cellAt (n := 7) (k := 1) (by decide) (by decide) (Ev.name (by repeat (first | with_reducible exact List.mem_cons_self | with_reducible apply List.mem_cons_of_mem))) Ev.int) EvL.nil)) ((fn_or W).le (by decide)))
    (Ev.bin (Ev.bin (Ev.cellAt (n := 7) (k := 0) (by decide) (by decide) (Ev.name (by repeat (first | with_reducible exact List.mem_cons_self | with_reducible apply List.mem_cons_of_mem))) Ev.int) (Ev.cellAt (n := 7) (k := 1) (by decide) (by decide) (Ev.name (by repeat (first | with_reducible exact List.mem_cons_self | with_reducible apply List.mem_cons_of_mem))) Ev.int) Op2.add) (Ev.bin (Ev.cellAt (n := 7) (k := 0) (by decide) (by decide) (Ev.name (by repeat (first | with_reducible exact List.mem_cons_self | with_reducible apply List.mem_cons_of_mem))) Ev.int) (Ev.cellAt (n := 7) (k := 1) (by decide) (by decide) (Ev.name (by repeat (first | with_reducible exact List.mem_cons_self | with_reducible apply List.mem_cons_of_mem))) Ev.int) Op2.and) Op2.sub) Op2.neI) (by rw [bitOr_and, decide_eq_true rfl]; rfl)) ?_
  have h2 := hb 2 (by decide)
  have h3 := hb 3 (by decide)
  have ha := PySem.intBits_add_le h2 h3
  have hs := PySem.intBits_sub_le h2 h3
  have e27 : (2 : Int) ^ 27 = 134217728 := by decide
  refine Ex.ifNot (Ts.conv (Ts.cmp (Ev.call (EvL.cons (Ev.cellAt (n := 7) (k := 2) (by decide) (by decide) (Ev.name (by repeat (first | with_reducible exact List.mem_cons_self | with_reducible apply List.mem_cons_of_mem))) Ev.int) (EvL.cons (Ev.cellAt (n := 7) (k := 3) (by decide) (by decide) (Ev.name (by repeat (first | with_reducible exact List.mem_cons_self | with_reducible apply List.mem_cons_of_mem))) Ev.int) EvL.nil)) ((fn_mulI W (IntMulOk.of_le h2 h3 (by decide))).le (by decide)))
    (Ev.divC (a := (cs 2 + cs 3) ^ 2 - (cs 2 - cs 3) ^ 2) (Ev.bin (Ev.conv (d' := .int ((cs 2 + cs 3) ^ 2)) (Ev.bin (Ev.bin (Ev.cellAt (n := 7) (k := 2) (by decide) (by decide) (Ev.name (by repeat (first | with_reducible exact List.mem_cons_self | with_reducible apply List.mem_cons_of_mem))) Ev.int) (Ev.cellAt (n := 7) (k := 3) (by decide) (by decide) (Ev.name (by repeat (first | with_reducible exact List.mem_cons_self | with_reducible apply List.mem_cons_of_mem))) Ev.int) Op2.add) Ev.int (Op2.pow (by decide) (by rw [e27]; omega))) rfl)
      (Ev.conv (d' := .int ((cs 2 - cs 3) ^ 2)) (Ev.bin (Ev.bin (Ev.cellAt (n := 7) (k := 2) (by decide) (by decide) (Ev.name (by repeat (first | with_reducible exact List.mem_cons_self | with_reducible apply List.mem_cons_of_mem))) Ev.int) (Ev.cellAt (n := 7) (k := 3) (by decide) (by decide) (Ev.name (by repeat (first | with_reducible exact List.mem_cons_self | with_reducible apply List.mem_cons_of_mem))) Ev.int) Op2.sub) Ev.int (Op2.pow (by decide) (by rw [e27]; omega))) rfl) Op2.sub)) Op2.neI) (by rw [sq_eq, decide_eq_true rfl]; rfl)) ?_
  exact h
end

end Mine
namespace Mine
/-! distances of words of one letter -/
def nextK (c : Int) (i : Nat) (s : Cell) : Cell :=
  let r := minI (minI s.res (s.row.getD i 0) + 2) (s.dist + c)
  ⟨s.row.set i r, s.row.getD i 0, r, if r < s.mn then r else s.mn⟩
def cellsK (c : Int) : Nat → Nat → Cell → Cell
  | 0, _, s => s
  | n + 1, i, s => cellsK c n (i + 1) (nextK c i s)
def rowsK (c : Int) (p : Nat) (mx : Int) : Nat → Nat → List Int → Int → Int
  | 0, _, _, res => res
  | q + 1, j, row, _ =>
    let s := cellsK c p 0 ⟨row, (j : Int) * 2, (j : Int) * 2, big⟩
    if mx < s.mn then mx + 1 else rowsK c p mx q (j + 1) s.row s.res
def levK (c : Int) (p q : Nat) (mx : Int) : Int := if mx < ((q : Int) - p) * 2 then mx + 1 else rowsK c p mx q 0 (row0 p) 0
def levD (c : Int) (p q : Nat) (mx : Int) : Int := if Nat.beq p 0 || Nat.beq q 0 then 2 * ((p : Int) + q) else if Nat.blt q p then levK c q p mx else levK c p q mx
theorem cells_K {b a : Nat} {c : Int} (h : subCost ⟨#[b]⟩ ⟨#[a]⟩ = c) : ∀ (n i : Nat) (s : Cell), cells b (List.replicate n a) i s = cellsK c n i s
  | 0, _, _ => rfl
  | n + 1, i, s => by
    rw [List.replicate_succ]
    show cells b (List.replicate n a) (i + 1) (s.next b a i) = cellsK c n (i + 1) (nextK c i s)
    rw [cells_K h n]
    unfold Cell.next nextK
    rw [h]
theorem rows_K {b a : Nat} {c mx : Int} (p : Nat) (h : subCost ⟨#[b]⟩ ⟨#[a]⟩ = c) : ∀ (q j : Nat) (row : List Int) (res : Int), rows (List.replicate p a) mx (List.replicate q b) j row res = rowsK c p mx q j row res
  | 0, _, _, _ => rfl
  | q + 1, j, row, res => by
    rw [List.replicate_succ]
    unfold rows rowsK
    simp only [cells_K h, rows_K p h q]
theorem levAB_K {b a : Nat} {c mx : Int} (p q : Nat) (h : subCost ⟨#[b]⟩ ⟨#[a]⟩ = c) : levAB (List.replicate p a) (List.replicate q b) mx = levK c p q mx := by
  unfold levAB levK
  rw [List.length_replicate, List.length_replicate, rows_K p h]
theorem levCut_K {a b : Nat} {c mx : Int} (p q : Nat) (hp : p ≤ 40) (hq : q ≤ 40) (h : subCost ⟨#[b]⟩ ⟨#[a]⟩ = c) (h' : subCost ⟨#[a]⟩ ⟨#[b]⟩ = c) : levCut (List.replicate p a) (List.replicate q b) mx = levD c p q mx := by
  unfold levCut levD
  have e : ∀ (n x : Nat), (List.replicate n x).isEmpty = Nat.beq n 0 := fun n x => by cases n <;> rfl
  rw [e, e, List.length_replicate, List.length_replicate]
  by_cases h0 : (Nat.beq p 0 || Nat.beq q 0) = true
  · rw [if_pos h0, if_pos h0]
  · rw [if_neg h0, if_neg h0, if_neg (by simp; omega)]
    by_cases h1 : q < p
    · have : Nat.blt q p = true := by rw [Nat.blt_eq]; exact h1
      rw [if_pos h1, if_pos this, levAB_K _ _ h']
    · have : ¬ Nat.blt q p = true := by rw [Nat.blt_eq]; exact h1
      rw [if_neg h1, if_neg this, levAB_K _ _ h]
theorem pre_diff {a b : Nat} (h : a ≠ b) : ∀ (p q : Nat), preLen (List.replicate p a) (List.replicate q b) = 0
  | 0, _ => preLen_stop (by cases ‹Nat› <;> rfl)
  | p + 1, 0 => preLen_stop rfl
  | p + 1, q + 1 => preLen_stop (by
    rw [List.replicate_succ, List.replicate_succ]
    unfold headEq
    first | exact decide_eq_false h | (simp; exact h))
theorem pre_same (a : Nat) : ∀ (p q : Nat), preLen (List.replicate p a) (List.replicate q a) = min p q
  | 0, q => by rw [Nat.zero_min]; exact preLen_stop (by cases q <;> rfl)
  | p + 1, 0 => by rw [Nat.min_zero]; exact preLen_stop rfl
  | p + 1, q + 1 => by
    have e : headEq (List.replicate (p + 1) a) (List.replicate (q + 1) a) = true := by
      rw [List.replicate_succ, List.replicate_succ]; unfold headEq; simp
    rw [preLen_step e, List.replicate_succ, List.replicate_succ, List.drop_one, List.drop_one, List.tail_cons, List.tail_cons, pre_same a p q]
    omega
theorem lev_diff {a b : Nat} {c mx : Int} (p q : Nat) (hp : p ≤ 40) (hq : q ≤ 40) (hne : a ≠ b) (h : subCost ⟨#[b]⟩ ⟨#[a]⟩ = c) (h' : subCost ⟨#[a]⟩ ⟨#[b]⟩ = c) : lev (List.replicate p a) (List.replicate q b) mx = levD c p q mx := by
  by_cases h0 : List.replicate p a = List.replicate q b
  · have hl := congrArg List.length h0
    rw [List.length_replicate, List.length_replicate] at hl
    subst hl
    cases p with
    | zero => rfl
    | succ p => rw [List.replicate_succ, List.replicate_succ] at h0; exact absurd (List.cons.inj h0).1 hne
  · rw [lev_ne h0, pre_diff hne, List.drop_zero, List.drop_zero, List.reverse_replicate, List.reverse_replicate, pre_diff hne, cut_zero, cut_zero]
    exact levCut_K p q hp hq h h'
theorem lev_same (a : Nat) (p q : Nat) (mx : Int) : lev (List.replicate p a) (List.replicate q a) mx = 2 * (if (p : Int) - q < 0 then -((p : Int) - q) else (p : Int) - q) := by
  by_cases h0 : p = q
  · subst h0
    unfold lev
    rw [if_pos rfl]; simp
  · have hne : ¬ List.replicate p a = List.replicate q a := fun e => h0 (by have := congrArg List.length e; simpa using this)
    rw [lev_ne hne, pre_same, List.drop_replicate, List.drop_replicate]
    rw [List.reverse_replicate, List.reverse_replicate, pre_same]
    have e : min (p - min p q) (q - min p q) = 0 := by omega
    rw [e, cut_zero, cut_zero]
    unfold levCut
    have e2 : ((List.replicate (p - min p q) a).isEmpty || (List.replicate (q - min p q) a).isEmpty) = true := by
      by_cases h : p ≤ q
      · have : p - min p q = 0 := by omega
        rw [this]; rfl
      · have : q - min p q = 0 := by omega
        rw [this, Bool.or_comm]; rfl
    rw [if_pos e2, List.length_replicate, List.length_replicate]
    split <;> omega
/-- what the law expects of two words -/
def costN (c : Int) (p q : Nat) : Int := c * (if q < p then (q : Int) else p) + 2 * (if (p : Int) - q < 0 then -((p : Int) - q) else (p : Int) - q)
def expN (same : Bool) (c : Int) (p q due : Nat) : Int := if same = true ∨ p * q = 0 ∨ costN c p q ≤ due then costN c p q else due + 1
theorem levD_1 : ∀ p, p < 5 → ∀ q, q < 5 → ∀ due, due < 9 → levD 1 p q (due : Nat) = expN false 1 p q due ∧ levD 1 q p (due : Nat) = expN false 1 p q due := by decide +kernel
theorem levD_2 : ∀ p, p < 5 → ∀ q, q < 5 → ∀ due, due < 9 → levD 2 p q (due : Nat) = expN false 2 p q due ∧ levD 2 q p (due : Nat) = expN false 2 p q due := by decide +kernel
def lcost (m m' : Nat) : Int := if m = m' then 0 else if m % 2 = m' % 2 then 2 else if m / 2 = m' / 2 then 1 else 2
theorem sub_letters : ∀ m, m < 4 → ∀ m', m' < 4 → subCost ⟨#[letter m]⟩ ⟨#[letter m']⟩ = lcost m m' := by decide +kernel
theorem lcost_comm : ∀ m, m < 4 → ∀ m', m' < 4 → lcost m m' = lcost m' m ∧ (letter m = letter m' ↔ m = m') ∧ (m ≠ m' → lcost m m' = 1 ∨ lcost m m' = 2) ∧ lcost m m = 0 := by decide +kernel
theorem lev_words {m m' p q due : Nat} (hm : m < 4) (hm' : m' < 4) (hp : p < 5) (hq : q < 5) (hd : due < 9) :
    lev (List.replicate p (letter m)) (List.replicate q (letter m')) (due : Nat) = expN (decide (m = m')) (lcost m m') p q due ∧ lev (List.replicate q (letter m')) (List.replicate p (letter m)) (due : Nat) = expN (decide (m = m')) (lcost m m') p q due := by
  obtain ⟨l1, l2, l3, l4⟩ := lcost_comm m hm m' hm'
  by_cases h : m = m'
  · subst h
    rw [lev_same, lev_same, l4, decide_eq_true rfl]
    have e : expN true 0 p q due = costN 0 p q := if_pos (Or.inl rfl)
    rw [e]
    unfold costN
    rw [Int.zero_mul, Int.zero_add]
    refine ⟨rfl, ?_⟩
    by_cases h1 : (p : Int) - q < 0
    · rw [if_pos h1, if_neg (by omega)]; omega
    · rw [if_neg h1]
      by_cases h2 : (q : Int) - p < 0
      · rw [if_pos h2]; omega
      · rw [if_neg h2]; omega
  · have hne : letter m ≠ letter m' := fun e => h (l2.mp e)
    have s1 := sub_letters m' hm' m hm
    have s2 := sub_letters m hm m' hm'
    rw [← l1] at s1
    rw [lev_diff p q (by omega) (by omega) hne s1 s2, lev_diff q p (by omega) (by omega) (Ne.symm hne) s2 s1, decide_eq_false h]
    rcases l3 h with e | e
    · rw [e]; exact levD_1 p hp q hq due hd
    · rw [e]; exact levD_2 p hp q hq due hd

end Mine
namespace Mine
abbrev nC (cs : Nat → Int) : Nat := (goodL cs).length
def gC (cs : Nat → Int) (i : Nat) : Nat := (goodL cs).getD i 0
def pairsN (n : Nat) : List (Nat × Nat) := (List.range n).flatMap fun i => (List.range (n - (i + 1))).map fun j => (i, i + 1 + j)
def cC (cs : Nat → Int) (i : Nat) : Nat := ct cs (gC cs i)
def lC (cs : Nat → Int) (i : Nat) : Nat := m4 cs (gC cs i)
def wC (cs : Nat → Int) (i : Nat) : List Nat := List.replicate (cC cs i) (letter (lC cs i))
theorem mem_pairs {n : Nat} {p : Nat × Nat} (h : p ∈ pairsN n) : p.1 < p.2 ∧ p.2 < n := by
  unfold pairsN at h
  obtain ⟨i, hi, h⟩ := List.mem_flatMap.mp h
  obtain ⟨j, hj, rfl⟩ := List.mem_map.mp h
  have := List.mem_range.mp hi
  have := List.mem_range.mp hj
  exact ⟨by show i < i + 1 + j; omega, by show i + 1 + j < n; omega⟩
theorem pairs_len : ∀ n, n ≤ 5 → (pairsN n).length ≤ 10 := by decide
theorem gC_mem {cs : Nat → Int} {i : Nat} (h : i < nC cs) : gC cs i < 5 ∧ kd cs (gC cs i) < 5 := by
  unfold gC
  rw [List.getD_eq_getElem?_getD, List.getElem?_eq_getElem h]
  exact mem_good (List.getElem_mem h)
theorem nC_le (cs) : nC cs ≤ 5 := good_len cs
theorem nC_ge (cs) : 2 ≤ nC cs := by
  unfold nC goodL
  show 2 ≤ ([0, 1, 2, 3, 4].filter _).length
  rw [List.filter_cons_of_pos (by rfl), List.filter_cons_of_pos (by rfl)]
  simp only [List.length_cons]; omega
theorem words_rl (cs) : dWords cs = RL (nC cs) fun i => .str (strOf' (wC cs i)) := congrArg PyData.list (map_rl (goodL cs) 0 fun k => PyData.str (strOf' (wordL cs k)))
theorem good_rl (cs) : dGood cs = RL (nC cs) fun i => .int (gC cs i : Nat) := congrArg PyData.list (map_rl (goodL cs) 0 fun k => PyData.int (k : Nat))
def swp (p : Nat × Nat) : Bool := decide (((md ((p.1 : Int) + (p.2 : Int)) 2 : Nat) : Int) = 1)
def tw (cs : Nat → Int) (p : Nat × Nat) : List Nat × List Nat := if swp p = true then (wC cs p.2, wC cs p.1) else (wC cs p.1, wC cs p.2)
def pairS (w : List Nat × List Nat) : PyData := .tuple [.str (strOf' w.1), .str (strOf' w.2)]
def farI (cs : Nat → Int) (p : Nat × Nat) : Int := lev (tw cs p).1 (tw cs p).2 (dueC cs : Nat)
def costI (cs : Nat → Int) (p : Nat × Nat) : Int := lawCost (strOf' [letter (lC cs p.1)]) (cC cs p.1 : Nat) (strOf' [letter (lC cs p.2)]) (cC cs p.2 : Nat)
def frB (cs : Nat → Int) (p : Nat × Nat) : Bool := decide (strOf' [letter (lC cs p.1)] = strOf' [letter (lC cs p.2)]) || decide ((cC cs p.1 : Int) * (cC cs p.2 : Int) = 0)
def expI (cs : Nat → Int) (p : Nat × Nat) : Int := if (frB cs p || decide (costI cs p ≤ (dueC cs : Nat))) = true then costI cs p else (dueC cs : Nat) + 1
theorem cost_N (cs p) : costI cs p = costN (lcost (lC cs p.1) (lC cs p.2)) (cC cs p.1) (cC cs p.2) := by
  unfold costI lawCost costN
  have s := sub_letters (lC cs p.1) (m4_lt cs _) (lC cs p.2) (m4_lt cs _)
  rw [show subCost (strOf' [letter (lC cs p.1)]) (strOf' [letter (lC cs p.2)]) = lcost (lC cs p.1) (lC cs p.2) from s]
  congr 2
  split <;> split <;> omega
theorem far_exp (cs p) : farI cs p = expI cs p := by
  have hl := lev_words (m := lC cs p.1) (m' := lC cs p.2) (p := cC cs p.1) (q := cC cs p.2) (due := dueC cs) (m4_lt cs _) (m4_lt cs _) (ct_lt cs _) (ct_lt cs _) (due_lt cs)
  have e : farI cs p = expN (decide (lC cs p.1 = lC cs p.2)) (lcost (lC cs p.1) (lC cs p.2)) (cC cs p.1) (cC cs p.2) (dueC cs) := by
    unfold farI tw
    split
    · exact hl.2
    · exact hl.1
  rw [e]
  unfold expN expI frB
  rw [cost_N]
  have e1 : strOf' [letter (lC cs p.1)] = strOf' [letter (lC cs p.2)] ↔ lC cs p.1 = lC cs p.2 := by
    rw [strOf_inj, List.cons.injEq]
    exact ⟨fun h => (lcost_comm _ (m4_lt cs _) _ (m4_lt cs _)).2.1.mp h.1, fun h => ⟨(lcost_comm _ (m4_lt cs _) _ (m4_lt cs _)).2.1.mpr h, rfl⟩⟩
  have e2 : ((cC cs p.1 : Int) * (cC cs p.2 : Int) = 0) ↔ cC cs p.1 * cC cs p.2 = 0 := by
    rw [← Int.natCast_mul]; omega
  by_cases h : (decide (lC cs p.1 = lC cs p.2) = true ∨ cC cs p.1 * cC cs p.2 = 0 ∨ costN (lcost (lC cs p.1) (lC cs p.2)) (cC cs p.1) (cC cs p.2) ≤ (dueC cs : Nat))
  · rw [if_pos h, if_pos]
    rw [Bool.or_eq_true, Bool.or_eq_true, decide_eq_true_eq, decide_eq_true_eq, decide_eq_true_eq, e1, e2]
    rw [decide_eq_true_eq] at h
    rcases h with h | h | h
    · exact .inl (.inl h)
    · exact .inl (.inr h)
    · exact .inr h
  · rw [if_neg h, if_neg]
    rw [Bool.or_eq_true, Bool.or_eq_true, decide_eq_true_eq, decide_eq_true_eq, decide_eq_true_eq, e1, e2]
    rw [decide_eq_true_eq] at h
    rintro ((q | q) | q)
    · exact h (.inl q)
    · exact h (.inr (.inl q))
    · exact h (.inr (.inr q))
section
variable {c : Cx} {m : Nat} {T : Tab} {C : List Str} {ρ ρ' : Vars} {elt : PySem.Expr} {sc : Scope} {pos : Pos} {target iter : PySem.Expr} {ifs : List PySem.Expr}
theorem CL.flatL {α : Type} {gens : List Comprehension} {k : Nat} (L : List α) (g : α → PyData) (f : α → List PyData) (hg : gens[k]? = some ⟨target, iter, ifs, 0⟩) (hn : ∀ g, gens[k + 1]? = some g → g.is_async = 0)
    (h : ∀ x ∈ L, It c m T C elt gens sc pos k target ifs ρ (g x) (f x)) : CL c m T C elt gens sc pos k ρ (L.map g) (L.flatMap f) := by
  have h0 := CL.intro (c := c) (m := m) (T := T) (C := C) (ρ := ρ) (elt := elt) (sc := sc) (pos := pos) (ds := L.map g) (fun i => match L[i]? with | some x => f x | none => []) hg hn (fun i d hd => by
    rw [List.getElem?_map] at hd
    cases q : L[i]? with
    | none => rw [q] at hd; cases hd
    | some x =>
      rw [q] at hd; cases hd
      obtain ⟨hi, e⟩ := List.getElem?_eq_some_iff.mp q
      exact h x (e ▸ List.getElem_mem hi))
  have e : ∀ l : List α, (List.range l.length).flatMap (fun i => match l[i]? with | some x => f x | none => []) = l.flatMap f := fun l => by
    induction l with
    | nil => rfl
    | cons a l ih =>
      rw [List.length_cons, List.range_succ_eq_map, List.flatMap_cons, List.flatMap_map, List.flatMap_cons]
      simpa using ih
  rw [List.length_map, e] at h0; exact h0
end
theorem pairs_data (n : Nat) : ((List.range n).flatMap fun i => (List.range (n - (i + 1))).map fun j => pairD (i, i + 1 + j)) = (pairsN n).map pairD := by
  unfold pairsN
  rw [List.map_flatMap]
  congr 1; funext i; rw [List.map_map]; rfl
theorem rng_up (i n : Nat) : rng ((i : Int) + 1) n = (List.range n).map fun j : Nat => PyData.int ((i + 1 + j : Nat) : Int) := by
  unfold rng
  congr 1
/-- what stays from here on -/
abbrev V0 (cs : Nat → Int) : Vars := [("asked", LB (asked0 cs ++ asked1 cs)), ("order", dOrder cs), ("row", dRow cs), ("names", dNames cs), ("draw", dDraw cs), ("bound", dDue cs), ("due", dDue cs), ("size", .int (nC cs : Nat)), ("cells", dCells cs)]
abbrev V1 (cs : Nat → Int) : Vars := ("words", RL (nC cs) fun i => .str (strOf' (wC cs i))) :: ("good", RL (nC cs) fun i => .int (gC cs i : Nat)) :: ("counts", dCounts cs) :: ("marks", dMarks cs) :: V0 cs
abbrev V2 (cs : Nat → Int) : Vars := ("pairs", tiesD (pairsN (nC cs))) :: V1 cs
section
variable {c : Cx} (W : W0 c)
include W
theorem st32 {out : Out} {cs : Nat → Int} (h : LX c (("turns", .list ((pairsN (nC cs)).map fun p => pairS (tw cs p))) :: V2 cs) 34 out) : LX c (B9 cs) 32 out := by
  have hn := nC_le cs
  have hpl := pairs_len _ hn
  refine Ex.sub (ρ' := V1 cs) ?_ (by
    show ∀ p ∈ ((("words" : Str), RL (nC cs) fun i => .str (strOf' (wC cs i))) :: (("good" : Str), RL (nC cs) fun i => .int (gC cs i : Nat)) :: (("counts" : Str), dCounts cs) :: (("marks" : Str), dMarks cs) :: V0 cs), p ∈ B9 cs
    rw [← words_rl, ← good_rl]; exact (by repeat (first | exact sub_nil | refine sub_cons (by repeat (first | with_reducible exact List.mem_cons_self | with_reducible apply List.mem_cons_of_mem)) ?_)))
  refine Ex.cons (X1.assignC (x := "pairs") (d := tiesD (pairsN (nC cs))) (ρ' := V1 cs) (Ev.conv (Ev.comp (out := (pairsN (nC cs)).map pairD) (ρ' := [("size", .int (nC cs : Nat))]) (C' := []) rfl (Its.range0 (nC cs) (Ev.name (by repeat (first | with_reducible exact List.mem_cons_self | with_reducible apply List.mem_cons_of_mem))) (g_range W) (b_range W) rfl (by omega)) (Blk.of (by repeat (first | exact sub_nil | refine sub_cons (by repeat (first | with_reducible exact List.mem_cons_self | with_reducible apply List.mem_cons_of_mem)) ?_)) (by kernel_rfl))
    (CL.outC (CL.flatL (List.range (nC cs)) _ (fun i => (List.range (nC cs - (i + 1))).map fun j => pairD (i, i + 1 + j)) rfl (fun g h => by cases h; rfl) (fun i hi => It.inner1 (.inl (by kernel_rfl)) (by repeat (first | exact ne_nil | refine ne_cons (by decide) ?_)) TsI.nil rfl (Its.conv (Its.range2 (a := (i : Int) + 1) (nC cs - (i + 1)) (Ev.bin (Ev.name (by repeat (first | with_reducible exact List.mem_cons_self | with_reducible apply List.mem_cons_of_mem))) Ev.int Op2.add) (Ev.name (by repeat (first | with_reducible exact List.mem_cons_self | with_reducible apply List.mem_cons_of_mem))) (g_range W) (b_range W) (by have := List.mem_range.mp hi; omega) (by omega) (by omega) (by omega) (by omega)) (rng_up i _))
      (CL.mapL (List.range (nC cs - (i + 1))) _ (fun j => pairD (i, i + 1 + j)) rfl (fun _ h => nomatch h) (fun j hj => It.emit1 (.inl (by kernel_rfl)) (by repeat (first | exact ne_nil | refine ne_cons (by decide) ?_)) TsI.nil (Ev.tuple (EvL.cons (Ev.name (by repeat (first | with_reducible exact List.mem_cons_self | with_reducible apply List.mem_cons_of_mem))) (EvL.cons (Ev.name (by repeat (first | with_reducible exact List.mem_cons_self | with_reducible apply List.mem_cons_of_mem))) EvL.nil))) rfl)))) (pairs_data _)) (by rw [List.length_map]; omega)) rfl) (.inr (by decide)) (fun _ h => h) (by repeat (first | exact ne_nil | refine ne_cons (by decide) ?_)) own_none (fun env h1 h2 => by cases env with | mk scope l g ce q f cd fr bu => cases scope with | mk sk sn s3 s4 s5 => (simp only at h1 h2; subst h1 h2; rfl))) ?_
  refine Ex.cons (X1.comp (y := "turns") (out := (pairsN (nC cs)).map fun p => pairS (tw cs p)) (ρ₁ := V2 cs) (ρ' := [("words", RL (nC cs) fun i => .str (strOf' (wC cs i)))]) (C' := []) rfl (Its.list (Ev.name (by repeat (first | with_reducible exact List.mem_cons_self | with_reducible apply List.mem_cons_of_mem)))) (Blk.of (by repeat (first | exact sub_nil | refine sub_cons (by repeat (first | with_reducible exact List.mem_cons_self | with_reducible apply List.mem_cons_of_mem)) ?_)) (by kernel_rfl))
    (CL.mapL (pairsN (nC cs)) pairD (fun p => pairS (tw cs p)) rfl (fun _ h => nomatch h) (fun p hp => ?_)) (by rw [List.length_map]; omega) (.inl (by kernel_rfl)) (fun _ h => h) (by repeat (first | exact ne_nil | refine ne_cons (by decide) ?_)) (fun env h1 h2 => by cases env with | mk scope l g ce q f cd fr bu => cases scope with | mk sk sn s3 s4 s5 => (simp only at h1 h2; subst h1 h2; rfl))) h
  obtain ⟨h1, h2⟩ := mem_pairs hp
  have e1 : p.1 < nC cs := by omega
  refine It.emit2 (a := .int (p.1 : Nat)) (b := .int (p.2 : Nat)) (.inl (by kernel_rfl)) (.inl (by kernel_rfl)) (by decide) (by repeat (first | exact ne_nil | refine ne_cons (by decide) ?_)) (by repeat (first | exact ne_nil | refine ne_cons (by decide) ?_)) TsI.nil (Ev.ite (b := swp p) (Ts.cmp (Ev.modN 2 (Ev.bin (Ev.name (by repeat (first | with_reducible exact List.mem_cons_self | with_reducible apply List.mem_cons_of_mem))) (Ev.name (by repeat (first | with_reducible exact List.mem_cons_self | with_reducible apply List.mem_cons_of_mem))) Op2.add)) Ev.int Op2.eqI)
    (fun q => Ev.conv (Ev.tuple (EvL.cons (Ev.rlAt (f := fun i => .str (strOf' (wC cs i))) h2 (by omega) (Ev.name (by repeat (first | with_reducible exact List.mem_cons_self | with_reducible apply List.mem_cons_of_mem))) (Ev.name (by repeat (first | with_reducible exact List.mem_cons_self | with_reducible apply List.mem_cons_of_mem)))) (EvL.cons (Ev.rlAt (f := fun i => .str (strOf' (wC cs i))) e1 (by omega) (Ev.name (by repeat (first | with_reducible exact List.mem_cons_self | with_reducible apply List.mem_cons_of_mem))) (Ev.name (by repeat (first | with_reducible exact List.mem_cons_self | with_reducible apply List.mem_cons_of_mem)))) EvL.nil))) (by unfold tw; rw [if_pos q]; rfl))
    (fun q => Ev.conv (Ev.tuple (EvL.cons (Ev.rlAt (f := fun i => .str (strOf' (wC cs i))) e1 (by omega) (Ev.name (by repeat (first | with_reducible exact List.mem_cons_self | with_reducible apply List.mem_cons_of_mem))) (Ev.name (by repeat (first | with_reducible exact List.mem_cons_self | with_reducible apply List.mem_cons_of_mem)))) (EvL.cons (Ev.rlAt (f := fun i => .str (strOf' (wC cs i))) h2 (by omega) (Ev.name (by repeat (first | with_reducible exact List.mem_cons_self | with_reducible apply List.mem_cons_of_mem))) (Ev.name (by repeat (first | with_reducible exact List.mem_cons_self | with_reducible apply List.mem_cons_of_mem)))) EvL.nil))) (by unfold tw; rw [if_neg (by rw [q]; decide)]; rfl))) rfl
end

end Mine
namespace Mine
abbrev PRS (cs : Nat → Int) : List (Nat × Nat) := pairsN (nC cs)
abbrev LIP (L : List (Nat × Nat)) (f : Nat × Nat → Int) : PyData := .list (L.map fun p => .int (f p))
abbrev LBP (L : List (Nat × Nat)) (f : Nat × Nat → Bool) : PyData := .list (L.map fun p => .bool (f p))
theorem lip_rl (L : List (Nat × Nat)) (f : Nat × Nat → Int) : LIP L f = RL L.length fun k => .int (f (L.getD k (0, 0))) := congrArg PyData.list (map_rl L (0, 0) fun p => PyData.int (f p))
theorem lbp_rl (L : List (Nat × Nat)) (f : Nat × Nat → Bool) : LBP L f = RL L.length fun k => .bool (f (L.getD k (0, 0))) := congrArg PyData.list (map_rl L (0, 0) fun p => PyData.bool (f p))
theorem ties_rl (L : List (Nat × Nat)) : tiesD L = RL L.length fun k => pairD (L.getD k (0, 0)) := congrArg PyData.list (map_rl L (0, 0) pairD)
theorem pairs_head {n : Nat} (h : 2 ≤ n) : (pairsN n)[0]? = some (0, 1) := by
  obtain ⟨k, rfl⟩ := Nat.exists_eq_add_of_le h
  unfold pairsN
  rw [show 2 + k = (k + 1) + 1 by omega, List.range_succ_eq_map, List.flatMap_cons]
  rw [show k + 1 + 1 - (0 + 1) = k + 1 by omega, List.range_succ_eq_map]
  rfl
theorem tw_len (cs p) : (tw cs p).1.length ≤ 4 ∧ (tw cs p).2.length ≤ 4 := by
  have h : ∀ i, (wC cs i).length ≤ 4 := fun i => by
    unfold wC; rw [List.length_replicate]
    have := ct_lt cs (gC cs i); unfold cC; omega
  unfold tw; split <;> exact ⟨h _, h _⟩
section
variable {c : Cx} {m : Nat} {T : Tab} {C : List Str} {ρ ρ' : Vars}
/-- marks[good[i]], counts[good[i]] -/
theorem Ev.viaGood {cs : Nat → Int} {f : Nat → PyData} {v g i : PySem.Expr} {p1 p2 : Pos} {k : Nat} (hk : k < nC cs) (h1 : Ev c m T ρ v (RL 5 f)) (h2 : Ev c m T ρ g (RL (nC cs) fun i => .int (gC cs i : Nat))) (h3 : Ev c m T ρ i (.int (k : Nat)))
    (hs : ∀ o x, subscripted i false o x = operate [o, x] (getItem o x) := by intro _ _; rfl) (hs' : ∀ o x, subscripted (.Subscript g i p1) false o x = operate [o, x] (getItem o x) := by intro _ _; rfl) : Ev c m T ρ (.Subscript v (.Subscript g i p1) p2) (f (gC cs k)) :=
  Ev.rlAt (f := f) (gC_mem hk).1 (by decide) h1 (Ev.rlAt (f := fun i => .int (gC cs i : Nat)) hk (by have := nC_le cs; omega) h2 h3 hs) hs'
end
theorem ne_two {x y : Str} {ρ : Vars} (h : ∀ p ∈ ρ, p.1 ≠ x) (h' : ∀ p ∈ ρ, p.1 ≠ y) : ∀ p ∈ ρ, p.1 ≠ x ∧ p.1 ≠ y := fun p hp => ⟨h p hp, h' p hp⟩
abbrev V3 (cs : Nat → Int) : Vars := ("far", LIP (PRS cs) (expI cs)) :: ("costs", LIP (PRS cs) (costI cs)) :: ("pairs", tiesD (PRS cs)) :: V0 cs
section
variable {c : Cx} (W : W0 c)
include W
theorem st34 {out : Out} {cs : Nat → Int} (h : LX c (("second", .str (strOf' (tw cs (0, 1)).2)) :: ("first", .str (strOf' (tw cs (0, 1)).1)) :: V3 cs) 39 out) : LX c (("turns", .list ((pairsN (nC cs)).map fun p => pairS (tw cs p))) :: V2 cs) 34 out := by
  have hn := nC_le cs
  have hn2 := nC_ge cs
  have hpl : (PRS cs).length ≤ 10 := pairs_len _ hn
  refine Ex.cons (X1.comp (y := "far") (out := (PRS cs).map fun p => .int (expI cs p)) (ρ₁ := ("turns", .list ((PRS cs).map fun p => pairS (tw cs p))) :: V2 cs) (ρ' := [("bound", dDue cs)]) (C' := []) rfl (Its.list (Ev.name (by repeat (first | with_reducible exact List.mem_cons_self | with_reducible apply List.mem_cons_of_mem)))) (Blk.of (by repeat (first | exact sub_nil | refine sub_cons (by repeat (first | with_reducible exact List.mem_cons_self | with_reducible apply List.mem_cons_of_mem)) ?_)) (by kernel_rfl))
    (CL.mapL (PRS cs) (fun p => pairS (tw cs p)) (fun p => .int (expI cs p)) rfl (fun _ h => nomatch h) (fun p hp => It.emit2 (a := .str (strOf' (tw cs p).1)) (b := .str (strOf' (tw cs p).2)) (.inl (by kernel_rfl)) (.inl (by kernel_rfl)) (by decide) (by repeat (first | exact ne_nil | refine ne_cons (by decide) ?_)) (by repeat (first | exact ne_nil | refine ne_cons (by decide) ?_)) TsI.nil
      (Ev.conv (Ev.call (EvL.cons (Ev.name (by repeat (first | with_reducible exact List.mem_cons_self | with_reducible apply List.mem_cons_of_mem))) (EvL.cons (Ev.name (by repeat (first | with_reducible exact List.mem_cons_self | with_reducible apply List.mem_cons_of_mem))) (EvL.cons (Ev.name (by repeat (first | with_reducible exact List.mem_cons_self | with_reducible apply List.mem_cons_of_mem))) EvL.nil))) ((fn_lev W (by have := (tw_len cs p).1; omega) (by have := (tw_len cs p).2; omega)).le (by decide))) (congrArg PyData.int (far_exp cs p))) rfl)) (by rw [List.length_map]; omega) (.inl (by kernel_rfl)) (fun _ h => h) (by repeat (first | exact ne_nil | refine ne_cons (by decide) ?_)) (fun env h1 h2 => by cases env with | mk scope l g ce q f cd fr bu => cases scope with | mk sk sn s3 s4 s5 => (simp only at h1 h2; subst h1 h2; rfl))) ?_
  refine Ex.cons (X1.assignC (x := "costs") (d := LIP (PRS cs) (costI cs)) (ρ' := ("far", LIP (PRS cs) (expI cs)) :: ("turns", .list ((PRS cs).map fun p => pairS (tw cs p))) :: V2 cs) (Ev.comp (ρ' := [("good", RL (nC cs) fun i => .int (gC cs i : Nat)), ("counts", dCounts cs), ("marks", dMarks cs)]) (C' := []) rfl (Its.list (Ev.name (by repeat (first | with_reducible exact List.mem_cons_self | with_reducible apply List.mem_cons_of_mem)))) (Blk.of (by repeat (first | exact sub_nil | refine sub_cons (by repeat (first | with_reducible exact List.mem_cons_self | with_reducible apply List.mem_cons_of_mem)) ?_)) (by kernel_rfl))
    (CL.mapL (PRS cs) pairD (fun p => .int (costI cs p)) rfl (fun _ h => nomatch h) (fun p hp => ?_)) (by rw [List.length_map]; omega)) (.inr (by decide)) (fun _ h => h) (by repeat (first | exact ne_nil | refine ne_cons (by decide) ?_)) own_none (fun env h1 h2 => by cases env with | mk scope l g ce q f cd fr bu => cases scope with | mk sk sn s3 s4 s5 => (simp only at h1 h2; subst h1 h2; rfl))) ?_
  · obtain ⟨h1, h2⟩ := mem_pairs hp
    have e1 : p.1 < nC cs := by omega
    exact It.emit2 (a := .int (p.1 : Nat)) (b := .int (p.2 : Nat)) (.inl (by kernel_rfl)) (.inl (by kernel_rfl)) (by decide) (by repeat (first | exact ne_nil | refine ne_cons (by decide) ?_)) (by repeat (first | exact ne_nil | refine ne_cons (by decide) ?_)) TsI.nil (Ev.call (EvL.cons (Ev.viaGood (f := fun i => .str (strOf' [letter (m4 cs i)])) e1 (Ev.name (by repeat (first | with_reducible exact List.mem_cons_self | with_reducible apply List.mem_cons_of_mem))) (Ev.name (by repeat (first | with_reducible exact List.mem_cons_self | with_reducible apply List.mem_cons_of_mem))) (Ev.name (by repeat (first | with_reducible exact List.mem_cons_self | with_reducible apply List.mem_cons_of_mem)))) (EvL.cons (Ev.viaGood (f := fun i => .int (ct cs i : Nat)) e1 (Ev.name (by repeat (first | with_reducible exact List.mem_cons_self | with_reducible apply List.mem_cons_of_mem))) (Ev.name (by repeat (first | with_reducible exact List.mem_cons_self | with_reducible apply List.mem_cons_of_mem))) (Ev.name (by repeat (first | with_reducible exact List.mem_cons_self | with_reducible apply List.mem_cons_of_mem)))) (EvL.cons (Ev.viaGood (f := fun i => .str (strOf' [letter (m4 cs i)])) h2 (Ev.name (by repeat (first | with_reducible exact List.mem_cons_self | with_reducible apply List.mem_cons_of_mem))) (Ev.name (by repeat (first | with_reducible exact List.mem_cons_self | with_reducible apply List.mem_cons_of_mem))) (Ev.name (by repeat (first | with_reducible exact List.mem_cons_self | with_reducible apply List.mem_cons_of_mem)))) (EvL.cons (Ev.viaGood (f := fun i => .int (ct cs i : Nat)) h2 (Ev.name (by repeat (first | with_reducible exact List.mem_cons_self | with_reducible apply List.mem_cons_of_mem))) (Ev.name (by repeat (first | with_reducible exact List.mem_cons_self | with_reducible apply List.mem_cons_of_mem))) (Ev.name (by repeat (first | with_reducible exact List.mem_cons_self | with_reducible apply List.mem_cons_of_mem)))) EvL.nil))))
      ((fn_cost W (by rw [len_of]; show 1 ≤ 1000; decide) (by rw [len_of]; show 1 ≤ 1000; decide)).le (by decide))) rfl
  refine Ex.cons (X1.assignC (x := "free") (d := LBP (PRS cs) (frB cs)) (ρ' := ("costs", LIP (PRS cs) (costI cs)) :: ("far", LIP (PRS cs) (expI cs)) :: ("turns", .list ((PRS cs).map fun p => pairS (tw cs p))) :: V2 cs) (Ev.comp (ρ' := [("good", RL (nC cs) fun i => .int (gC cs i : Nat)), ("counts", dCounts cs), ("marks", dMarks cs)]) (C' := []) rfl (Its.list (Ev.name (by repeat (first | with_reducible exact List.mem_cons_self | with_reducible apply List.mem_cons_of_mem)))) (Blk.of (by repeat (first | exact sub_nil | refine sub_cons (by repeat (first | with_reducible exact List.mem_cons_self | with_reducible apply List.mem_cons_of_mem)) ?_)) (by kernel_rfl))
    (CL.mapL (PRS cs) pairD (fun p => .bool (frB cs p)) rfl (fun _ h => nomatch h) (fun p hp => ?_)) (by rw [List.length_map]; omega)) (.inr (by decide)) (fun _ h => h) (by repeat (first | exact ne_nil | refine ne_cons (by decide) ?_)) own_none (fun env h1 h2 => by cases env with | mk scope l g ce q f cd fr bu => cases scope with | mk sk sn s3 s4 s5 => (simp only at h1 h2; subst h1 h2; rfl))) ?_
  · obtain ⟨h1, h2⟩ := mem_pairs hp
    have e1 : p.1 < nC cs := by omega
    have c1 : cC cs p.1 < 5 := ct_lt cs _
    exact It.emit2 (a := .int (p.1 : Nat)) (b := .int (p.2 : Nat)) (.inl (by kernel_rfl)) (.inl (by kernel_rfl)) (by decide) (by repeat (first | exact ne_nil | refine ne_cons (by decide) ?_)) (by repeat (first | exact ne_nil | refine ne_cons (by decide) ?_)) TsI.nil (Ev.or2 (Ev.cmp (Ev.viaGood (f := fun i => .str (strOf' [letter (m4 cs i)])) e1 (Ev.name (by repeat (first | with_reducible exact List.mem_cons_self | with_reducible apply List.mem_cons_of_mem))) (Ev.name (by repeat (first | with_reducible exact List.mem_cons_self | with_reducible apply List.mem_cons_of_mem))) (Ev.name (by repeat (first | with_reducible exact List.mem_cons_self | with_reducible apply List.mem_cons_of_mem)))) (Ev.viaGood (f := fun i => .str (strOf' [letter (m4 cs i)])) h2 (Ev.name (by repeat (first | with_reducible exact List.mem_cons_self | with_reducible apply List.mem_cons_of_mem))) (Ev.name (by repeat (first | with_reducible exact List.mem_cons_self | with_reducible apply List.mem_cons_of_mem))) (Ev.name (by repeat (first | with_reducible exact List.mem_cons_self | with_reducible apply List.mem_cons_of_mem)))) Op2.eqS) Tr.bool
      (fun q => by unfold frB; unfold lC; rw [q]; rfl)
      (fun q => Ev.conv (Ev.cmp (Ev.bin (Ev.viaGood (f := fun i => .int (ct cs i : Nat)) e1 (Ev.name (by repeat (first | with_reducible exact List.mem_cons_self | with_reducible apply List.mem_cons_of_mem))) (Ev.name (by repeat (first | with_reducible exact List.mem_cons_self | with_reducible apply List.mem_cons_of_mem))) (Ev.name (by repeat (first | with_reducible exact List.mem_cons_self | with_reducible apply List.mem_cons_of_mem)))) (Ev.viaGood (f := fun i => .int (ct cs i : Nat)) h2 (Ev.name (by repeat (first | with_reducible exact List.mem_cons_self | with_reducible apply List.mem_cons_of_mem))) (Ev.name (by repeat (first | with_reducible exact List.mem_cons_self | with_reducible apply List.mem_cons_of_mem))) (Ev.name (by repeat (first | with_reducible exact List.mem_cons_self | with_reducible apply List.mem_cons_of_mem)))) (Op2.mul (IntMulOk.of_left (bits_small (by omega) (by have := ct_lt cs (gC cs p.1); omega))))) Ev.int Op2.eqI) (by unfold frB; unfold lC; rw [q]; rfl))) rfl
  refine Ex.ifNot (Ts.neSame (k := 1) (Ev.conv (d := LIP (PRS cs) (expI cs)) (Ev.name (by repeat (first | with_reducible exact List.mem_cons_self | with_reducible apply List.mem_cons_of_mem))) rfl) (Ev.conv (Ev.comp (out := (List.range (PRS cs).length).map fun k => .int (expI cs ((PRS cs).getD k (0, 0)))) (ρ' := [("due", dDue cs), ("free", LBP (PRS cs) (frB cs)), ("costs", LIP (PRS cs) (costI cs))]) (C' := []) rfl (Its.range0 (PRS cs).length (Ev.callB (EvL.cons (Ev.name (by repeat (first | with_reducible exact List.mem_cons_self | with_reducible apply List.mem_cons_of_mem))) EvL.nil) (g_len W) (b_len W) (Bi.lenList (by rw [List.length_map]; exact Nat.lt_of_le_of_lt hpl (by decide)))) (g_range W) (b_range W) (by rw [List.length_map]) (by omega)) (Blk.of (by repeat (first | exact sub_nil | refine sub_cons (by repeat (first | with_reducible exact List.mem_cons_self | with_reducible apply List.mem_cons_of_mem)) ?_)) (by kernel_rfl))
    (CL.mapL (List.range (PRS cs).length) _ (fun k => .int (expI cs ((PRS cs).getD k (0, 0)))) rfl (fun _ h => nomatch h) (fun k hk => ?_)) (by rw [rl_len]; omega)) (lip_rl _ _).symm) (Okd.map fun _ _ => .int _)) ?_
  · have hk := List.mem_range.mp hk
    have cst : ∀ {ρ : Vars} {T : Tab} {e : PySem.Expr}, Ev c 3 T ρ e (LIP (PRS cs) (costI cs)) → Ev c 3 T ρ e (RL (PRS cs).length fun k => .int (costI cs ((PRS cs).getD k (0, 0)))) := fun h => Ev.conv h (lip_rl _ _)
    have fst : ∀ {ρ : Vars} {T : Tab} {e : PySem.Expr}, Ev c 3 T ρ e (LBP (PRS cs) (frB cs)) → Ev c 3 T ρ e (RL (PRS cs).length fun k => .bool (frB cs ((PRS cs).getD k (0, 0)))) := fun h => Ev.conv h (lbp_rl _ _)
    refine It.emit1 (.inl (by kernel_rfl)) (by repeat (first | exact ne_nil | refine ne_cons (by decide) ?_)) TsI.nil (Ev.ite (b := frB cs ((PRS cs).getD k (0, 0)) || decide (costI cs ((PRS cs).getD k (0, 0)) ≤ (dueC cs : Nat))) (Ts.conv (Ts.bool (TsA.or (Ts.val (Ev.rlAt (f := fun k => .bool (frB cs ((PRS cs).getD k (0, 0)))) hk (by omega) (fst (Ev.name (by repeat (first | with_reducible exact List.mem_cons_self | with_reducible apply List.mem_cons_of_mem)))) (Ev.name (by repeat (first | with_reducible exact List.mem_cons_self | with_reducible apply List.mem_cons_of_mem)))) Tr.bool) (fun _ => TsA.or (Ts.cmp (Ev.rlAt (f := fun k => .int (costI cs ((PRS cs).getD k (0, 0)))) hk (by omega) (cst (Ev.name (by repeat (first | with_reducible exact List.mem_cons_self | with_reducible apply List.mem_cons_of_mem)))) (Ev.name (by repeat (first | with_reducible exact List.mem_cons_self | with_reducible apply List.mem_cons_of_mem)))) (Ev.name (by repeat (first | with_reducible exact List.mem_cons_self | with_reducible apply List.mem_cons_of_mem))) Op2.le) (fun _ => TsA.nilO)))) (by rw [Bool.or_false]))
      (fun q => Ev.conv (Ev.rlAt (f := fun k => .int (costI cs ((PRS cs).getD k (0, 0)))) hk (by omega) (cst (Ev.name (by repeat (first | with_reducible exact List.mem_cons_self | with_reducible apply List.mem_cons_of_mem)))) (Ev.name (by repeat (first | with_reducible exact List.mem_cons_self | with_reducible apply List.mem_cons_of_mem)))) (by unfold expI; rw [if_pos q]))
      (fun q => Ev.conv (Ev.bin (Ev.name (by repeat (first | with_reducible exact List.mem_cons_self | with_reducible apply List.mem_cons_of_mem))) Ev.int Op2.add) (by unfold expI; rw [if_neg (by rw [q]; decide)]))) rfl
  refine Ex.cons (X1.unpack2 (x := "first") (y := "second") (a := .str (strOf' (tw cs (0, 1)).1)) (b := .str (strOf' (tw cs (0, 1)).2)) (ρ' := V3 cs) (Ev.itemL (xs := (PRS cs).map fun p => pairS (tw cs p)) (j := 0) (Ev.name (by repeat (first | with_reducible exact List.mem_cons_self | with_reducible apply List.mem_cons_of_mem))) Ev.int (by rw [List.length_map]; exact idx_at 0 (by have := (List.getElem?_eq_some_iff.mp (pairs_head hn2)).1; exact this)) (by rw [List.getElem?_map, pairs_head hn2]; rfl) (by rw [List.length_map]; exact Nat.lt_of_le_of_lt hpl (by decide))) (.inr (by decide)) (.inr (by decide)) (by decide) (by repeat (first | exact sub_nil | refine sub_cons (by repeat (first | with_reducible exact List.mem_cons_self | with_reducible apply List.mem_cons_of_mem)) ?_)) (ne_two (by repeat (first | exact ne_nil | refine ne_cons (by decide) ?_)) (by repeat (first | exact ne_nil | refine ne_cons (by decide) ?_)))) h
end

end Mine
namespace Mine
theorem pre_app : ∀ (f a b : List Nat), preLen (f ++ a) (f ++ b) = f.length + preLen a b
  | [], a, b => by rw [List.nil_append, List.nil_append, List.length_nil, Nat.zero_add]
  | x :: f, a, b => by
    have e : headEq ((x :: f) ++ a) ((x :: f) ++ b) = true := by show headEq (x :: (f ++ a)) (x :: (f ++ b)) = true; unfold headEq; simp
    rw [preLen_step e]
    show preLen (f ++ a) (f ++ b) + 1 = _
    rw [pre_app f a b, List.length_cons]; omega
theorem cut_app (a s : List Nat) : cutEnd (a ++ s) s.length = a := by
  unfold cutEnd
  rw [List.length_append, Nat.add_sub_cancel, List.take_left]
theorem lev_mid {f a b s : List Nat} {mx : Int} (hne : a ≠ b) (h1 : preLen (a ++ s) (b ++ s) = 0) (h2 : preLen a.reverse b.reverse = 0) : lev (f ++ a ++ s) (f ++ b ++ s) mx = levCut a b mx := by
  have hn : ¬ f ++ a ++ s = f ++ b ++ s := fun e => hne (by
    rw [List.append_assoc, List.append_assoc] at e
    exact List.append_cancel_right (List.append_cancel_left e))
  rw [lev_ne hn, List.append_assoc, List.append_assoc, pre_app, h1, Nat.add_zero, List.drop_left, List.drop_left]
  rw [List.reverse_append, List.reverse_append, pre_app, h2, Nat.add_zero, List.length_reverse, cut_app, cut_app]
theorem way_a (f s : List Nat) : lev (f ++ [120, 121, 122] ++ s) (f ++ [121, 122, 120] ++ s) 4 = 4 := by
  rw [lev_mid (by decide) (preLen_stop rfl) (preLen_stop rfl)]; decide +kernel
theorem way_b (f s : List Nat) : lev (f ++ [120, 121, 122] ++ s) (f ++ [122, 120, 121] ++ s) 4 = 4 := by
  rw [lev_mid (by decide) (preLen_stop rfl) (preLen_stop rfl)]; decide +kernel
theorem way_c (f s : List Nat) (hs : ∀ x ∈ s, x ≠ 120) : lev (f ++ [120] ++ s) (f ++ s) 0 = 2 := by
  have e : f ++ s = f ++ [] ++ s := by rw [List.append_nil]
  rw [e, lev_mid (by decide) ?_ (preLen_stop rfl)]
  · rfl
  · cases s with
    | nil => exact preLen_stop rfl
    | cons x r =>
      refine preLen_stop ?_
      show headEq (120 :: (x :: r)) (x :: r) = false
      unfold headEq
      have := hs x (.head _)
      first | exact decide_eq_false (Ne.symm this) | (simp; exact Ne.symm this)
theorem way_d : lev [120, 121] [45, 120, 45, 121, 45] 6 = 6 := by decide +kernel
theorem way_e : lev [120] (List.replicate 41 121) 99 = 100 ∧ lev (List.replicate 41 121) [120] 99 = 100 := by decide +kernel
theorem letter_ne (m : Nat) : letter m ≠ 120 := by unfold letter; split <;> decide
theorem tw_ne (cs p) : ∀ x ∈ (tw cs p).2, x ≠ 120 := by
  have h : ∀ i, ∀ x ∈ wC cs i, x ≠ 120 := fun i x hx => by
    unfold wC at hx
    rw [List.eq_of_mem_replicate hx]; exact letter_ne _
  unfold tw; split <;> exact h _

end Mine
namespace Mine
def movL : Nat → List Nat | 0 => [121, 122, 120] | _ => [122, 120, 121]
theorem mov_rl : PyData.list [.str "yzx", .str "zxy"] = RL 2 fun i => .str (strOf' (movL i)) := by kernel_rfl
theorem way_ab (f s : List Nat) : ∀ i, i < 2 → lev (f ++ [120, 121, 122] ++ s) (f ++ movL i ++ s) 4 = 4
  | 0, _ => way_a f s
  | 1, _ => way_b f s
def waysL : List Int := [4, 4, 2, 6, 100, 100]
section
variable {c : Cx} (W : W0 c)
include W
theorem st39 {out : Out} {cs : Nat → Int} (h : LX c (V3 cs) 44 out) : LX c (("second", .str (strOf' (tw cs (0, 1)).2)) :: ("first", .str (strOf' (tw cs (0, 1)).1)) :: V3 cs) 39 out := by
  have hn := nC_le cs
  have hpl : (PRS cs).length ≤ 10 := pairs_len _ hn
  obtain ⟨l1, l2⟩ := tw_len cs (0, 1)
  have hne := tw_ne cs (0, 1)
  generalize (tw cs (0, 1)).1 = f at *
  generalize (tw cs (0, 1)).2 = s at *
  have mid : ∀ {ρ : Vars} {T : Tab} {e1 e2 e3 : PySem.Expr} {p1 p2 : Pos} {x : List Nat}, x.length ≤ 5 → Ev c 3 T ρ e1 (.str (strOf' f)) → Ev c 3 T ρ e2 (.str (strOf' x)) → Ev c 3 T ρ e3 (.str (strOf' s)) → Ev c 3 T ρ (.BinOp (.BinOp e1 .Add e2 p1) .Add e3 p2) (.str (strOf' (f ++ x ++ s))) := fun hx h1 h2 h3 =>
    Ev.conv (Ev.app (Ev.app h1 h2 (by rw [len_of, len_of]; omega)) h3 (by rw [strOf_appd, len_of, len_of, List.length_append]; omega)) (by rw [strOf_appd, strOf_appd])
  have lm : ∀ x : List Nat, x.length ≤ 5 → (f ++ x ++ s).length ≤ 500 := fun x hx => by rw [List.length_append, List.length_append]; omega
  have ml : ∀ i, (movL i).length ≤ 5 := fun i => by unfold movL; split <;> decide
  refine Ex.cons (X1.compOwn (y := "ways") (out := (List.range 2).map fun i => .int 4) (ρ₁ := ("second", .str (strOf' s)) :: ("first", .str (strOf' f)) :: V3 cs) (ρ' := [("first", .str (strOf' f)), ("second", .str (strOf' s))]) (C' := []) rfl (Its.list' (Ev.list (EvL.cons Ev.str (EvL.cons Ev.str EvL.nil))) mov_rl) (Blk.of (by repeat (first | exact sub_nil | refine sub_cons (by repeat (first | with_reducible exact List.mem_cons_self | with_reducible apply List.mem_cons_of_mem)) ?_)) (by kernel_rfl))
    (CL.mapL (List.range 2) (fun i => .str (strOf' (movL i))) (fun i => .int 4) rfl (fun _ h => nomatch h) (fun i hi => It.emit1 (.inl (by kernel_rfl)) (by repeat (first | exact ne_nil | refine ne_cons (by decide) ?_)) TsI.nil
      (Ev.conv (Ev.call (EvL.cons (mid (x := [120, 121, 122]) (by decide) (Ev.name (by repeat (first | with_reducible exact List.mem_cons_self | with_reducible apply List.mem_cons_of_mem))) (Ev.conv Ev.str (by congr 1)) (Ev.name (by repeat (first | with_reducible exact List.mem_cons_self | with_reducible apply List.mem_cons_of_mem)))) (EvL.cons (mid (ml i) (Ev.name (by repeat (first | with_reducible exact List.mem_cons_self | with_reducible apply List.mem_cons_of_mem))) (Ev.name (by repeat (first | with_reducible exact List.mem_cons_self | with_reducible apply List.mem_cons_of_mem))) (Ev.name (by repeat (first | with_reducible exact List.mem_cons_self | with_reducible apply List.mem_cons_of_mem)))) (EvL.cons Ev.int EvL.nil))) ((fn_lev W (lm _ (by decide)) (lm _ (ml i))).le (by decide))) (congrArg PyData.int (way_ab f s i (List.mem_range.mp hi)))) rfl)) (by rw [rl_len]; decide) (.inl (by kernel_rfl)) (fun _ h => h) (by repeat (first | exact ne_nil | refine ne_cons (by decide) ?_)) (fun env h1 h2 => by cases env with | mk scope l g ce q f cd fr bu => cases scope with | mk sk sn s3 s4 s5 => (simp only at h1 h2; subst h1 h2; rfl))) ?_
  refine Ex.cons (X1.augList (es := [.int 2, .int 6]) (Ev.list (EvL.cons (Ev.conv (Ev.call (EvL.cons (mid (x := [120]) (by decide) (Ev.name (by repeat (first | with_reducible exact List.mem_cons_self | with_reducible apply List.mem_cons_of_mem))) (Ev.conv Ev.str (by congr 1)) (Ev.name (by repeat (first | with_reducible exact List.mem_cons_self | with_reducible apply List.mem_cons_of_mem)))) (EvL.cons (Ev.conv (d' := .str (strOf' (f ++ s))) (Ev.app (Ev.name (by repeat (first | with_reducible exact List.mem_cons_self | with_reducible apply List.mem_cons_of_mem))) (Ev.name (by repeat (first | with_reducible exact List.mem_cons_self | with_reducible apply List.mem_cons_of_mem))) (by rw [len_of, len_of]; omega)) (by rw [strOf_appd])) (EvL.cons Ev.int EvL.nil))) ((fn_lev W (lm _ (by decide)) (by rw [List.length_append]; omega)).le (by decide))) (congrArg PyData.int (way_c f s hne)))
    (EvL.cons (Ev.conv (Ev.call (EvL.cons (Ev.conv (d' := .str (strOf' [120, 121])) Ev.str (by congr 1)) (EvL.cons (Ev.conv (d' := .str (strOf' [45, 120, 45, 121, 45])) Ev.str (by congr 1)) (EvL.cons Ev.int EvL.nil))) ((fn_lev W (by decide) (by decide)).le (by decide))) (congrArg PyData.int way_d)) EvL.nil))) (.inl (by kernel_rfl)) (by rw [rl_len]; decide)) ?_
  have y41 : ∀ {ρ : Vars} {T : Tab} {k1 k2 : Nat} {p1 p2 p3 : Pos}, Ev c 3 T ρ (.BinOp (.Constant (.str "y") k1 p1) .Mult (.Constant (.int 41) k2 p2) p3) (.str (strOf' (List.replicate 41 121))) := fun {_ _ _ _ _ _ _} =>
    Ev.conv (Ev.bin (Ev.conv (d' := .str (strOf' [121])) Ev.str (by congr 1)) Ev.int (Op2.mulStr (mul_ok 121 41 (by decide)))) (congrArg PyData.str (mul_rep 121 41))
  refine Ex.cons (X1.augList (es := [.int 100, .int 100]) (Ev.list (EvL.cons (Ev.conv (Ev.call (EvL.cons (Ev.conv (d' := .str (strOf' [120])) Ev.str (by congr 1)) (EvL.cons y41 (EvL.cons Ev.int EvL.nil))) ((fn_lev W (by decide) (by rw [List.length_replicate]; decide)).le (by decide))) (congrArg PyData.int way_e.1))
    (EvL.cons (Ev.conv (Ev.call (EvL.cons y41 (EvL.cons (Ev.conv (d' := .str (strOf' [120])) Ev.str (by congr 1)) (EvL.cons Ev.int EvL.nil))) ((fn_lev W (by rw [List.length_replicate]; decide) (by decide)).le (by decide))) (congrArg PyData.int way_e.2)) EvL.nil))) (.inl (by kernel_rfl)) (by rw [List.length_append, rl_len]; decide)) ?_
  refine Ex.freeze ?_
  refine Ex.ifNot (Ts.neSame (k := 1) (Ev.conv (d := .list ((List.range 2).map (fun i => PyData.int 4) ++ [.int 2, .int 6] ++ [.int 100, .int 100])) (d' := LI waysL) (Ev.name (by repeat (first | with_reducible exact List.mem_cons_self | with_reducible apply List.mem_cons_of_mem))) rfl) (Ev.list (EvL.cons Ev.int (EvL.cons Ev.int (EvL.cons Ev.int (EvL.cons Ev.int (EvL.cons Ev.int (EvL.cons Ev.int EvL.nil))))))) (ok_li _)) ?_
  have e1 : PyData.list (((PRS cs).map fun p => PyData.int (expI cs p)) ++ ((List.range 2).map (fun i => PyData.int 4) ++ [.int 2, .int 6] ++ [.int 100, .int 100])) = LI ((PRS cs).map (expI cs) ++ waysL) := by
    rw [LI, List.map_append, List.map_map]; rfl
  refine Ex.ifNot (Ts.neSame (k := 1) (d := .list []) (Ev.conv (Ev.comp (out := (((PRS cs).map (expI cs) ++ waysL).filter fun _ => false).map .int) (ρ' := []) (C' := []) rfl (Its.list' (Ev.bin (Ev.name (by repeat (first | with_reducible exact List.mem_cons_self | with_reducible apply List.mem_cons_of_mem))) (Ev.name (by repeat (first | with_reducible exact List.mem_cons_self | with_reducible apply List.mem_cons_of_mem))) (Op2.addList (by rw [List.length_map]; show _ + 6 ≤ sizeLine; have e : sizeLine = 16777216 := rfl; omega))) e1) (Blk.of (by repeat (first | exact sub_nil | refine sub_cons (by repeat (first | with_reducible exact List.mem_cons_self | with_reducible apply List.mem_cons_of_mem)) ?_)) (by kernel_rfl))
    (CL.filtL ((PRS cs).map (expI cs) ++ waysL) (fun _ => false) PyData.int PyData.int rfl (fun _ h => nomatch h) (fun x hx q => nomatch q)
      (fun x hx q => It.skip1 (.inl (by kernel_rfl)) (by repeat (first | exact ne_nil | refine ne_cons (by decide) ?_)) (TsI.one (Ts.conv (Ts.bool (TsA.or (Ts.val (Ev.isi (b := false) (Ev.name (by repeat (first | with_reducible exact List.mem_cons_self | with_reducible apply List.mem_cons_of_mem))) (g_isi W) (b_isi W) (g_bool W) (b_bool W) isi_int_bool) Tr.bool) (fun _ => TsA.or (Ts.not (Ts.val (Ev.isi (b := true) (Ev.name (by repeat (first | with_reducible exact List.mem_cons_self | with_reducible apply List.mem_cons_of_mem))) (g_isi W) (b_isi W) (g_int W) (b_int W) isi_int_int) Tr.bool)) (fun _ => TsA.nilO)))) rfl)))) (by rw [List.filter_eq_nil_iff.mpr (fun _ _ => by decide)]; decide)) (by rw [List.filter_eq_nil_iff.mpr (fun _ _ => by decide)]; rfl))
    (Ev.list EvL.nil) (Okd.list fun d hd => nomatch hd)) ?_
  exact Ex.sub h (by repeat (first | exact sub_nil | refine sub_cons (by repeat (first | with_reducible exact List.mem_cons_self | with_reducible apply List.mem_cons_of_mem)) ?_))
end

end Mine
namespace Mine
/-! the graphs -/
def reachI : List Int → List Int → List Int
  | [], l => l
  | m :: ms, l => reachI ms (l ++ l.map fun ch => Builtin.bitOr ch m)
def numI (n : Nat) (ties : List (Nat × Nat)) : Nat := ((reachI (masksL n ties) [0]).map fun x => (3 * x).fmod (2 ^ n)).countP fun x => decide (x = 2 ^ n - 3)
def tB (B : Nat × Nat → Bool) (i j : Nat) : Bool := bif Nat.blt i j then B (i, j) else bif Nat.blt j i then B (j, i) else false
def maskB (n : Nat) (B : Nat × Nat → Bool) (i : Nat) : Nat := 2 ^ i + ((List.range n).map fun j => bif tB B i j then 2 ^ j else 0).sum
def masksB (n : Nat) (B : Nat × Nat → Bool) : List Nat := (List.range n).map (maskB n B)
def commN (full : Nat) : List Nat → List Nat → List Nat
  | [], l => l
  | m :: ms, l => commN full ms (l ++ l.map fun x => x &&& (full - m))
def reachN : List Nat → List Nat → List Nat
  | [], l => l
  | m :: ms, l => reachN ms (l ++ l.map fun x => x ||| m)
abbrev castL (l : List Nat) : List Int := l.map fun x : Nat => (x : Int)
theorem mem_pairs_iff {n : Nat} {p : Nat × Nat} : p ∈ pairsN n ↔ p.1 < p.2 ∧ p.2 < n := by
  refine ⟨mem_pairs, fun ⟨h1, h2⟩ => ?_⟩
  unfold pairsN
  refine List.mem_flatMap.mpr ⟨p.1, List.mem_range.mpr (by omega), List.mem_map.mpr ⟨p.2 - (p.1 + 1), List.mem_range.mpr (by omega), ?_⟩⟩
  obtain ⟨a, b⟩ := p
  show (a, a + 1 + (b - (a + 1))) = (a, b)
  congr 1; simp only at h1; omega
theorem any_pairs {n : Nat} {B : Nat × Nat → Bool} {i j : Nat} : ((pairsN n).filter B).any (fun p => p.1 == i && p.2 == j) = (decide (i < j) && decide (j < n) && B (i, j)) := by
  apply Bool.eq_iff_iff.mpr
  rw [List.any_eq_true, Bool.and_eq_true, Bool.and_eq_true, decide_eq_true_eq, decide_eq_true_eq]
  constructor
  · rintro ⟨⟨a, b⟩, hp, e⟩
    rw [Bool.and_eq_true, beq_iff_eq, beq_iff_eq] at e
    obtain ⟨rfl, rfl⟩ : a = i ∧ b = j := e
    obtain ⟨h1, h2⟩ := List.mem_filter.mp hp
    exact ⟨mem_pairs h1, h2⟩
  · rintro ⟨h1, h2⟩
    exact ⟨(i, j), List.mem_filter.mpr ⟨mem_pairs_iff.mpr h1, h2⟩, by rw [Bool.and_eq_true]; exact ⟨beq_self_eq_true _, beq_self_eq_true _⟩⟩
theorem tied_B {n : Nat} {B : Nat × Nat → Bool} {i j : Nat} (hi : i < n) (hj : j < n) : tied ((pairsN n).filter B) i j = tB B i j := by
  unfold tied tB
  rw [any_pairs, any_pairs]
  by_cases h : i < j
  · have e1 : Nat.blt i j = true := by rw [Nat.blt_eq]; exact h
    rw [e1, cond_true, decide_eq_true h, decide_eq_true hj, decide_eq_false (by omega : ¬ j < i)]; simp
  · have e1 : Nat.blt i j = false := by cases q : Nat.blt i j; rfl; rw [Nat.blt_eq] at q; exact absurd q h
    rw [e1, cond_false, decide_eq_false h]
    by_cases h' : j < i
    · have e2 : Nat.blt j i = true := by rw [Nat.blt_eq]; exact h'
      rw [e2, cond_true, decide_eq_true h', decide_eq_true hi]; simp
    · have e2 : Nat.blt j i = false := by cases q : Nat.blt j i; rfl; rw [Nat.blt_eq] at q; exact absurd q h'
      rw [e2, cond_false, decide_eq_false h']; simp
theorem row_cast {t t' : Nat → Bool} : ∀ L : List Nat, (∀ j ∈ L, t j = t' j) → ((L.filter t).map fun j => (2 : Int) ^ j).sum = ((L.map fun j => bif t' j then 2 ^ j else 0).sum : Nat)
  | [], _ => rfl
  | j :: L, h => by
    have ih := row_cast L fun x hx => h x (.tail _ hx)
    have hj := h j (.head _)
    rw [List.map_cons, List.sum_cons, ← hj]
    cases q : t j with
    | true => rw [List.filter_cons_of_pos q, List.map_cons, List.sum_cons, ih, cond_true]; push_cast; rfl
    | false => rw [List.filter_cons_of_neg (by rw [q]; decide), ih, cond_false, Nat.zero_add]
theorem masks_B (n : Nat) (B : Nat × Nat → Bool) : masksL n ((pairsN n).filter B) = castL (masksB n B) := by
  unfold masksL masksB castL
  rw [List.map_map]
  refine List.map_congr_left fun i hi => ?_
  have hi := List.mem_range.mp hi
  unfold nearAt nearRow
  rw [row_cast (t' := tB B i) _ (fun j hj => tied_B hi (List.mem_range.mp hj))]
  show _ = ((maskB n B i : Nat) : Int)
  unfold maskB
  push_cast; rfl
theorem and_cast (a b : Nat) : Builtin.bitAnd (a : Int) (b : Int) = ((a &&& b : Nat) : Int) := by
  rw [bitAnd_pp (by omega) (by omega), Int.toNat_natCast, Int.toNat_natCast]
theorem or_cast (a b : Nat) : Builtin.bitOr (a : Int) (b : Int) = ((a ||| b : Nat) : Int) := by
  unfold Builtin.bitOr
  have e : ∀ x : Nat, Builtin.bitNot (x : Int) = -(x : Int) - 1 := fun x => by unfold Builtin.bitNot; omega
  have e' : ∀ x : Nat, (Builtin.bitNot (-(x : Int) - 1)) = (x : Int) := fun x => by unfold Builtin.bitNot; omega
  rw [e a, e b, bitAnd_nn (by omega) (by omega), e' a, e' b, Int.toNat_natCast, Int.toNat_natCast, e, e']
theorem comms_cast (n : Nat) : ∀ (ms l : List Nat), (∀ m ∈ ms, m ≤ 2 ^ n - 1) → comms n (castL ms) (castL l) = castL (commN (2 ^ n - 1) ms l)
  | [], l, _ => rfl
  | m :: ms, l, h => by
    have hm := h m (.head _)
    have hp := Nat.two_pow_pos n
    have e : ((2 : Int) ^ n - 1 - (m : Int)) = ((2 ^ n - 1 - m : Nat) : Int) := by
      have : ((2 ^ n : Nat) : Int) = (2 : Int) ^ n := by simp
      omega
    show comms n (castL ms) (castL l ++ (castL l).map fun ch => Builtin.bitAnd ch (2 ^ n - 1 - (m : Int))) = castL (commN (2 ^ n - 1) ms (l ++ l.map fun x => x &&& (2 ^ n - 1 - m)))
    rw [← comms_cast n ms _ (fun x hx => h x (.tail _ hx)), e]
    congr 1
    unfold castL
    rw [List.map_append, List.map_map, List.map_map]
    exact congrArg _ (List.map_congr_left fun x _ => and_cast x _)
theorem reach_cast : ∀ (ms l : List Nat), reachI (castL ms) (castL l) = castL (reachN ms l)
  | [], l => rfl
  | m :: ms, l => by
    show reachI (castL ms) (castL l ++ (castL l).map fun ch => Builtin.bitOr ch (m : Int)) = castL (reachN ms (l ++ l.map fun x => x ||| m))
    rw [← reach_cast ms]
    congr 1
    unfold castL
    rw [List.map_append, List.map_map, List.map_map]
    exact congrArg _ (List.map_congr_left fun x _ => or_cast x _)

/-! what the pairs' numbers are -/
def cntsN : Nat → List Nat → List Nat
  | 0, l => l
  | k + 1, l => cntsN k (l ++ l.map (· + 1))
theorem cnts_cast : ∀ (ms : List Int) (l : List Nat), cnts ms (castL l) = castL (cntsN ms.length l)
  | [], l => rfl
  | m :: ms, l => by
    show cnts ms (castL l ++ (castL l).map (· + 1)) = castL (cntsN ms.length (l ++ l.map (· + 1)))
    rw [← cnts_cast ms]
    congr 1
    unfold castL
    rw [List.map_append, List.map_map, List.map_map]
    exact congrArg _ (List.map_congr_left fun x _ => by show (x : Int) + 1 = ((x + 1 : Nat) : Int); push_cast; rfl)
def parN (n r : Nat) : List Nat := ((List.range (2 ^ n - 1)).filter fun i => Nat.beq ((cntsN n [0]).getD (i + 1) 0 % 2) r).map (· + 1)
theorem castL_getD (l : List Nat) (i : Nat) : (castL l).getD i 0 = ((l.getD i 0 : Nat) : Int) := by
  rw [List.getD_eq_getElem?_getD, List.getD_eq_getElem?_getD, List.getElem?_map]
  cases l[i]? <;> rfl
theorem par_cast (n : Nat) (ties : List (Nat × Nat)) (r : Nat) : parL n ties (r : Nat) = castL (parN n r) := by
  unfold parL parN castL
  have e : cntL n ties = castL (cntsN n [0]) := by
    unfold cntL
    have := cnts_cast (masksL n ties) [0]
    rw [masksL_len] at this; exact this
  rw [List.map_map]
  have e2 : ((List.range (2 ^ n - 1)).filter fun i => decide (((cntL n ties).getD (i + 1) 0).fmod 2 = (r : Nat))) = (List.range (2 ^ n - 1)).filter fun i => Nat.beq ((cntsN n [0]).getD (i + 1) 0 % 2) r := by
    congr 1; funext i
    rw [e, castL_getD]
    generalize (cntsN n [0]).getD (i + 1) 0 = x
    apply Bool.eq_iff_iff.mpr
    rw [decide_eq_true_eq, Nat.beq_eq]
    have h : ((x : Int)).fmod 2 = ((x % 2 : Nat) : Int) := by rw [Int.fmod_eq_emod_of_nonneg _ (by decide)]; omega
    rw [h]; omega
  rw [e2]; rfl
def cntE (xs : List Nat) (one u : Nat) : Nat := xs.countP fun o => Nat.blt one o && Nat.beq (o &&& u) o
def morN (xs cm : List Nat) : Nat := (xs.map fun one => cntE xs one (cm.getD one 0)).sum
theorem pairs_cast {n : Nat} {ties : List (Nat × Nat)} {cm : List Nat} (hc : commL n ties = castL cm) (xs : List Nat) : (pairsL n ties (castL xs)).length = morN xs cm := by
  unfold pairsL morN
  have h : ∀ ys : List Nat, ((castL ys).flatMap fun one => ((castL xs).filter (reachB n ties one)).map fun _ => one).length = (ys.map fun one => cntE xs one (cm.getD one 0)).sum := fun ys => by
    induction ys with
    | nil => rfl
    | cons y ys ih =>
      show (((castL xs).filter (reachB n ties (y : Int))).map (fun _ => (y : Int)) ++ _).length = _
      rw [List.length_append, List.length_map, List.map_cons, List.sum_cons, ← ih]
      congr 1
      unfold cntE castL
      rw [← List.countP_eq_length_filter, List.countP_map]
      congr 1; funext o
      show reachB n ties (y : Int) (o : Int) = _
      unfold reachB
      rw [hc, Int.toNat_natCast, castL_getD, and_cast]
      congr 1
      · apply Bool.eq_iff_iff.mpr; rw [decide_eq_true_eq, Nat.blt_eq]; omega
      · apply Bool.eq_iff_iff.mpr; rw [decide_eq_true_eq, Nat.beq_eq]; omega
  exact h xs
theorem num_cast {n : Nat} {ties : List (Nat × Nat)} {ms : List Nat} (hm : masksL n ties = castL ms) (h3 : 3 ≤ 2 ^ n) : numI n ties = (reachN ms [0]).countP fun x => Nat.beq (3 * x % 2 ^ n) (2 ^ n - 3) := by
  unfold numI
  have := reach_cast ms [0]
  have e0 : castL [0] = [0] := rfl
  rw [e0] at this
  rw [hm, this]
  unfold castL
  rw [List.map_map, List.countP_map]
  congr 1; funext x
  show decide ((3 * (x : Int)).fmod (2 ^ n) = 2 ^ n - 3) = _
  have hp : ((2 ^ n : Nat) : Int) = (2 : Int) ^ n := by simp
  rw [← hp]
  generalize 2 ^ n = k at *
  apply Bool.eq_iff_iff.mpr
  rw [decide_eq_true_eq, Nat.beq_eq, Int.fmod_eq_emod_of_nonneg _ (by omega)]
  have : (3 * (x : Int)) % (k : Int) = ((3 * x % k : Nat) : Int) := by push_cast; rfl
  rw [this]; omega
/-- the law of the choices, at masks -/
def chkM (n : Nat) (ms : List Nat) : Bool :=
  ms.all (fun m => Nat.ble m (2 ^ n - 1)) && Nat.beq (((reachN ms [0]).countP fun x => Nat.beq (3 * x % 2 ^ n) (2 ^ n - 3)) + 2 * morN (parN n 1) (commN (2 ^ n - 1) ms [2 ^ n - 1])) (2 * (2 ^ (n - 1) - 1) + 1 + 2 * morN (parN n 0) (commN (2 ^ n - 1) ms [2 ^ n - 1]))
theorem reachN_len : ∀ (ms l : List Nat), (reachN ms l).length = 2 ^ ms.length * l.length
  | [], l => by simp [reachN]
  | m :: ms, l => by rw [reachN, reachN_len ms]; simp [Nat.pow_succ]; rw [Nat.mul_assoc, Nat.two_mul]
theorem graph_of {n : Nat} {B : Nat × Nat → Bool} (h2 : 2 ≤ n) (h5 : n ≤ 5) (h : chkM n (masksB n B) = true) :
    ∃ h : Nat, h ≤ 15 ∧ (2 : Int) ^ (n - 1) - 1 + away n ((pairsN n).filter B) = (h : Int) ∧ numI n ((pairsN n).filter B) = 2 * h + 1 := by
  unfold chkM at h
  rw [Bool.and_eq_true, Nat.beq_eq, List.all_eq_true] at h
  obtain ⟨hb, he⟩ := h
  have hm := masks_B n B
  have h3 : 3 ≤ 2 ^ n := Nat.le_trans (by decide : 3 ≤ 2 ^ 2) (Nat.pow_le_pow_right (by decide) h2)
  have hn := num_cast hm h3
  have hc : commL n ((pairsN n).filter B) = castL (commN (2 ^ n - 1) (masksB n B) [2 ^ n - 1]) := by
    unfold commL
    have := comms_cast n (masksB n B) [2 ^ n - 1] (fun m hm => by have := hb m hm; rwa [Nat.ble_eq] at this)
    rw [hm, ← this]
    congr 1
    show [(2 : Int) ^ n - 1] = [((2 ^ n - 1 : Nat) : Int)]
    have hp : ((2 ^ n : Nat) : Int) = (2 : Int) ^ n := by simp
    congr 1; omega
  have ha : away n ((pairsN n).filter B) = ((morN (parN n 0) (commN (2 ^ n - 1) (masksB n B) [2 ^ n - 1]) : Nat) : Int) - ((morN (parN n 1) (commN (2 ^ n - 1) (masksB n B) [2 ^ n - 1]) : Nat) : Int) := by
    unfold away
    have p0 := par_cast n ((pairsN n).filter B) 0
    have p1 := par_cast n ((pairsN n).filter B) 1
    rw [show ((0 : Nat) : Int) = 0 from rfl] at p0
    rw [show ((1 : Nat) : Int) = 1 from rfl] at p1
    rw [p0, p1, pairs_cast hc, pairs_cast hc]
  have hl : numI n ((pairsN n).filter B) ≤ 32 := by
    rw [hn]
    refine Nat.le_trans List.countP_le_length ?_
    rw [reachN_len]
    unfold masksB
    rw [List.length_map, List.length_range]
    show 2 ^ n * 1 ≤ 32
    have := Nat.pow_le_pow_right (n := 2) (by decide) h5
    omega
  rw [← hn] at he
  have hp : ((2 ^ (n - 1) : Nat) : Int) = (2 : Int) ^ (n - 1) := by simp
  have hp1 := Nat.two_pow_pos (n - 1)
  rw [ha, ← hp]
  generalize morN (parN n 0) (commN (2 ^ n - 1) (masksB n B) [2 ^ n - 1]) = x at *
  generalize morN (parN n 1) (commN (2 ^ n - 1) (masksB n B) [2 ^ n - 1]) = y at *
  generalize numI n ((pairsN n).filter B) = z at *
  generalize 2 ^ (n - 1) = k at *
  exact ⟨(z - 1) / 2, by omega, by omega, by omega⟩

end Mine
namespace Mine
/-! all graphs of two to five words -/
inductive KT | leaf (K : Nat) | node (a b : KT)
noncomputable def sumT (T : KT) : List Nat → Nat → Nat :=
  @KT.rec (fun _ => List Nat → Nat → Nat) (fun K _ r => Nat.mod (Nat.shiftRight K (Nat.mul 6 r)) 64)
    (fun _ _ iha ihb ms r => @List.rec Nat (fun _ => Nat) 0 (fun m ms' _ => Nat.add (iha ms' r) (ihb ms' (Nat.lor r m))) ms) T
def valK (K r : Nat) : Nat := (K >>> (6 * r)) % 64
theorem sumT_leaf (K : Nat) (ms : List Nat) (r : Nat) : sumT (.leaf K) ms r = valK K r := rfl
theorem sumT_node (a b : KT) (m : Nat) (ms : List Nat) (r : Nat) : sumT (.node a b) (m :: ms) r = sumT a ms r + sumT b ms (r ||| m) := rfl
def flatT : KT → List Nat
  | .leaf K => [K]
  | .node a b => flatT a ++ flatT b
def fullT : KT → Nat → Bool
  | .leaf _, 0 => true
  | .node a b, d + 1 => fullT a d && fullT b d
  | _, _ => false
def RR : List Nat → Nat → List Nat
  | [], r => [r]
  | m :: ms, r => RR ms r ++ RR ms (r ||| m)
def sumZ (Ks rs : List Nat) : Nat := ((Ks.zip rs).map fun p => valK p.1 p.2).sum
theorem sumT_eq : ∀ (T : KT) (ms : List Nat) (r : Nat), fullT T ms.length = true → sumT T ms r = sumZ (flatT T) (RR ms r) ∧ (flatT T).length = (RR ms r).length
  | .leaf K, [], r, _ => ⟨by rw [sumT_leaf]; simp [sumZ, flatT, RR], rfl⟩
  | .node a b, m :: ms, r, h => by
    have h : (fullT a ms.length && fullT b ms.length) = true := h
    obtain ⟨ha, hb⟩ := Bool.and_eq_true_iff.mp h
    obtain ⟨a1, a2⟩ := sumT_eq a ms r ha
    obtain ⟨b1, b2⟩ := sumT_eq b ms (r ||| m) hb
    refine ⟨?_, ?_⟩
    · rw [sumT_node, a1, b1]
      show _ = sumZ (flatT a ++ flatT b) (RR ms r ++ RR ms (r ||| m))
      unfold sumZ
      rw [List.zip_append a2, List.map_append, List.sum_append]
    · show (flatT a ++ flatT b).length = (RR ms r ++ RR ms (r ||| m)).length
      rw [List.length_append, List.length_append, a2, b2]
  | .leaf K, _ :: _, _, h => nomatch h
  | .node a b, [], _, h => nomatch h
theorem reachN_snoc (m : Nat) : ∀ (ms l : List Nat), reachN (ms ++ [m]) l = reachN ms l ++ (reachN ms l).map fun x => x ||| m
  | [], l => rfl
  | a :: ms, l => reachN_snoc m ms _
theorem reachN_map (m : Nat) : ∀ (ms l : List Nat), reachN ms (l.map fun x => x ||| m) = (reachN ms l).map fun x => x ||| m
  | [], l => rfl
  | a :: ms, l => by
    show reachN ms ((l.map fun x => x ||| m) ++ (l.map fun x => x ||| m).map fun x => x ||| a) = (reachN ms (l ++ l.map fun x => x ||| a)).map _
    rw [← reachN_map m ms]
    congr 1
    rw [List.map_append, List.map_map, List.map_map]
    refine congrArg _ (List.map_congr_left fun x _ => ?_)
    show x ||| m ||| a = x ||| a ||| m
    rw [Nat.or_assoc, Nat.or_assoc, Nat.or_comm m a]
theorem reach_RR : ∀ (rms : List Nat) (r : Nat), reachN rms.reverse [r] = RR rms r
  | [], r => rfl
  | m :: rms, r => by
    rw [List.reverse_cons, reachN_snoc, ← reachN_map, reach_RR rms r]
    show RR rms r ++ reachN rms.reverse [r ||| m] = _
    rw [reach_RR rms (r ||| m)]; rfl
theorem or_31 : ∀ x, x < 32 → ∀ m, m < 32 → x ||| m < 32 ∧ (31 - x) &&& (31 - m) = 31 - (x ||| m) := by decide +kernel
theorem comm_reach : ∀ (ms l : List Nat), (∀ m ∈ ms, m < 32) → (∀ x ∈ l, x < 32) → commN 31 ms (l.map fun x => 31 - x) = (reachN ms l).map (fun x => 31 - x) ∧ ∀ x ∈ reachN ms l, x < 32
  | [], l, _, h => ⟨rfl, h⟩
  | m :: ms, l, hm, h => by
    have h0 := hm m (.head _)
    have ih := comm_reach ms (l ++ l.map fun x => x ||| m) (fun y hy => hm y (.tail _ hy)) (fun x hx => by
      rcases List.mem_append.mp hx with hx | hx
      · exact h x hx
      · obtain ⟨y, hy, rfl⟩ := List.mem_map.mp hx; exact (or_31 y (h y hy) m h0).1)
    refine ⟨?_, ih.2⟩
    show commN 31 ms ((l.map fun x => 31 - x) ++ (l.map fun x => 31 - x).map fun x => x &&& (31 - m)) = _
    have e : ((l.map fun x => 31 - x) ++ (l.map fun x => 31 - x).map fun x => x &&& (31 - m)) = (l ++ l.map fun x => x ||| m).map fun x => 31 - x := by
      rw [List.map_append, List.map_map, List.map_map]
      exact congrArg _ (List.map_congr_left fun x hx => (or_31 x (h x hx) m h0).2)
    rw [e]; exact ih.1
def T5 : KT := (.node (.node (.node (.node (.node (.leaf 98079714615416886934934209737619787751599303819750539264) (.leaf 98128365270451566075319258022113965750196976215146947614)) (.node (.leaf 98079726493062096577592808630780720236320369984149709724) (.leaf 3286448849864289987802038449610164774474803035401248908420))) (.node (.node (.leaf 98079714615462196388155419505805088562314463494668862234) (.leaf 3286448850047022293958799024827472091885172357039548613766)) (.node (.leaf 3286448850049921390834608016135532862115017122943011996936) (.leaf 98079714615417594897758358101065692097239928634615579416)))) (.node (.node (.node (.leaf 98079714615416886937593325385385902471715846341188952726) (.leaf 3286448850049921401726302862792697166570794416516757021962)) (.node (.leaf 3286448850049921401899102512544397356902653221516096398732) (.leaf 98079714615416886934934869235359745697379557033506808468))) (.node (.node (.leaf 3286448850049921401899144710256034079231498918959485388302) (.leaf 98079714615416886934934220039796103815397315534377747090)) (.node (.leaf 98079714615416886934934209740134976961033428373664203280) (.leaf 3286448850049921401899144710414490404260027594146573288976))))) (.node (.node (.node (.node (.leaf 98079714615416886934934209737619797198675830354821538190) (.leaf 3286448850049921401899144710414529099333294634116093945362)) (.node (.leaf 3286448850049921401899144710414529713240973998919125149332) (.leaf 98079714615416886934934209737619787753942301665544135052))) (.node (.node (.leaf 3286448850049921401899144710414529713390890386264988174102) (.leaf 98079714615416886934934209737619787751635895706377011594)) (.node (.leaf 98079714615416886934934209737619787751599303959404626184) (.leaf 3286448850049921401899144710414529713390890949214941595416)))) (.node (.node (.node (.leaf 3286448850049921401899144710414529713390890958150655141786) (.leaf 98079714615416886934934209737619787751599303821932110086)) (.node (.leaf 98079714615416886934934209737619787751599303819751071876) (.leaf 3286448850049921401899144710414529713390890958150688696220))) (.node (.node (.leaf 98079714615416886934934209737619787751599303819750539266) (.leaf 3286448850049921401899144710414529713390890958150688704414)) (.node (.leaf 3286448850049921401899144710414529713390890958150688704544) (.leaf 98079714615416886934934209737619787751599303819750539264))))))
def KL : List Nat := flatT T5
def inP (r i : Nat) : Bool := Nat.beq ((cntsN 5 [0]).getD (i + 1) 0 % 2) r
def oddV (x r : Nat) : Nat := match x with | 0 => 0 | k + 1 => bif inP 1 k then cntE (parN 5 1) (k + 1) (31 - r) else 0
def evnV (x r : Nat) : Nat := match x with | 0 => 0 | k + 1 => bif inP 0 k then cntE (parN 5 0) (k + 1) (31 - r) else 0
def allV (r : Nat) : Nat := bif Nat.beq (3 * r % 32) 29 then 1 else 0
def offV (x : Nat) : Nat := match x with | 0 => 0 | k + 1 => bif inP 0 k then 32 else 0
theorem tab_v : ∀ x, x < 32 → ∀ r, r < 32 → valK (KL.getD x 0) r + 2 * evnV x r = allV r + 2 * oddV x r + offV x := by decide +kernel
theorem off_sum : ((List.range 32).map offV).sum = 480 := by decide +kernel
theorem filt_sum (p : Nat → Bool) (g : Nat → Nat) : ∀ L : List Nat, ((L.filter p).map g).sum = (L.map fun k => bif p k then g k else 0).sum
  | [] => rfl
  | k :: L => by
    rw [List.map_cons, List.sum_cons, ← filt_sum p g L]
    cases q : p k with
    | true => rw [List.filter_cons_of_pos q, List.map_cons, List.sum_cons]; rfl
    | false => rw [List.filter_cons_of_neg (by rw [q]; decide), cond_false, Nat.zero_add]
theorem zip_sum (f : Nat → Nat → Nat) : ∀ (Ks rs : List Nat), Ks.length = rs.length → ((Ks.zip rs).map fun p => f p.1 p.2).sum = ((List.range Ks.length).map fun k => f (Ks.getD k 0) (rs.getD k 0)).sum
  | [], [], _ => rfl
  | K :: Ks, r :: rs, h => by
    have ih := zip_sum f Ks rs (by simpa using h)
    rw [List.zip_cons_cons, List.map_cons, List.sum_cons, ih, List.length_cons, List.range_succ_eq_map, List.map_cons, List.sum_cons, List.map_map]
    rfl
  | [], _ :: _, h => nomatch h
  | _ :: _, [], h => nomatch h
theorem sum_rel {v e a o f : Nat → Nat} : ∀ L : List Nat, (∀ k ∈ L, v k + 2 * e k = a k + 2 * o k + f k) → (L.map v).sum + 2 * (L.map e).sum = (L.map a).sum + 2 * (L.map o).sum + (L.map f).sum
  | [], _ => rfl
  | k :: L, h => by
    have h0 := h k (.head _)
    have ih := sum_rel L fun x hx => h x (.tail _ hx)
    simp only [List.map_cons, List.sum_cons]
    omega
theorem all_sum : ∀ rs : List Nat, ((List.range rs.length).map fun k => allV (rs.getD k 0)).sum = rs.countP fun x => Nat.beq (3 * x % 32) 29
  | [] => rfl
  | r :: rs => by
    have ih := all_sum rs
    rw [List.length_cons, List.range_succ_eq_map, List.map_cons, List.sum_cons, List.map_map, List.countP_cons]
    have e : ((List.range rs.length).map ((fun k => allV ((r :: rs).getD k 0)) ∘ Nat.succ)).sum = rs.countP fun x => Nat.beq (3 * x % 32) 29 := ih
    rw [e]
    show allV r + _ = _
    unfold allV
    cases Nat.beq (3 * r % 32) 29 <;> simp <;> omega
theorem mor_sum {p : Nat} {rs cm : List Nat} (h : cm = rs.map fun x => 31 - x) (hl : rs.length = 32) (F : Nat → Nat → Nat) (h0 : ∀ r, F 0 r = 0) (hs : ∀ k r, F (k + 1) r = bif inP p k then cntE (parN 5 p) (k + 1) (31 - r) else 0) :
    morN (parN 5 p) cm = ((List.range 32).map fun x => F x (rs.getD x 0)).sum := by
  unfold morN
  conv => lhs; arg 1; arg 2; unfold parN
  rw [List.map_map]
  show (((List.range 31).filter (inP p)).map _).sum = _
  rw [filt_sum, show List.range 32 = 0 :: (List.range 31).map Nat.succ from by rw [← List.range_succ_eq_map], List.map_cons, List.sum_cons, h0, Nat.zero_add, List.map_map]
  congr 1
  refine List.map_congr_left fun k hk => ?_
  have hk := List.mem_range.mp hk
  show _ = F (k + 1) (rs.getD (k + 1) 0)
  rw [hs]
  have : cm.getD (k + 1) 0 = 31 - rs.getD (k + 1) 0 := by
    rw [h, List.getD_eq_getElem?_getD, List.getD_eq_getElem?_getD, List.getElem?_map, List.getElem?_eq_getElem (by omega : k + 1 < rs.length)]; rfl
  show (bif inP p k then cntE (parN 5 p) (k + 1) (cm.getD (k + 1) 0) else 0) = _
  rw [this]
noncomputable def chkT (ms : List Nat) : Bool := ms.all (fun m => Nat.ble m 31) && Nat.beq (sumT T5 ms.reverse 0) 511
theorem chk_T {ms : List Nat} (hl : ms.length = 5) (h : chkT ms = true) : chkM 5 ms = true := by
  unfold chkT at h
  rw [Bool.and_eq_true, Nat.beq_eq] at h
  obtain ⟨hb, hs⟩ := h
  have hm : ∀ m ∈ ms, m < 32 := fun m hm => by
    have := List.all_eq_true.mp hb m hm
    rw [Nat.ble_eq] at this; omega
  obtain ⟨c1, c2⟩ := comm_reach ms [0] hm (by decide)
  have hr : reachN ms [0] = RR ms.reverse 0 := by have := reach_RR ms.reverse 0; rw [List.reverse_reverse] at this; exact this
  have hlen : (reachN ms [0]).length = 32 := by rw [reachN_len, hl]; rfl
  obtain ⟨s1, s2⟩ := sumT_eq T5 ms.reverse 0 (by rw [List.length_reverse, hl]; rfl)
  rw [← hr] at s1 s2
  rw [hs] at s1
  unfold sumZ at s1
  rw [zip_sum valK _ _ s2, s2, hlen] at s1
  generalize hrs : reachN ms [0] = rs at *
  have rel := sum_rel (v := fun x => valK (KL.getD x 0) (rs.getD x 0)) (e := fun x => evnV x (rs.getD x 0)) (a := fun x => allV (rs.getD x 0)) (o := fun x => oddV x (rs.getD x 0)) (f := offV) (List.range 32) (fun x hx => by
    have hx := List.mem_range.mp hx
    refine tab_v x hx _ ?_
    rw [List.getD_eq_getElem?_getD, List.getElem?_eq_getElem (by omega : x < rs.length)]
    exact c2 _ (List.getElem_mem _))
  have s1 : 511 = ((List.range 32).map fun x => valK (KL.getD x 0) (rs.getD x 0)).sum := s1
  have al := all_sum rs
  rw [hlen] at al
  rw [← s1, off_sum, al, ← mor_sum c1 hlen oddV (fun _ => rfl) (fun _ _ => rfl), ← mor_sum c1 hlen evnV (fun _ => rfl) (fun _ _ => rfl)] at rel
  unfold chkM
  rw [hrs, Bool.and_eq_true, Nat.beq_eq]
  refine ⟨hb, ?_⟩
  have c31 : commN (2 ^ 5 - 1) ms [2 ^ 5 - 1] = commN 31 ms ([0].map fun x => 31 - x) := rfl
  rw [c31]
  show (rs.countP fun x => Nat.beq (3 * x % 32) 29) + 2 * morN (parN 5 1) _ = 2 * (16 - 1) + 1 + 2 * morN (parN 5 0) _
  omega
def allB : Nat → (List Bool → Bool) → Bool
  | 0, p => p []
  | k + 1, p => allB k (fun l => p (true :: l)) && allB k (fun l => p (false :: l))
theorem allB_spec : ∀ (k : Nat) (p : List Bool → Bool), allB k p = true → ∀ l : List Bool, l.length = k → p l = true
  | 0, p, h, [], _ => h
  | k + 1, p, h, b :: l, hl => by
    unfold allB at h
    rw [Bool.and_eq_true] at h
    have hl' : l.length = k := by simpa using hl
    cases b with
    | true => exact allB_spec k _ h.1 l hl'
    | false => exact allB_spec k _ h.2 l hl'
def Bof (n : Nat) (l : List Bool) (p : Nat × Nat) : Bool := l.getD (p.1 * (2 * n - p.1 - 1) / 2 + (p.2 - p.1 - 1)) false
theorem bof2 (B : Nat × Nat → Bool) : masksB 2 B = masksB 2 (Bof 2 ((pairsN 2).map B)) := by kernel_rfl
theorem bof3 (B : Nat × Nat → Bool) : masksB 3 B = masksB 3 (Bof 3 ((pairsN 3).map B)) := by kernel_rfl
theorem bof4 (B : Nat × Nat → Bool) : masksB 4 B = masksB 4 (Bof 4 ((pairsN 4).map B)) := by kernel_rfl
theorem bof5 (B : Nat × Nat → Bool) : masksB 5 B = masksB 5 (Bof 5 ((pairsN 5).map B)) := by kernel_rfl
theorem all2 : allB 1 (fun l => chkM 2 (masksB 2 (Bof 2 l))) = true := by decide +kernel
theorem all3 : allB 3 (fun l => chkM 3 (masksB 3 (Bof 3 l))) = true := by decide +kernel
theorem all4 : allB 6 (fun l => chkM 4 (masksB 4 (Bof 4 l))) = true := by decide +kernel
noncomputable def b2 (b : Bool) (n : Nat) : Nat := @Bool.rec (fun _ => Nat) 0 n b
noncomputable def mk5 (l : List Bool) : List Nat := match l with
  | [a, b, c, d, e, f, g, h, i, j] => [Nat.add 1 (Nat.add (Nat.add (b2 a 2) (b2 b 4)) (Nat.add (b2 c 8) (b2 d 16))), Nat.add 2 (Nat.add (Nat.add (b2 a 1) (b2 e 4)) (Nat.add (b2 f 8) (b2 g 16))), Nat.add 4 (Nat.add (Nat.add (b2 b 1) (b2 e 2)) (Nat.add (b2 h 8) (b2 i 16))), Nat.add 8 (Nat.add (Nat.add (b2 c 1) (b2 f 2)) (Nat.add (b2 h 4) (b2 j 16))), Nat.add 16 (Nat.add (Nat.add (b2 d 1) (b2 g 2)) (Nat.add (b2 i 4) (b2 j 8)))]
  | _ => []
theorem mk5_eq (l : List Bool) (hl : l.length = 10) : masksB 5 (Bof 5 l) = mk5 l := by
  match l, hl with
  | [a, b, c, d, e, f, g, h, i, j], _ =>
    show [_, _, _, _, _] = [_, _, _, _, _]
    have z : ∀ (b : Bool) (n : Nat), (bif b then n else 0) = b2 b n := fun b n => by cases b <;> rfl
    congr 1
    · show 2 ^ 0 + (0 + ((bif a then 2 ^ 1 else 0) + ((bif b then 2 ^ 2 else 0) + ((bif c then 2 ^ 3 else 0) + ((bif d then 2 ^ 4 else 0) + 0))))) = 1 + ((b2 a 2 + b2 b 4) + (b2 c 8 + b2 d 16))
      simp only [z, Nat.reducePow]; omega
    congr 1
    · show 2 ^ 1 + ((bif a then 2 ^ 0 else 0) + (0 + ((bif e then 2 ^ 2 else 0) + ((bif f then 2 ^ 3 else 0) + ((bif g then 2 ^ 4 else 0) + 0))))) = 2 + ((b2 a 1 + b2 e 4) + (b2 f 8 + b2 g 16))
      simp only [z, Nat.reducePow]; omega
    congr 1
    · show 2 ^ 2 + ((bif b then 2 ^ 0 else 0) + ((bif e then 2 ^ 1 else 0) + (0 + ((bif h then 2 ^ 3 else 0) + ((bif i then 2 ^ 4 else 0) + 0))))) = 4 + ((b2 b 1 + b2 e 2) + (b2 h 8 + b2 i 16))
      simp only [z, Nat.reducePow]; omega
    congr 1
    · show 2 ^ 3 + ((bif c then 2 ^ 0 else 0) + ((bif f then 2 ^ 1 else 0) + ((bif h then 2 ^ 2 else 0) + (0 + ((bif j then 2 ^ 4 else 0) + 0))))) = 8 + ((b2 c 1 + b2 f 2) + (b2 h 4 + b2 j 16))
      simp only [z, Nat.reducePow]; omega
    congr 1
    · show 2 ^ 4 + ((bif d then 2 ^ 0 else 0) + ((bif g then 2 ^ 1 else 0) + ((bif i then 2 ^ 2 else 0) + ((bif j then 2 ^ 3 else 0) + (0 + 0))))) = 16 + ((b2 d 1 + b2 g 2) + (b2 i 4 + b2 j 8))
      simp only [z, Nat.reducePow]; omega
theorem all5q : allB 10 (fun l => chkT (mk5 l)) = true := by decide +kernel
theorem all5 (l : List Bool) (hl : l.length = 10) : chkT (masksB 5 (Bof 5 l)) = true := by rw [mk5_eq l hl]; exact allB_spec 10 _ all5q l hl
theorem chk_all {n : Nat} (h2 : 2 ≤ n) (h5 : n ≤ 5) (B : Nat × Nat → Bool) : chkM n (masksB n B) = true := by
  match n, h2, h5 with
  | 2, _, _ => rw [bof2]; exact allB_spec 1 _ all2 _ (by rw [List.length_map]; rfl)
  | 3, _, _ => rw [bof3]; exact allB_spec 3 _ all3 _ (by rw [List.length_map]; rfl)
  | 4, _, _ => rw [bof4]; exact allB_spec 6 _ all4 _ (by rw [List.length_map]; rfl)
  | 5, _, _ => rw [bof5]; exact chk_T rfl (all5 _ (by rw [List.length_map]; rfl))
theorem graph {n : Nat} (h2 : 2 ≤ n) (h5 : n ≤ 5) (B : Nat × Nat → Bool) :
    ∃ h : Nat, h ≤ 15 ∧ (2 : Int) ^ (n - 1) - 1 + away n ((pairsN n).filter B) = (h : Int) ∧ numI n ((pairsN n).filter B) = 2 * h + 1 := graph_of h2 h5 (chk_all h2 h5 B)

end Mine
namespace Mine
def plainB (cs : Nat → Int) (p : Nat × Nat) : Bool := if odC cs = 0 then cmpD (drawC cs) (costI cs p) (dueC cs : Nat) else cmpD (drawC cs) (dueC cs : Nat) (costI cs p)
theorem cmp_cap {d : Nat} (hd : d < 6) {a b : Int} (h : b < a) : cmpD d (b + 1) b = cmpD d a b ∧ cmpD d b (b + 1) = cmpD d b a := by
  have e1 : decide (b + 1 < b) = decide (a < b) := by rw [decide_eq_false (by omega), decide_eq_false (by omega)]
  have e2 : decide (b < b + 1) = decide (b < a) := by rw [decide_eq_true (by omega), decide_eq_true h]
  have e3 : decide (b + 1 ≤ b) = decide (a ≤ b) := by rw [decide_eq_false (by omega), decide_eq_false (by omega)]
  have e4 : decide (b ≤ b + 1) = decide (b ≤ a) := by rw [decide_eq_true (by omega), decide_eq_true (by omega)]
  have e5 : decide (b + 1 = b) = decide (a = b) := by rw [decide_eq_false (by omega), decide_eq_false (by omega)]
  have e6 : decide (b = b + 1) = decide (b = a) := by rw [decide_eq_false (by omega), decide_eq_false (by omega)]
  match d, hd with
  | 0, _ => exact ⟨e1, e2⟩
  | 1, _ => exact ⟨e2, e1⟩
  | 2, _ => exact ⟨e3, e4⟩
  | 3, _ => exact ⟨e4, e3⟩
  | 4, _ => exact ⟨e5, e6⟩
  | 5, _ => exact ⟨congrArg not e5, congrArg not e6⟩
theorem tell_eq (cs p) : (if odC cs = 0 then cmpD (drawC cs) (expI cs p) (dueC cs : Nat) else cmpD (drawC cs) (dueC cs : Nat) (expI cs p)) = plainB cs p := by
  unfold plainB expI
  split
  · split
    · rfl
    · rename_i h
      rw [Bool.or_eq_true, decide_eq_true_eq] at h
      exact (cmp_cap (draw_lt cs) (by omega)).1
  · split
    · rfl
    · rename_i h
      rw [Bool.or_eq_true, decide_eq_true_eq] at h
      exact (cmp_cap (draw_lt cs) (by omega)).2
def tiesC (cs : Nat → Int) : List (Nat × Nat) := (PRS cs).filter (plainB cs)
theorem filt_rl {α : Type} (l : List α) (d : α) (p : α → Bool) (f : α → PyData) : ((List.range l.length).filter fun k => p (l.getD k d)).map (fun k => f (l.getD k d)) = (l.filter p).map f := by
  have h := map_rl l d id
  have e : l = (List.range l.length).map fun k => l.getD k d := by simpa using h
  conv => rhs; rw [e, List.filter_map, List.map_map]
  rfl
theorem lb_pairs (L : List (Nat × Nat)) (f : Nat × Nat → Bool) (xs : List Bool) : PyData.list ((L.map fun p => PyData.bool (f p)) ++ xs.map PyData.bool) = LB (L.map f ++ xs) := by
  rw [LB, List.map_append, List.map_map]; rfl
abbrev V4 (cs : Nat → Int) : Vars := [("half", .int ((2 : Int) ^ (nC cs - 1) - 1 + away (nC cs) (tiesC cs))), ("ties", tiesD (tiesC cs)), ("size", .int (nC cs : Nat)), ("cells", dCells cs)]
theorem nm_d (od : Nat) (h : od < 2) : decide (strOf' [nmL od 0] = ("d" : Str)) = decide (od = 0) := by
  match od, h with
  | 0, _ => decide
  | 1, _ => decide
section
variable {c : Cx} (W : W0 c)
include W
theorem st44 {out : Out} {cs : Nat → Int} (h : LX c (V4 cs) 49 out) : LX c (V3 cs) 44 out := by
  have hn := nC_le cs
  have hn2 := nC_ge cs
  have hdr := draw_lt cs
  have ho := od_lt cs
  have hpl : (PRS cs).length ≤ 10 := pairs_len _ hn
  refine Ex.cons (X1.assignC (x := "tell") (d := LBP (PRS cs) (plainB cs)) (ρ' := V3 cs) (Ev.comp (ρ' := [("order", dOrder cs), ("row", dRow cs), ("bound", dDue cs)]) (C' := []) rfl (Its.list (Ev.name (by repeat (first | with_reducible exact List.mem_cons_self | with_reducible apply List.mem_cons_of_mem)))) (Blk.of (by repeat (first | exact sub_nil | refine sub_cons (by repeat (first | with_reducible exact List.mem_cons_self | with_reducible apply List.mem_cons_of_mem)) ?_)) (by kernel_rfl))
    (CL.mapL (PRS cs) (fun p => .int (expI cs p)) (fun p => .bool (plainB cs p)) rfl (fun _ h => nomatch h) (fun p hp => ?_)) (by rw [List.length_map]; omega)) (.inr (by decide)) (fun _ h => h) (by repeat (first | exact ne_nil | refine ne_cons (by decide) ?_)) own_none (fun env h1 h2 => by cases env with | mk scope l g ce q f cd fr bu => cases scope with | mk sk sn s3 s4 s5 => (simp only at h1 h2; subst h1 h2; rfl))) ?_
  · refine It.emit1 (.inl (by kernel_rfl)) (by repeat (first | exact ne_nil | refine ne_cons (by decide) ?_)) TsI.nil (Ev.ite (b := decide (odC cs = 0)) (Ts.conv (Ts.cmp (Ev.itemL (xs := (ordL (odC cs)).map .int) (d := .int (256 + odC cs : Nat)) (j := 0) (Ev.name (by repeat (first | with_reducible exact List.mem_cons_self | with_reducible apply List.mem_cons_of_mem))) Ev.int (by show seqIndex? 0 2 = some 0; decide) rfl (by show 2 < 2 ^ 62; decide)) Ev.int Op2.eqI) (by
        apply Bool.eq_iff_iff.mpr; rw [decide_eq_true_eq, decide_eq_true_eq]; omega))
      (fun q => Ev.conv (Ev.call (EvL.cons (Ev.itemL (xs := (rowL (odC cs) (drawC cs)).map .int) (d := .int (symD (drawC cs))) (j := 2) (Ev.name (by repeat (first | with_reducible exact List.mem_cons_self | with_reducible apply List.mem_cons_of_mem))) Ev.int (by show seqIndex? 2 6 = some 2; decide) rfl (by show 6 < 2 ^ 62; decide)) (EvL.cons (Ev.name (by repeat (first | with_reducible exact List.mem_cons_self | with_reducible apply List.mem_cons_of_mem))) (EvL.cons (Ev.name (by repeat (first | with_reducible exact List.mem_cons_self | with_reducible apply List.mem_cons_of_mem))) EvL.nil))) ((fn_holds W _ hdr).le (by decide))) (by rw [← tell_eq, if_pos (of_decide_eq_true q)]))
      (fun q => Ev.conv (Ev.call (EvL.cons (Ev.itemL (xs := (rowL (odC cs) (drawC cs)).map .int) (d := .int (symD (drawC cs))) (j := 2) (Ev.name (by repeat (first | with_reducible exact List.mem_cons_self | with_reducible apply List.mem_cons_of_mem))) Ev.int (by show seqIndex? 2 6 = some 2; decide) rfl (by show 6 < 2 ^ 62; decide)) (EvL.cons (Ev.name (by repeat (first | with_reducible exact List.mem_cons_self | with_reducible apply List.mem_cons_of_mem))) (EvL.cons (Ev.name (by repeat (first | with_reducible exact List.mem_cons_self | with_reducible apply List.mem_cons_of_mem))) EvL.nil))) ((fn_holds W _ hdr).le (by decide))) (by rw [← tell_eq, if_neg (of_decide_eq_false q)]))) rfl
  have hal : (asked0 cs ++ asked1 cs).length = 33 := by
    unfold asked0 asked1 rcL rowL
    simp only [List.length_append, List.length_map, List.length_range, List.length_cons, List.length_nil]
  refine Ex.ifNot (Ts.neSame (k := 1) (d := .list []) (Ev.conv (Ev.comp (out := (((PRS cs).map (plainB cs) ++ (asked0 cs ++ asked1 cs)).filter fun _ => false).map .bool) (ρ' := []) (C' := []) rfl (Its.list' (Ev.bin (Ev.name (by repeat (first | with_reducible exact List.mem_cons_self | with_reducible apply List.mem_cons_of_mem))) (Ev.name (by repeat (first | with_reducible exact List.mem_cons_self | with_reducible apply List.mem_cons_of_mem))) (Op2.addList (by rw [List.length_map, List.length_map, hal]; have e : sizeLine = 16777216 := rfl; omega))) (lb_pairs _ _ _)) (Blk.of (by repeat (first | exact sub_nil | refine sub_cons (by repeat (first | with_reducible exact List.mem_cons_self | with_reducible apply List.mem_cons_of_mem)) ?_)) (by kernel_rfl))
    (CL.filtL ((PRS cs).map (plainB cs) ++ (asked0 cs ++ asked1 cs)) (fun _ => false) PyData.bool PyData.bool rfl (fun _ h => nomatch h) (fun x hx q => nomatch q)
      (fun x hx q => It.skip1 (.inl (by kernel_rfl)) (by repeat (first | exact ne_nil | refine ne_cons (by decide) ?_)) (TsI.one (Ts.conv (Ts.bool (TsA.and (Ts.cmp (Ev.name (by repeat (first | with_reducible exact List.mem_cons_self | with_reducible apply List.mem_cons_of_mem))) Ev.bool Op2.isNotBool) (fun _ => TsA.and (Ts.cmp (Ev.name (by repeat (first | with_reducible exact List.mem_cons_self | with_reducible apply List.mem_cons_of_mem))) Ev.bool Op2.isNotBool) (fun _ => TsA.nilA)))) (by cases x <;> rfl))))) (by rw [List.filter_eq_nil_iff.mpr (fun _ _ => by decide)]; decide)) (by rw [List.filter_eq_nil_iff.mpr (fun _ _ => by decide)]; rfl))
    (Ev.list EvL.nil) (Okd.list fun d hd => nomatch hd)) ?_
  have prs : ∀ {ρ : Vars} {T : Tab} {e : PySem.Expr}, Ev c 3 T ρ e (tiesD (PRS cs)) → Ev c 3 T ρ e (RL (PRS cs).length fun k => pairD ((PRS cs).getD k (0, 0))) := fun h => Ev.conv h (ties_rl _)
  have tst : ∀ {ρ : Vars} {T : Tab} {e : PySem.Expr}, Ev c 3 T ρ e (LBP (PRS cs) (plainB cs)) → Ev c 3 T ρ e (RL (PRS cs).length fun k => .bool (plainB cs ((PRS cs).getD k (0, 0)))) := fun h => Ev.conv h (lbp_rl _ _)
  have tl : (((List.range (PRS cs).length).filter fun k => plainB cs ((PRS cs).getD k (0, 0))).map fun k => pairD ((PRS cs).getD k (0, 0))) = (tiesC cs).map pairD := filt_rl (PRS cs) (0, 0) (plainB cs) pairD
  have tll : ((tiesC cs).map pairD).length ≤ 8388608 := by rw [List.length_map]; exact Nat.le_trans (List.length_filter_le _ _) (by omega)
  refine Ex.cons (X1.comp (y := "ties") (out := (tiesC cs).map pairD) (ρ₁ := ("tell", LBP (PRS cs) (plainB cs)) :: V3 cs) (ρ' := [("pairs", tiesD (PRS cs)), ("tell", LBP (PRS cs) (plainB cs))]) (C' := []) rfl (Its.range0 (PRS cs).length (Ev.callB (EvL.cons (Ev.name (by repeat (first | with_reducible exact List.mem_cons_self | with_reducible apply List.mem_cons_of_mem))) EvL.nil) (g_len W) (b_len W) (Bi.lenList (by rw [List.length_map]; exact Nat.lt_of_le_of_lt hpl (by decide)))) (g_range W) (b_range W) (by rw [List.length_map]) (by omega)) (Blk.of (by repeat (first | exact sub_nil | refine sub_cons (by repeat (first | with_reducible exact List.mem_cons_self | with_reducible apply List.mem_cons_of_mem)) ?_)) (by kernel_rfl))
    (CL.outC (CL.filtL (List.range (PRS cs).length) (fun k => plainB cs ((PRS cs).getD k (0, 0))) _ (fun k => pairD ((PRS cs).getD k (0, 0))) rfl (fun _ h => nomatch h)
      (fun k hk q => It.emit1 (.inl (by kernel_rfl)) (by repeat (first | exact ne_nil | refine ne_cons (by decide) ?_)) (TsI.one (Ts.conv (Ts.val (Ev.rlAt (f := fun k => .bool (plainB cs ((PRS cs).getD k (0, 0)))) (List.mem_range.mp hk) (by omega) (tst (Ev.name (by repeat (first | with_reducible exact List.mem_cons_self | with_reducible apply List.mem_cons_of_mem)))) (Ev.name (by repeat (first | with_reducible exact List.mem_cons_self | with_reducible apply List.mem_cons_of_mem)))) Tr.bool) q)) (Ev.rlAt (f := fun k => pairD ((PRS cs).getD k (0, 0))) (List.mem_range.mp hk) (by omega) (prs (Ev.name (by repeat (first | with_reducible exact List.mem_cons_self | with_reducible apply List.mem_cons_of_mem)))) (Ev.name (by repeat (first | with_reducible exact List.mem_cons_self | with_reducible apply List.mem_cons_of_mem)))) rfl)
      (fun k hk q => It.skip1 (.inl (by kernel_rfl)) (by repeat (first | exact ne_nil | refine ne_cons (by decide) ?_)) (TsI.one (Ts.conv (Ts.val (Ev.rlAt (f := fun k => .bool (plainB cs ((PRS cs).getD k (0, 0)))) (List.mem_range.mp hk) (by omega) (tst (Ev.name (by repeat (first | with_reducible exact List.mem_cons_self | with_reducible apply List.mem_cons_of_mem)))) (Ev.name (by repeat (first | with_reducible exact List.mem_cons_self | with_reducible apply List.mem_cons_of_mem)))) Tr.bool) q)))) tl) tll (.inl (by kernel_rfl)) (fun _ h => h) (by repeat (first | exact ne_nil | refine ne_cons (by decide) ?_)) (fun env h1 h2 => by cases env with | mk scope l g ce q f cd fr bu => cases scope with | mk sk sn s3 s4 s5 => (simp only at h1 h2; subst h1 h2; rfl))) ?_
  refine Ex.cons (X1.assignC (x := "plain") (d := LBP (PRS cs) (plainB cs)) (ρ' := ("ties", tiesD (tiesC cs)) :: V3 cs) (Ev.comp (ρ' := [("names", dNames cs), ("draw", dDraw cs), ("due", dDue cs)]) (C' := []) rfl (Its.list (Ev.name (by repeat (first | with_reducible exact List.mem_cons_self | with_reducible apply List.mem_cons_of_mem)))) (Blk.of (by repeat (first | exact sub_nil | refine sub_cons (by repeat (first | with_reducible exact List.mem_cons_self | with_reducible apply List.mem_cons_of_mem)) ?_)) (by kernel_rfl))
    (CL.mapL (PRS cs) (fun p => .int (costI cs p)) (fun p => .bool (plainB cs p)) rfl (fun _ h => nomatch h) (fun p hp => ?_)) (by rw [List.length_map]; omega)) (.inr (by decide)) (by repeat (first | exact sub_nil | refine sub_cons (by repeat (first | with_reducible exact List.mem_cons_self | with_reducible apply List.mem_cons_of_mem)) ?_)) (by repeat (first | exact ne_nil | refine ne_cons (by decide) ?_)) own_none (fun env h1 h2 => by cases env with | mk scope l g ce q f cd fr bu => cases scope with | mk sk sn s3 s4 s5 => (simp only at h1 h2; subst h1 h2; rfl))) ?_
  · refine It.emit1 (.inl (by kernel_rfl)) (by repeat (first | exact ne_nil | refine ne_cons (by decide) ?_)) TsI.nil (Ev.ite (b := decide (odC cs = 0)) (Ts.conv (Ts.cmp (Ev.rlAt (n := 2) (k := 0) (f := fun i => .str (strOf' [nmL (odC cs) i])) (by decide) (by decide) (Ev.name (by repeat (first | with_reducible exact List.mem_cons_self | with_reducible apply List.mem_cons_of_mem))) Ev.int) Ev.str Op2.eqS) (nm_d _ ho))
      (fun q => Ev.conv (Ev.call (EvL.cons (Ev.name (by repeat (first | with_reducible exact List.mem_cons_self | with_reducible apply List.mem_cons_of_mem))) (EvL.cons (Ev.name (by repeat (first | with_reducible exact List.mem_cons_self | with_reducible apply List.mem_cons_of_mem))) (EvL.cons (Ev.name (by repeat (first | with_reducible exact List.mem_cons_self | with_reducible apply List.mem_cons_of_mem))) EvL.nil))) ((fn_plain W hdr).le (by decide))) (by unfold plainB; rw [if_pos (of_decide_eq_true q)]))
      (fun q => Ev.conv (Ev.call (EvL.cons (Ev.name (by repeat (first | with_reducible exact List.mem_cons_self | with_reducible apply List.mem_cons_of_mem))) (EvL.cons (Ev.name (by repeat (first | with_reducible exact List.mem_cons_self | with_reducible apply List.mem_cons_of_mem))) (EvL.cons (Ev.name (by repeat (first | with_reducible exact List.mem_cons_self | with_reducible apply List.mem_cons_of_mem))) EvL.nil))) ((fn_plain W hdr).le (by decide))) (by unfold plainB; rw [if_neg (of_decide_eq_false q)]))) rfl
  refine Ex.cons (X1.assign (x := "half") (d := .int ((2 : Int) ^ (nC cs - 1) - 1 + away (nC cs) (tiesC cs))) (ρ' := [("ties", tiesD (tiesC cs)), ("size", .int (nC cs : Nat)), ("cells", dCells cs)]) (Ev.bin (Ev.bin (Ev.bin Ev.int (Ev.reint (b := ((nC cs - 1 : Nat) : Int)) (Ev.bin (Ev.name (by repeat (first | with_reducible exact List.mem_cons_self | with_reducible apply List.mem_cons_of_mem))) Ev.int Op2.sub) (by omega)) (Op2.pow2 (by omega))) Ev.int Op2.sub)
    (Ev.call (EvL.cons (Ev.name (by repeat (first | with_reducible exact List.mem_cons_self | with_reducible apply List.mem_cons_of_mem))) (EvL.cons (Ev.comp (out := (tiesC cs).map pairD) (ρ' := [("pairs", tiesD (PRS cs)), ("plain", LBP (PRS cs) (plainB cs))]) (C' := []) rfl (Its.range0 (PRS cs).length (Ev.callB (EvL.cons (Ev.name (by repeat (first | with_reducible exact List.mem_cons_self | with_reducible apply List.mem_cons_of_mem))) EvL.nil) (g_len W) (b_len W) (Bi.lenList (by rw [List.length_map]; exact Nat.lt_of_le_of_lt hpl (by decide)))) (g_range W) (b_range W) (by rw [List.length_map]) (by omega)) (Blk.of (by repeat (first | exact sub_nil | refine sub_cons (by repeat (first | with_reducible exact List.mem_cons_self | with_reducible apply List.mem_cons_of_mem)) ?_)) (by kernel_rfl))
    (CL.outC (CL.filtL (List.range (PRS cs).length) (fun k => plainB cs ((PRS cs).getD k (0, 0))) _ (fun k => pairD ((PRS cs).getD k (0, 0))) rfl (fun _ h => nomatch h)
      (fun k hk q => It.emit1 (.inl (by kernel_rfl)) (by repeat (first | exact ne_nil | refine ne_cons (by decide) ?_)) (TsI.one (Ts.conv (Ts.val (Ev.rlAt (f := fun k => .bool (plainB cs ((PRS cs).getD k (0, 0)))) (List.mem_range.mp hk) (by omega) (tst (Ev.name (by repeat (first | with_reducible exact List.mem_cons_self | with_reducible apply List.mem_cons_of_mem)))) (Ev.name (by repeat (first | with_reducible exact List.mem_cons_self | with_reducible apply List.mem_cons_of_mem)))) Tr.bool) q)) (Ev.rlAt (f := fun k => pairD ((PRS cs).getD k (0, 0))) (List.mem_range.mp hk) (by omega) (prs (Ev.name (by repeat (first | with_reducible exact List.mem_cons_self | with_reducible apply List.mem_cons_of_mem)))) (Ev.name (by repeat (first | with_reducible exact List.mem_cons_self | with_reducible apply List.mem_cons_of_mem)))) rfl)
      (fun k hk q => It.skip1 (.inl (by kernel_rfl)) (by repeat (first | exact ne_nil | refine ne_cons (by decide) ?_)) (TsI.one (Ts.conv (Ts.val (Ev.rlAt (f := fun k => .bool (plainB cs ((PRS cs).getD k (0, 0)))) (List.mem_range.mp hk) (by omega) (tst (Ev.name (by repeat (first | with_reducible exact List.mem_cons_self | with_reducible apply List.mem_cons_of_mem)))) (Ev.name (by repeat (first | with_reducible exact List.mem_cons_self | with_reducible apply List.mem_cons_of_mem)))) Tr.bool) q)))) tl) tll) EvL.nil)) ((fn_away W (n := nC cs) (ties := tiesC cs) (by omega)).le (by decide))) Op2.add) (.inl (by kernel_rfl)) (by repeat (first | exact sub_nil | refine sub_cons (by repeat (first | with_reducible exact List.mem_cons_self | with_reducible apply List.mem_cons_of_mem)) ?_)) (by repeat (first | exact ne_nil | refine ne_cons (by decide) ?_)) own_none) ?_
  exact h
end

end Mine
namespace Mine
/-! the marks -/
def endL (h : Nat) : Nat → List Nat | 0 => List.replicate (2 * h + 1) 34 ++ [107, 34, 32, 111, 102, 32, 34, 97, 108, 108, 34] | 1 => List.replicate (2 * h + 1) 34 | 2 => List.replicate (2 * h) 34 | _ => List.replicate (2 * h) 34 ++ [107]
def ansL (h : Nat) : Nat → List Nat | 0 => List.replicate h 34 | 1 => List.replicate h 34 | 2 => List.replicate h 34 | _ => List.replicate h 34 ++ [107]
theorem unq_marks : ∀ (h : Nat) (r : List Nat), unq (List.replicate (2 * h) 34 ++ r) = List.replicate h 34 ++ unq r
  | 0, r => by rw [Nat.mul_zero, List.replicate_zero, List.nil_append, List.nil_append]
  | h + 1, r => by
    rw [show 2 * (h + 1) = 2 * h + 1 + 1 by omega, List.replicate_succ, List.replicate_succ, List.replicate_succ]
    show unq (34 :: 34 :: (List.replicate (2 * h) 34 ++ r)) = 34 :: (List.replicate h 34 ++ unq r)
    rw [unq_two, unq_marks h r]
theorem unq_one : unq [34] = [] := by rw [unq.eq_def]; simp
theorem unq_nil : unq [] = [] := by rw [unq.eq_def]
theorem unq_k : unq [107] = [107] := by rw [unq_other (by decide), unq_nil]
theorem rep_odd (h : Nat) : List.replicate (2 * h + 1) 34 = List.replicate (2 * h) 34 ++ [34] := List.replicate_succ'
theorem unq_ends (h : Nat) : ∀ i, i < 4 → unq (endL h i) = ansL h i
  | 0, _ => by
    show unq (List.replicate (2 * h + 1) 34 ++ _) = List.replicate h 34
    rw [rep_odd, List.append_assoc, unq_marks]
    show List.replicate h 34 ++ unq (34 :: 107 :: _) = _
    rw [unq_end (by decide), List.append_nil]
  | 1, _ => by
    show unq (List.replicate (2 * h + 1) 34) = List.replicate h 34
    rw [rep_odd, unq_marks, unq_one, List.append_nil]
  | 2, _ => by
    show unq (List.replicate (2 * h) 34) = List.replicate h 34
    have := unq_marks h []
    rw [unq_nil, List.append_nil, List.append_nil] at this; exact this
  | 3, _ => by
    show unq (List.replicate (2 * h) 34 ++ [107]) = List.replicate h 34 ++ [107]
    rw [unq_marks, unq_k]
theorem endL_len (h : Nat) (hh : h ≤ 15) : ∀ i, (endL h i).length ≤ 60 := fun i => by
  unfold endL; split <;> simp only [List.length_append, List.length_replicate, List.length_cons, List.length_nil] <;> omega
def signL : Nat → Nat | 0 => 42 | 1 => 47 | 2 => 60 | 3 => 62 | _ => 61
def dblN : Nat → Int | 0 => 35 | 1 => 47 | 2 => 33 | 3 => 34 | _ => 27
def sglN : Nat → Int | 0 => 16 | 1 => 17 | 2 => 20 | 3 => 21 | _ => 22
theorem signs : ∀ t, t < 5 → tokN [signL t, signL t, signL t] = none ∧ tokN [signL t, signL t] = some (dblN t) ∧ tokN [signL t] = some (sglN t) := by decide +kernel
theorem sign_at : ∀ r : Nat, r < 5 → ((seqIndex? (r : Int) ("*/<>=" : Str).length).bind fun j => ("*/<>=" : Str).cps[j]?) = some (signL r) := by decide
theorem dbl_rl : PyData.list [.int 35, .int 47, .int 33, .int 34, .int 27] = RL 5 fun i => .int (dblN i) := by kernel_rfl
theorem sgl_rl : PyData.list [.int 16, .int 17, .int 20, .int 21, .int 22] = RL 5 fun i => .int (sglN i) := by kernel_rfl
theorem sym_marks {a : Nat} {d s : Int} (h3 : tokN [a, a, a] = none) (h2 : tokN [a, a] = some d) (h1 : tokN [a] = some s) : ∀ (h k : Nat), h + 1 ≤ k → sym tok k (List.replicate (2 * h + 1) a) = List.replicate h d ++ [s]
  | 0, k + 1, _ => by
    show sym tok (k + 1) [a] = [s]
    have e : sz tok [a] = 3 := by
      unfold sz
      show (if (tokN [a]).isSome = true then 3 else _) = 3
      rw [h1]; rfl
    rw [sym, if_neg (by simp), e]
    have ev : symVal tok [a] = s := by
      unfold symVal; rw [e]
      show (tokN [a]).getD _ = s
      rw [h1]; rfl
    rw [ev]
    show s :: sym tok k [] = [s]
    cases k with
    | zero => rfl
    | succ k => rw [sym, if_pos rfl]
  | h + 1, k + 1, hk => by
    have el : List.replicate (2 * (h + 1) + 1) a = a :: a :: a :: List.replicate (2 * h) a := by
      rw [show 2 * (h + 1) + 1 = 2 * h + 1 + 1 + 1 by omega, List.replicate_succ, List.replicate_succ, List.replicate_succ]
    have er : a :: List.replicate (2 * h) a = List.replicate (2 * h + 1) a := by rw [List.replicate_succ]
    rw [el]
    have e : sz tok (a :: a :: a :: List.replicate (2 * h) a) = 2 := by
      unfold sz
      show (if (tokN [a, a, a]).isSome = true then 3 else if (tokN [a, a]).isSome = true then 2 else 1) = 2
      rw [h3, h2]; rfl
    have ev : symVal tok (a :: a :: a :: List.replicate (2 * h) a) = d := by
      unfold symVal; rw [e]
      show (tokN [a, a]).getD _ = d
      rw [h2]; rfl
    rw [sym, if_neg (by simp), e, ev]
    show d :: sym tok k (a :: List.replicate (2 * h) a) = _
    rw [er, sym_marks h3 h2 h1 h k (by omega)]; rfl
theorem cut_marks {t h : Nat} (ht : t < 5) : cut (List.replicate (2 * h + 1) (signL t)) = List.replicate h (dblN t) ++ [sglN t, 0] := by
  obtain ⟨a, b, e⟩ := signs t ht
  unfold cut
  rw [List.length_replicate, sym_marks a b e h (2 * h + 1) (by omega), List.append_assoc]; rfl
theorem reachI_len : ∀ ms l, (reachI ms l).length = 2 ^ ms.length * l.length
  | [], l => by simp [reachI]
  | mk :: ms, l => by rw [reachI, reachI_len ms]; simp [Nat.pow_succ]; rw [Nat.mul_assoc, Nat.two_mul]
abbrev VRc (R : Vars) (l : List Int) : Vars := ("reached", LI l) :: R
theorem fh_reach {c : Cx} {m : Nat} {T : Tab} {C : List Str} {R : Vars} {body : List PySem.Stmt} (hR : ∀ p ∈ R, p.1 ≠ "mask") (B : Nat)
    (hb : ∀ mk (l : List Int), l.length ≤ B → Ex c m T C (("mask", .int mk) :: VRc R l) none body (.next (VRc R (l ++ l.map fun ch => Builtin.bitOr ch mk)) none)) :
    ∀ (ms l : List Int), 2 ^ ms.length * l.length ≤ B → Fh c m T C "mask" body (ms.map .int) (VRc R l) none (.next (VRc R (reachI ms l)) none)
  | [], l, _ => Fh.nil (ne_cons (by decide) hR) own_none
  | mk :: ms, l, h1 => by
    have e : ∀ x : Nat, 2 ^ (ms.length + 1) * x = 2 ^ ms.length * (x + x) := fun x => by rw [Nat.pow_succ, Nat.mul_assoc, Nat.two_mul]
    have p : 1 ≤ 2 ^ ms.length := Nat.one_le_two_pow
    have q : ∀ x : Nat, x ≤ 2 ^ (ms.length + 1) * x := fun x => by
      rw [e]; exact Nat.le_trans (by omega) (Nat.le_mul_of_pos_left (x + x) p)
    refine Fh.step (ne_cons (by decide) hR) own_none (hb mk l (Nat.le_trans (q _) h1)) (fh_reach hR B hb ms _ ?_)
    rw [List.length_append, List.length_map, ← e]; exact h1
abbrev V5 (cs : Nat → Int) (h : Nat) : Vars := [("half", .int (h : Nat)), ("ties", tiesD (tiesC cs)), ("size", .int (nC cs : Nat)), ("cells", dCells cs)]
section
variable {c : Cx} (W : W0 c)
include W
theorem st49 {out : Out} {cs : Nat → Int} {h : Nat} (hnum : numI (nC cs) (tiesC cs) = 2 * h + 1) (hk : LX c (("number", .int (2 * h + 1 : Nat)) :: V5 cs h) 52 out) : LX c (V5 cs h) 49 out := by
  have hn := nC_le cs
  have hn2 := nC_ge cs
  have hp5 : 2 ^ nC cs ≤ 32 := Nat.pow_le_pow_right (n := 2) (by decide) hn
  have hml := masksL_len (nC cs) (tiesC cs)
  have hrl : (reachI (masksL (nC cs) (tiesC cs)) [0]).length ≤ 32 := by rw [reachI_len, hml]; simpa using hp5
  refine Ex.cons (X1.assign (x := "reached") (d := LI [0]) (ρ' := V5 cs h) (Ev.list (EvL.cons Ev.int EvL.nil)) (.inl (by kernel_rfl)) (fun _ h => h) (by repeat (first | exact ne_nil | refine ne_cons (by decide) ?_)) own_none) ?_
  refine Ex.cons (ρ₁ := VRc (V5 cs h) (reachI (masksL (nC cs) (tiesC cs)) [0])) (ω₁ := none) (X1.forI (ds := (masksL (nC cs) (tiesC cs)).map .int) (Its.list (Ev.conv (Ev.call (EvL.cons (Ev.name (by repeat (first | with_reducible exact List.mem_cons_self | with_reducible apply List.mem_cons_of_mem))) (EvL.cons (Ev.name (by repeat (first | with_reducible exact List.mem_cons_self | with_reducible apply List.mem_cons_of_mem))) EvL.nil)) ((fn_near W (ties := tiesC cs) (n := nC cs) (by omega)).le (by decide))) (by unfold masksL; rw [List.map_map]; rfl))) (.inr (by decide)) (fh_reach (by repeat (first | exact ne_nil | refine ne_cons (by decide) ?_)) 32 (fun mk l hl => ?_) _ _ (by rw [hml]; simpa using hp5))) ?_
  · refine Ex.cons (X1.assign (x := "reached") (d := LI (l ++ l.map fun ch => Builtin.bitOr ch mk)) (ρ' := V5 cs h)
      (Ev.conv (Ev.bin (Ev.name (by repeat (first | with_reducible exact List.mem_cons_self | with_reducible apply List.mem_cons_of_mem))) (Ev.comp (out := l.map fun ch => .int (Builtin.bitOr ch mk)) (ρ' := [("mask", .int mk)]) (C' := []) rfl (Its.list (Ev.name (by repeat (first | with_reducible exact List.mem_cons_self | with_reducible apply List.mem_cons_of_mem)))) (Blk.of (by repeat (first | exact sub_nil | refine sub_cons (by repeat (first | with_reducible exact List.mem_cons_self | with_reducible apply List.mem_cons_of_mem)) ?_)) (by kernel_rfl)) (CL.mapL l PyData.int (fun ch => .int (Builtin.bitOr ch mk)) rfl (fun _ h => nomatch h) (fun x hx => It.emit1 (.inl (by kernel_rfl)) (by repeat (first | exact ne_nil | refine ne_cons (by decide) ?_)) TsI.nil (Ev.call (EvL.cons (Ev.name (by repeat (first | with_reducible exact List.mem_cons_self | with_reducible apply List.mem_cons_of_mem))) (EvL.cons (Ev.name (by repeat (first | with_reducible exact List.mem_cons_self | with_reducible apply List.mem_cons_of_mem))) EvL.nil)) ((fn_or W).le (by decide))) rfl)) (by rw [List.length_map]; omega)) (Op2.addList (by rw [List.length_map, List.length_map]; have e : sizeLine = 16777216 := rfl; omega))) (by show _ = PyData.list (List.map PyData.int _); rw [List.map_append, List.map_map]; rfl)) (.inl (by kernel_rfl)) (by repeat (first | exact sub_nil | refine sub_cons (by repeat (first | with_reducible exact List.mem_cons_self | with_reducible apply List.mem_cons_of_mem)) ?_)) (by repeat (first | exact ne_nil | refine ne_cons (by decide) ?_)) own_none) Ex.nil
  have h2n : ((2 : Int) ^ nC cs) ≠ 0 := by have := Nat.two_pow_pos (nC cs); have e : ((2 ^ nC cs : Nat) : Int) = (2 : Int) ^ nC cs := by simp
                                           omega
  generalize hR : reachI (masksL (nC cs) (tiesC cs)) [0] = R at *
  have hcnt : ((R.map fun x => (3 * x).fmod (2 ^ nC cs)).countP fun n => decide (n = 2 ^ nC cs - 3)) = 2 * h + 1 := by rw [← hnum]; unfold numI; rw [hR]
  have fc := fn_count W (ns := R.map fun x => (3 * x).fmod (2 ^ nC cs)) (t := 2 ^ nC cs - 3) (by rw [List.length_map]; omega)
  rw [hcnt, List.map_map] at fc
  refine Ex.cons (X1.assign (x := "number") (d := .int (2 * h + 1 : Nat)) (ρ' := V5 cs h) (Ev.call (EvL.cons (Ev.comp (out := R.map ((fun n => PyData.list [.int n]) ∘ fun x => (3 * x).fmod (2 ^ nC cs))) (ρ' := [("size", .int (nC cs : Nat))]) (C' := []) rfl (Its.list (Ev.name (by repeat (first | with_reducible exact List.mem_cons_self | with_reducible apply List.mem_cons_of_mem)))) (Blk.of (by repeat (first | exact sub_nil | refine sub_cons (by repeat (first | with_reducible exact List.mem_cons_self | with_reducible apply List.mem_cons_of_mem)) ?_)) (by kernel_rfl))
    (CL.mapL R PyData.int _ rfl (fun _ h => nomatch h) (fun x hx => It.emit1 (.inl (by kernel_rfl)) (by repeat (first | exact ne_nil | refine ne_cons (by decide) ?_)) TsI.nil (Ev.list (EvL.cons (Ev.bin (Ev.bin Ev.int (Ev.name (by repeat (first | with_reducible exact List.mem_cons_self | with_reducible apply List.mem_cons_of_mem))) (Op2.mul (IntMulOk.of_left (by decide)))) (Ev.bin Ev.int (Ev.name (by repeat (first | with_reducible exact List.mem_cons_self | with_reducible apply List.mem_cons_of_mem))) (Op2.pow2 (by omega))) (Op2.mod h2n)) EvL.nil)) rfl)) (by rw [List.length_map]; omega)) (EvL.cons (Ev.list (EvL.cons (Ev.bin (Ev.bin Ev.int (Ev.name (by repeat (first | with_reducible exact List.mem_cons_self | with_reducible apply List.mem_cons_of_mem))) (Op2.pow2 (by omega))) Ev.int Op2.sub) EvL.nil)) EvL.nil)) (fc.le (by decide))) (.inl (by kernel_rfl)) (by repeat (first | exact sub_nil | refine sub_cons (by repeat (first | with_reducible exact List.mem_cons_self | with_reducible apply List.mem_cons_of_mem)) ?_)) (by repeat (first | exact ne_nil | refine ne_cons (by decide) ?_)) own_none) ?_
  exact hk
omit W in
theorem end_len (h : Nat) (hh : h ≤ 15) (i : Nat) : ([50, 53, 55, 32, 34] ++ endL h i).length ≤ 1000 := by
  rw [List.length_append]; have := endL_len h hh i; show 5 + _ ≤ _; omega
omit W in
theorem ansL_ok (h i : Nat) : PyData.strOk (strOf' (ansL h i)) = true := by
  refine ok_of (List.all_eq_true.mpr fun a ha => decide_eq_true ?_)
  unfold ansL at ha
  split at ha
  · rw [List.eq_of_mem_replicate ha]; decide
  · rw [List.eq_of_mem_replicate ha]; decide
  · rw [List.eq_of_mem_replicate ha]; decide
  · rcases List.mem_append.mp ha with ha | ha
    · rw [List.eq_of_mem_replicate ha]; decide
    · rw [List.mem_singleton.mp ha]; decide
omit W in
theorem flat_rep (h : Nat) (d : Int) : ∀ xs : List PyData, xs = [.int d] → (List.replicate h xs).flatten = (List.replicate h d).map PyData.int := by
  rintro xs rfl
  induction h with
  | zero => rfl
  | succ h ih => rw [List.replicate_succ, List.replicate_succ, List.flatten_cons, ih]; rfl
theorem st52 {cs : Nat → Int} {h : Nat} (hh : h ≤ 15) : LX c (("number", .int (2 * h + 1 : Nat)) :: V5 cs h) 52 (.ret (.bool true)) := by
  have fm : ∀ N : Nat, N ≤ 1000 → Fn c 3 "mul" [.str (strOf' [34]), .int (N : Nat)] (.str (strOf' (List.replicate N 34))) := fun N hN => by
    have := (fn_mulS W (mul_ok 34 N (by omega))).le (m' := 3) (by decide)
    rw [mul_rep] at this; exact this
  refine Ex.cons (X1.assign (x := "ends") (d := RL 4 fun i => .str (strOf' (endL h i))) (ρ' := ("number", .int (2 * h + 1 : Nat)) :: V5 cs h) (Ev.conv (Ev.list (ds := [.str (strOf' (endL h 0)), .str (strOf' (endL h 1)), .str (strOf' (endL h 2)), .str (strOf' (endL h 3))])
    (EvL.cons (Ev.conv (Ev.app (y := strOf' [107, 34, 32, 111, 102, 32, 34, 97, 108, 108, 34]) (Ev.call (EvL.cons (Ev.conv (d' := .str (strOf' [34])) Ev.str (by congr 1)) (EvL.cons (Ev.name (by repeat (first | with_reducible exact List.mem_cons_self | with_reducible apply List.mem_cons_of_mem))) EvL.nil)) (fm (2 * h + 1) (by omega))) (Ev.conv Ev.str (by congr 1)) (by rw [len_of, len_of, List.length_replicate]; show _ + 11 ≤ _; omega)) (by rw [strOf_appd]; rfl))
    (EvL.cons (Ev.call (EvL.cons (Ev.conv (d' := .str (strOf' [34])) Ev.str (by congr 1)) (EvL.cons (Ev.name (by repeat (first | with_reducible exact List.mem_cons_self | with_reducible apply List.mem_cons_of_mem))) EvL.nil)) (fm (2 * h + 1) (by omega)))
    (EvL.cons (Ev.call (EvL.cons (Ev.conv (d' := .str (strOf' [34])) Ev.str (by congr 1)) (EvL.cons (Ev.reint (b := ((2 * h : Nat) : Int)) (Ev.bin (Ev.name (by repeat (first | with_reducible exact List.mem_cons_self | with_reducible apply List.mem_cons_of_mem))) Ev.int Op2.sub) (by omega)) EvL.nil)) (fm (2 * h) (by omega)))
    (EvL.cons (Ev.conv (Ev.app (y := strOf' [107]) (Ev.call (EvL.cons (Ev.conv (d' := .str (strOf' [34])) Ev.str (by congr 1)) (EvL.cons (Ev.reint (b := ((2 * h : Nat) : Int)) (Ev.bin (Ev.name (by repeat (first | with_reducible exact List.mem_cons_self | with_reducible apply List.mem_cons_of_mem))) Ev.int Op2.sub) (by omega)) EvL.nil)) (fm (2 * h) (by omega))) (Ev.conv Ev.str (by congr 1)) (by rw [len_of, len_of, List.length_replicate]; show _ + 1 ≤ _; omega)) (by rw [strOf_appd]; rfl)) EvL.nil))))) (by kernel_rfl)) (.inl (by kernel_rfl)) (fun _ h => h) (by repeat (first | exact ne_nil | refine ne_cons (by decide) ?_)) own_none) ?_
  have qh : ∀ {ρ : Vars} {T : Tab} {k1 : Nat} {e : PySem.Expr} {p1 p3 : Pos}, Ev c 3 T ρ e (.int (h : Nat)) → Ev c 3 T ρ (.BinOp (.Constant (.str "\"") k1 p1) .Mult e p3) (.str (strOf' (List.replicate h 34))) := fun {_ _ _ _ _ _} he =>
    Ev.conv (Ev.bin (Ev.conv (d' := .str (strOf' [34])) Ev.str (by congr 1)) he (Op2.mulStr (mul_ok 34 h (by omega)))) (congrArg PyData.str (mul_rep 34 h))
  refine Ex.ifNot (Ts.neSame (k := 1) (d := RL 4 fun i => .str (strOf' (ansL h i))) (Ev.comp (ρ' := []) (C' := []) rfl (Its.list (Ev.name (by repeat (first | with_reducible exact List.mem_cons_self | with_reducible apply List.mem_cons_of_mem)))) (Blk.of (by repeat (first | exact sub_nil | refine sub_cons (by repeat (first | with_reducible exact List.mem_cons_self | with_reducible apply List.mem_cons_of_mem)) ?_)) (by kernel_rfl))
    (CL.mapL (List.range 4) (fun i => .str (strOf' (endL h i))) (fun i => .str (strOf' (ansL h i))) rfl (fun _ h => nomatch h) (fun i hi => It.emit1 (.inl (by kernel_rfl)) (by repeat (first | exact ne_nil | refine ne_cons (by decide) ?_)) TsI.nil (Ev.conv (Ev.call (EvL.cons (Ev.conv (d' := .str (strOf' ([50, 53, 55, 32, 34] ++ endL h i))) (Ev.app (x := strOf' [50, 53, 55, 32, 34]) (Ev.conv Ev.str (by congr 1)) (Ev.name (by repeat (first | with_reducible exact List.mem_cons_self | with_reducible apply List.mem_cons_of_mem))) (by rw [len_of, len_of]; have := endL_len h hh i; show 5 + _ ≤ _; omega)) (by rw [strOf_appd])) (EvL.cons Ev.bool EvL.nil)) ((fn_heard' W (end_len h hh i)).le (by decide))) (by rw [unq_ends h i (List.mem_range.mp hi)])) rfl)) (by rw [rl_len]; decide))
    (Ev.conv (Ev.list (ds := [.str (strOf' (ansL h 0)), .str (strOf' (ansL h 1)), .str (strOf' (ansL h 2)), .str (strOf' (ansL h 3))]) (EvL.cons (qh (Ev.name (by repeat (first | with_reducible exact List.mem_cons_self | with_reducible apply List.mem_cons_of_mem)))) (EvL.cons (qh (Ev.name (by repeat (first | with_reducible exact List.mem_cons_self | with_reducible apply List.mem_cons_of_mem)))) (EvL.cons (qh (Ev.name (by repeat (first | with_reducible exact List.mem_cons_self | with_reducible apply List.mem_cons_of_mem)))) (EvL.cons (Ev.conv (Ev.app (y := strOf' [107]) (qh (Ev.name (by repeat (first | with_reducible exact List.mem_cons_self | with_reducible apply List.mem_cons_of_mem)))) (Ev.conv Ev.str (by congr 1)) (by rw [len_of, len_of, List.length_replicate]; show _ + 1 ≤ _; omega)) (by rw [strOf_appd]; rfl)) EvL.nil))))) (by kernel_rfl)) (Okd.map fun i _ => Okd.str (ansL_ok h i))) ?_
  have ht := md_lt ((cs 6).fdiv 12) (k := 5) (by decide)
  refine Ex.cons (X1.assign (x := "twin") (d := .int (md ((cs 6).fdiv 12) 5 : Nat)) (ρ' := ("number", .int (2 * h + 1 : Nat)) :: V5 cs h) (Ev.modN 5 (Ev.divC (Ev.cellAt (n := 7) (k := 6) (by decide) (by decide) (Ev.name (by repeat (first | with_reducible exact List.mem_cons_self | with_reducible apply List.mem_cons_of_mem))) Ev.int))) (.inl (by kernel_rfl)) (by repeat (first | exact sub_nil | refine sub_cons (by repeat (first | with_reducible exact List.mem_cons_self | with_reducible apply List.mem_cons_of_mem)) ?_)) (by repeat (first | exact ne_nil | refine ne_cons (by decide) ?_)) own_none) ?_
  generalize md ((cs 6).fdiv 12) 5 = t at *
  refine Ex.cons (X1.assign (x := "pieces") (d := LI (List.replicate h (dblN t) ++ [sglN t, 0])) (ρ' := ("twin", .int (t : Nat)) :: ("number", .int (2 * h + 1 : Nat)) :: V5 cs h) (Ev.conv (Ev.bin (Ev.conv (d' := LI (List.replicate h (dblN t))) (Ev.bin (Ev.list (EvL.cons (Ev.rlAt (n := 5) (f := fun i => .int (dblN i)) ht (by decide) (Ev.conv (Ev.list (EvL.cons Ev.int (EvL.cons Ev.int (EvL.cons Ev.int (EvL.cons Ev.int (EvL.cons Ev.int EvL.nil)))))) dbl_rl) (Ev.name (by repeat (first | with_reducible exact List.mem_cons_self | with_reducible apply List.mem_cons_of_mem)))) EvL.nil)) (Ev.name (by repeat (first | with_reducible exact List.mem_cons_self | with_reducible apply List.mem_cons_of_mem))) (Op2.mulList (n := ((h : Nat) : Int)) (by omega) (by omega) (by rw [Int.toNat_natCast]; show 1 * h ≤ _; omega))) (by rw [Int.toNat_natCast]; exact congrArg PyData.list (flat_rep h (dblN t) _ rfl)))
    (Ev.list (EvL.cons (Ev.rlAt (n := 5) (f := fun i => .int (sglN i)) ht (by decide) (Ev.conv (Ev.list (EvL.cons Ev.int (EvL.cons Ev.int (EvL.cons Ev.int (EvL.cons Ev.int (EvL.cons Ev.int EvL.nil)))))) sgl_rl) (Ev.name (by repeat (first | with_reducible exact List.mem_cons_self | with_reducible apply List.mem_cons_of_mem)))) (EvL.cons Ev.int EvL.nil))) (Op2.addList (by rw [List.length_map, List.length_replicate]; show _ + 2 ≤ sizeLine; have e : sizeLine = 16777216 := rfl; omega))) (by show _ = PyData.list (List.map PyData.int _); rw [List.map_append]; rfl)) (.inl (by kernel_rfl)) (fun _ h => h) (by repeat (first | exact ne_nil | refine ne_cons (by decide) ?_)) own_none) ?_
  have fc := fn_cut W (l := List.replicate (2 * h + 1) (signL t)) (by rw [List.length_replicate]; omega)
  rw [cut_marks ht] at fc
  refine Ex.ret (Ev.conv (Ev.cmp (Ev.call (EvL.cons (Ev.conv (d' := .str (strOf' (List.replicate (2 * h + 1) (signL t)))) (Ev.call (EvL.cons (Ev.itemS (n := signL t) Ev.str (Ev.name (by repeat (first | with_reducible exact List.mem_cons_self | with_reducible apply List.mem_cons_of_mem))) (sign_at t ht) (by omega) (by omega)) (EvL.cons (Ev.name (by repeat (first | with_reducible exact List.mem_cons_self | with_reducible apply List.mem_cons_of_mem))) EvL.nil)) ((fn_mulS W (mul_ok (signL t) (2 * h + 1) (by omega))).le (by decide))) (congrArg PyData.str (mul_rep _ _))) EvL.nil) (fc.le (by decide))) (Ev.name (by repeat (first | with_reducible exact List.mem_cons_self | with_reducible apply List.mem_cons_of_mem))) (Op2.eq ((ok_li _).sh (by decide)) ((ok_li _).sh (by decide)))) (by rw [SeqAt.eqv_refl _ (ok_li _).lay]))
end

end Mine
namespace Mine
open Builtin.Int (intBits) in
theorem cells_bits {xs : List Int} (hlen : xs.length ≤ 63) (hb : ∀ x ∈ xs, Builtin.Int.intBits x ≤ 1048576) (k : Nat) : Builtin.Int.intBits (cellsOf xs k) ≤ 1100000 := by
  have hs : ∀ l : List Int, (∀ x ∈ l, Builtin.Int.intBits x ≤ 1048576) → Builtin.Int.intBits l.sum ≤ 1048576 + l.length := fun l => by
    induction l with
    | nil => intro _; exact Nat.le_trans (show Builtin.Int.intBits 0 ≤ 64 by decide) (by omega)
    | cons x l ih =>
      intro h
      have h1 := ih fun y hy => h y (.tail _ hy)
      have h2 := h x (.head _)
      rw [List.sum_cons]
      have := intBits_add_le h2 h1
      rw [List.length_cons]; omega
  have hm : ∀ x ∈ pickL xs (some (k : Int)) none (some 7), Builtin.Int.intBits x ≤ 1048576 := fun x hx => by
    unfold pickL at hx
    obtain ⟨i, _, hi⟩ := List.mem_filterMap.mp hx
    exact hb x (List.mem_of_getElem? hi)
  have hl : (pickL xs (some (k : Int)) none (some 7)).length ≤ 63 := by
    refine Nat.le_trans (List.length_filterMap_le _ _) ?_
    refine Nat.le_trans ?_ hlen
    refine sliceRange_length_le _ _ _ _ (fun hc => ?_) fun hc => absurd (by simp [sliceBounds] : (sliceBounds (some (k : Int)) none (some 7) xs.length).2.2 > 0) hc
    simp only [sliceBounds] at hc ⊢
    simp only [hc, if_true]
    constructor
    · omega
    · simp
  have h1 := hs _ hm
  have h0 : Builtin.Int.intBits (baseF k) ≤ 64 := by unfold baseF; split <;> decide
  unfold cellsOf
  have := intBits_add_le h0 h1
  omega
section
variable {c : Cx} (W : W0 c)
include W
theorem lx_law {xs : List Int} (hlen : xs.length ≤ 63) (hb : ∀ x ∈ xs, Builtin.Int.intBits x ≤ 1048576) : LX c (R0 xs) 0 (.ret (.bool true)) := by
  obtain ⟨h, h15, e1, e2⟩ := graph (nC_ge (cellsOf xs)) (nC_le (cellsOf xs)) (plainB (cellsOf xs))
  have e1 : (2 : Int) ^ (nC (cellsOf xs) - 1) - 1 + away (nC (cellsOf xs)) (tiesC (cellsOf xs)) = (h : Int) := e1
  refine st0 W hlen (st1 W (st4 W (st6 W (st10 W (st19 W (st23 W (st26 W (st30 W (fun i _ => cells_bits hlen hb i) (st32 W (st34 W (st39 W (st44 W ?_))))))))))))
  have := st49 W (cs := cellsOf xs) (h := h) e2 (st52 W h15)
  unfold V4
  rw [e1]; exact this
theorem bi_law {xs : List Int} (hlen : xs.length ≤ 63) (hb : ∀ x ∈ xs, Builtin.Int.intBits x ≤ 1048576) : Bi c 4 (.ref 223) [LI xs] (.bool true) :=
  Bi.ofK (names := ["script"]) (f := 223) (C := lawC) W rfl rfl rfl ⟨rfl, rfl, rfl, rfl, rfl, rfl, by kernel_rfl, by decide, by decide, by decide, bind1 fun _ => rfl⟩ rfl (lx_law W hlen hb)
end

end Mine
namespace Mine
theorem cx_w0 {prog : Program} {w : World} {mg mb : Str → Option Value} {h : Heap} (KX : (heapK w.params).In h) (hg : h.Ns mainGlobals mg) (hb : ∀ x : Str, x ≠ "__name__" → mb x = bootBuiltins x) : W0 ⟨prog, w, heapK w.params, mg, mb⟩ :=
  ⟨rfl, fun n v e => mg_of KX hg e, fun n e => mg_none_of KX hg e, hb⟩
theorem go_start {prog : Program} {w : World} {mg mb : Str → Option Value} {s : Shared} (KX : (heapK w.params).In s.heap) (hg : s.heap.Ns mainGlobals mg) (hbn : s.heap.Ns builtinsNs mb) (hl : s.heap.NoLimit) : Go ⟨prog, w, heapK w.params, mg, mb⟩ 4 callerA [] s where
  sx := ⟨hg, hbn, hl, KX, fun p hp => nomatch hp⟩
  hd := rfl
  depth := by decide
  units := by decide
  frs := ⟨[], rfl, fun env he => nomatch he⟩
theorem law_call {prog : Program} {w : World} {mg mb : Str → Option Value} {s : Shared} {fa l : Addr} {xs : List Int} {as : List Addr} {E : Value → Shared → Prop} {Q : Value → Shared → Prop} (KX : (heapK w.params).In s.heap) (hg : s.heap.Ns mainGlobals mg) (hbn : s.heap.Ns builtinsNs mb) (hl : s.heap.NoLimit) (hb : ∀ x : Str, x ≠ "__name__" → mb x = bootBuiltins x)
    (hfa : mg "law" = some (.ref fa)) (hr : Reads s.heap (.ref l) (.list (xs.map .int)) as) (hlen : xs.length ≤ 63) (hlay : (PyData.list (xs.map .int)).layable0 = true)
    (hQ : ∀ s', Ext [] s s' → Q (.bool true) s') : wpAny (model prog w) callerA (call (.ref fa) [.ref l]) Q E s := by
  have W := cx_w0 (prog := prog) (mb := mb) KX hg hb
  have e : mg "law" = some (.ref 223) := W.gv (by kernel_rfl)
  rw [e] at hfa
  cases hfa
  exact (bi_law W hlen (fun x hx => intBits_le_of_item hx hlay)).raw (go_start KX hg hbn hl) (.cons ⟨as, hr⟩ .nil) fun r s' x rd => by
    rw [rd.bool_inv]; exact hQ s' x

end Mine
namespace Mine
/-! the head keeps no twins of the texts of its own: their names are taken -/
theorem t2.tw10024201514764353019 : True := trivial
theorem t2.tw10086923472223729403 : True := trivial
theorem t2.tw10596517905142718756 : True := trivial
theorem t2.tw10606219775207259954 : True := trivial
theorem t2.tw10636376828682826306 : True := trivial
theorem t2.tw10672452375135546167 : True := trivial
theorem t2.tw1071437399536525427 : True := trivial
theorem t2.tw10731970973758998325 : True := trivial
theorem t2.tw10760006315983836167 : True := trivial
theorem t2.tw10803485706450013457 : True := trivial
theorem t2.tw10916805891496345539 : True := trivial
theorem t2.tw10973419323516673724 : True := trivial
theorem t2.tw10989050090792518646 : True := trivial
theorem t2.tw11059413823540335993 : True := trivial
theorem t2.tw11209646454030614417 : True := trivial
theorem t2.tw11225656374139264028 : True := trivial
theorem t2.tw11231136081880638048 : True := trivial
theorem t2.tw11465140087014732465 : True := trivial
theorem t2.tw11591976280921594204 : True := trivial
theorem t2.tw11603869759292827509 : True := trivial
theorem t2.tw11733322872392305337 : True := trivial
theorem t2.tw11767347018173327472 : True := trivial
theorem t2.tw11813873270010222186 : True := trivial
theorem t2.tw12063389491628005216 : True := trivial
theorem t2.tw12201919842774953772 : True := trivial
theorem t2.tw12412033153994671727 : True := trivial
theorem t2.tw12463432681396130699 : True := trivial
theorem t2.tw125221159715142186 : True := trivial
theorem t2.tw12541072725896639813 : True := trivial
theorem t2.tw12548614345706220700 : True := trivial
theorem t2.tw12564575344524111845 : True := trivial
theorem t2.tw12604228054126986525 : True := trivial
theorem t2.tw12691390292298450027 : True := trivial
theorem t2.tw12706361291358522674 : True := trivial
theorem t2.tw12822500485672910301 : True := trivial
theorem t2.tw1290995648027433610 : True := trivial
theorem t2.tw13003013834247399227 : True := trivial
theorem t2.tw13294388951981107047 : True := trivial
theorem t2.tw13577390293270945822 : True := trivial
theorem t2.tw13759160952559558636 : True := trivial
theorem t2.tw13816307174301002646 : True := trivial
theorem t2.tw13892781341100597265 : True := trivial
theorem t2.tw13901509724005731428 : True := trivial
theorem t2.tw14004336685372974554 : True := trivial
theorem t2.tw14017727318164834209 : True := trivial
theorem t2.tw14023825593608715415 : True := trivial
theorem t2.tw14209136363928995098 : True := trivial
theorem t2.tw14240520766709098887 : True := trivial
theorem t2.tw14341494360225831960 : True := trivial
theorem t2.tw14414790161174665440 : True := trivial
theorem t2.tw14450311925488721646 : True := trivial
theorem t2.tw14486628980086651691 : True := trivial
theorem t2.tw1455373362930421131 : True := trivial
theorem t2.tw14608300458998085401 : True := trivial
theorem t2.tw14610441097790066446 : True := trivial
theorem t2.tw1488787152295141255 : True := trivial
theorem t2.tw14912323080789271459 : True := trivial
theorem t2.tw14996540110089361594 : True := trivial
theorem t2.tw15023007493524032250 : True := trivial
theorem t2.tw15056975412480716535 : True := trivial
theorem t2.tw1506436998435660160 : True := trivial
theorem t2.tw15247391101339467783 : True := trivial
theorem t2.tw15250169578700200418 : True := trivial
theorem t2.tw1528408190693731443 : True := trivial
theorem t2.tw15351096894596814700 : True := trivial
theorem t2.tw15379835570528328541 : True := trivial
theorem t2.tw15482106534335122691 : True := trivial
theorem t2.tw15488862204791064614 : True := trivial
theorem t2.tw1553958181596152020 : True := trivial
theorem t2.tw15677741869310504818 : True := trivial
theorem t2.tw15686427853674770490 : True := trivial
theorem t2.tw15715214864747097508 : True := trivial
theorem t2.tw1572663524215977941 : True := trivial
theorem t2.tw15737289618201616468 : True := trivial
theorem t2.tw15743492982841998637 : True := trivial
theorem t2.tw15748442723928530201 : True := trivial
theorem t2.tw15776635726788576722 : True := trivial
theorem t2.tw15853917480051463491 : True := trivial
theorem t2.tw15902785203226375302 : True := trivial
theorem t2.tw15956603549550856469 : True := trivial
theorem t2.tw16008641491998048621 : True := trivial
theorem t2.tw16058538519503808734 : True := trivial
theorem t2.tw16099289428243688958 : True := trivial
theorem t2.tw16118767212976981993 : True := trivial
theorem t2.tw16127765472611768321 : True := trivial
theorem t2.tw16498848337110239352 : True := trivial
theorem t2.tw16520838756714080772 : True := trivial
theorem t2.tw1654520526781379495 : True := trivial
theorem t2.tw16566224535747365612 : True := trivial
theorem t2.tw16609734611062152509 : True := trivial
theorem t2.tw16748387215454412035 : True := trivial
theorem t2.tw16831010404527082909 : True := trivial
theorem t2.tw16857990521485761870 : True := trivial
theorem t2.tw16880148782297173083 : True := trivial
theorem t2.tw16959672334328043076 : True := trivial
theorem t2.tw17025149820047265244 : True := trivial
theorem t2.tw1707707966071885833 : True := trivial
theorem t2.tw17102116793336853424 : True := trivial
theorem t2.tw17158232615477799462 : True := trivial
theorem t2.tw17229632025850960354 : True := trivial
theorem t2.tw17249897196287212548 : True := trivial
theorem t2.tw17342548918570517974 : True := trivial
theorem t2.tw17352556424942327028 : True := trivial
theorem t2.tw17365052934380034862 : True := trivial
theorem t2.tw173679858656936271 : True := trivial
theorem t2.tw17397669407508223424 : True := trivial
theorem t2.tw17437916977612527129 : True := trivial
theorem t2.tw17518237193936478270 : True := trivial
theorem t2.tw17547325842069234357 : True := trivial
theorem t2.tw17568631729111726869 : True := trivial
theorem t2.tw17723463983935698641 : True := trivial
theorem t2.tw17831546934881107844 : True := trivial
theorem t2.tw17861629154913430112 : True := trivial
theorem t2.tw18064330294762105034 : True := trivial
theorem t2.tw18285735206230776886 : True := trivial
theorem t2.tw18430474059468803112 : True := trivial
theorem t2.tw1853123263434933533 : True := trivial
theorem t2.tw1911065948966644858 : True := trivial
theorem t2.tw2160832617120359026 : True := trivial
theorem t2.tw2210689846813389506 : True := trivial
theorem t2.tw2252123463249159309 : True := trivial
theorem t2.tw2483759707338628719 : True := trivial
theorem t2.tw2538515949636200976 : True := trivial
theorem t2.tw2617934659165603751 : True := trivial
theorem t2.tw2700618788960738733 : True := trivial
theorem t2.tw2850788269563646910 : True := trivial
theorem t2.tw2866199360750903081 : True := trivial
theorem t2.tw2910547863119807293 : True := trivial
theorem t2.tw2958447559074198383 : True := trivial
theorem t2.tw3008179648832844228 : True := trivial
theorem t2.tw344668316051449673 : True := trivial
theorem t2.tw3461892475105985307 : True := trivial
theorem t2.tw3462014148468951448 : True := trivial
theorem t2.tw3483167703491351305 : True := trivial
theorem t2.tw3562116517299625482 : True := trivial
theorem t2.tw3567396607562344891 : True := trivial
theorem t2.tw3630690979484415668 : True := trivial
theorem t2.tw3664846569685596557 : True := trivial
theorem t2.tw3680359886296647393 : True := trivial
theorem t2.tw3769953596628856207 : True := trivial
theorem t2.tw3889626917377660315 : True := trivial
theorem t2.tw395555253864260512 : True := trivial
theorem t2.tw3971327366381961980 : True := trivial
theorem t2.tw3975714109794000212 : True := trivial
theorem t2.tw401289770413213225 : True := trivial
theorem t2.tw4371209080521652160 : True := trivial
theorem t2.tw4389717002999822950 : True := trivial
theorem t2.tw4439250984335233898 : True := trivial
theorem t2.tw4585342581148189660 : True := trivial
theorem t2.tw4722979969462595384 : True := trivial
theorem t2.tw5061368810211601348 : True := trivial
theorem t2.tw5318268043651221770 : True := trivial
theorem t2.tw5459798262454256790 : True := trivial
theorem t2.tw5533498671671624191 : True := trivial
theorem t2.tw5556823463753409041 : True := trivial
theorem t2.tw5658208489943977709 : True := trivial
theorem t2.tw5685917633548590370 : True := trivial
theorem t2.tw5719145415811615175 : True := trivial
theorem t2.tw5725596137597715054 : True := trivial
theorem t2.tw5726815210785069502 : True := trivial
theorem t2.tw5730413896536678294 : True := trivial
theorem t2.tw5754523343780704519 : True := trivial
theorem t2.tw5757021733611236401 : True := trivial
theorem t2.tw5840870283321264518 : True := trivial
theorem t2.tw5926906712699332315 : True := trivial
theorem t2.tw5938153271301720344 : True := trivial
theorem t2.tw5972905864616600919 : True := trivial
theorem t2.tw597591139684015558 : True := trivial
theorem t2.tw598277129611772799 : True := trivial
theorem t2.tw6174377215963507985 : True := trivial
theorem t2.tw6286267623561486531 : True := trivial
theorem t2.tw628792614763822789 : True := trivial
theorem t2.tw6344938952417684655 : True := trivial
theorem t2.tw6359924911846391429 : True := trivial
theorem t2.tw6539722494249037376 : True := trivial
theorem t2.tw6574444396733585864 : True := trivial
theorem t2.tw665973106647378770 : True := trivial
theorem t2.tw6737041712857675369 : True := trivial
theorem t2.tw6794148031077260327 : True := trivial
theorem t2.tw6830670780329341899 : True := trivial
theorem t2.tw6863961060956318554 : True := trivial
theorem t2.tw7063162115372145553 : True := trivial
theorem t2.tw7087508564700455244 : True := trivial
theorem t2.tw7115977305178424329 : True := trivial
theorem t2.tw7222963605609497405 : True := trivial
theorem t2.tw7282799465143469749 : True := trivial
theorem t2.tw7289317912418987605 : True := trivial
theorem t2.tw7296685429575403824 : True := trivial
theorem t2.tw7397723701551162972 : True := trivial
theorem t2.tw744985229137309054 : True := trivial
theorem t2.tw7685949758561364869 : True := trivial
theorem t2.tw7867745146913115468 : True := trivial
theorem t2.tw8019478661648047359 : True := trivial
theorem t2.tw8031297425463822629 : True := trivial
theorem t2.tw8235057197960675922 : True := trivial
theorem t2.tw8298019009924903557 : True := trivial
theorem t2.tw8403316741512096840 : True := trivial
theorem t2.tw8443584868734116190 : True := trivial
theorem t2.tw8451543679450910148 : True := trivial
theorem t2.tw8477503267964216564 : True := trivial
theorem t2.tw8503334791850174991 : True := trivial
theorem t2.tw8505378028228362494 : True := trivial
theorem t2.tw8537158011412110516 : True := trivial
theorem t2.tw857259734692270363 : True := trivial
theorem t2.tw8715921581979024883 : True := trivial
theorem t2.tw8940353131893183502 : True := trivial
theorem t2.tw8984202852457852043 : True := trivial
theorem t2.tw9012098465631722450 : True := trivial
theorem t2.tw9072522840376475012 : True := trivial
theorem t2.tw9101066533584059070 : True := trivial
theorem t2.tw9310840190686191320 : True := trivial
theorem t2.tw9351978409707471962 : True := trivial
theorem t2.tw9647683642951392931 : True := trivial
theorem t2.tw9741369130076870005 : True := trivial
theorem t2.tw9830990539327820849 : True := trivial
theorem t2.tw9958120051100154793 : True := trivial
set_option Elab.async true in
theorem t2 : PySem.Challenge.rw_wo0055_01.Holds := by
  w_on
  o_law
  k_head
  case hw => w_witness2
  k_fill
  intro w s₀ s₁ mg mb G Y fa o pm cd doc dV kV ho hd hcd hD hmg hg args vals as hpre hlay hrd hwl hlo
  have KX0 := kIn_of Y
  have KX : (heapK w.params).In s₁.heap := by
    refine cast (congrArg (fun K : Frag => K.In s₁.heap) ?_) KX0
    kernel_rfl
  have X := (Ground.X G).1
  have V := (Ground.X G).2
  refine Ground.open G ?_
  intro T B D TE TW
  wrow_args hpre hlay hrd hwl hlo
  refine law_call KX T.g T.b T.nolimit T.builtins hmg (by assumption) (by omega) (by assumption) fun s' x => GoodW.toG ⟨.inl ⟨_, .bool true, [], rfl, fun _ => rfl, .bool _, ?_, fun _ => ⟨.nil, fun _ h => nomatch h⟩⟩, fun b o e => x.keep b o (fun h => nomatch h) e, x.os, x.gens.trans hg⟩
  kernel_rfl

end Mine
theorem PySem.Challenge.cw_wo0055_01_holds : PySem.Challenge.rw_wo0055_01.Holds := by
  exact Mine.t2
