import PyProof.Rows.All
import Wide.All
import OpenK.AllK
import Wide.FinOn
import PySem.Challenge.RW_rl0128_01
set_option Elab.async false
section
open PySem PySem.W PyProof.Rows PySem.Calls
set_option autoImplicit false
set_option linter.all false
namespace Mine

/-- pure data -/
inductive PV where
  | none
  | bool (b : Bool)
  | int (i : Int)
  | str (s : Str)
  | ref (a : Addr)
  | list (l : List PV)
  | tup (l : List PV)
  | obj (l : List PV)
  deriving Inhabited

/-- what the dict of a Whitespace holds -/
noncomputable def WsDict (es : List DictEntry) (vs : List Value) : Prop := ∃ v0 v1 v2 v3, vs = [v0, v1, v2, v3] ∧ getL "n" es = some (some v0) ∧ getL "nt" es = some (some v1) ∧ getL "norm" es = some (some v2) ∧ getL "is_simple" es = some (some v3) ∧
  getL "less" es = some none ∧ getL "equal" es = some none ∧ getL "longest_run_of_spaces" es = some none ∧ getL "indent_level" es = some none

/-- a value in a heap stands for a pure datum; no list or tuple of it lies in O -/
inductive Rep (O : List Addr) (h : Heap) : Value → PV → Prop where
  | none : Rep O h .none .none
  | bool (b : Bool) : Rep O h (.bool b) (.bool b)
  | int (i : Int) (t : Tok) : Rep O h (.int i t) (.int i)
  | str (s : Str) (t : Tok) : Rep O h (.str s t) (.str s)
  | ref (a : Addr) : Rep O h (.ref a) (.ref a)
  | list {a : Addr} {vs : List Value} {ds : List PV} : a ∉ O → h.PlainList a vs.toArray → vs.length = ds.length →
      (∀ (i : Nat) v d, vs[i]? = some v → ds[i]? = some d → Rep O h v d) → Rep O h (.ref a) (.list ds)
  | tup {a : Addr} {vs : List Value} {ds : List PV} : a ∉ O → h.IsTuple a vs.toArray → vs.length = ds.length →
      (∀ (i : Nat) v d, vs[i]? = some v → ds[i]? = some d → Rep O h v d) → Rep O h (.ref a) (.tup ds)
  | obj {a dx : Addr} {es : List DictEntry} {n : Nat} {vs : List Value} {ds : List PV} : a ∉ O → dx ∉ O → h.get? a = some (instObj 110 dx) → h.get? dx = some (dictOf es n) → WsDict es vs → vs.length = ds.length →
      (∀ (i : Nat) v d, vs[i]? = some v → ds[i]? = some d → Rep O h v d) → Rep O h (.ref a) (.obj ds)

/-- pointwise -/
structure Reps (O : List Addr) (h : Heap) (vs : List Value) (ds : List PV) : Prop where
  len : vs.length = ds.length
  at' : ∀ (i : Nat) (v : Value) (d : PV), vs[i]? = some v → ds[i]? = some d → Rep O h v d

theorem nsFind_getL {es : List DictEntry} {x : Str} {v : Value} (e : getL x es = some (some v)) : nsFind es.toArray x = some v := by
  unfold getL at e
  unfold nsFind findBy
  split at e
  · rename_i en he
    cases e
    rw [List.find?_toArray, he]; rfl
  · split at e <;> cases e
noncomputable def isSeqObj (o : Obj) : Prop := (∃ its n, o.data = .seq its n) ∨ o.data = .plain ∨ ∃ es n v, o.data = .dict es n ∧ nsFind es "is_simple" = some v
theorem isSeq_dict {es : List DictEntry} {n : Nat} {vs : List Value} (e : WsDict es vs) : isSeqObj (dictOf es n) := by
  obtain ⟨v0, v1, v2, v3, _, _, _, _, h, _⟩ := e
  exact .inr (.inr ⟨_, _, v3, rfl, nsFind_getL h⟩)

theorem Rep.mono {O O' : List Addr} {h h' : Heap} (hO : ∀ a ∈ O', a ∈ O) (k : ∀ b o, b ∉ O → isSeqObj o → h.get? b = some o → h'.get? b = some o) {v : Value} {d : PV} (r : Rep O h v d) : Rep O' h' v d := by
  induction r with
  | none => exact .none
  | bool b => exact .bool b
  | int i t => exact .int i t
  | str s t => exact .str s t
  | ref a => exact .ref a
  | list ha hl hn _ ih =>
    obtain ⟨n, ho⟩ := hl
    exact .list (fun q => ha (hO _ q)) ⟨n, k _ _ ha (.inl ⟨_, _, rfl⟩) ho⟩ hn ih
  | tup ha hl hn _ ih =>
    obtain ⟨o, ho, hc, n, hd⟩ := hl
    exact .tup (fun q => ha (hO _ q)) ⟨o, k _ _ ha (.inl ⟨_, _, hd⟩) ho, hc, n, hd⟩ hn ih
  | obj ha hx h1 h2 hw hn _ ih => exact .obj (fun q => ha (hO _ q)) (fun q => hx (hO _ q)) (k _ _ ha (.inr (.inl rfl)) h1) (k _ _ hx (isSeq_dict hw) h2) hw hn ih

theorem Reps.mono {O O' : List Addr} {h h' : Heap} (hO : ∀ a ∈ O', a ∈ O) (k : ∀ b o, b ∉ O → isSeqObj o → h.get? b = some o → h'.get? b = some o) {vs : List Value} {ds : List PV} (r : Reps O h vs ds) : Reps O' h' vs ds :=
  ⟨r.len, fun i v d hv hd => (r.at' i v d hv hd).mono hO k⟩

theorem Rep.keeps {O : List Addr} {h h' : Heap} {v : Value} {d : PV} (r : Rep O h v d) (k : ∀ b o, h.get? b = some o → h'.get? b = some o) : Rep O h' v d :=
  r.mono (fun _ x => x) fun b o _ _ e => k b o e
theorem Reps.keeps {O : List Addr} {h h' : Heap} {v : List Value} {d : List PV} (r : Reps O h v d) (k : ∀ b o, h.get? b = some o → h'.get? b = some o) : Reps O h' v d :=
  r.mono (fun _ x => x) fun b o _ _ e => k b o e
theorem Rep.free {O : List Addr} {h : Heap} {v : Value} {d : PV} (r : Rep O h v d) : Rep [] h v d := r.mono (fun _ x => absurd x List.not_mem_nil) fun _ _ _ _ e => e
theorem Reps.free {O : List Addr} {h : Heap} {v : List Value} {d : List PV} (r : Reps O h v d) : Reps [] h v d := r.mono (fun _ x => absurd x List.not_mem_nil) fun _ _ _ _ e => e
theorem Reps.nil {O : List Addr} {h : Heap} : Reps O h [] [] := ⟨rfl, fun i v d hv _ => by simp at hv⟩
theorem Reps.cons {O : List Addr} {h : Heap} {v : Value} {vs : List Value} {d : PV} {ds : List PV} (r : Rep O h v d) (rs : Reps O h vs ds) : Reps O h (v :: vs) (d :: ds) :=
  ⟨by simp [rs.len], fun i u e hu he => by
    cases i with
    | zero => simp at hu he; subst hu he; exact r
    | succ i => simp at hu he; exact rs.at' i u e hu he⟩
theorem Reps.head {O : List Addr} {h : Heap} {v : Value} {vs : List Value} {d : PV} {ds : List PV} (r : Reps O h (v :: vs) (d :: ds)) : Rep O h v d := r.at' 0 v d (by simp) (by simp)
theorem Reps.tail {O : List Addr} {h : Heap} {v : Value} {vs : List Value} {d : PV} {ds : List PV} (r : Reps O h (v :: vs) (d :: ds)) : Reps O h vs ds :=
  ⟨by simpa using r.len, fun i u e hu he => r.at' (i + 1) u e (by simpa using hu) (by simpa using he)⟩
theorem Reps.snoc {O : List Addr} {h : Heap} {v : Value} {vs : List Value} {d : PV} {ds : List PV} (rs : Reps O h vs ds) (r : Rep O h v d) : Reps O h (vs ++ [v]) (ds ++ [d]) :=
  ⟨by simp [rs.len], fun i u e hu he => by
    have hl := rs.len
    by_cases hi : i < vs.length
    · rw [List.getElem?_append_left hi] at hu
      rw [List.getElem?_append_left (hl ▸ hi)] at he
      exact rs.at' i u e hu he
    · rw [List.getElem?_append_right (by omega)] at hu
      rw [List.getElem?_append_right (by omega)] at he
      rw [hl] at hu
      cases hj : i - ds.length with
      | zero => rw [hj] at hu he; simp at hu he; subst hu he; exact r
      | succ j => rw [hj] at hu; simp at hu⟩
theorem Rep.mkList {O : List Addr} {h : Heap} {a : Addr} {vs : List Value} {ds : List PV} (ha : a ∉ O) (hl : h.PlainList a vs.toArray) (r : Reps O h vs ds) : Rep O h (.ref a) (.list ds) := .list ha hl r.len r.at'
theorem Rep.mkTup {O : List Addr} {h : Heap} {a : Addr} {vs : List Value} {ds : List PV} (ha : a ∉ O) (hl : h.IsTuple a vs.toArray) (r : Reps O h vs ds) : Rep O h (.ref a) (.tup ds) := .tup ha hl r.len r.at'
theorem Rep.list_inv {O : List Addr} {h : Heap} {v : Value} {ds : List PV} (r : Rep O h v (.list ds)) : ∃ a vs, v = .ref a ∧ a ∉ O ∧ h.PlainList a vs.toArray ∧ Reps O h vs ds := by
  cases r with
  | list ha hl hn hr => exact ⟨_, _, rfl, ha, hl, hn, hr⟩
theorem Rep.tup_inv {O : List Addr} {h : Heap} {v : Value} {ds : List PV} (r : Rep O h v (.tup ds)) : ∃ a vs, v = .ref a ∧ a ∉ O ∧ h.IsTuple a vs.toArray ∧ Reps O h vs ds := by
  cases r with
  | tup ha hl hn hr => exact ⟨_, _, rfl, ha, hl, hn, hr⟩
theorem Rep.int_inv {O : List Addr} {h : Heap} {v : Value} {i : Int} (r : Rep O h v (.int i)) : ∃ t, v = .int i t := by cases r; exact ⟨_, rfl⟩
theorem Rep.str_inv {O : List Addr} {h : Heap} {v : Value} {x : Str} (r : Rep O h v (.str x)) : ∃ t, v = .str x t := by cases r; exact ⟨_, rfl⟩
theorem Rep.bool_inv {O : List Addr} {h : Heap} {v : Value} {b : Bool} (r : Rep O h v (.bool b)) : v = .bool b := by cases r; rfl
theorem Rep.none_inv {O : List Addr} {h : Heap} {v : Value} (r : Rep O h v .none) : v = .none := by cases r; rfl
theorem Rep.ref_inv {O : List Addr} {h : Heap} {v : Value} {a : Addr} (r : Rep O h v (.ref a)) : v = .ref a := by cases r; rfl

/-- data that hold no list and no tuple -/
noncomputable def PV.flat : PV → Bool
  | .list _ => false
  | .tup _ => false
  | .obj _ => false
  | _ => true
theorem Rep.of_flat {O O' : List Addr} {h h' : Heap} {v : Value} {d : PV} (r : Rep O h v d) (hf : d.flat = true) : Rep O' h' v d := by
  cases r with
  | none => exact .none
  | bool b => exact .bool b
  | int i t => exact .int i t
  | str s t => exact .str s t
  | ref a => exact .ref a
  | list => cases hf
  | tup => cases hf
  | obj => cases hf
theorem Rep.obj_inv {O : List Addr} {h : Heap} {v : Value} {ds : List PV} (r : Rep O h v (.obj ds)) : ∃ a dx es n vs, v = .ref a ∧ a ∉ O ∧ dx ∉ O ∧ h.get? a = some (instObj 110 dx) ∧ h.get? dx = some (dictOf es n) ∧ WsDict es vs ∧ Reps O h vs ds := by
  cases r with
  | obj ha hx h1 h2 hw hn hr => exact ⟨_, _, _, _, _, rfl, ha, hx, h1, h2, hw, hn, hr⟩

/-- the heap has grown and nothing that stood is turned -/
structure Ext (s s' : Shared) : Prop where
  as : ∃ h' tk, s' = { s with heap := h', toks := tk }
  get : ∀ b o, s.heap.get? b = some o → s'.heap.get? b = some o
theorem Ext.refl (s : Shared) : Ext s s := ⟨⟨s.heap, s.toks, rfl⟩, fun _ _ e => e⟩
theorem Ext.trans {s s' s'' : Shared} (x : Ext s s') (y : Ext s' s'') : Ext s s'' := by
  obtain ⟨⟨h, t, rfl⟩, k⟩ := x; obtain ⟨⟨h', t', rfl⟩, k'⟩ := y
  exact ⟨⟨h', t', rfl⟩, fun b o e => k' b o (k b o e)⟩
theorem Ext.push {s : Shared} (o : Obj) (tk : Nat) : Ext s { s with heap := s.heap.push o, toks := tk } := ⟨⟨_, _, rfl⟩, fun _ _ e => Heap.get?_push_of_some _ e⟩
theorem Ext.toks {s : Shared} (tk : Nat) : Ext s { s with toks := tk } := ⟨⟨_, _, rfl⟩, fun _ _ e => e⟩
theorem Ext.mk' {s : Shared} (h' : Heap) (tk : Nat) (k : ∀ b o, s.heap.get? b = some o → h'.get? b = some o) : Ext s { s with heap := h', toks := tk } := ⟨⟨_, _, rfl⟩, k⟩
theorem Ext.keeps {s s' : Shared} (x : Ext s s') : Keeps s s' := by
  obtain ⟨⟨h, t, rfl⟩, k⟩ := x; exact ⟨h, t, rfl, k⟩
theorem Ext.of {s s' : Shared} (x : Keeps s s') : Ext s s' := by
  obtain ⟨h, t, rfl, k⟩ := x; exact ⟨⟨h, t, rfl⟩, k⟩

/-- variables of a frame -/
noncomputable def Var (env : Env) (h : Heap) (x : Str) (v : Value) : Prop :=
  (env.kindOf x = some .local ∧ ∃ m, h.Ns env.locals m ∧ m x = some v) ∨
  ((env.kindOf x = some .cell ∨ env.kindOf x = some .free) ∧ ∃ c, env.cells.lookup x = some c ∧ h.IsCell c (some v))

structure FrOk (env : Env) (h : Heap) : Prop where
  fn : env.scope.kind = .function
  gl : env.globals = mainGlobals
  bl : env.builtins = builtinsNs
  ns : ∃ m, h.Ns env.locals m ∧ m "is_simple" = none
  cl : ∀ x c, env.cells.lookup x = some c → ∃ v, h.IsCell c v
  inj : ∀ x y c, env.cells.lookup x = some c → env.cells.lookup y = some c → x = y

noncomputable def Stor (env : Env) (W : List Str) (b : Addr) : Prop := b = env.locals ∨ ∃ x ∈ W, env.cells.lookup x = some b

theorem Var.keeps {env : Env} {h h' : Heap} {x : Str} {v : Value} (r : Var env h x v) (k : ∀ b o, h.get? b = some o → h'.get? b = some o) : Var env h' x v := by
  rcases r with ⟨hk, m, hn, hm⟩ | ⟨hk, c, hc, hv⟩
  · exact .inl ⟨hk, m, hn.keeps k, hm⟩
  · exact .inr ⟨hk, c, hc, hv.keeps k⟩
theorem FrOk.keeps {env : Env} {h h' : Heap} (r : FrOk env h) (k : ∀ b o, h.get? b = some o → h'.get? b = some o) : FrOk env h' :=
  ⟨r.fn, r.gl, r.bl, let ⟨m, hn, hs⟩ := r.ns; ⟨m, hn.keeps k, hs⟩, fun x c e => let ⟨v, hv⟩ := r.cl x c e; ⟨v, hv.keeps k⟩, r.inj⟩
theorem FrOk.notSeq {env : Env} {h : Heap} (r : FrOk env h) {W : List Str} {b : Addr} {o : Obj} (hb : Stor env W b) (e : h.get? b = some o) : ¬ isSeqObj o := by
  intro hq
  rcases hb with rfl | ⟨x, _, hx⟩
  · obtain ⟨m, ⟨o', es, ep, e', hd', _, hm⟩, hs⟩ := r.ns
    rw [e] at e'; cases e'
    rcases hq with ⟨its, n, hd⟩ | hd | ⟨es', n, v, hd, hf⟩
    · rw [hd] at hd'; cases hd'
    · rw [hd] at hd'; cases hd'
    · rw [hd] at hd'; cases hd'
      rw [hm, hs] at hf; cases hf
  · obtain ⟨v, o', e', hd'⟩ := r.cl x b hx
    rw [e] at e'; cases e'
    rcases hq with ⟨its, n, hd⟩ | hd | ⟨es', n, v, hd, hf⟩ <;> (rw [hd] at hd'; cases hd')
theorem FrOk.lt {env : Env} {h : Heap} (r : FrOk env h) {W : List Str} {b : Addr} (hb : Stor env W b) : b < h.objs.size := by
  rcases hb with rfl | ⟨x, _, hx⟩
  · obtain ⟨m, hn, _⟩ := r.ns; exact hn.lt
  · obtain ⟨v, o', e', hd'⟩ := r.cl x b hx; exact Heap.lt_size e'

/-- a place in a function: the base heap, what others hold and may not be met, the frame, its variables, the lists that it may turn -/
structure Cx where
  B : Heap
  env : Env
  W : List Str
  ρ : List (Str × PV)
  μ : List (Addr × List PV)

noncomputable abbrev Cx.O (Γ : Cx) : List Addr := Γ.μ.map (·.1)

structure Cx.Ok (Γ : Cx) (h : Heap) : Prop where
  base : ∀ b o, Γ.B.get? b = some o → h.get? b = some o
  fr : FrOk Γ.env h
  vars : ∀ x d, Γ.ρ.lookup x = some d → ∃ v, Var Γ.env h x v ∧ Rep Γ.O h v d
  mem : ∀ a ds, (a, ds) ∈ Γ.μ → ∃ vs, h.PlainList a vs.toArray ∧ Reps Γ.O h vs ds
  nd : Γ.O.Nodup
  out : ∀ b o, (Stor Γ.env Γ.W b ∨ b ∈ Γ.O) → Γ.B.get? b = some o → False

theorem Cx.Ok.keeps {Γ : Cx} {h h' : Heap} (r : Γ.Ok h) (k : ∀ b o, h.get? b = some o → h'.get? b = some o) : Γ.Ok h' :=
  ⟨fun b o e => k b o (r.base b o e), r.fr.keeps k, fun x d e => let ⟨v, hv, hr⟩ := r.vars x d e; ⟨v, hv.keeps k, hr.keeps k⟩,
    fun a ds e => let ⟨vs, hl, hr⟩ := r.mem a ds e; ⟨vs, hl.at fun o e => k _ o e, hr.keeps k⟩, r.nd, r.out⟩
theorem Cx.Ok.lt {Γ : Cx} {h : Heap} (r : Γ.Ok h) {a : Addr} (ha : a ∈ Γ.O) : a < h.objs.size := by
  obtain ⟨⟨a', ds⟩, hm, rfl⟩ := List.mem_map.mp ha
  obtain ⟨vs, ⟨n, e⟩, _⟩ := r.mem a' ds hm
  exact Heap.lt_size e
theorem Cx.Ok.fresh {Γ : Cx} {h : Heap} (r : Γ.Ok h) {a : Addr} (ha : h.objs.size ≤ a) : a ∉ Γ.O := fun q => absurd (r.lt q) (Nat.not_lt.mpr ha)

section
variable (prog : Program) (w : World) (A : Around) (Γ : Cx)

/-- the expression comes to d, and turns nothing that stood -/
noncomputable def Ev (e : Expr) (d : PV) : Prop :=
  ∀ (s : Shared) (Q : Value → Shared → Prop) (E : Value → Shared → Prop), Γ.Ok s.heap → (∀ v s', Ext s s' → Rep Γ.O s'.heap v d → Q v s') → wpAny (model prog w) A (eval e Γ.env) Q E s
noncomputable def Evs (es : List Expr) (ds : List PV) : Prop :=
  ∀ (s : Shared) (pos : Pos) (Q : List Value → Shared → Prop) (E : Value → Shared → Prop), Γ.Ok s.heap → (∀ vs s', Ext s s' → Reps Γ.O s'.heap vs ds → Q vs s') → wpAny (model prog w) A (spliced (backTo pos (starEach es Γ.env))) Q E s
noncomputable def Tr (e : Expr) (b : Bool) : Prop :=
  ∀ (s : Shared) (Q : Bool → Shared → Prop) (E : Value → Shared → Prop), Γ.Ok s.heap → (∀ s', Ext s s' → Q b s') → wpAny (model prog w) A (isTrue e Γ.env (eval e Γ.env)) Q E s

structure Kp (s s' : Shared) : Prop where
  as : ∃ h' tk, s' = { s with heap := h', toks := tk }
  get : ∀ b o, ¬ Stor Γ.env Γ.W b → b ∉ Γ.O → s.heap.get? b = some o → s'.heap.get? b = some o

/-- the statements run -/
noncomputable def X (ss : List Stmt) (R : Flow → Shared → Prop) : Prop :=
  ∀ (s : Shared) (Q : Flow → Shared → Prop) (E : Value → Shared → Prop), Γ.Ok s.heap → (∀ f s', Kp Γ s s' → R f s' → Q f s') → wpAny (model prog w) A (execs ss Γ.env) Q E s
end

end Mine

end
section
open PySem PySem.W PyProof.Rows PySem.Calls
set_option autoImplicit false
set_option linter.all false
namespace Mine
variable {prog : Program} {w : World} {A : Around} {Γ : Cx}

theorem Cx.Ok.step {s s' : Shared} (r : Γ.Ok s.heap) (k : Ext s s') : Γ.Ok s'.heap := r.keeps k.get

theorem Ev.int {i : Int} {k : Nat} {pos : Pos} : Ev prog w A Γ (.Constant (.int i) k pos) (.int i) := fun s Q E _ h =>
  wpAny_Constant_int (h _ _ (Ext.toks _) (.int i _))
theorem Ev.str {x : Str} {k : Nat} {pos : Pos} : Ev prog w A Γ (.Constant (.str x) k pos) (.str x) := fun s Q E _ h =>
  wpAny_Constant_str (h _ _ (Ext.toks _) (.str x _))
theorem Ev.bool {b : Bool} {k : Nat} {pos : Pos} : Ev prog w A Γ (.Constant (.bool b) k pos) (.bool b) := fun s Q E _ h =>
  wpAny_Constant_bool (h _ _ (Ext.refl _) (.bool b))
theorem Ev.none {k : Nat} {pos : Pos} : Ev prog w A Γ (.Constant .none k pos) .none := fun s Q E _ h =>
  wpAny_Constant_none (h _ _ (Ext.refl _) .none)

theorem wp_var {s : Shared} {Q : Value → Shared → Prop} {E : Value → Shared → Prop} {env : Env} {x : Str} {v : Value} (fr : env.scope.kind = .function) (hv : Var env s.heap x v) (h : Q v s)
    (hn : (x == ("__classdict__" : Str)) = false) : wpAny (model prog w) A (loadName env x) Q E s := by
  rcases hv with ⟨hk, m, hn, hm⟩ | ⟨hk | hk, c, hc, hv⟩
  · exact wpAny_loadName_local fr hk hn hm h
  · exact wpAny_loadName_cell fr hk hc hv h
  · exact wpAny_loadName_free fr hk hc hv h hn

theorem Ev.name {x : Str} {pos : Pos} {d : PV} (hx : Γ.ρ.lookup x = some d) (hd : (x == ("__debug__" : Str)) = false := by decide) (hn : (x == ("__classdict__" : Str)) = false := by decide) :
    Ev prog w A Γ (.Name x pos) d := fun s Q E ok h => by
  obtain ⟨v, hv, hr⟩ := ok.vars x d hx
  exact wpAny_Name (wp_var ok.fr.fn hv (h v s (Ext.refl _) hr) hn) hd

theorem Evs.nil : Evs prog w A Γ [] [] := fun s pos Q E _ h => wpAny_items_nil (h _ _ (Ext.refl _) Reps.nil)
theorem Evs.cons {e : Expr} {es : List Expr} {d : PV} {ds : List PV} (h1 : Ev prog w A Γ e d) (h2 : Evs prog w A Γ es ds) (he : starEach (e :: es) Γ.env = (false, eval e Γ.env) :: starEach es Γ.env := by rfl) :
    Evs prog w A Γ (e :: es) (d :: ds) := fun s pos Q E ok h =>
  wpAny_items_cons (h1 s _ _ ok fun v s₁ k₁ r₁ => h2 s₁ pos _ _ (ok.step k₁) fun vs s₂ k₂ rs => h _ _ (k₁.trans k₂) (Reps.cons (r₁.keeps k₂.get) rs)) he

theorem isList_push (h : Heap) (vs : List Value) : (h.push { cls := .type "list", data := .seq vs.toArray }).IsList h.objs.size vs.toArray := ⟨_, Heap.get?_push_size _ rfl, rfl, _, rfl⟩
theorem plainList_push (h : Heap) (vs : List Value) : (h.push { cls := .type "list", data := .seq vs.toArray }).PlainList h.objs.size vs.toArray := ⟨_, Heap.get?_push_size _ rfl⟩
theorem isTuple_push (h : Heap) (vs : List Value) : (h.push { cls := .type "tuple", data := .seq vs.toArray }).IsTuple h.objs.size vs.toArray := ⟨_, Heap.get?_push_size _ rfl, rfl, _, rfl⟩

theorem Ev.list {es : List Expr} {pos : Pos} {ds : List PV} (h1 : Evs prog w A Γ es ds) (hz : ds.length ≤ sizeLine := by first | decide | simp [sizeLine]) : Ev prog w A Γ (.List es pos) (.list ds) := fun s Q E ok h =>
  wpAny_List (h1 s pos _ _ ok fun vs s₁ k₁ rs => ⟨by rw [rs.len]; exact hz, h _ _ (k₁.trans (Ext.push _ _))
    (Rep.mkList ((ok.step k₁).fresh (Nat.le_refl _)) (plainList_push _ _) (rs.keeps fun _ _ e => Heap.get?_push_of_some _ e))⟩)
theorem Ev.tup {es : List Expr} {k : Nat} {pos : Pos} {ds : List PV} (h1 : Evs prog w A Γ es ds) (hz : ds.length ≤ sizeLine := by first | decide | simp [sizeLine]) : Ev prog w A Γ (.Tuple es k pos) (.tup ds) := fun s Q E ok h =>
  wpAny_Tuple (h1 s pos _ _ ok fun vs s₁ k₁ rs => ⟨by rw [rs.len]; exact hz, h _ _ (k₁.trans (Ext.push _ _))
    (Rep.mkTup ((ok.step k₁).fresh (Nat.le_refl _)) (isTuple_push _ _) (rs.keeps fun _ _ e => Heap.get?_push_of_some _ e))⟩)

/-- a binary operation upon data -/
noncomputable def BOp (prog : Program) (w : World) (A : Around) (Γ : Cx) (op : Operator) (d1 d2 d : PV) : Prop :=
  ∀ (s : Shared) (v1 v2 : Value) (Q : Value → Shared → Prop) (E : Value → Shared → Prop), Γ.Ok s.heap → Rep Γ.O s.heap v1 d1 → Rep Γ.O s.heap v2 d2 →
    (∀ v s', Ext s s' → Rep Γ.O s'.heap v d → Q v s') → wpAny (model prog w) A (binaryOp op v1 v2) Q E s
noncomputable def COp (prog : Program) (w : World) (A : Around) (Γ : Cx) (op : CmpOp) (d1 d2 : PV) (b : Bool) : Prop :=
  ∀ (s : Shared) (v1 v2 : Value) (Q : Value → Shared → Prop) (E : Value → Shared → Prop), Γ.Ok s.heap → Rep Γ.O s.heap v1 d1 → Rep Γ.O s.heap v2 d2 →
    (∀ s', Ext s s' → Q (.bool b) s') → wpAny (model prog w) A (compareOp op v1 v2) Q E s

theorem Ev.bin {e1 e2 : Expr} {op : Operator} {pos : Pos} {d1 d2 d : PV} (h1 : Ev prog w A Γ e1 d1) (h2 : Ev prog w A Γ e2 d2) (ho : BOp prog w A Γ op d1 d2 d) : Ev prog w A Γ (.BinOp e1 op e2 pos) d := fun s Q E ok h =>
  wpAny_BinOp (h1 s _ _ ok fun v1 s₁ k₁ r₁ => h2 s₁ _ _ (ok.step k₁) fun v2 s₂ k₂ r₂ => ho s₂ v1 v2 _ _ ((ok.step k₁).step k₂) (r₁.keeps k₂.get) r₂ fun v s' k r => h v s' ((k₁.trans k₂).trans k) r)
theorem Ev.cmp {e1 e2 : Expr} {op : CmpOp} {pos : Pos} {d1 d2 : PV} {b : Bool} (h1 : Ev prog w A Γ e1 d1) (h2 : Ev prog w A Γ e2 d2) (ho : COp prog w A Γ op d1 d2 b) (hm : behindInMarks op e2 = false := by with_unfolding_all rfl) :
    Ev prog w A Γ (.Compare e1 [op] [e2] pos) (.bool b) := fun s Q E ok h =>
  wpAny_Compare1 (h1 s _ _ ok fun v1 s₁ k₁ r₁ => h2 s₁ _ _ (ok.step k₁) fun v2 s₂ k₂ r₂ => ho s₂ v1 v2 _ _ ((ok.step k₁).step k₂) (r₁.keeps k₂.get) r₂ fun s' k => h _ s' ((k₁.trans k₂).trans k) (.bool b)) hm
theorem Tr.cmp {e1 e2 : Expr} {op : CmpOp} {pos : Pos} {d1 d2 : PV} {b : Bool} (h1 : Ev prog w A Γ e1 d1) (h2 : Ev prog w A Γ e2 d2) (ho : COp prog w A Γ op d1 d2 b) (hm : behindInMarks op e2 = false := by with_unfolding_all rfl) :
    Tr prog w A Γ (.Compare e1 [op] [e2] pos) b := fun s Q E ok h =>
  wpAny_isTrue_Compare1 (h1 s _ _ ok fun v1 s₁ k₁ r₁ => h2 s₁ _ _ (ok.step k₁) fun v2 s₂ k₂ r₂ => ho s₂ v1 v2 _ _ ((ok.step k₁).step k₂) (r₁.keeps k₂.get) r₂ fun s' k => wpAny_truthy_bool (h s' ((k₁.trans k₂).trans k))) hm
theorem Tr.not {e : Expr} {pos : Pos} {b : Bool} (h1 : Tr prog w A Γ e b) : Tr prog w A Γ (.UnaryOp .Not e pos) (!b) := fun s Q E ok h =>
  isTrue_not (h1 s _ _ ok fun s' k => h s' k)
theorem Tr.plain {e : Expr} {b : Bool} (h1 : Ev prog w A Γ e (.bool b)) (he : isTrue e Γ.env (eval e Γ.env) = (do let v ← eval e Γ.env; standAt e.pos; holding [v] (truthy v)) := by rfl) : Tr prog w A Γ e b := fun s Q E ok h =>
  isTrue_plain (h1 s _ _ ok fun v s' k r => by rw [r.bool_inv]; exact wpAny_truthy_bool (h s' k)) he
theorem Tr.or_nil {pos : Pos} : Tr prog w A Γ (.BoolOp .Or [] pos) false := fun s Q E ok h => isTrue_or_nil (h s (Ext.refl _))
theorem Tr.and_nil {pos : Pos} : Tr prog w A Γ (.BoolOp .And [] pos) true := fun s Q E ok h => isTrue_and_nil (h s (Ext.refl _))
theorem isTrue_boolop_whole (op : BoolOp) (es : List Expr) (pos : Pos) (env : Env) (u v : Sem Value) : isTrue (.BoolOp op es pos) env u = isTrue (.BoolOp op es pos) env v := by
  rw [arm_isTrue_BoolOp, arm_isTrue_BoolOp]
theorem Tr.or {e : Expr} {es : List Expr} {pos : Pos} {b c : Bool} (h1 : Tr prog w A Γ e b) (h2 : b = false → Tr prog w A Γ (.BoolOp .Or es pos) c) : Tr prog w A Γ (.BoolOp .Or (e :: es) pos) (b || c) := fun s Q E ok h =>
  isTrue_or (h1 s _ _ ok fun s' k => by
    cases b with
    | true => exact h s' k
    | false =>
      simp only [Bool.false_eq_true, if_false]
      rw [isTrue_boolop_whole _ _ _ _ _ (eval (.BoolOp .Or es pos) Γ.env)]
      exact h2 rfl s' _ _ (ok.step k) fun s'' k' => h s'' (k.trans k'))
theorem Tr.and {e : Expr} {es : List Expr} {pos : Pos} {b c : Bool} (h1 : Tr prog w A Γ e b) (h2 : b = true → Tr prog w A Γ (.BoolOp .And es pos) c) : Tr prog w A Γ (.BoolOp .And (e :: es) pos) (b && c) := fun s Q E ok h =>
  isTrue_and (h1 s _ _ ok fun s' k => by
    cases b with
    | false => exact h s' k
    | true =>
      simp only [if_true]
      rw [isTrue_boolop_whole _ _ _ _ _ (eval (.BoolOp .And es pos) Γ.env)]
      exact h2 rfl s' _ _ (ok.step k) fun s'' k' => h s'' (k.trans k'))
theorem Ev.ifexp {t a b : Expr} {pos : Pos} {c : Bool} {d : PV} (ht : Tr prog w A Γ t c) (h1 : c = true → Ev prog w A Γ a d) (h2 : c = false → Ev prog w A Γ b d) : Ev prog w A Γ (.IfExp t a b pos) d := fun s Q E ok h =>
  IfExp_ (ht s _ _ ok fun s' k => by
    cases c with
    | true => exact h1 rfl s' _ _ (ok.step k) fun v s'' k' r => h v s'' (k.trans k') r
    | false => exact h2 rfl s' _ _ (ok.step k) fun v s'' k' r => h v s'' (k.trans k') r)
theorem Ev.not {e : Expr} {pos : Pos} {b : Bool} (h1 : Ev prog w A Γ e (.bool b)) : Ev prog w A Γ (.UnaryOp .Not e pos) (.bool (!b)) := fun s Q E ok h =>
  UnaryOp_ (h1 s _ _ ok fun v s' k r => by rw [r.bool_inv]; exact not_of (wpAny_truthy_bool (h _ s' k (.bool _))))
theorem Ev.neg {e : Expr} {pos : Pos} {i : Int} (h1 : Ev prog w A Γ e (.int i)) : Ev prog w A Γ (.UnaryOp .USub e pos) (.int (-i)) := fun s Q E ok h =>
  UnaryOp_ (h1 s _ _ ok fun v s' k r => by obtain ⟨t, rfl⟩ := r.int_inv; exact neg_int (h _ _ (k.trans (Ext.toks _)) (.int _ _)))

theorem BOp.add {a b : Int} : BOp prog w A Γ .Add (.int a) (.int b) (.int (a + b)) := fun s v1 v2 Q E _ r1 r2 h => by
  obtain ⟨t, rfl⟩ := r1.int_inv; obtain ⟨u, rfl⟩ := r2.int_inv
  exact add_int (h _ _ (Ext.toks _) (.int _ _))
theorem BOp.sub {a b : Int} : BOp prog w A Γ .Sub (.int a) (.int b) (.int (a - b)) := fun s v1 v2 Q E _ r1 r2 h => by
  obtain ⟨t, rfl⟩ := r1.int_inv; obtain ⟨u, rfl⟩ := r2.int_inv
  exact PyProof.Rows.sub_int (h _ _ (Ext.toks _) (.int _ _))
theorem BOp.mod {a b : Int} (hb : b ≠ 0) : BOp prog w A Γ .Mod (.int a) (.int b) (.int (a.fmod b)) := fun s v1 v2 Q E _ r1 r2 h => by
  obtain ⟨t, rfl⟩ := r1.int_inv; obtain ⟨u, rfl⟩ := r2.int_inv
  exact mod_int' hb (h _ _ (Ext.toks _) (.int _ _))
theorem BOp.fdiv {a b : Int} (hb : b ≠ 0) (hp : Builtin.divisionGoesByPylong a b = false) : BOp prog w A Γ .FloorDiv (.int a) (.int b) (.int (a.fdiv b)) := fun s v1 v2 Q E _ r1 r2 h => by
  obtain ⟨t, rfl⟩ := r1.int_inv; obtain ⟨u, rfl⟩ := r2.int_inv
  exact floordiv_int hb (h _ _ (Ext.toks _) (.int _ _)) (.inl hp)
theorem BOp.mul {a b : Int} (hm : IntMulOk a b) : BOp prog w A Γ .Mult (.int a) (.int b) (.int (a * b)) := fun s v1 v2 Q E _ r1 r2 h => by
  obtain ⟨t, rfl⟩ := r1.int_inv; obtain ⟨u, rfl⟩ := r2.int_inv
  exact PyProof.Rows.mul_int (h _ _ (Ext.toks _) (.int _ _)) hm
theorem BOp.addStr {a b : Str} (hz : a.length + b.length ≤ sizeLine) : BOp prog w A Γ .Add (.str a) (.str b) (.str (a ++ b)) := fun s v1 v2 Q E _ r1 r2 h => by
  obtain ⟨t, rfl⟩ := r1.str_inv; obtain ⟨u, rfl⟩ := r2.str_inv
  exact add_str (fun t' tk => h _ _ (Ext.toks _) (.str _ _)) hz

theorem COp.lt {a b : Int} : COp prog w A Γ .Lt (.int a) (.int b) (decide (a < b)) := fun s v1 v2 Q E _ r1 r2 h => by
  obtain ⟨t, rfl⟩ := r1.int_inv; obtain ⟨u, rfl⟩ := r2.int_inv
  exact PyProof.Rows.lt_int (h _ (Ext.refl _))
theorem COp.le {a b : Int} : COp prog w A Γ .LtE (.int a) (.int b) (decide (a ≤ b)) := fun s v1 v2 Q E _ r1 r2 h => by
  obtain ⟨t, rfl⟩ := r1.int_inv; obtain ⟨u, rfl⟩ := r2.int_inv
  exact PyProof.Rows.le_int (h _ (Ext.refl _))
theorem COp.gt {a b : Int} : COp prog w A Γ .Gt (.int a) (.int b) (decide (b < a)) := fun s v1 v2 Q E _ r1 r2 h => by
  obtain ⟨t, rfl⟩ := r1.int_inv; obtain ⟨u, rfl⟩ := r2.int_inv
  exact PyProof.Rows.gt_int (h _ (Ext.refl _))
theorem COp.ge {a b : Int} : COp prog w A Γ .GtE (.int a) (.int b) (decide (b ≤ a)) := fun s v1 v2 Q E _ r1 r2 h => by
  obtain ⟨t, rfl⟩ := r1.int_inv; obtain ⟨u, rfl⟩ := r2.int_inv
  exact PyProof.Rows.ge_int (h _ (Ext.refl _))
theorem COp.eq {a b : Int} : COp prog w A Γ .Eq (.int a) (.int b) (decide (a = b)) := fun s v1 v2 Q E _ r1 r2 h => by
  obtain ⟨t, rfl⟩ := r1.int_inv; obtain ⟨u, rfl⟩ := r2.int_inv
  refine eq_int ?_
  rw [show (a == b) = decide (a = b) from rfl]
  exact h _ (Ext.refl _)
theorem COp.ne {a b : Int} : COp prog w A Γ .NotEq (.int a) (.int b) (!decide (a = b)) := fun s v1 v2 Q E _ r1 r2 h => by
  obtain ⟨t, rfl⟩ := r1.int_inv; obtain ⟨u, rfl⟩ := r2.int_inv
  refine PyProof.Rows.ne_int ?_
  rw [show (a != b) = !decide (a = b) from rfl]
  exact h _ (Ext.refl _)
theorem COp.ltb {p q : Bool} : COp prog w A Γ .Lt (.bool p) (.bool q) (!p && q) := fun s v1 v2 Q E _ r1 r2 h => by
  rw [r1.bool_inv, r2.bool_inv]
  refine PyProof.Rows.lt_bool ?_
  have e : decide (b2i p < b2i q) = (!p && q) := by cases p <;> cases q <;> rfl
  rw [e]; exact h _ (Ext.refl _)
theorem COp.eqs {a b : Str} : COp prog w A Γ .Eq (.str a) (.str b) (decide (a = b)) := fun s v1 v2 Q E _ r1 r2 h => by
  obtain ⟨t, rfl⟩ := r1.str_inv; obtain ⟨u, rfl⟩ := r2.str_inv
  refine eq_str ?_
  rw [show (a == b) = decide (a = b) from by rw [Bool.eq_iff_iff]; simp]
  exact h _ (Ext.refl _)
theorem COp.isNone {d : PV} {b : Bool} (hd : (d = .none ∧ b = true) ∨ (d ≠ .none ∧ b = false)) : COp prog w A Γ .Is d .none b := fun s v1 v2 Q E _ r1 r2 h => by
  rw [r2.none_inv]
  refine is_none ?_
  have e : (v1 == Value.none) = b := by
    rcases hd with ⟨rfl, rfl⟩ | ⟨hd, rfl⟩
    · rw [r1.none_inv]; rfl
    · cases r1 <;> first | rfl | exact absurd rfl hd
  rw [e]; exact h _ (Ext.refl _)
end Mine

end
section
open PySem PySem.W PyProof.Rows PySem.Calls
set_option autoImplicit false
set_option linter.all false
namespace Mine
variable {prog : Program} {w : World} {A : Around} {Γ : Cx}

theorem ns_unique {h : Heap} {a : Addr} {m m' : Str → Option Value} (x : h.Ns a m) (y : h.Ns a m') : m = m' := by
  obtain ⟨o, es, ep, e, hd, _, hm⟩ := x
  obtain ⟨o', es', ep', e', hd', _, hm'⟩ := y
  rw [e] at e'; cases e'; rw [hd] at hd'; cases hd'
  funext n; rw [← hm, ← hm']

noncomputable def Cx.set (Γ : Cx) (x : Str) (d : PV) : Cx := { Γ with ρ := (x, d) :: Γ.ρ }
theorem Cx.set_env (Γ : Cx) (x : Str) (d : PV) : (Γ.set x d).env = Γ.env := rfl
theorem Cx.set_O (Γ : Cx) (x : Str) (d : PV) : (Γ.set x d).O = Γ.O := rfl

noncomputable def storable (env : Env) (W : List Str) (x : Str) : Bool := match env.kindOf x with
  | some .local => x != ("is_simple" : Str)
  | some .cell => (env.cells.lookup x).isSome && W.contains x
  | _ => false

theorem Kp.refl (s : Shared) : Kp Γ s s := ⟨⟨_, _, rfl⟩, fun _ _ _ _ e => e⟩
theorem Kp.trans {Γ' : Cx} {s s' s'' : Shared} (he : Γ'.env = Γ.env) (hW : Γ'.W = Γ.W) (hO : Γ'.O = Γ.O) (x : Kp Γ s s') (y : Kp Γ' s' s'') : Kp Γ s s'' := by
  obtain ⟨⟨h, t, rfl⟩, k⟩ := x; obtain ⟨⟨h', t', rfl⟩, k'⟩ := y
  exact ⟨⟨h', t', rfl⟩, fun b o hs hO' e => k' b o (by rw [he, hW]; exact hs) (hO ▸ hO') (k b o hs hO' e)⟩
theorem Ext.kp {s s' : Shared} (x : Ext s s') : Kp Γ s s' := ⟨x.as, fun b o _ _ e => x.get b o e⟩

/-- nothing but the frame's own storage is turned -/
structure KpS (Γ : Cx) (s s' : Shared) : Prop where
  as : ∃ h' tk, s' = { s with heap := h', toks := tk }
  get : ∀ b o, ¬ Stor Γ.env Γ.W b → s.heap.get? b = some o → s'.heap.get? b = some o
theorem KpS.kp {s s' : Shared} (x : KpS Γ s s') : Kp Γ s s' := ⟨x.as, fun b o h _ e => x.get b o h e⟩

theorem Cx.Ok.turn {h h' : Heap} {c : Addr} (ok : Γ.Ok h) (hc : Stor Γ.env Γ.W c) (hs : Heap.SameBut c h h') (fr : FrOk Γ.env h') (ρ' : List (Str × PV))
    (hv : ∀ x d, ρ'.lookup x = some d → ∃ v, Var Γ.env h' x v ∧ Rep Γ.O h v d) : ({ Γ with ρ := ρ' } : Cx).Ok h' := by
  have hseq : ∀ b o, isSeqObj o → h.get? b = some o → h'.get? b = some o := fun b o hq e =>
    (hs.2 b (by rintro rfl; exact ok.fr.notSeq hc e hq)).trans e
  refine ⟨fun b o e => (hs.2 b (by rintro rfl; exact ok.out _ _ (.inl hc) e)).trans (ok.base b o e), fr, fun x d e => ?_, fun a ds e => ?_, ok.nd, ok.out⟩
  · obtain ⟨v, h1, h2⟩ := hv x d e
    exact ⟨v, h1, h2.mono (fun _ x => x) fun b o _ hq e => hseq b o hq e⟩
  · obtain ⟨vs, hl, hr⟩ := ok.mem a ds e
    exact ⟨vs, hl.at fun o e => by
      obtain ⟨n, e'⟩ := hl
      rw [e'] at e; cases e
      exact hseq _ _ (.inl ⟨_, _, rfl⟩) e', hr.mono (fun _ x => x) fun b o _ hq e => hseq b o hq e⟩

theorem wp_store {s : Shared} {x : Str} {v : Value} {d : PV} {Q : Unit → Shared → Prop} {E : Value → Shared → Prop} (ok : Γ.Ok s.heap) (r : Rep Γ.O s.heap v d) (hx : storable Γ.env Γ.W x = true)
    (h : ∀ s', (Γ.set x d).Ok s'.heap → KpS Γ s s' → Q () s') : wpAny (model prog w) A (storeName Γ.env x v) Q E s := by
  unfold storable at hx
  split at hx
  · rename_i hk
    obtain ⟨m, hn, hsim⟩ := ok.fr.ns
    have hxs : x ≠ ("is_simple" : Str) := by simpa using hx
    refine wpAny_storeName_local hk hn (fun h' hn' hs => ?_) (by rw [ok.fr.fn]; rfl)
    have fr' : FrOk Γ.env h' := ⟨ok.fr.fn, ok.fr.gl, ok.fr.bl, ⟨_, hn', by rw [if_neg (Ne.symm hxs)]; exact hsim⟩, fun y c e => by
      obtain ⟨u, o, e1, e2⟩ := ok.fr.cl y c e
      refine ⟨u, o, (hs.2 c ?_).trans e1, e2⟩
      rintro rfl
      obtain ⟨o', es, ep, e3, e4, _⟩ := hn
      rw [e1] at e3; cases e3; rw [e2] at e4; exact absurd e4 (fun q => by cases q), ok.fr.inj⟩
    refine h _ (ok.turn (.inl rfl) hs fr' _ fun y e hy => ?_) ⟨⟨_, _, rfl⟩, fun b o hb e => (hs.2 b fun q => hb (.inl q)).trans e⟩
    rw [List.lookup_cons] at hy
    cases hyx : y == x with
    | true =>
      rw [hyx] at hy; cases hy
      have := eq_of_beq hyx; subst this
      exact ⟨v, .inl ⟨hk, _, hn', by simp⟩, r⟩
    | false =>
      rw [hyx] at hy
      obtain ⟨u, hu, hr⟩ := ok.vars y e hy
      refine ⟨u, ?_, hr⟩
      rcases hu with ⟨k1, m1, n1, q1⟩ | ⟨k1, c, hc, o, e1, e2⟩
      · refine .inl ⟨k1, _, hn', ?_⟩
        have hne : ¬ y = x := fun q => by rw [q] at hyx; simp at hyx
        show (if y = x then some v else m y) = some u
        rw [if_neg hne, ns_unique hn n1]; exact q1
      · refine .inr ⟨k1, c, hc, o, (hs.2 c ?_).trans e1, e2⟩
        rintro rfl
        obtain ⟨o', es, ep, e3, e4, _⟩ := hn
        rw [e1] at e3; cases e3; rw [e2] at e4; cases e4
  · rename_i hk
    obtain ⟨hx, hW⟩ := (Bool.and_eq_true _ _ ▸ hx : _ ∧ _)
    have hW : x ∈ Γ.W := List.contains_iff_mem.mp hW
    obtain ⟨c, hc⟩ := Option.isSome_iff_exists.mp hx
    obtain ⟨v₀, hv₀⟩ := ok.fr.cl x c hc
    obtain ⟨m, hn, hsim⟩ := ok.fr.ns
    refine wpAny_storeName_cell ok.fr.fn hk hc hv₀ fun h' hv' hs => ?_
    have hL : Γ.env.locals ≠ c := by
      rintro hq
      obtain ⟨o', es, ep, e3, e4, _⟩ := hn
      obtain ⟨o, e1, e2⟩ := hv₀
      rw [hq, e1] at e3; cases e3; rw [e2] at e4; cases e4
    have hn' := hn.sameBut hs hL
    have fr' : FrOk Γ.env h' := ⟨ok.fr.fn, ok.fr.gl, ok.fr.bl, ⟨_, hn', hsim⟩, fun y c' e => by
      by_cases hq : c' = c
      · subst hq; exact ⟨_, hv'⟩
      · obtain ⟨u, o, e1, e2⟩ := ok.fr.cl y c' e
        exact ⟨u, o, (hs.2 c' hq).trans e1, e2⟩, ok.fr.inj⟩
    refine h { s with heap := h' } (ok.turn (.inr ⟨x, hW, hc⟩) hs fr' _ fun y e hy => ?_) ⟨⟨_, _, rfl⟩, fun b o hb e => (hs.2 b fun q => hb (.inr ⟨x, hW, by rw [q]; exact hc⟩)).trans e⟩
    rw [List.lookup_cons] at hy
    cases hyx : y == x with
    | true =>
      rw [hyx] at hy; cases hy
      have := eq_of_beq hyx; subst this
      exact ⟨v, .inr ⟨.inl hk, c, hc, hv'⟩, r⟩
    | false =>
      rw [hyx] at hy
      obtain ⟨u, hu, hr⟩ := ok.vars y e hy
      refine ⟨u, ?_, hr⟩
      rcases hu with ⟨k1, m1, n1, q1⟩ | ⟨k1, c', hc', o, e1, e2⟩
      · exact .inl ⟨k1, m1, n1.sameBut hs hL, q1⟩
      · refine .inr ⟨k1, c', hc', o, (hs.2 c' ?_).trans e1, e2⟩
        rintro rfl
        have := ok.fr.inj _ _ _ hc' hc
        subst this; simp at hyx
  · cases hx

/-- one statement -/
noncomputable def S (prog : Program) (w : World) (A : Around) (Γ : Cx) (st : Stmt) (R : Flow → Shared → Prop) : Prop :=
  ∀ (s : Shared) (Q : Flow → Shared → Prop) (E : Value → Shared → Prop), Γ.Ok s.heap → (∀ f s', Kp Γ s s' → R f s' → Q f s') → wpAny (model prog w) A (exec st Γ.env) Q E s

noncomputable def Nx (Γ' : Cx) : Flow → Shared → Prop := fun f s => f = .next ∧ Γ'.Ok s.heap

theorem S.assign {x : Str} {p pos : Pos} {e : Expr} {d : PV} (h1 : Ev prog w A Γ e d) (hx : storable Γ.env Γ.W x = true := by rfl) (hs : swapsWith e (some (.Name x p)) pos.line Γ.env = pure false := by rfl) :
    S prog w A Γ (.Assign [.Name x p] e pos) (Nx (Γ.set x d)) := fun s Q E ok h =>
  wpAny_Assign_Name (h1 s _ _ ok fun v s₁ k₁ r₁ => wp_store (ok.step k₁) r₁ hx fun s' ok' kp => h _ _ (Kp.trans rfl rfl rfl k₁.kp kp.kp) ⟨rfl, ok'⟩) hs

theorem X.nil {R : Flow → Shared → Prop} (h : ∀ s, Γ.Ok s.heap → R .next s) : X prog w A Γ [] R := fun s Q E ok k => wpAny_execs_nil (k _ _ (Kp.refl _) (h s ok))
theorem X.cons {st : Stmt} {rest : List Stmt} {R R₁ : Flow → Shared → Prop} (h1 : S prog w A Γ st R₁)
    (h2 : ∀ s', R₁ .next s' → ∃ Γ', Γ'.env = Γ.env ∧ Γ'.W = Γ.W ∧ Γ'.O = Γ.O ∧ Γ'.Ok s'.heap ∧ X prog w A Γ' rest R) (h3 : ∀ f s', f ≠ .next → R₁ f s' → R f s') : X prog w A Γ (st :: rest) R := fun s Q E ok k =>
  wpAny_execs_cons (h1 s _ _ ok fun f s' kp r => by
    cases f with
    | next =>
      obtain ⟨Γ', he, hW, hO, ok', hX⟩ := h2 s' r
      have := hX s' Q E ok' fun f s'' kp' r' => k f s'' (Kp.trans he hW hO kp kp') r'
      rw [he] at this; exact this
    | brk => exact k _ _ kp (h3 _ _ (by intro q; cases q) r)
    | cont => exact k _ _ kp (h3 _ _ (by intro q; cases q) r)
    | ret v => exact k _ _ kp (h3 _ _ (by intro q; cases q) r))
theorem X.step {st : Stmt} {rest : List Stmt} {R : Flow → Shared → Prop} {Γ' : Cx} (h1 : S prog w A Γ st (Nx Γ')) (h2 : X prog w A Γ' rest R) (he : Γ'.env = Γ.env := by rfl) (hW : Γ'.W = Γ.W := by rfl) (hO : Γ'.O = Γ.O := by rfl) : X prog w A Γ (st :: rest) R :=
  X.cons h1 (fun s' r => ⟨Γ', he, hW, hO, r.2, h2⟩) fun f s' hf r => absurd r.1 hf
theorem X.weak {ss : List Stmt} {R : Flow → Shared → Prop} {Γ' : Cx} (h : X prog w A Γ' ss R) (hok : ∀ hp, Γ.Ok hp → Γ'.Ok hp) (he : Γ'.env = Γ.env := by rfl) (hW : Γ'.W = Γ.W := by rfl) (hO : Γ'.O = Γ.O := by rfl) : X prog w A Γ ss R := fun s Q E ok k => by
  have := h s Q E (hok _ ok) fun f s' kp r => k f s' ⟨kp.as, fun b o h1 h2 e => kp.get b o (by rw [he, hW]; exact h1) (hO ▸ h2) e⟩ r
  rw [he] at this; exact this
theorem X.mono {ss : List Stmt} {R R' : Flow → Shared → Prop} (h : X prog w A Γ ss R) (hR : ∀ f s, R f s → R' f s) : X prog w A Γ ss R' := fun s Q E ok k => h s Q E ok fun f s' kp r => k f s' kp (hR _ _ r)

theorem X.ret {e : Expr} {pos : Pos} {rest : List Stmt} {d : PV} {R : Flow → Shared → Prop} (h1 : Ev prog w A Γ e d) (h2 : ∀ v s', Γ.Ok s'.heap → Rep Γ.O s'.heap v d → R (.ret v) s') : X prog w A Γ (.Return (some e) pos :: rest) R := fun s Q E ok k =>
  wpAny_execs_cons (wpAny_Return_some (h1 s _ _ ok fun v s' k' r => k _ _ k'.kp (h2 v s' (ok.step k') r)))
theorem X.brk {pos : Pos} {rest : List Stmt} {R : Flow → Shared → Prop} (h2 : ∀ s', Γ.Ok s'.heap → R .brk s') : X prog w A Γ (.Break pos :: rest) R := fun s Q E ok k =>
  wpAny_execs_cons (by rw [show exec (.Break pos) Γ.env = (do standAt pos; pure .brk) from rfl]; exact wpAny_bind (wpAny_standAt (wpAny_pure (k _ _ (Kp.refl _) (h2 s ok)))))

theorem S.ifs {t : Expr} {body orelse : List Stmt} {pos : Pos} {b : Bool} {R : Flow → Shared → Prop} (ht : Tr prog w A Γ t b) (h1 : b = true → X prog w A Γ body R) (h2 : b = false → X prog w A Γ orelse R) :
    S prog w A Γ (.If t body orelse pos) R := fun s Q E ok k =>
  wpAny_If (ht s _ _ ok fun s' k' => by
    cases b with
    | true => exact h1 rfl s' _ _ (ok.step k') fun f s'' kp r => k f s'' (Kp.trans rfl rfl rfl k'.kp kp) r
    | false => exact h2 rfl s' _ _ (ok.step k') fun f s'' kp r => k f s'' (Kp.trans rfl rfl rfl k'.kp kp) r)
theorem X.ifJ {t : Expr} {body orelse rest : List Stmt} {pos : Pos} {b : Bool} {R : Flow → Shared → Prop} {Γ' : Cx} (ht : Tr prog w A Γ t b) (h1 : b = true → X prog w A Γ body (Nx Γ')) (h2 : b = false → X prog w A Γ orelse (Nx Γ'))
    (h3 : X prog w A Γ' rest R) (he : Γ'.env = Γ.env := by rfl) (hW : Γ'.W = Γ.W := by rfl) (hO : Γ'.O = Γ.O := by rfl) : X prog w A Γ (.If t body orelse pos :: rest) R :=
  X.step (S.ifs ht h1 h2) h3 he hW hO
theorem X.ifF {t : Expr} {body rest : List Stmt} {pos : Pos} {R : Flow → Shared → Prop} (ht : Tr prog w A Γ t false) (h3 : X prog w A Γ rest R) : X prog w A Γ (.If t body [] pos :: rest) R :=
  X.ifJ ht (fun q => by cases q) (fun _ => X.nil fun s ok => ⟨rfl, ok⟩) h3
theorem X.ifT {t : Expr} {body orelse rest : List Stmt} {pos : Pos} {R : Flow → Shared → Prop} {Γ' : Cx} (ht : Tr prog w A Γ t true) (h1 : X prog w A Γ body (Nx Γ')) (h3 : X prog w A Γ' rest R) (he : Γ'.env = Γ.env := by rfl) (hW : Γ'.W = Γ.W := by rfl) (hO : Γ'.O = Γ.O := by rfl) :
    X prog w A Γ (.If t body orelse pos :: rest) R := X.ifJ ht (fun _ => h1) (fun q => by cases q) h3 he hW hO
/-- an if whose body leaves, the rest goes on without it -/
theorem X.ifRet {t : Expr} {body rest : List Stmt} {pos : Pos} {b : Bool} {R : Flow → Shared → Prop} (ht : Tr prog w A Γ t b) (h1 : b = true → X prog w A Γ body (fun f s => f ≠ .next ∧ R f s)) (h3 : b = false → X prog w A Γ rest R) :
    X prog w A Γ (.If t body [] pos :: rest) R := by
  cases b with
  | true => exact X.cons (S.ifs ht (fun _ => h1 rfl) (fun q => by cases q)) (fun s' r => absurd rfl r.1) fun f s' hf r => r.2
  | false => exact X.ifF ht (h3 rfl)

theorem Cx.Ok.sub {h : Heap} (ok : Γ.Ok h) (ρ' : List (Str × PV)) (hs : ∀ x d, ρ'.lookup x = some d → Γ.ρ.lookup x = some d) : ({ Γ with ρ := ρ' } : Cx).Ok h :=
  ⟨ok.base, ok.fr, fun x d e => ok.vars x d (hs x d e), ok.mem, ok.nd, ok.out⟩
theorem lookup_sub {ρ ρ' : List (Str × PV)} (h : ∀ p ∈ ρ', ρ.lookup p.1 = some p.2) : ∀ x d, ρ'.lookup x = some d → ρ.lookup x = some d := fun x d e => h (x, d) (PySem.mem_of_lookup e)
end Mine
namespace Mine
variable {prog : Program} {w : World} {A : Around} {Γ : Cx}
theorem X.one {st : Stmt} {R : Flow → Shared → Prop} (h : S prog w A Γ st R) : X prog w A Γ [st] R := fun s Q E ok k =>
  wpAny_execs_cons (h s _ _ ok fun f s' kp r => by
    cases f with
    | next => exact wpAny_execs_nil (k _ _ kp r)
    | brk => exact k _ _ kp r
    | cont => exact k _ _ kp r
    | ret v => exact k _ _ kp r)
theorem X.fin {ss : List Stmt} {R : Flow → Shared → Prop} {Γ' : Cx} (h : X prog w A Γ ss (Nx Γ')) (hR : ∀ s, Γ'.Ok s.heap → R .next s) : X prog w A Γ ss R := h.mono fun f s r => by
  obtain ⟨rfl, ok⟩ := r; exact hR s ok
theorem X.stepL {st : Stmt} {R : Flow → Shared → Prop} {Γ' : Cx} (h : S prog w A Γ st (Nx Γ')) (hR : ∀ s, Γ'.Ok s.heap → R .next s) : X prog w A Γ [st] R := (X.one h).fin hR
theorem S.mono {st : Stmt} {R R' : Flow → Shared → Prop} (h : S prog w A Γ st R) (hR : ∀ f s, R f s → R' f s) : S prog w A Γ st R' := fun s Q E ok k => h s Q E ok fun f s' kp r => k f s' kp (hR _ _ r)
end Mine

end
section
open PySem PySem.W PyProof.Rows PySem.Calls
set_option autoImplicit false
set_option linter.all false
namespace Mine
variable {prog : Program} {w : World} {A : Around} {Γ : Cx}

noncomputable def AOk (n : Nat) (A : Around) : Prop := A.handled = none ∧ A.depth + n < recursionLimit ∧ A.units + 8 * n + 200 < cLine
theorem AOk.deeper {n : Nat} (h : AOk (n + 1) A) (env : Env) : AOk n (A.deeper env) := by
  obtain ⟨h1, h2, h3⟩ := h
  refine ⟨h1, ?_, ?_⟩
  · show A.depth + 1 + n < recursionLimit; omega
  · show A.units + 3 + 8 * n + 200 < cLine; omega
theorem AOk.le {n m : Nat} (h : AOk n A) (hm : m ≤ n) : AOk m A := by
  obtain ⟨h1, h2, h3⟩ := h
  exact ⟨h1, by omega, by omega⟩
theorem AOk.room {n : Nat} (h : AOk n A) : A.depth < recursionLimit := by have := h.2.1; omega

noncomputable def GlobV (h : Heap) (x : Str) (v : Value) : Prop :=
  (∃ mg, h.Ns mainGlobals mg ∧ mg x = some v) ∨ ∃ mg mb, h.Ns mainGlobals mg ∧ mg x = none ∧ h.Ns builtinsNs mb ∧ mb x = some v
theorem GlobV.keeps {h h' : Heap} {x : Str} {v : Value} (g : GlobV h x v) (k : ∀ b o, h.get? b = some o → h'.get? b = some o) : GlobV h' x v := by
  rcases g with ⟨mg, n, e⟩ | ⟨mg, mb, n, e, n', e'⟩
  · exact .inl ⟨mg, n.keeps k, e⟩
  · exact .inr ⟨mg, mb, n.keeps k, e, n'.keeps k, e'⟩

theorem wp_glob {s : Shared} {Q : Value → Shared → Prop} {E : Value → Shared → Prop} {x : Str} {pos : Pos} {v : Value} (ok : Γ.Ok s.heap) (hk : Γ.env.kindOf x = some .globalImplicit) (hg : GlobV Γ.B x v) (h : Q v s)
    (hd : (x == ("__debug__" : Str)) = false := by decide) : wpAny (model prog w) A (eval (.Name x pos) Γ.env) Q E s := by
  refine Name_function_global ok.fr.fn hk ?_ hd
  rcases hg with ⟨mg, n, e⟩ | ⟨mg, mb, n, e, n', e'⟩
  · exact loadGlobal_global (by rw [ok.fr.gl]; exact n.keeps ok.base) e h
  · exact loadGlobal_builtin (by rw [ok.fr.gl]; exact n.keeps ok.base) e (by rw [ok.fr.bl]; exact n'.keeps ok.base) e' h

theorem Ev.glob {x : Str} {pos : Pos} {v : Value} {d : PV} (hg : GlobV Γ.B x v) (hr : ∀ h, Rep Γ.O h v d) (hk : Γ.env.kindOf x = some .globalImplicit := by rfl) (hd : (x == ("__debug__" : Str)) = false := by decide) : Ev prog w A Γ (.Name x pos) d :=
  fun s Q E ok h => wp_glob ok hk hg (h v s (Ext.refl _) (hr _)) hd

structure Fun (h : Heap) (fa : Addr) (fd : FuncData) : Prop where
  at' : ∃ o, h.get? fa = some o ∧ o.data = .func fd
  code : h.CodeRec fd.code fd.qualname
theorem Fun.keeps {h h' : Heap} {fa : Addr} {fd : FuncData} (g : Fun h fa fd) (k : ∀ b o, h.get? b = some o → h'.get? b = some o) : Fun h' fa fd :=
  ⟨let ⟨o, e, d⟩ := g.at'; ⟨o, k _ _ e, d⟩, g.code.keeps k⟩

noncomputable def retOf : Flow → Value
  | .ret v => v
  | _ => .none

theorem lookup_snoc {α : Type} (l : List (Str × α)) (x y : Str) (v : α) : (l ++ [(x, v)]).lookup y = (l.lookup y).or (if y == x then some v else none) := by
  induction l with
  | nil =>
    show List.lookup y [(x, v)] = (none : Option α).or (if (y == x) = true then some v else none)
    rw [List.lookup_cons]; cases y == x <;> rfl
  | cons p l ih =>
    obtain ⟨z, u⟩ := p
    rw [List.cons_append, List.lookup_cons, List.lookup_cons]
    cases y == z with
    | true => rfl
    | false => exact ih
theorem lookup_none_of_not_mem {α : Type} (l : List (Str × α)) (x : Str) (h : x ∉ l.map (·.1)) : l.lookup x = none := by
  induction l with
  | nil => rfl
  | cons p l ih =>
    obtain ⟨z, u⟩ := p
    rw [List.lookup_cons]
    have h1 : x ≠ z := fun q => h (by simp [q])
    have h2 : (x == z) = false := by simpa using h1
    rw [h2]; exact ih fun q => h (List.mem_cons_of_mem _ q)
theorem binds_ok {O : List Addr} {h : Heap} : ∀ (xs : List Str) (vs : List Value) (ds : List PV), xs.Nodup → Reps O h vs ds → xs.length = vs.length →
    ∀ x d, (xs.zip ds).lookup x = some d → ∃ v, (xs.zip vs).reverse.lookup x = some v ∧ Rep O h v d := by
  intro xs
  induction xs with
  | nil => intro vs ds _ _ _ x d e; cases e
  | cons y ys ih =>
    intro vs ds hn r hl x d e
    cases vs with
    | nil => cases hl
    | cons v vs =>
      cases ds with
      | nil => have := r.len; cases this
      | cons d' ds =>
        rw [List.zip_cons_cons, List.lookup_cons] at e
        rw [List.zip_cons_cons, List.reverse_cons, lookup_snoc]
        have hn' := (List.nodup_cons.mp hn)
        cases hxy : x == y with
        | true =>
          rw [hxy] at e; cases e
          have hq := eq_of_beq hxy; subst hq
          refine ⟨v, ?_, r.head⟩
          rw [lookup_none_of_not_mem]; · rfl
          intro hm
          obtain ⟨⟨a, b⟩, hp, hq⟩ := List.mem_map.mp hm
          have hp' := List.mem_reverse.mp hp
          have := (List.of_mem_zip hp').1
          simp only at hq; subst hq; exact hn'.1 this
        | false =>
          rw [hxy] at e
          obtain ⟨u, hu, hr⟩ := ih vs ds hn'.2 r.tail (by simpa using hl) x d e
          exact ⟨u, by rw [hu]; rfl, hr⟩

theorem no_bind {names : List (Str × NameKind)} {binds : List (Str × Value)} {y : Str} (hloc : ∀ x ∈ binds, names.lookup x.1 = some .local) (hy : names.lookup y = none) : binds.reverse.lookup y = none := by
  refine lookup_none_of_not_mem _ _ fun hm => ?_
  obtain ⟨p, hp, rfl⟩ := List.mem_map.mp hm
  rw [hloc p (List.mem_reverse.mp hp)] at hy; cases hy

/-- a def without cells of its own is called; B is the part of the heap that it may not turn, μ the lists that it may -/
theorem fn_plainM {n : Nat} {s : Shared} {fa : Addr} {fd : FuncData} {body : List Stmt} {args : Args} {binds : List (Str × Value)} {ρ : List (Str × PV)} {μ : List (Addr × List PV)} {B : Heap} {R : Result → Shared → Prop} {RV : Value → Shared → Prop}
    (hA : AOk (n + 1) A) (hf : Fun s.heap fa fd) (hlim : s.heap.NoLimit) (hbody : fd.body = .stmts body) (hbind : BindsTo s fd args binds)
    (hB : ∀ b o, B.get? b = some o → s.heap.get? b = some o) (hμ : ∀ a ds, (a, ds) ∈ μ → B.get? a = none ∧ ∃ vs, s.heap.PlainList a vs.toArray ∧ Reps (μ.map (·.1)) s.heap vs ds) (hnd : (μ.map (·.1)).Nodup)
    (hρ : ∀ x d, ρ.lookup x = some d → (fd.scope.names.lookup x = some .local ∧ ∃ v, binds.reverse.lookup x = some v ∧ Rep (μ.map (·.1)) s.heap v d) ∨
      ((fd.scope.names.lookup x = some .free) ∧ ∃ c v, fd.closure.lookup x = some c ∧ s.heap.IsCell c (some v) ∧ Rep (μ.map (·.1)) s.heap v d))
    (hcl : ∀ x c, fd.closure.lookup x = some c → ∃ v, s.heap.IsCell c v) (hinj : ∀ x y c, fd.closure.lookup x = some c → fd.closure.lookup y = some c → x = y)
    (h : X prog w (A.deeper (callEnv fd s.heap.objs.size fa)) ⟨B, callEnv fd s.heap.objs.size fa, [], ρ, μ⟩ body (fun f s' => RV (retOf f) s'))
    (hR : ∀ v s', (∃ h' tk, s' = { s with heap := h', toks := tk }) → (∀ b o, b ∉ μ.map (·.1) → s.heap.get? b = some o → s'.heap.get? b = some o) → RV v s' → R (.ok (.ret v)) s')
    (hloc : ∀ x ∈ binds, fd.scope.names.lookup x.1 = some .local)
    (hcell : ∀ x ∈ fd.scope.names, x.2 ≠ .cell := by decide)
    (hco : fd.scope.isCoroutine = false := by rfl) (hgen : fd.scope.isGenerator = false := by rfl) (hk : fd.scope.kind = .function := by rfl) (hgl : fd.globals = mainGlobals := by rfl) (hbl : fd.builtins = builtinsNs := by rfl)
    (hsim : fd.scope.names.lookup ("is_simple" : Str) = none := by rfl) :
    codeAny (model prog w) A (.call (.ref fa) args) R s := by
  obtain ⟨o, ho, hd⟩ := hf.at'
  refine codeAny_call_def hA.room ho hd hlim hf.code hbody hbind hcell hloc (fun h₀ hns hkp => ?_) hco hgen hk
  have ok : (⟨B, callEnv fd s.heap.objs.size fa, [], ρ, μ⟩ : Cx).Ok h₀ := by
    refine ⟨fun b o e => hkp _ _ (hB b o e), ⟨hk, hgl, hbl, ⟨_, hns, no_bind hloc hsim⟩, fun x c e => ?_, hinj⟩, fun x d e => ?_, fun a ds e => ?_, hnd, fun b o hb e => ?_⟩
    · obtain ⟨v, hv⟩ := hcl x c e; exact ⟨v, hv.keeps hkp⟩
    · rcases hρ x d e with ⟨h1, v, h2, h3⟩ | ⟨h1, c, v, h2, h3, h4⟩
      · exact ⟨v, .inl ⟨h1, _, hns, h2⟩, h3.keeps hkp⟩
      · exact ⟨v, .inr ⟨.inr h1, c, h2, h3.keeps hkp⟩, h4.keeps hkp⟩
    · obtain ⟨_, vs, hl, hr⟩ := hμ a ds e
      exact ⟨vs, hl.at fun o e => hkp _ o e, hr.keeps hkp⟩
    · rcases hb with (hb | ⟨x, hx, _⟩) | hb
      · rw [hb] at e; exact absurd (Heap.lt_size (hB _ _ e)) (Nat.lt_irrefl _)
      · exact absurd hx List.not_mem_nil
      · obtain ⟨⟨a, ds⟩, hm, rfl⟩ := List.mem_map.mp hb
        rw [(hμ a ds hm).1] at e; cases e
  refine h _ _ _ ok fun f s' kp r => ?_
  have hx : (∃ h' tk, s' = { s with heap := h', toks := tk }) ∧ (∀ b o, b ∉ μ.map (·.1) → s.heap.get? b = some o → s'.heap.get? b = some o) := by
    obtain ⟨h', tk, rfl⟩ := kp.as
    refine ⟨⟨_, _, rfl⟩, fun b o hb e => kp.get b o ?_ hb (hkp b o e)⟩
    rintro (hb | ⟨x, hx, _⟩)
    · rw [hb] at e; exact absurd (Heap.lt_size e) (Nat.lt_irrefl _)
    · exact absurd hx List.not_mem_nil
  have := hR _ s' hx.1 hx.2 r
  cases f <;> exact this

theorem fn_plain {n : Nat} {s : Shared} {fa : Addr} {fd : FuncData} {body : List Stmt} {args : Args} {binds : List (Str × Value)} {ρ : List (Str × PV)} {R : Result → Shared → Prop} {RV : Value → Shared → Prop}
    (hA : AOk (n + 1) A) (hf : Fun s.heap fa fd) (hlim : s.heap.NoLimit) (hbody : fd.body = .stmts body) (hbind : BindsTo s fd args binds)
    (hρ : ∀ x d, ρ.lookup x = some d → (fd.scope.names.lookup x = some .local ∧ ∃ v, binds.reverse.lookup x = some v ∧ Rep [] s.heap v d) ∨
      ((fd.scope.names.lookup x = some .free) ∧ ∃ c v, fd.closure.lookup x = some c ∧ s.heap.IsCell c (some v) ∧ Rep [] s.heap v d))
    (hcl : ∀ x c, fd.closure.lookup x = some c → ∃ v, s.heap.IsCell c v) (hinj : ∀ x y c, fd.closure.lookup x = some c → fd.closure.lookup y = some c → x = y)
    (h : X prog w (A.deeper (callEnv fd s.heap.objs.size fa)) ⟨s.heap, callEnv fd s.heap.objs.size fa, [], ρ, []⟩ body (fun f s' => RV (retOf f) s'))
    (hR : ∀ v s', Ext s s' → RV v s' → R (.ok (.ret v)) s')
    (hloc : ∀ x ∈ binds, fd.scope.names.lookup x.1 = some .local)
    (hcell : ∀ x ∈ fd.scope.names, x.2 ≠ .cell := by decide)
    (hco : fd.scope.isCoroutine = false := by rfl) (hgen : fd.scope.isGenerator = false := by rfl) (hk : fd.scope.kind = .function := by rfl) (hgl : fd.globals = mainGlobals := by rfl) (hbl : fd.builtins = builtinsNs := by rfl)
    (hsim : fd.scope.names.lookup ("is_simple" : Str) = none := by rfl) :
    codeAny (model prog w) A (.call (.ref fa) args) R s :=
  fn_plainM (μ := []) hA hf hlim hbody hbind (fun _ _ e => e) (fun _ _ e => absurd e List.not_mem_nil) List.nodup_nil hρ hcl hinj h (fun v s' x k r => hR v s' ⟨x, fun b o e => k b o List.not_mem_nil e⟩ r) hloc hcell hco hgen hk hgl hbl hsim

/-- what a def gives back, for these data -/
noncomputable def FnOk (prog : Program) (w : World) (P : Heap → Prop) (n : Nat) (fa : Addr) (ds : List PV) (d : PV) : Prop :=
  ∀ (A : Around) (s : Shared) (vs : List Value) (R : Result → Shared → Prop), AOk n A → P s.heap → Reps [] s.heap vs ds → (∀ v s', Ext s s' → Rep [] s'.heap v d → R (.ok (.ret v)) s') →
    codeAny (model prog w) A (.call (.ref fa) ⟨vs, []⟩) R s

theorem eval_CallName (f : Str) (p : Pos) (args : List Expr) (kws : List Keyword) (pos : Pos) (env : Env) :
    eval (.Call (.Name f p) args kws pos) env = (do callWith pos (← eval (.Name f p) env) [] (backTo pos (starEach args env)) (backToKw pos (keywordEach kws env))) := rfl

theorem Rep.lift {O : List Addr} {h : Heap} {v : Value} {d : PV} (r : Rep [] h v d) (hO : O = [] ∨ d.flat = true) : Rep O h v d := by
  rcases hO with rfl | hf
  · exact r
  · exact r.of_flat hf

/-- as handed to another def: what this frame may turn is a plain list to it -/
noncomputable def EvF (prog : Program) (w : World) (A : Around) (Γ : Cx) (e : Expr) (d : PV) : Prop :=
  ∀ (s : Shared) (Q : Value → Shared → Prop) (E : Value → Shared → Prop), Γ.Ok s.heap → (∀ v s', Ext s s' → Rep [] s'.heap v d → Q v s') → wpAny (model prog w) A (eval e Γ.env) Q E s
noncomputable def EvsF (prog : Program) (w : World) (A : Around) (Γ : Cx) (es : List Expr) (ds : List PV) : Prop :=
  ∀ (s : Shared) (pos : Pos) (Q : List Value → Shared → Prop) (E : Value → Shared → Prop), Γ.Ok s.heap → (∀ vs s', Ext s s' → Reps [] s'.heap vs ds → Q vs s') → wpAny (model prog w) A (spliced (backTo pos (starEach es Γ.env))) Q E s
theorem EvF.of {e : Expr} {d : PV} (h : Ev prog w A Γ e d) : EvF prog w A Γ e d := fun s Q E ok k => h s Q E ok fun v s' x r => k v s' x r.free
theorem EvF.own {e : Expr} {a : Addr} {ds : List PV} (h : Ev prog w A Γ e (.ref a)) (hm : (a, ds) ∈ Γ.μ) : EvF prog w A Γ e (.list ds) := fun s Q E ok k => h s Q E ok fun v s' x r => by
  rw [r.ref_inv]
  obtain ⟨vs, hl, hr⟩ := (ok.step x).mem a ds hm
  exact k _ s' x (Rep.mkList List.not_mem_nil hl hr.free)
theorem EvsF.nil : EvsF prog w A Γ [] [] := fun s pos Q E _ h => wpAny_items_nil (h _ _ (Ext.refl _) Reps.nil)
theorem EvsF.cons {e : Expr} {es : List Expr} {d : PV} {ds : List PV} (h1 : EvF prog w A Γ e d) (h2 : EvsF prog w A Γ es ds) (he : starEach (e :: es) Γ.env = (false, eval e Γ.env) :: starEach es Γ.env := by rfl) :
    EvsF prog w A Γ (e :: es) (d :: ds) := fun s pos Q E ok h =>
  wpAny_items_cons (h1 s _ _ ok fun v s₁ k₁ r₁ => h2 s₁ pos _ _ (ok.step k₁) fun vs s₂ k₂ rs => h _ _ (k₁.trans k₂) (Reps.cons (r₁.keeps k₂.get) rs)) he
theorem EvsF.of {es : List Expr} {ds : List PV} (h : Evs prog w A Γ es ds) : EvsF prog w A Γ es ds := fun s pos Q E ok k => h s pos Q E ok fun vs s' x r => k vs s' x r.free

theorem Ev.call {P : Heap → Prop} {n : Nat} {f : Str} {p pos : Pos} {e : Expr} {es : List Expr} {ds : List PV} {d : PV} {fa : Addr} {fd : FuncData} (hg : GlobV Γ.B f (.ref fa)) (hf : Fun Γ.B fa fd) (hP : ∀ h, (∀ b o, Γ.B.get? b = some o → h.get? b = some o) → P h)
    (hA : AOk n A) (h1 : EvsF prog w A Γ (e :: es) ds) (hc : FnOk prog w P n fa ds d) (hO : Γ.O = [] ∨ d.flat = true) (hk : Γ.env.kindOf f = some .globalImplicit := by rfl)
    (he : starEach (e :: es) Γ.env = (false, eval e Γ.env) :: starEach es Γ.env := by rfl) (hd : (f == ("__debug__" : Str)) = false := by decide) :
    Ev prog w A Γ (.Call (.Name f p) (e :: es) [] pos) d := fun s Q E ok h => by
  rw [eval_CallName]
  refine wpAny_bind (wp_glob ok hk hg ?_ hd)
  obtain ⟨o, ho, hdat⟩ := hf.at'
  refine callWith_def_at ho hdat (h1 s pos _ _ ok fun vs s₁ k₁ rs => ⟨k₁.get _ _ (ok.base _ _ ho), wpAny_call ?_⟩) he
  exact hc A s₁ vs _ hA (hP _ fun b o e => k₁.get _ _ (ok.base _ _ e)) rs fun v s' k r => h v s' (k₁.trans k) (r.lift hO)
/-- a def that a variable holds -/
theorem Ev.callVar {P : Heap → Prop} {n : Nat} {f : Str} {p pos : Pos} {e : Expr} {es : List Expr} {ds : List PV} {d : PV} {fa : Addr} {fd : FuncData} (hf : Ev prog w A Γ (.Name f p) (.ref fa)) (hfd : Fun Γ.B fa fd) (hP : ∀ h, (∀ b o, Γ.B.get? b = some o → h.get? b = some o) → P h)
    (hA : AOk n A) (h1 : EvsF prog w A Γ (e :: es) ds) (hc : FnOk prog w P n fa ds d) (hO : Γ.O = [] ∨ d.flat = true)
    (he : starEach (e :: es) Γ.env = (false, eval e Γ.env) :: starEach es Γ.env := by rfl) :
    Ev prog w A Γ (.Call (.Name f p) (e :: es) [] pos) d := fun s Q E ok h => by
  rw [eval_CallName]
  refine wpAny_bind (hf s _ _ ok fun v s₀ k₀ r₀ => ?_)
  rw [r₀.ref_inv]
  obtain ⟨o, ho, hdat⟩ := hfd.at'
  have ok₀ := ok.step k₀
  refine callWith_def_at ho hdat (h1 s₀ pos _ _ ok₀ fun vs s₁ k₁ rs => ⟨k₁.get _ _ (ok₀.base _ _ ho), wpAny_call ?_⟩) he
  exact hc A s₁ vs _ hA (hP _ fun b o e => k₁.get _ _ (ok₀.base _ _ e)) rs fun v s' k r => h v s' ((k₀.trans k₁).trans k) (r.lift hO)

/-- a built-in function upon data -/
noncomputable def BCall (prog : Program) (w : World) (A : Around) (Γ : Cx) (f : Value) (ds : List PV) (d : PV) : Prop :=
  ∀ (s : Shared) (vs : List Value) (Q : Value → Shared → Prop) (E : Value → Shared → Prop), Γ.Ok s.heap → Reps Γ.O s.heap vs ds → (∀ v s', Ext s s' → Rep Γ.O s'.heap v d → Q v s') → wpAny (model prog w) A (PySem.call f vs) Q E s

theorem Ev.bcall {f : Str} {id : String} {p pos : Pos} {e : Expr} {es : List Expr} {ds : List PV} {d : PV} (hg : GlobV Γ.B f (.builtin id)) (h1 : Evs prog w A Γ (e :: es) ds) (hb : BCall prog w A Γ (.builtin id) ds d)
    (hk : Γ.env.kindOf f = some .globalImplicit := by rfl) (he : starEach (e :: es) Γ.env = (false, eval e Γ.env) :: starEach es Γ.env := by rfl)
    (hp : (backTo pos (starEach es Γ.env)).any (·.1) = false := by rfl) (hd : (f == ("__debug__" : Str)) = false := by decide) : Ev prog w A Γ (.Call (.Name f p) (e :: es) [] pos) d := fun s Q E ok h => by
  rw [eval_CallName]
  refine wpAny_bind (wp_glob ok hk hg ?_ hd)
  refine PyProof.Rows.callWith_builtin1 (h1 s pos _ _ ok fun vs s₁ k₁ rs => ?_) he hp
  exact hb s₁ vs _ _ (ok.step k₁) rs fun v s' k r => h v s' (k₁.trans k) r
theorem Ev.tcall {f : Str} {T : String} {p pos : Pos} {e : Expr} {es : List Expr} {ds : List PV} {d : PV} (hg : GlobV Γ.B f (.type T)) (h1 : Evs prog w A Γ (e :: es) ds) (hb : BCall prog w A Γ (.type T) ds d)
    (hk : Γ.env.kindOf f = some .globalImplicit := by rfl) (he : starEach (e :: es) Γ.env = (false, eval e Γ.env) :: starEach es Γ.env := by rfl)
    (hp : (backTo pos (starEach es Γ.env)).any (·.1) = false := by rfl) (hd : (f == ("__debug__" : Str)) = false := by decide) : Ev prog w A Γ (.Call (.Name f p) (e :: es) [] pos) d := fun s Q E ok h => by
  rw [eval_CallName]
  refine wpAny_bind (wp_glob ok hk hg ?_ hd)
  refine PyProof.Rows.callWith_type1 (h1 s pos _ _ ok fun vs s₁ k₁ rs => ?_) he hp
  exact hb s₁ vs _ _ (ok.step k₁) rs fun v s' k r => h v s' (k₁.trans k) r
end Mine

end
section
open PySem PySem.W PyProof.Rows PySem.Calls
set_option autoImplicit false
set_option linter.all false
namespace Mine
set_option maxRecDepth 100000

/-- the k-th statement of the text's top -/
noncomputable def topAt (k : Nat) : Stmt := PySem.Challenge.pw_rl0128_01.main.body.getD k (.Pass ⟨0, 0, 0, 0⟩)
noncomputable def inCls (k : Nat) : Stmt → Stmt
  | .ClassDef _ _ _ body _ _ _ _ _ _ _ => body.getD k (.Pass ⟨0, 0, 0, 0⟩)
  | st => st
noncomputable def bodyOf : Stmt → List Stmt
  | .FunctionDef _ _ body _ _ _ _ _ _ _ => body
  | _ => []
noncomputable def parsOf : Stmt → Arguments
  | .FunctionDef _ ps _ _ _ _ _ _ _ _ => ps
  | _ => ⟨[], [], none, [], [], none, []⟩
noncomputable def scopeOf : Stmt → Scope
  | .FunctionDef _ _ _ _ _ _ sc _ _ _ => sc
  | _ => default
noncomputable def nameOf : Stmt → Str
  | .FunctionDef n _ _ _ _ _ _ _ _ _ => n
  | _ => Str.empty
noncomputable abbrev fdAt (st : Stmt) (qual : Str) (dV kV doc pm : Value) (an : Option Addr) (cdv ct : Value) : FuncData :=
  fnX (nameOf st) qual (parsOf st) (bodyOf st) (scopeOf st) [] dV kV doc pm an cdv ct


/-! the objects that the walk looks up (printed by wip/print_kf.lean) -/
noncomputable def ko2 (P : Params) : Obj := { cls := Value.none, data := Data.dict #[] }
noncomputable def ko3 (P : Params) : Obj := { cls := Value.type "dict", data := Data.dict #[{ hash := PyData.keyHash P (Str.ofString "__name__"), key := Value.str (Str.ofString "__name__") 165, val := Value.str (Str.ofString "law_rl0128_01") 559 }, { hash := PyData.keyHash P (Str.ofString "__doc__"), key := Value.str (Str.ofString "__doc__") 166, val := Value.none }, { hash := PyData.keyHash P (Str.ofString "__package__"), key := Value.str (Str.ofString "__package__") 167, val := Value.none }, { hash := PyData.keyHash P (Str.ofString "__loader__"), key := Value.str (Str.ofString "__loader__") 168, val := Value.builtin "__main__.__loader__#opaque" }, { hash := PyData.keyHash P (Str.ofString "__spec__"), key := Value.str (Str.ofString "__spec__") 169, val := Value.none }, { hash := PyData.keyHash P (Str.ofString "__annotations__"), key := Value.str (Str.ofString "__annotations__") 170, val := Value.ref 6 }, { hash := PyData.keyHash P (Str.ofString "__builtins__"), key := Value.str (Str.ofString "__builtins__") 171, val := Value.ref 4 }, { hash := PyData.keyHash P (Str.ofString "__file__"), key := Value.str (Str.ofString "__file__") 173, val := Value.str (Str.ofString "/claim/cut.py") 172 }, { hash := PyData.keyHash P (Str.ofString "__cached__"), key := Value.str (Str.ofString "__cached__") 174, val := Value.none }, { hash := PyData.keyHash P (Str.ofString "_wall"), key := Value.str (Str.ofString "_wall") 193, val := Value.ref 21 }, { hash := PyData.keyHash P (Str.ofString "insort_right"), key := Value.str (Str.ofString "insort_right") 208, val := Value.ref 30 }, { hash := PyData.keyHash P (Str.ofString "bisect_right"), key := Value.str (Str.ofString "bisect_right") 222, val := Value.ref 39 }, { hash := PyData.keyHash P (Str.ofString "bisect_left"), key := Value.str (Str.ofString "bisect_left") 236, val := Value.ref 48 }, { hash := PyData.keyHash P (Str.ofString "Whitespace"), key := Value.str (Str.ofString "Whitespace") 338, val := Value.ref 110 }, { hash := PyData.keyHash P (Str.ofString "ENDMARKER"), key := Value.str (Str.ofString "ENDMARKER") 342, val := Value.int 0 341 }, { hash := PyData.keyHash P (Str.ofString "LPAR"), key := Value.str (Str.ofString "LPAR") 344, val := Value.int 7 343 }, { hash := PyData.keyHash P (Str.ofString "RPAR"), key := Value.str (Str.ofString "RPAR") 346, val := Value.int 8 345 }, { hash := PyData.keyHash P (Str.ofString "LSQB"), key := Value.str (Str.ofString "LSQB") 348, val := Value.int 9 347 }, { hash := PyData.keyHash P (Str.ofString "RSQB"), key := Value.str (Str.ofString "RSQB") 350, val := Value.int 10 349 }, { hash := PyData.keyHash P (Str.ofString "COLON"), key := Value.str (Str.ofString "COLON") 352, val := Value.int 11 351 }, { hash := PyData.keyHash P (Str.ofString "COMMA"), key := Value.str (Str.ofString "COMMA") 354, val := Value.int 12 353 }, { hash := PyData.keyHash P (Str.ofString "SEMI"), key := Value.str (Str.ofString "SEMI") 356, val := Value.int 13 355 }, { hash := PyData.keyHash P (Str.ofString "PLUS"), key := Value.str (Str.ofString "PLUS") 358, val := Value.int 14 357 }, { hash := PyData.keyHash P (Str.ofString "MINUS"), key := Value.str (Str.ofString "MINUS") 360, val := Value.int 15 359 }, { hash := PyData.keyHash P (Str.ofString "STAR"), key := Value.str (Str.ofString "STAR") 362, val := Value.int 16 361 }, { hash := PyData.keyHash P (Str.ofString "SLASH"), key := Value.str (Str.ofString "SLASH") 364, val := Value.int 17 363 }, { hash := PyData.keyHash P (Str.ofString "VBAR"), key := Value.str (Str.ofString "VBAR") 366, val := Value.int 18 365 }, { hash := PyData.keyHash P (Str.ofString "AMPER"), key := Value.str (Str.ofString "AMPER") 368, val := Value.int 19 367 }, { hash := PyData.keyHash P (Str.ofString "LESS"), key := Value.str (Str.ofString "LESS") 370, val := Value.int 20 369 }, { hash := PyData.keyHash P (Str.ofString "GREATER"), key := Value.str (Str.ofString "GREATER") 372, val := Value.int 21 371 }, { hash := PyData.keyHash P (Str.ofString "EQUAL"), key := Value.str (Str.ofString "EQUAL") 374, val := Value.int 22 373 }, { hash := PyData.keyHash P (Str.ofString "DOT"), key := Value.str (Str.ofString "DOT") 376, val := Value.int 23 375 }, { hash := PyData.keyHash P (Str.ofString "PERCENT"), key := Value.str (Str.ofString "PERCENT") 378, val := Value.int 24 377 }, { hash := PyData.keyHash P (Str.ofString "LBRACE"), key := Value.str (Str.ofString "LBRACE") 380, val := Value.int 25 379 }, { hash := PyData.keyHash P (Str.ofString "RBRACE"), key := Value.str (Str.ofString "RBRACE") 382, val := Value.int 26 381 }, { hash := PyData.keyHash P (Str.ofString "EQEQUAL"), key := Value.str (Str.ofString "EQEQUAL") 384, val := Value.int 27 383 }, { hash := PyData.keyHash P (Str.ofString "NOTEQUAL"), key := Value.str (Str.ofString "NOTEQUAL") 386, val := Value.int 28 385 }, { hash := PyData.keyHash P (Str.ofString "LESSEQUAL"), key := Value.str (Str.ofString "LESSEQUAL") 388, val := Value.int 29 387 }, { hash := PyData.keyHash P (Str.ofString "GREATEREQUAL"), key := Value.str (Str.ofString "GREATEREQUAL") 390, val := Value.int 30 389 }, { hash := PyData.keyHash P (Str.ofString "TILDE"), key := Value.str (Str.ofString "TILDE") 392, val := Value.int 31 391 }, { hash := PyData.keyHash P (Str.ofString "CIRCUMFLEX"), key := Value.str (Str.ofString "CIRCUMFLEX") 394, val := Value.int 32 393 }, { hash := PyData.keyHash P (Str.ofString "LEFTSHIFT"), key := Value.str (Str.ofString "LEFTSHIFT") 396, val := Value.int 33 395 }, { hash := PyData.keyHash P (Str.ofString "RIGHTSHIFT"), key := Value.str (Str.ofString "RIGHTSHIFT") 398, val := Value.int 34 397 }, { hash := PyData.keyHash P (Str.ofString "DOUBLESTAR"), key := Value.str (Str.ofString "DOUBLESTAR") 400, val := Value.int 35 399 }, { hash := PyData.keyHash P (Str.ofString "PLUSEQUAL"), key := Value.str (Str.ofString "PLUSEQUAL") 402, val := Value.int 36 401 }, { hash := PyData.keyHash P (Str.ofString "MINEQUAL"), key := Value.str (Str.ofString "MINEQUAL") 404, val := Value.int 37 403 }, { hash := PyData.keyHash P (Str.ofString "STAREQUAL"), key := Value.str (Str.ofString "STAREQUAL") 406, val := Value.int 38 405 }, { hash := PyData.keyHash P (Str.ofString "SLASHEQUAL"), key := Value.str (Str.ofString "SLASHEQUAL") 408, val := Value.int 39 407 }, { hash := PyData.keyHash P (Str.ofString "PERCENTEQUAL"), key := Value.str (Str.ofString "PERCENTEQUAL") 410, val := Value.int 40 409 }, { hash := PyData.keyHash P (Str.ofString "AMPEREQUAL"), key := Value.str (Str.ofString "AMPEREQUAL") 412, val := Value.int 41 411 }, { hash := PyData.keyHash P (Str.ofString "VBAREQUAL"), key := Value.str (Str.ofString "VBAREQUAL") 414, val := Value.int 42 413 }, { hash := PyData.keyHash P (Str.ofString "CIRCUMFLEXEQUAL"), key := Value.str (Str.ofString "CIRCUMFLEXEQUAL") 416, val := Value.int 43 415 }, { hash := PyData.keyHash P (Str.ofString "LEFTSHIFTEQUAL"), key := Value.str (Str.ofString "LEFTSHIFTEQUAL") 418, val := Value.int 44 417 }, { hash := PyData.keyHash P (Str.ofString "RIGHTSHIFTEQUAL"), key := Value.str (Str.ofString "RIGHTSHIFTEQUAL") 420, val := Value.int 45 419 }, { hash := PyData.keyHash P (Str.ofString "DOUBLESTAREQUAL"), key := Value.str (Str.ofString "DOUBLESTAREQUAL") 422, val := Value.int 46 421 }, { hash := PyData.keyHash P (Str.ofString "DOUBLESLASH"), key := Value.str (Str.ofString "DOUBLESLASH") 424, val := Value.int 47 423 }, { hash := PyData.keyHash P (Str.ofString "DOUBLESLASHEQUAL"), key := Value.str (Str.ofString "DOUBLESLASHEQUAL") 426, val := Value.int 48 425 }, { hash := PyData.keyHash P (Str.ofString "AT"), key := Value.str (Str.ofString "AT") 428, val := Value.int 49 427 }, { hash := PyData.keyHash P (Str.ofString "ATEQUAL"), key := Value.str (Str.ofString "ATEQUAL") 430, val := Value.int 50 429 }, { hash := PyData.keyHash P (Str.ofString "RARROW"), key := Value.str (Str.ofString "RARROW") 432, val := Value.int 51 431 }, { hash := PyData.keyHash P (Str.ofString "ELLIPSIS"), key := Value.str (Str.ofString "ELLIPSIS") 434, val := Value.int 52 433 }, { hash := PyData.keyHash P (Str.ofString "COLONEQUAL"), key := Value.str (Str.ofString "COLONEQUAL") 436, val := Value.int 53 435 }, { hash := PyData.keyHash P (Str.ofString "EXCLAMATION"), key := Value.str (Str.ofString "EXCLAMATION") 438, val := Value.int 54 437 }, { hash := PyData.keyHash P (Str.ofString "NT_OFFSET"), key := Value.str (Str.ofString "NT_OFFSET") 440, val := Value.int 256 439 }, { hash := PyData.keyHash P (Str.ofString "EXACT_TOKEN_TYPES"), key := Value.str (Str.ofString "EXACT_TOKEN_TYPES") 537, val := Value.ref 115 }, { hash := PyData.keyHash P (Str.ofString "ISTERMINAL"), key := Value.str (Str.ofString "ISTERMINAL") 544, val := Value.ref 124 }, { hash := PyData.keyHash P (Str.ofString "ISNONTERMINAL"), key := Value.str (Str.ofString "ISNONTERMINAL") 551, val := Value.ref 131 }, { hash := PyData.keyHash P (Str.ofString "ISEOF"), key := Value.str (Str.ofString "ISEOF") 558, val := Value.ref 138 }, { hash := PyData.keyHash P (Str.ofString "_law_page"), key := Value.str (Str.ofString "_law_page") 566, val := Value.ref 143 }, { hash := PyData.keyHash P (Str.ofString "_law_nest"), key := Value.str (Str.ofString "_law_nest") 578, val := Value.ref 150 }, { hash := PyData.keyHash P (Str.ofString "_law_held"), key := Value.str (Str.ofString "_law_held") 584, val := Value.ref 155 }, { hash := PyData.keyHash P (Str.ofString "_law_plans"), key := Value.str (Str.ofString "_law_plans") 590, val := Value.ref 160 }, { hash := PyData.keyHash P (Str.ofString "law"), key := Value.str (Str.ofString "law") 596, val := Value.ref 165 }] 73 }
noncomputable def ko22 (P : Params) : Obj := { cls := Value.type "tuple", data := Data.seq #[Value.int 0 196, Value.none] }
noncomputable def ko23 (P : Params) : Obj := { cls := Value.type "dict", data := Data.dict #[{ hash := PyData.keyHash P (Str.ofString "key"), key := Value.str (Str.ofString "key") 197, val := Value.none }] 1 }
noncomputable def ko29 (P : Params) : Obj := { cls := Value.type "code", data := Data.fields #[Value.str (Str.ofString "insort_right") 198, Value.str (Str.ofString "insort_right") 199, Value.str (Str.ofString "/claim/cut.py") 200, Value.int 5 0, Value.int 4 0, Value.int 0 0, Value.int 1 0, Value.int 3 0, Value.ref 24, Value.bool true, Value.int 181 0, Value.ref 25, Value.none, Value.ref 26, Value.ref 27, Value.ref 28, Value.int 206 0, Value.int 5 0, Value.str (Str.ofString "/claim/cut.py") 207] }
noncomputable def ko30 (P : Params) : Obj := ⟨Value.type "function", none, .func (fdAt (topAt 2) (Str.ofString "insort_right") (Value.ref 22) (Value.ref 23) (Value.none) (Value.str (Str.ofString "cpy313.bisect") 194) (none) (Value.ref 29) (Value.none)), #[]⟩
noncomputable def ko31 (P : Params) : Obj := { cls := Value.type "tuple", data := Data.seq #[Value.int 0 209, Value.none] }
noncomputable def ko32 (P : Params) : Obj := { cls := Value.type "dict", data := Data.dict #[{ hash := PyData.keyHash P (Str.ofString "key"), key := Value.str (Str.ofString "key") 210, val := Value.none }] 1 }
noncomputable def ko38 (P : Params) : Obj := { cls := Value.type "code", data := Data.fields #[Value.str (Str.ofString "bisect_right") 211, Value.str (Str.ofString "bisect_right") 212, Value.str (Str.ofString "/claim/cut.py") 213, Value.int 11 0, Value.int 4 0, Value.int 0 0, Value.int 1 0, Value.int 3 0, Value.ref 33, Value.bool true, Value.int 181 0, Value.ref 34, Value.none, Value.ref 35, Value.ref 36, Value.ref 37, Value.int 220 0, Value.int 11 0, Value.str (Str.ofString "/claim/cut.py") 221] }
noncomputable def ko39 (P : Params) : Obj := ⟨Value.type "function", none, .func (fdAt (topAt 3) (Str.ofString "bisect_right") (Value.ref 31) (Value.ref 32) (Value.none) (Value.str (Str.ofString "cpy313.bisect") 194) (none) (Value.ref 38) (Value.none)), #[]⟩
noncomputable def ko40 (P : Params) : Obj := { cls := Value.type "tuple", data := Data.seq #[Value.int 0 223, Value.none] }
noncomputable def ko41 (P : Params) : Obj := { cls := Value.type "dict", data := Data.dict #[{ hash := PyData.keyHash P (Str.ofString "key"), key := Value.str (Str.ofString "key") 224, val := Value.none }] 1 }
noncomputable def ko47 (P : Params) : Obj := { cls := Value.type "code", data := Data.fields #[Value.str (Str.ofString "bisect_left") 225, Value.str (Str.ofString "bisect_left") 226, Value.str (Str.ofString "/claim/cut.py") 227, Value.int 31 0, Value.int 4 0, Value.int 0 0, Value.int 1 0, Value.int 3 0, Value.ref 42, Value.bool true, Value.int 181 0, Value.ref 43, Value.none, Value.ref 44, Value.ref 45, Value.ref 46, Value.int 234 0, Value.int 31 0, Value.str (Str.ofString "/claim/cut.py") 235] }
noncomputable def ko48 (P : Params) : Obj := ⟨Value.type "function", none, .func (fdAt (topAt 4) (Str.ofString "bisect_left") (Value.ref 40) (Value.ref 41) (Value.none) (Value.str (Str.ofString "cpy313.bisect") 194) (none) (Value.ref 47) (Value.none)), #[]⟩
noncomputable def ko64 (P : Params) : Obj := { cls := Value.type "code", data := Data.fields #[Value.str (Str.ofString "__init__") 256, Value.str (Str.ofString "Whitespace.__init__") 257, Value.str (Str.ofString "/claim/cut.py") 258, Value.int 55 0, Value.int 2 0, Value.int 0 0, Value.int 0 0, Value.int 3 0, Value.ref 59, Value.bool true, Value.int 181 0, Value.ref 60, Value.none, Value.ref 61, Value.ref 62, Value.ref 63, Value.int 268 0, Value.int 55 0, Value.str (Str.ofString "/claim/cut.py") 269] }
noncomputable def ko65 (P : Params) : Obj := ⟨Value.type "function", none, .func (fdAt (inCls 1 (topAt 6)) (Str.ofString "Whitespace.__init__") (Value.none) (Value.none) (Value.none) (Value.str (Str.ofString "cpy313.tabnanny") 237) (none) (Value.ref 64) (Value.none)), #[]⟩
noncomputable def ko71 (P : Params) : Obj := { cls := Value.type "code", data := Data.fields #[Value.str (Str.ofString "longest_run_of_spaces") 271, Value.str (Str.ofString "Whitespace.longest_run_of_spaces") 272, Value.str (Str.ofString "/claim/cut.py") 273, Value.int 78 0, Value.int 1 0, Value.int 0 0, Value.int 0 0, Value.int 3 0, Value.ref 66, Value.bool true, Value.int 181 0, Value.ref 67, Value.none, Value.ref 68, Value.ref 69, Value.ref 70, Value.int 277 0, Value.int 78 0, Value.str (Str.ofString "/claim/cut.py") 278] }
noncomputable def ko72 (P : Params) : Obj := ⟨Value.type "function", none, .func (fdAt (inCls 2 (topAt 6)) (Str.ofString "Whitespace.longest_run_of_spaces") (Value.none) (Value.none) (Value.none) (Value.str (Str.ofString "cpy313.tabnanny") 237) (none) (Value.ref 71) (Value.none)), #[]⟩
noncomputable def ko78 (P : Params) : Obj := { cls := Value.type "code", data := Data.fields #[Value.str (Str.ofString "indent_level") 280, Value.str (Str.ofString "Whitespace.indent_level") 281, Value.str (Str.ofString "/claim/cut.py") 282, Value.int 82 0, Value.int 2 0, Value.int 0 0, Value.int 0 0, Value.int 3 0, Value.ref 73, Value.bool true, Value.int 181 0, Value.ref 74, Value.none, Value.ref 75, Value.ref 76, Value.ref 77, Value.int 289 0, Value.int 82 0, Value.str (Str.ofString "/claim/cut.py") 290] }
noncomputable def ko79 (P : Params) : Obj := ⟨Value.type "function", none, .func (fdAt (inCls 3 (topAt 6)) (Str.ofString "Whitespace.indent_level") (Value.none) (Value.none) (Value.none) (Value.str (Str.ofString "cpy313.tabnanny") 237) (none) (Value.ref 78) (Value.none)), #[]⟩
noncomputable def ko85 (P : Params) : Obj := { cls := Value.type "code", data := Data.fields #[Value.str (Str.ofString "equal") 292, Value.str (Str.ofString "Whitespace.equal") 293, Value.str (Str.ofString "/claim/cut.py") 294, Value.int 89 0, Value.int 2 0, Value.int 0 0, Value.int 0 0, Value.int 3 0, Value.ref 80, Value.bool true, Value.int 181 0, Value.ref 81, Value.none, Value.ref 82, Value.ref 83, Value.ref 84, Value.int 297 0, Value.int 89 0, Value.str (Str.ofString "/claim/cut.py") 298] }
noncomputable def ko86 (P : Params) : Obj := ⟨Value.type "function", none, .func (fdAt (inCls 4 (topAt 6)) (Str.ofString "Whitespace.equal") (Value.none) (Value.none) (Value.none) (Value.str (Str.ofString "cpy313.tabnanny") 237) (none) (Value.ref 85) (Value.none)), #[]⟩
noncomputable def ko99 (P : Params) : Obj := { cls := Value.type "code", data := Data.fields #[Value.str (Str.ofString "less") 308, Value.str (Str.ofString "Whitespace.less") 309, Value.str (Str.ofString "/claim/cut.py") 310, Value.int 95 0, Value.int 2 0, Value.int 0 0, Value.int 0 0, Value.int 3 0, Value.ref 94, Value.bool true, Value.int 181 0, Value.ref 95, Value.none, Value.ref 96, Value.ref 97, Value.ref 98, Value.int 315 0, Value.int 95 0, Value.str (Str.ofString "/claim/cut.py") 316] }
noncomputable def ko100 (P : Params) : Obj := ⟨Value.type "function", none, .func (fdAt (inCls 6 (topAt 6)) (Str.ofString "Whitespace.less") (Value.none) (Value.none) (Value.none) (Value.str (Str.ofString "cpy313.tabnanny") 237) (none) (Value.ref 99) (Value.none)), #[]⟩
noncomputable def ko109 (P : Params) : Obj := { cls := Value.type "dict", data := Data.dict #[{ hash := PyData.keyHash P (Str.ofString "__module__"), key := Value.str (Str.ofString "__module__") 246, val := Value.str (Str.ofString "cpy313.tabnanny") 237 }, { hash := PyData.keyHash P (Str.ofString "__firstlineno__"), key := Value.str (Str.ofString "__firstlineno__") 250, val := Value.int 52 249 }, { hash := PyData.keyHash P (Str.ofString "S"), key := Value.str (Str.ofString "S") 254, val := Value.str (Str.ofString " ") 252 }, { hash := PyData.keyHash P (Str.ofString "T"), key := Value.str (Str.ofString "T") 255, val := Value.str (Str.ofString "\t") 253 }, { hash := PyData.keyHash P (Str.ofString "__init__"), key := Value.str (Str.ofString "__init__") 270, val := Value.ref 65 }, { hash := PyData.keyHash P (Str.ofString "longest_run_of_spaces"), key := Value.str (Str.ofString "longest_run_of_spaces") 279, val := Value.ref 72 }, { hash := PyData.keyHash P (Str.ofString "indent_level"), key := Value.str (Str.ofString "indent_level") 291, val := Value.ref 79 }, { hash := PyData.keyHash P (Str.ofString "equal"), key := Value.str (Str.ofString "equal") 299, val := Value.ref 86 }, { hash := PyData.keyHash P (Str.ofString "not_equal_witness"), key := Value.str (Str.ofString "not_equal_witness") 307, val := Value.ref 93 }, { hash := PyData.keyHash P (Str.ofString "less"), key := Value.str (Str.ofString "less") 317, val := Value.ref 100 }, { hash := PyData.keyHash P (Str.ofString "not_less_witness"), key := Value.str (Str.ofString "not_less_witness") 325, val := Value.ref 107 }, { hash := PyData.keyHash P (Str.ofString "__static_attributes__"), key := Value.str (Str.ofString "__static_attributes__") 331, val := Value.ref 108 }, { hash := PyData.keyHash P (Str.ofString "__dict__"), key := Value.str (Str.ofString "__dict__") 333, val := Value.ref 111 }, { hash := PyData.keyHash P (Str.ofString "__weakref__"), key := Value.str (Str.ofString "__weakref__") 335, val := Value.ref 112 }, { hash := PyData.keyHash P (Str.ofString "__doc__"), key := Value.str (Str.ofString "__doc__") 336, val := Value.none }] 4 }
noncomputable def ko110 (P : Params) : Obj := { cls := Value.type "type", data := Data.cls { name := Str.ofString "Whitespace", bases := [Value.type "object"], mro := [Value.ref 110, Value.type "object"], ns := 109, qualname := Str.ofString "Whitespace" }, slots := #[none, none, some (Value.str (Str.ofString "Whitespace") 239), some (Value.str (Str.ofString "Whitespace") 247), some (Value.builtin "object.__new__"), some (Value.bool true)] }
noncomputable def ko115 (P : Params) : Obj := { cls := Value.type "dict", data := Data.dict #[{ hash := PyData.keyHash P (Str.ofString "!"), key := Value.str (Str.ofString "!") 441, val := Value.int 54 437 }, { hash := PyData.keyHash P (Str.ofString "!="), key := Value.str (Str.ofString "!=") 443, val := Value.int 28 385 }, { hash := PyData.keyHash P (Str.ofString "%"), key := Value.str (Str.ofString "%") 445, val := Value.int 24 377 }, { hash := PyData.keyHash P (Str.ofString "%="), key := Value.str (Str.ofString "%=") 447, val := Value.int 40 409 }, { hash := PyData.keyHash P (Str.ofString "&"), key := Value.str (Str.ofString "&") 449, val := Value.int 19 367 }, { hash := PyData.keyHash P (Str.ofString "&="), key := Value.str (Str.ofString "&=") 451, val := Value.int 41 411 }, { hash := PyData.keyHash P (Str.ofString "("), key := Value.str (Str.ofString "(") 453, val := Value.int 7 343 }, { hash := PyData.keyHash P (Str.ofString ")"), key := Value.str (Str.ofString ")") 455, val := Value.int 8 345 }, { hash := PyData.keyHash P (Str.ofString "*"), key := Value.str (Str.ofString "*") 457, val := Value.int 16 361 }, { hash := PyData.keyHash P (Str.ofString "**"), key := Value.str (Str.ofString "**") 459, val := Value.int 35 399 }, { hash := PyData.keyHash P (Str.ofString "**="), key := Value.str (Str.ofString "**=") 461, val := Value.int 46 421 }, { hash := PyData.keyHash P (Str.ofString "*="), key := Value.str (Str.ofString "*=") 463, val := Value.int 38 405 }, { hash := PyData.keyHash P (Str.ofString "+"), key := Value.str (Str.ofString "+") 465, val := Value.int 14 357 }, { hash := PyData.keyHash P (Str.ofString "+="), key := Value.str (Str.ofString "+=") 467, val := Value.int 36 401 }, { hash := PyData.keyHash P (Str.ofString ","), key := Value.str (Str.ofString ",") 469, val := Value.int 12 353 }, { hash := PyData.keyHash P (Str.ofString "-"), key := Value.str (Str.ofString "-") 471, val := Value.int 15 359 }, { hash := PyData.keyHash P (Str.ofString "-="), key := Value.str (Str.ofString "-=") 473, val := Value.int 37 403 }, { hash := PyData.keyHash P (Str.ofString "->"), key := Value.str (Str.ofString "->") 475, val := Value.int 51 431 }, { hash := PyData.keyHash P (Str.ofString "."), key := Value.str (Str.ofString ".") 477, val := Value.int 23 375 }, { hash := PyData.keyHash P (Str.ofString "..."), key := Value.str (Str.ofString "...") 479, val := Value.int 52 433 }, { hash := PyData.keyHash P (Str.ofString "/"), key := Value.str (Str.ofString "/") 481, val := Value.int 17 363 }, { hash := PyData.keyHash P (Str.ofString "//"), key := Value.str (Str.ofString "//") 483, val := Value.int 47 423 }, { hash := PyData.keyHash P (Str.ofString "//="), key := Value.str (Str.ofString "//=") 485, val := Value.int 48 425 }, { hash := PyData.keyHash P (Str.ofString "/="), key := Value.str (Str.ofString "/=") 487, val := Value.int 39 407 }, { hash := PyData.keyHash P (Str.ofString ":"), key := Value.str (Str.ofString ":") 489, val := Value.int 11 351 }, { hash := PyData.keyHash P (Str.ofString ":="), key := Value.str (Str.ofString ":=") 491, val := Value.int 53 435 }, { hash := PyData.keyHash P (Str.ofString ";"), key := Value.str (Str.ofString ";") 493, val := Value.int 13 355 }, { hash := PyData.keyHash P (Str.ofString "<"), key := Value.str (Str.ofString "<") 495, val := Value.int 20 369 }, { hash := PyData.keyHash P (Str.ofString "<<"), key := Value.str (Str.ofString "<<") 497, val := Value.int 33 395 }, { hash := PyData.keyHash P (Str.ofString "<<="), key := Value.str (Str.ofString "<<=") 499, val := Value.int 44 417 }, { hash := PyData.keyHash P (Str.ofString "<="), key := Value.str (Str.ofString "<=") 501, val := Value.int 29 387 }, { hash := PyData.keyHash P (Str.ofString "="), key := Value.str (Str.ofString "=") 503, val := Value.int 22 373 }, { hash := PyData.keyHash P (Str.ofString "=="), key := Value.str (Str.ofString "==") 505, val := Value.int 27 383 }, { hash := PyData.keyHash P (Str.ofString ">"), key := Value.str (Str.ofString ">") 507, val := Value.int 21 371 }, { hash := PyData.keyHash P (Str.ofString ">="), key := Value.str (Str.ofString ">=") 509, val := Value.int 30 389 }, { hash := PyData.keyHash P (Str.ofString ">>"), key := Value.str (Str.ofString ">>") 510, val := Value.int 34 397 }, { hash := PyData.keyHash P (Str.ofString ">>="), key := Value.str (Str.ofString ">>=") 511, val := Value.int 45 419 }, { hash := PyData.keyHash P (Str.ofString "@"), key := Value.str (Str.ofString "@") 512, val := Value.int 49 427 }, { hash := PyData.keyHash P (Str.ofString "@="), key := Value.str (Str.ofString "@=") 513, val := Value.int 50 429 }, { hash := PyData.keyHash P (Str.ofString "["), key := Value.str (Str.ofString "[") 514, val := Value.int 9 347 }, { hash := PyData.keyHash P (Str.ofString "]"), key := Value.str (Str.ofString "]") 515, val := Value.int 10 349 }, { hash := PyData.keyHash P (Str.ofString "^"), key := Value.str (Str.ofString "^") 516, val := Value.int 32 393 }, { hash := PyData.keyHash P (Str.ofString "^="), key := Value.str (Str.ofString "^=") 517, val := Value.int 43 415 }, { hash := PyData.keyHash P (Str.ofString "{"), key := Value.str (Str.ofString "{") 518, val := Value.int 25 379 }, { hash := PyData.keyHash P (Str.ofString "|"), key := Value.str (Str.ofString "|") 519, val := Value.int 18 365 }, { hash := PyData.keyHash P (Str.ofString "|="), key := Value.str (Str.ofString "|=") 520, val := Value.int 42 413 }, { hash := PyData.keyHash P (Str.ofString "}"), key := Value.str (Str.ofString "}") 521, val := Value.int 26 381 }, { hash := PyData.keyHash P (Str.ofString "~"), key := Value.str (Str.ofString "~") 522, val := Value.int 31 391 }] 48 }
noncomputable def ko123 (P : Params) : Obj := { cls := Value.type "code", data := Data.fields #[Value.str (Str.ofString "ISTERMINAL") 538, Value.str (Str.ofString "ISTERMINAL") 539, Value.str (Str.ofString "/claim/cut.py") 540, Value.int 160 0, Value.int 1 0, Value.int 0 0, Value.int 0 0, Value.int 3 0, Value.ref 118, Value.bool true, Value.int 181 0, Value.ref 119, Value.none, Value.ref 120, Value.ref 121, Value.ref 122, Value.int 542 0, Value.int 160 0, Value.str (Str.ofString "/claim/cut.py") 543] }
noncomputable def ko124 (P : Params) : Obj := ⟨Value.type "function", none, .func (fdAt (topAt 59) (Str.ofString "ISTERMINAL") (Value.none) (Value.none) (Value.none) (Value.str (Str.ofString "cpy313.token") 339) (none) (Value.ref 123) (Value.none)), #[]⟩
noncomputable def ko130 (P : Params) : Obj := { cls := Value.type "code", data := Data.fields #[Value.str (Str.ofString "ISNONTERMINAL") 545, Value.str (Str.ofString "ISNONTERMINAL") 546, Value.str (Str.ofString "/claim/cut.py") 547, Value.int 162 0, Value.int 1 0, Value.int 0 0, Value.int 0 0, Value.int 3 0, Value.ref 125, Value.bool true, Value.int 181 0, Value.ref 126, Value.none, Value.ref 127, Value.ref 128, Value.ref 129, Value.int 549 0, Value.int 162 0, Value.str (Str.ofString "/claim/cut.py") 550] }
noncomputable def ko131 (P : Params) : Obj := ⟨Value.type "function", none, .func (fdAt (topAt 60) (Str.ofString "ISNONTERMINAL") (Value.none) (Value.none) (Value.none) (Value.str (Str.ofString "cpy313.token") 339) (none) (Value.ref 130) (Value.none)), #[]⟩
noncomputable def ko137 (P : Params) : Obj := { cls := Value.type "code", data := Data.fields #[Value.str (Str.ofString "ISEOF") 552, Value.str (Str.ofString "ISEOF") 553, Value.str (Str.ofString "/claim/cut.py") 554, Value.int 164 0, Value.int 1 0, Value.int 0 0, Value.int 0 0, Value.int 3 0, Value.ref 132, Value.bool true, Value.int 181 0, Value.ref 133, Value.none, Value.ref 134, Value.ref 135, Value.ref 136, Value.int 556 0, Value.int 164 0, Value.str (Str.ofString "/claim/cut.py") 557] }
noncomputable def ko138 (P : Params) : Obj := ⟨Value.type "function", none, .func (fdAt (topAt 61) (Str.ofString "ISEOF") (Value.none) (Value.none) (Value.none) (Value.str (Str.ofString "cpy313.token") 339) (none) (Value.ref 137) (Value.none)), #[]⟩
noncomputable def ko142 (P : Params) : Obj := { cls := Value.type "code", data := Data.fields #[Value.str (Str.ofString "_law_page") 561, Value.str (Str.ofString "_law_page") 562, Value.str (Str.ofString "/claim/cut.py") 563, Value.int 167 0, Value.int 1 0, Value.int 0 0, Value.int 0 0, Value.int 3 0, Value.ref 139, Value.bool true, Value.int 181 0, Value.ref 140, Value.none, Value.none, Value.none, Value.ref 141, Value.int 564 0, Value.int 167 0, Value.str (Str.ofString "/claim/cut.py") 565] }
noncomputable def ko143 (P : Params) : Obj := ⟨Value.type "function", none, .func (fdAt (topAt 63) (Str.ofString "_law_page") (Value.none) (Value.none) (Value.none) (Value.str (Str.ofString "law_rl0128_01") 559) (none) (Value.ref 142) (Value.none)), #[]⟩
noncomputable def ko149 (P : Params) : Obj := { cls := Value.type "code", data := Data.fields #[Value.str (Str.ofString "_law_nest") 567, Value.str (Str.ofString "_law_nest") 568, Value.str (Str.ofString "/claim/cut.py") 569, Value.int 188 0, Value.int 1 0, Value.int 0 0, Value.int 0 0, Value.int 3 0, Value.ref 144, Value.bool true, Value.int 181 0, Value.ref 145, Value.none, Value.ref 146, Value.ref 147, Value.ref 148, Value.int 576 0, Value.int 188 0, Value.str (Str.ofString "/claim/cut.py") 577] }
noncomputable def ko150 (P : Params) : Obj := ⟨Value.type "function", none, .func (fdAt (topAt 64) (Str.ofString "_law_nest") (Value.none) (Value.none) (Value.none) (Value.str (Str.ofString "law_rl0128_01") 559) (none) (Value.ref 149) (Value.none)), #[]⟩
noncomputable def ko154 (P : Params) : Obj := { cls := Value.type "code", data := Data.fields #[Value.str (Str.ofString "_law_held") 579, Value.str (Str.ofString "_law_held") 580, Value.str (Str.ofString "/claim/cut.py") 581, Value.int 197 0, Value.int 3 0, Value.int 0 0, Value.int 0 0, Value.int 3 0, Value.ref 151, Value.bool true, Value.int 181 0, Value.ref 152, Value.none, Value.none, Value.none, Value.ref 153, Value.int 582 0, Value.int 197 0, Value.str (Str.ofString "/claim/cut.py") 583] }
noncomputable def ko155 (P : Params) : Obj := ⟨Value.type "function", none, .func (fdAt (topAt 65) (Str.ofString "_law_held") (Value.none) (Value.none) (Value.none) (Value.str (Str.ofString "law_rl0128_01") 559) (none) (Value.ref 154) (Value.none)), #[]⟩
noncomputable def ko159 (P : Params) : Obj := { cls := Value.type "code", data := Data.fields #[Value.str (Str.ofString "_law_plans") 585, Value.str (Str.ofString "_law_plans") 586, Value.str (Str.ofString "/claim/cut.py") 587, Value.int 208 0, Value.int 3 0, Value.int 0 0, Value.int 0 0, Value.int 3 0, Value.ref 156, Value.bool true, Value.int 181 0, Value.ref 157, Value.none, Value.none, Value.none, Value.ref 158, Value.int 588 0, Value.int 208 0, Value.str (Str.ofString "/claim/cut.py") 589] }
noncomputable def ko160 (P : Params) : Obj := ⟨Value.type "function", none, .func (fdAt (topAt 66) (Str.ofString "_law_plans") (Value.none) (Value.none) (Value.none) (Value.str (Str.ofString "law_rl0128_01") 559) (none) (Value.ref 159) (Value.none)), #[]⟩
noncomputable def ko164 (P : Params) : Obj := { cls := Value.type "code", data := Data.fields #[Value.str (Str.ofString "law") 591, Value.str (Str.ofString "law") 592, Value.str (Str.ofString "/claim/cut.py") 593, Value.int 221 0, Value.int 1 0, Value.int 0 0, Value.int 0 0, Value.int 3 0, Value.ref 161, Value.bool true, Value.int 181 0, Value.ref 162, Value.none, Value.none, Value.none, Value.ref 163, Value.int 594 0, Value.int 221 0, Value.str (Str.ofString "/claim/cut.py") 595] }
noncomputable def ko165 (P : Params) : Obj := ⟨Value.type "function", none, .func (fdAt (topAt 67) (Str.ofString "law") (Value.none) (Value.none) (Value.none) (Value.str (Str.ofString "law_rl0128_01") 559) (none) (Value.ref 164) (Value.none)), #[]⟩

noncomputable def Kf (P : Params) : Frag := [(2, ko2 P), (3, ko3 P), (22, ko22 P), (23, ko23 P), (29, ko29 P), (30, ko30 P), (31, ko31 P), (32, ko32 P), (38, ko38 P), (39, ko39 P), (40, ko40 P), (41, ko41 P), (47, ko47 P), (48, ko48 P), (64, ko64 P), (65, ko65 P), (71, ko71 P), (72, ko72 P), (78, ko78 P), (79, ko79 P), (85, ko85 P), (86, ko86 P), (99, ko99 P), (100, ko100 P), (109, ko109 P), (110, ko110 P), (115, ko115 P), (123, ko123 P), (124, ko124 P), (130, ko130 P), (131, ko131 P), (137, ko137 P), (138, ko138 P), (142, ko142 P), (143, ko143 P), (149, ko149 P), (150, ko150 P), (154, ko154 P), (155, ko155 P), (159, ko159 P), (160, ko160 P), (164, ko164 P), (165, ko165 P)]
noncomputable abbrev kfAs : List Addr := [2, 3, 22, 23, 29, 30, 31, 32, 38, 39, 40, 41, 47, 48, 64, 65, 71, 72, 78, 79, 85, 86, 99, 100, 109, 110, 115, 123, 124, 130, 131, 137, 138, 142, 143, 149, 150, 154, 155, 159, 160, 164, 165]
theorem kfAs_eq (P : Params) : kfAs = (Kf P).map (·.1) := by kernel_rfl
end Mine

end
section
open PySem PySem.W PyProof.Rows PySem.Calls
set_option autoImplicit false
set_option linter.all false
namespace Mine

/-- the top's facts that hold at every later heap -/
structure TF (P : Params) (h : Heap) : Prop where
  k : (Kf P).In h
  lim : h.NoLimit
  g : ∃ mg, h.Ns mainGlobals mg
  b : ∃ mb, h.Ns builtinsNs mb ∧ ∀ x : Str, x ≠ "__name__" → mb x = bootBuiltins x
theorem TF.keeps {P : Params} {h h' : Heap} (t : TF P h) (k : ∀ b o, h.get? b = some o → h'.get? b = some o) : TF P h' :=
  ⟨t.k.keeps k, t.lim.keeps k, let ⟨m, n⟩ := t.g; ⟨m, n.keeps k⟩, let ⟨m, n, e⟩ := t.b; ⟨m, n.keeps k, e⟩⟩

theorem TF.glob {P : Params} {h : Heap} (t : TF P h) {x : Str} {v : Value} (e : nsIn (Kf P) mainGlobals x = some (some v)) : GlobV h x v := by
  obtain ⟨mg, n⟩ := t.g
  exact .inl ⟨mg, n, mg_of t.k n e⟩
theorem mg_none {K : Frag} {h : Heap} {mg : Str → Option Value} {n : Str} (X : K.In h) (G : h.Ns mainGlobals mg) (e : nsIn K mainGlobals n = some none) : mg n = none := by
  obtain ⟨o, es, ep, ho, hd, _, hf⟩ := G
  unfold nsIn at e
  split at e
  · rename_i c d es' n' sl q
    have := X _ _ q
    rw [ho] at this; cases this; cases hd
    split at e
    · cases e
    · rename_i hq
      rw [← hf]
      unfold nsFind findBy
      rw [← Array.find?_toList, hq]; rfl
  · cases e
theorem TF.built {P : Params} {h : Heap} (t : TF P h) {x : Str} {v : Value} (e : nsIn (Kf P) mainGlobals x = some none) (hb : bootBuiltins x = some v) (hn : x ≠ "__name__" := by decide) : GlobV h x v := by
  obtain ⟨mg, n⟩ := t.g
  obtain ⟨mb, n', e'⟩ := t.b
  exact .inr ⟨mg, mb, n, mg_none t.k n e, n', by rw [e' x hn]; exact hb⟩

noncomputable def fnAt? (K : Frag) (a : Addr) : Option FuncData := match K.lookup a with
  | some ⟨_, _, .func fd, _⟩ => some fd
  | _ => none
noncomputable def fdK (P : Params) (a : Addr) : FuncData := (fnAt? (Kf P) a).getD default
theorem TF.fn {P : Params} {h : Heap} (t : TF P h) (a : Addr) (e : (fnAt? (Kf P) a).isSome = true) (hc : codeIn (Kf P) (fdK P a).code (fdK P a).qualname = true) : Fun h a (fdK P a) := by
  refine ⟨?_, codeRec_of t.k hc⟩
  unfold fdK fnAt? at *
  split at e
  · rename_i q
    exact ⟨_, t.k _ _ q, rfl⟩
  · cases e

set_option maxRecDepth 100000
variable {prog : Program} {w : World} {A : Around}

theorem fn_pos {n : Nat} {st : Stmt} {qual : Str} {dV kV doc pm : Value} {an : Option Addr} {cdv ct : Value} {fa : Addr} {s : Shared} {args : Args} {vs : List Value} {ds : List PV} {R : Result → Shared → Prop} {RV : Value → Shared → Prop}
    (xs : List Str) (hA : AOk (n + 1) A) (hf : Fun s.heap fa (fdAt st qual dV kV doc pm an cdv ct)) (hlim : s.heap.NoLimit) (rs : Reps [] s.heap vs ds)
    (hbind : BindsTo s (fdAt st qual dV kV doc pm an cdv ct) args (xs.zip vs)) 
    (h : X prog w (A.deeper (callEnv (fdAt st qual dV kV doc pm an cdv ct) s.heap.objs.size fa)) ⟨s.heap, callEnv (fdAt st qual dV kV doc pm an cdv ct) s.heap.objs.size fa, [], xs.zip ds, []⟩ (bodyOf st) (fun f s' => RV (retOf f) s'))
    (hR : ∀ v s', Ext s s' → RV v s' → R (.ok (.ret v)) s')
    (hlen : xs.length = ds.length := by rfl) (hnd : xs.Nodup := by decide)
    (hloc : xs.all (fun x => (scopeOf st).names.lookup x == some NameKind.local) = true := by rfl)
    (hcell : (scopeOf st).names.all (fun x => x.2 != NameKind.cell) = true := by rfl)
    (hco : (scopeOf st).isCoroutine = false := by rfl) (hgen : (scopeOf st).isGenerator = false := by rfl) (hk : (scopeOf st).kind = .function := by rfl)
    (hsim : (scopeOf st).names.lookup ("is_simple" : Str) = none := by rfl) :
    codeAny (model prog w) A (.call (.ref fa) args) R s := by
  have hl : ∀ x, x ∈ xs → (scopeOf st).names.lookup x = some .local := fun x hx => by
    have := List.all_eq_true.mp hloc x hx
    simpa using this
  refine fn_plain hA hf hlim rfl hbind (fun x d e => ?_) (fun x c e => by cases e) (fun x y c e => by cases e) h hR (fun x hx => ?_) (fun x hx => ?_) hco hgen hk rfl rfl hsim
  · have hm := PySem.mem_of_lookup e
    exact .inl ⟨hl x (List.of_mem_zip hm).1, binds_ok xs vs ds hnd rs (by rw [hlen, rs.len]) x d e⟩
  · exact hl _ (List.of_mem_zip hx).1
  · have := List.all_eq_true.mp hcell x hx
    simpa using this

theorem fun_term {P : Params} {h : Heap} (t : TF P h) : ∃ doc pm an cdv ct, Fun h 124 (fdAt (topAt 59) "ISTERMINAL" .none .none doc pm an cdv ct) := by
  have e : fdK P 124 = fdAt (topAt 59) "ISTERMINAL" .none .none (fdK P 124).doc (fdK P 124).pyModule (fdK P 124).annotations (fdK P 124).code (fdK P 124).closureTuple := by kernel_rfl
  exact ⟨_, _, _, _, _, e ▸ t.fn 124 (by kernel_rfl) (by kernel_rfl)⟩
end Mine
namespace Mine
set_option maxRecDepth 100000
theorem gl_off {P : Params} {h : Heap} (t : TF P h) : GlobV h "NT_OFFSET" (.int 256 439) := t.glob (by kernel_rfl)
theorem gl_end {P : Params} {h : Heap} (t : TF P h) : GlobV h "ENDMARKER" (.int 0 341) := t.glob (by kernel_rfl)
theorem gl_bl {P : Params} {h : Heap} (t : TF P h) : GlobV h "bisect_left" (.ref 48) := t.glob (by kernel_rfl)
theorem gl_br {P : Params} {h : Heap} (t : TF P h) : GlobV h "bisect_right" (.ref 39) := t.glob (by kernel_rfl)
theorem gl_ir {P : Params} {h : Heap} (t : TF P h) : GlobV h "insort_right" (.ref 30) := t.glob (by kernel_rfl)
theorem gl_ws {P : Params} {h : Heap} (t : TF P h) : GlobV h "Whitespace" (.ref 110) := t.glob (by kernel_rfl)
theorem gl_tt {P : Params} {h : Heap} (t : TF P h) : GlobV h "EXACT_TOKEN_TYPES" (.ref 115) := t.glob (by kernel_rfl)
theorem gl_ist {P : Params} {h : Heap} (t : TF P h) : GlobV h "ISTERMINAL" (.ref 124) := t.glob (by kernel_rfl)
theorem gl_isn {P : Params} {h : Heap} (t : TF P h) : GlobV h "ISNONTERMINAL" (.ref 131) := t.glob (by kernel_rfl)
theorem gl_ise {P : Params} {h : Heap} (t : TF P h) : GlobV h "ISEOF" (.ref 138) := t.glob (by kernel_rfl)
theorem gl_page {P : Params} {h : Heap} (t : TF P h) : GlobV h "_law_page" (.ref 143) := t.glob (by kernel_rfl)
theorem gl_nest {P : Params} {h : Heap} (t : TF P h) : GlobV h "_law_nest" (.ref 150) := t.glob (by kernel_rfl)
theorem gl_held {P : Params} {h : Heap} (t : TF P h) : GlobV h "_law_held" (.ref 155) := t.glob (by kernel_rfl)
theorem gl_plans {P : Params} {h : Heap} (t : TF P h) : GlobV h "_law_plans" (.ref 160) := t.glob (by kernel_rfl)
theorem gl_len {P : Params} {h : Heap} (t : TF P h) : GlobV h "len" (.builtin "len") := t.built (by kernel_rfl) (by kernel_rfl)
theorem gl_sum {P : Params} {h : Heap} (t : TF P h) : GlobV h "sum" (.builtin "sum") := t.built (by kernel_rfl) (by kernel_rfl)
theorem gl_min {P : Params} {h : Heap} (t : TF P h) : GlobV h "min" (.builtin "min") := t.built (by kernel_rfl) (by kernel_rfl)
theorem gl_max {P : Params} {h : Heap} (t : TF P h) : GlobV h "max" (.builtin "max") := t.built (by kernel_rfl) (by kernel_rfl)
theorem gl_sorted {P : Params} {h : Heap} (t : TF P h) : GlobV h "sorted" (.builtin "sorted") := t.built (by kernel_rfl) (by kernel_rfl)
theorem gl_range {P : Params} {h : Heap} (t : TF P h) : GlobV h "range" (.type "range") := t.built (by kernel_rfl) (by kernel_rfl)
theorem gl_tuple {P : Params} {h : Heap} (t : TF P h) : GlobV h "tuple" (.type "tuple") := t.built (by kernel_rfl) (by kernel_rfl)
theorem gl_enum {P : Params} {h : Heap} (t : TF P h) : GlobV h "enumerate" (.type "enumerate") := t.built (by kernel_rfl) (by kernel_rfl)
theorem gl_zip {P : Params} {h : Heap} (t : TF P h) : GlobV h "zip" (.type "zip") := t.built (by kernel_rfl) (by kernel_rfl)
end Mine

end
section
open PySem PySem.W PyProof.Rows PySem.Calls
set_option autoImplicit false
set_option linter.all false
namespace Mine
variable {prog : Program} {w : World} {A : Around} {Γ : Cx}

theorem S.while {ι : Type} (G : ι → Cx) (J : ι → Prop) (m : ι → Nat) (c : ι → Bool) {test : Expr} {body : List Stmt} {pos : Pos} {R : Flow → Shared → Prop} (i₀ : ι) (h0 : J i₀)
    (he : ∀ i, (G i).env = (G i₀).env) (hW : ∀ i, (G i).W = (G i₀).W) (hO : ∀ i, (G i).O = (G i₀).O)
    (ht : ∀ i, J i → Tr prog w A (G i) test (c i))
    (hb : ∀ i, J i → c i = true → X prog w A (G i) body (fun f s' => match f with
      | .next | .cont => ∃ j, J j ∧ m j < m i ∧ (G j).Ok s'.heap
      | .brk => R .next s'
      | .ret v => R (.ret v) s'))
    (hd : ∀ i s', J i → c i = false → (G i).Ok s'.heap → R .next s') : S prog w A (G i₀) (.While test body [] pos) R := fun s Q E ok h => by
  refine wpAny_While ?_
  refine codeAny_whileLoop (fun n s' => ∃ i, J i ∧ m i = n ∧ (G i).Ok s'.heap ∧ Kp (G i₀) s s') (fun n s' hI => ?_) (m i₀) ⟨i₀, h0, rfl, ok, Kp.refl _⟩
  obtain ⟨i, hJ, rfl, ok', kp⟩ := hI
  have ht' := ht i hJ
  have key : ∀ E', wpAny (model prog w) A (isTrue test (G i₀).env (eval test (G i₀).env)) (fun b s₂ =>
        if b = true then wpAny (model prog w) A (execs body (G i₀).env) (fun f s₃ => match f with
            | .next | .cont => ∃ m', m' < m i ∧ ∃ i, J i ∧ m i = m' ∧ (G i).Ok s₃.heap ∧ Kp (G i₀) s s₃
            | .brk => Q .next s₃
            | .ret v => Q (.ret v) s₃) E' s₂
        else wpAny (model prog w) A (execs [] (G i₀).env) (fun f s₃ => Q f s₃) E' s₂) E' s' := by
    intro E'
    rw [← he i]
    refine ht' s' _ _ ok' fun s₂ k₂ => ?_
    have ok₂ := ok'.step k₂
    have kp₂ : Kp (G i₀) s s₂ := Kp.trans rfl rfl rfl kp k₂.kp
    cases hc : c i with
    | true =>
      simp only [if_true]
      refine hb i hJ hc s₂ _ _ ok₂ fun f s₃ kp₃ r => ?_
      have kp' : Kp (G i₀) s s₃ := Kp.trans (he i) (hW i) (hO i) kp₂ kp₃
      cases f with
      | next => obtain ⟨j, hj, hm, okj⟩ := r; exact ⟨m j, hm, j, hj, rfl, okj, kp'⟩
      | cont => obtain ⟨j, hj, hm, okj⟩ := r; exact ⟨m j, hm, j, hj, rfl, okj, kp'⟩
      | brk => exact h _ _ kp' r
      | ret v => exact h _ _ kp' r
    | false =>
      simp only [Bool.false_eq_true, if_false]
      exact wpAny_execs_nil (h _ _ kp₂ (hd i s₂ hJ hc ok₂))
  exact key _

/-- an iterator that gives ds in turn; it was made behind s -/
noncomputable def Src (prog : Program) (w : World) (A : Around) (Γ : Cx) (s s' : Shared) (it : Value) (ds : List PV) : Prop :=
  ∃ (I : Addr) (fp wr : List Addr) (P : Nat → Value → Prop) (St : Nat → Heap → Prop), it = .ref I ∧ Walks prog w A I fp wr ds.length P St ∧ St 0 s'.heap ∧
    (∀ b ∈ fp, b < s'.heap.objs.size ∧ ¬ Stor Γ.env Γ.W b ∧ b ∉ Γ.O) ∧ (∀ b ∈ wr, s.heap.get? b = none) ∧ (∀ i h b o, St i h → b ∈ wr → h.get? b = some o → ¬ isSeqObj o) ∧
    (∀ i v d h', P i v → ds[i]? = some d → (∀ b o, b ∉ Γ.O → isSeqObj o → s'.heap.get? b = some o → h'.get? b = some o) → Rep Γ.O h' v d)
noncomputable def Itr (prog : Program) (w : World) (A : Around) (Γ : Cx) (e : Expr) (ds : List PV) : Prop :=
  ∀ (s : Shared) (Q : Value → Shared → Prop) (E : Value → Shared → Prop), Γ.Ok s.heap → (∀ it s', Ext s s' → Src prog w A Γ s s' it ds → Q it s') →
    wpAny (model prog w) A (eval e Γ.env) (fun x s₁ => wpAny (model prog w) A (pyIter x) Q E s₁) E s

theorem Cx.Ok.change {h h' : Heap} (ok : Γ.Ok h) (k : ∀ b o, (isSeqObj o ∨ (∃ o', Γ.B.get? b = some o') ∨ b = Γ.env.locals ∨ (∃ x, Γ.env.cells.lookup x = some b)) → h.get? b = some o → h'.get? b = some o) : Γ.Ok h' := by
  have kB : ∀ b o, Γ.B.get? b = some o → h'.get? b = some o := fun b o e => k b o (.inr (.inl ⟨o, e⟩)) (ok.base b o e)
  have kN : ∀ m, h.Ns Γ.env.locals m → h'.Ns Γ.env.locals m := fun m ⟨o, es, ep, e, r⟩ => ⟨o, es, ep, k _ _ (.inr (.inr (.inl rfl))) e, r⟩
  have kC : ∀ x c v, Γ.env.cells.lookup x = some c → h.IsCell c v → h'.IsCell c v := fun x c v hx ⟨o, e, r⟩ => ⟨o, k _ _ (.inr (.inr (.inr ⟨x, hx⟩))) e, r⟩
  refine ⟨kB, ⟨ok.fr.fn, ok.fr.gl, ok.fr.bl, let ⟨m, n, q⟩ := ok.fr.ns; ⟨m, kN m n, q⟩, fun x c e => let ⟨v, hv⟩ := ok.fr.cl x c e; ⟨v, kC x c v e hv⟩, ok.fr.inj⟩, fun x d e => ?_, fun a ds e => ?_, ok.nd, ok.out⟩
  · obtain ⟨v, hv, hr⟩ := ok.vars x d e
    refine ⟨v, ?_, hr.mono (fun _ x => x) fun b o _ hs e => k b o (.inl hs) e⟩
    rcases hv with ⟨h1, m, h2, h3⟩ | ⟨h1, c, h2, h3⟩
    · exact .inl ⟨h1, m, kN m h2, h3⟩
    · exact .inr ⟨h1, c, h2, kC x c _ h2 h3⟩
  · obtain ⟨vs, ⟨n, e1⟩, hr⟩ := ok.mem a ds e
    exact ⟨vs, ⟨n, k _ _ (.inl (.inl ⟨_, _, rfl⟩)) e1⟩, hr.mono (fun _ x => x) fun b o _ hs e => k b o (.inl hs) e⟩

theorem Cx.Ok.stands {h : Heap} (ok : Γ.Ok h) {b : Addr} (hb : (∃ o', Γ.B.get? b = some o') ∨ b = Γ.env.locals ∨ (∃ x, Γ.env.cells.lookup x = some b)) : ∃ o, h.get? b = some o := by
  rcases hb with ⟨o, e⟩ | rfl | ⟨x, e⟩
  · exact ⟨o, ok.base _ _ e⟩
  · obtain ⟨m, ⟨o, es, ep, e, _⟩, _⟩ := ok.fr.ns; exact ⟨o, e⟩
  · obtain ⟨v, o, e', _⟩ := ok.fr.cl x b e; exact ⟨o, e'⟩

theorem S.for (G : Nat → Cx) {x : Str} {px : Pos} {iter : Expr} {body : List Stmt} {pos : Pos} {ds : List PV} {RB : Shared → Prop} {RR : Value → Shared → Prop}
    (hit : Itr prog w A (G 0) iter ds) (he : ∀ i, (G i).env = (G 0).env) (hW : ∀ i, (G i).W = (G 0).W) (hO : ∀ i, (G i).O = (G 0).O) (hB : ∀ i, (G i).B = (G 0).B)
    (hb : ∀ k d, ds[k]? = some d → X prog w A ((G k).set x d) body (fun f s' => match f with
      | .next | .cont => (G (k + 1)).Ok s'.heap
      | .brk => RB s'
      | .ret v => RR v s'))
    (hx : storable (G 0).env (G 0).W x = true := by rfl) (hs : ∀ v, foldedSetIterable iter (G 0).env v = pure v := by intro _; rfl) :
    S prog w A (G 0) (.For (.Name x px) iter body [] pos) (fun f s' => (f = .next ∧ ((G ds.length).Ok s'.heap ∨ RB s')) ∨ ∃ v, f = .ret v ∧ RR v s') := fun s Q E ok h => by
  refine wpAny_For (hit s _ _ ok fun it s₂ k₂ hsrc => ?_) hs
  obtain ⟨I, fp, wr, P, St, rfl, W, hst, hfp, hwr, hns, hitem⟩ := hsrc
  have ok₂ := ok.step k₂
  refine codeAny_forLoop (fun n s' => ∃ k h' tk, n = ds.length + 1 - k ∧ k ≤ ds.length ∧ s' = { s₂ with heap := h', toks := tk } ∧ St k h' ∧ (G k).Ok h' ∧
      (∀ b o, ¬ Stor (G 0).env (G 0).W b → b ∉ (G 0).O → b ∉ wr → s₂.heap.get? b = some o → h'.get? b = some o)) (fun n s' hI => ?_) (ds.length + 1)
    ⟨0, s₂.heap, s₂.toks, rfl, Nat.zero_le _, rfl, hst, ok₂, fun _ _ _ _ _ e => e⟩
  obtain ⟨k, h', tk, rfl, hk, rfl, hst', ok', hkp⟩ := hI
  have hwr2 : ∀ b, b ∈ wr → ∀ o, ¬ (s.heap.get? b = some o) := fun b hb o e => by rw [hwr b hb] at e; cases e
  have okStands : ∀ b, ((∃ o', (G k).B.get? b = some o') ∨ b = (G k).env.locals ∨ (∃ x, (G k).env.cells.lookup x = some b)) → b ∉ wr := fun b hb hm => by
    rw [hB k, he k] at hb
    obtain ⟨o, e⟩ := ok.stands hb
    exact hwr2 b hm o e
  -- a turn of the iterator leaves the frame as it stands
  have turnOk : ∀ h'', (∀ b o, b ∉ wr → h'.get? b = some o → h''.get? b = some o) → (G k).Ok h'' := fun h'' kk => ok'.change fun b o hb e => by
    refine kk b o ?_ e
    rcases hb with hb | hb
    · exact fun hm => hns k h' b o hst' hm e hb
    · exact okStands b hb
  have final : ∀ h'' tk'' , (∀ b o, ¬ Stor (G 0).env (G 0).W b → b ∉ (G 0).O → b ∉ wr → s₂.heap.get? b = some o → h''.get? b = some o) → Kp (G 0) s { s₂ with heap := h'', toks := tk'' } := fun h'' tk'' kk => by
    obtain ⟨⟨h₂, t₂, rfl⟩, g₂⟩ := k₂
    exact ⟨⟨_, _, rfl⟩, fun b o h1 h2 e => kk b o h1 h2 (fun hm => hwr2 b hm o e) (g₂ b o e)⟩
  by_cases hlt : k < ds.length
  · refine W.item k _ _ _ hlt hst' fun v h₃ tk₃ hP hst₃ hk₃ => ?_
    obtain ⟨d, hd⟩ : ∃ d, ds[k]? = some d := ⟨ds[k], by simp [hlt]⟩
    have ok₃ := turnOk h₃ hk₃
    have hrep : Rep (G k).O h₃ v d := by
      rw [hO k]
      refine hitem k v d h₃ hP hd fun b o hb hs e => ?_
      have hnst : ¬ Stor (G 0).env (G 0).W b := fun hst => ok₂.fr.notSeq hst e hs
      have hnw : b ∉ wr := fun hm => by
        exact hns 0 s₂.heap b o hst hm e hs
      exact hk₃ b o hnw (hkp b o hnst hb hnw e)
    refine wpAny_assign_Name ?_
    rw [← he k]
    refine wp_store (s := { s₂ with heap := h₃, toks := tk₃ }) ok₃ hrep (by rw [he k, hW k]; exact hx) fun s₄ ok₄ kps₄ => ?_
    have kp₄ := kps₄.kp
    have hst₄ : St (k + 1) s₄.heap := W.frame _ _ _ hst₃ fun b hb o e => kp₄.get b o (by rw [he k, hW k]; exact (hfp b hb).2.1) (by rw [hO k]; exact (hfp b hb).2.2) e
    refine hb k d hd s₄ _ _ ok₄ fun f s₅ kp₅ r => ?_
    have hst₅ : St (k + 1) s₅.heap := W.frame _ _ _ hst₄ fun b hb o e => kp₅.get b o (by show ¬ Stor (G k).env (G k).W b; rw [he k, hW k]; exact (hfp b hb).2.1) (by show b ∉ (G k).O; rw [hO k]; exact (hfp b hb).2.2) e
    obtain ⟨h₄, tk₄, rfl⟩ := kp₄.as
    obtain ⟨h₅, tk₅, rfl⟩ := kp₅.as
    have hkp₅ : ∀ b o, ¬ Stor (G 0).env (G 0).W b → b ∉ (G 0).O → b ∉ wr → s₂.heap.get? b = some o → h₅.get? b = some o := fun b o h1 h2 h3 e =>
      kp₅.get b o (by show ¬ Stor (G k).env (G k).W b; rw [he k, hW k]; exact h1) (by show b ∉ (G k).O; rw [hO k]; exact h2) (kp₄.get b o (by rw [he k, hW k]; exact h1) (by rw [hO k]; exact h2) (hk₃ b o h3 (hkp b o h1 h2 h3 e)))
    cases f with
    | next => exact ⟨ds.length + 1 - (k + 1), by omega, k + 1, h₅, tk₅, rfl, hlt, rfl, hst₅, r, by rw [he k]; exact hkp₅⟩
    | cont => exact ⟨ds.length + 1 - (k + 1), by omega, k + 1, h₅, tk₅, rfl, hlt, rfl, hst₅, r, by rw [he k]; exact hkp₅⟩
    | brk => exact h _ _ (final h₅ tk₅ hkp₅) (.inl ⟨rfl, .inr r⟩)
    | ret v => exact h _ _ (final h₅ tk₅ hkp₅) (.inr ⟨v, rfl, r⟩)
  · have hkn : k = ds.length := by omega
    subst hkn
    refine W.done _ _ _ hst' fun h₃ tk₃ hk₃ => ?_
    exact wpAny_execs_nil (h _ _ (final h₃ tk₃ fun b o h1 h2 h3 e => hk₃ b o h3 (hkp b o h1 h2 h3 e)) (.inl ⟨rfl, .inl (turnOk h₃ hk₃)⟩))
end Mine
namespace Mine
variable {prog : Program} {w : World} {A : Around} {Γ : Cx}
noncomputable def Cx.to (Γ : Cx) (ρ' : List (Str × PV)) : Cx := { Γ with ρ := ρ' }
noncomputable def Sub (ρ' ρ : List (Str × PV)) : Prop := ∀ p ∈ ρ', ρ.lookup p.1 = some p.2
theorem Sub.nil {ρ : List (Str × PV)} : Sub [] ρ := fun p hp => absurd hp List.not_mem_nil
theorem Sub.cons {ρ ρ' : List (Str × PV)} {x : Str} {d : PV} (h : ρ.lookup x = some d) (h2 : Sub ρ' ρ) : Sub ((x, d) :: ρ') ρ := fun p hp => by
  rcases List.mem_cons.mp hp with rfl | hp
  · exact h
  · exact h2 p hp
theorem Cx.Ok.to {h : Heap} {ρ' : List (Str × PV)} (ok : Γ.Ok h) (hs : Sub ρ' Γ.ρ) : (Γ.to ρ').Ok h := ok.sub ρ' (lookup_sub hs)
theorem S.weak {st : Stmt} {R : Flow → Shared → Prop} {ρ' : List (Str × PV)} (h : S prog w A (Γ.to ρ') st R) (hs : Sub ρ' Γ.ρ) : S prog w A Γ st R := fun s Q E ok k =>
  h s Q E (ok.to hs) fun f s' kp r => k f s' ⟨kp.as, fun b o h1 h2 e => kp.get b o h1 h2 e⟩ r
theorem X.to {ss : List Stmt} {R : Flow → Shared → Prop} (ρ' : List (Str × PV)) (hs : Sub ρ' Γ.ρ) (h : X prog w A (Γ.to ρ') ss R) : X prog w A Γ ss R := X.weak h (fun hp ok => ok.to hs)

theorem S.whileR {ι : Type} (ρs : ι → List (Str × PV)) (J : ι → Prop) (m : ι → Nat) (c : ι → Bool) {test : Expr} {body : List Stmt} {pos : Pos} {R : Flow → Shared → Prop} (i₀ : ι) (h0 : J i₀) (hs : Sub (ρs i₀) Γ.ρ)
    (ht : ∀ i, J i → Tr prog w A (Γ.to (ρs i)) test (c i))
    (hb : ∀ i, J i → c i = true → X prog w A (Γ.to (ρs i)) body (fun f s' => match f with
      | .next | .cont => ∃ j, J j ∧ m j < m i ∧ (Γ.to (ρs j)).Ok s'.heap
      | .brk => R .next s'
      | .ret v => R (.ret v) s'))
    (hd : ∀ i s', J i → c i = false → (Γ.to (ρs i)).Ok s'.heap → R .next s') : S prog w A Γ (.While test body [] pos) R :=
  S.weak (S.while (fun i => Γ.to (ρs i)) J m c i₀ h0 (fun _ => rfl) (fun _ => rfl) (fun _ => rfl) ht hb hd) hs

theorem X.ifTr {t : Expr} {body orelse rest : List Stmt} {pos : Pos} {R : Flow → Shared → Prop} (ρ' : List (Str × PV)) (ht : Tr prog w A Γ t true) (h1 : X prog w A Γ body (Nx (Γ.to ρ'))) (h3 : X prog w A (Γ.to ρ') rest R) :
    X prog w A Γ (.If t body orelse pos :: rest) R := X.ifT ht h1 h3
theorem X.ifJr {t : Expr} {body orelse rest : List Stmt} {pos : Pos} {b : Bool} {R : Flow → Shared → Prop} (ρ' : List (Str × PV)) (ht : Tr prog w A Γ t b) (h1 : b = true → X prog w A Γ body (Nx (Γ.to ρ'))) (h2 : b = false → X prog w A Γ orelse (Nx (Γ.to ρ')))
    (h3 : X prog w A (Γ.to ρ') rest R) : X prog w A Γ (.If t body orelse pos :: rest) R := X.ifJ ht h1 h2 h3
end Mine

end
section
open PySem PySem.W PyProof.Rows PySem.Calls
set_option autoImplicit false
set_option linter.all false
namespace Mine
theorem notSeq_fields {o : Obj} {fs : Array Value} (hd : o.data = .fields fs) : ¬ isSeqObj o := by
  rintro (⟨its, n, q⟩ | q | ⟨es, n, v, q, _⟩) <;> (rw [hd] at q; cases q)
variable {prog : Program} {w : World} {A : Around} {Γ : Cx}

/-- an expression whose value is a list, whoever holds it -/
noncomputable def LV (prog : Program) (w : World) (A : Around) (Γ : Cx) (e : Expr) (ds : List PV) : Prop :=
  ∀ (s : Shared) (Q : Value → Shared → Prop) (E : Value → Shared → Prop), Γ.Ok s.heap → (∀ a vs s', Ext s s' → s'.heap.PlainList a vs.toArray → Reps Γ.O s'.heap vs ds → Q (.ref a) s') → wpAny (model prog w) A (eval e Γ.env) Q E s
theorem LV.of {e : Expr} {ds : List PV} (h : Ev prog w A Γ e (.list ds)) : LV prog w A Γ e ds := fun s Q E ok k =>
  h s Q E ok fun v s' x r => by obtain ⟨a, vs, rfl, _, hl, hr⟩ := r.list_inv; exact k a vs s' x hl hr
theorem LV.own {e : Expr} {a : Addr} {ds : List PV} (h : Ev prog w A Γ e (.ref a)) (hm : (a, ds) ∈ Γ.μ) : LV prog w A Γ e ds := fun s Q E ok k =>
  h s Q E ok fun v s' x r => by rw [r.ref_inv]; obtain ⟨vs, hl, hr⟩ := (ok.step x).mem a ds hm; exact k a vs s' x hl hr

theorem sub_ops (slice : Expr) (o i : Value) : ∃ ops, subscripted slice false o i = operate ops (getItem o i) := by
  unfold subscripted
  split
  · exact ⟨_, rfl⟩
  · rename_i h; cases h
  · exact ⟨_, rfl⟩

noncomputable def pyIdx (n : Nat) (k : Int) : Nat := if k < 0 then (k + n).toNat else k.toNat

theorem wp_idx {s : Shared} {Q : Value → Shared → Prop} {E : Value → Shared → Prop} {value slice : Expr} {a : Addr} {vs : List Value} {k : Int} {t : Tok} {v : Value} (hl : s.heap.IsList a vs.toArray) (hv : vs[pyIdx vs.length k]? = some v)
    (hb : -(vs.length : Int) ≤ k) (hfit : k < 2 ^ 63) (hfit' : -(2 ^ 63) ≤ k) (h : Q v s) : wpAny (model prog w) A (subscriptTail value slice (.ref a) (.int k t)) Q E s := by
  obtain ⟨ops, ho⟩ := sub_ops slice (.ref a) (.int k t)
  refine tail_any hl.typeIs slot_list_getitem.lookup ?_ ho
  unfold pyIdx at hv
  by_cases hk : k < 0
  · rw [if_pos hk] at hv
    exact wpAny_getItem_list_neg hl hk (by simpa using hb) hfit' (by simpa using hv) h
  · rw [if_neg hk] at hv
    exact wpAny_getItem_list hl (by omega) hfit (by simpa using hv) h

theorem Ev.idx {e i : Expr} {pos : Pos} {ds : List PV} {k : Int} {d : PV} (h1 : LV prog w A Γ e ds) (h2 : Ev prog w A Γ i (.int k)) (hd : ds[pyIdx ds.length k]? = some d) (hb : -(ds.length : Int) ≤ k) (hfit : k < 2 ^ 63 := by omega) (hfit' : -(2 ^ 63) ≤ k := by omega) :
    Ev prog w A Γ (.Subscript e i pos) d := fun s Q E ok h =>
  Subscript_ (h1 s _ _ ok fun a vs s₁ k₁ hl rs => h2 s₁ _ _ (ok.step k₁) fun v s₂ k₂ r₂ => by
    obtain ⟨t, rfl⟩ := r₂.int_inv
    have hlen := rs.len
    have hlt : pyIdx ds.length k < ds.length := (List.getElem?_eq_some_iff.mp hd).1
    obtain ⟨v, hv⟩ : ∃ v, vs[pyIdx vs.length k]? = some v := ⟨vs[pyIdx vs.length k]'(by rw [hlen]; exact hlt), by simp [hlen, hlt]⟩
    refine wp_idx (hl.at fun o e => k₂.get _ o e).isList hv (by rw [hlen]; exact hb) hfit hfit' (h v s₂ (k₁.trans k₂) ?_)
    exact (rs.at' _ v d (by rw [hlen] at hv; exact hv) hd).keeps k₂.get)

theorem BCall.len {ds : List PV} (hz : (ds.length : Int) < 2 ^ 63) : BCall prog w A Γ (.builtin "len") [.list ds] (.int ds.length) := fun s vs Q E ok rs h => by
  match vs, rs.len with
  | [v], _ =>
    obtain ⟨a, us, rfl, _, hl, hr⟩ := rs.head.list_inv
    refine call_len_list hl.isList (by simpa [hr.len] using hz) ?_
    have e : ((us.toArray.size : Nat) : Int) = (ds.length : Int) := by simp [hr.len]
    rw [e]
    exact h _ _ (Ext.toks _) (.int _ _)
/-- the length of a list that the frame may turn -/
theorem BCall.lenOwn {a : Addr} {ds : List PV} (hm : (a, ds) ∈ Γ.μ) (hz : (ds.length : Int) < 2 ^ 63) : BCall prog w A Γ (.builtin "len") [.ref a] (.int ds.length) := fun s vs Q E ok rs h => by
  match vs, rs.len with
  | [v], _ =>
    rw [rs.head.ref_inv]
    obtain ⟨us, hl, hr⟩ := ok.mem a ds hm
    refine call_len_list hl.isList (by simpa [hr.len] using hz) ?_
    have e : ((us.toArray.size : Nat) : Int) = (ds.length : Int) := by simp [hr.len]
    rw [e]
    exact h _ _ (Ext.toks _) (.int _ _)

theorem Reps.append {O : List Addr} {h : Heap} {vs us : List Value} {ds es : List PV} (r : Reps O h vs ds) (q : Reps O h us es) : Reps O h (vs ++ us) (ds ++ es) :=
  ⟨by simp [r.len, q.len], fun i v d hv hd => by
    have hl := r.len
    by_cases hi : i < vs.length
    · rw [List.getElem?_append_left hi] at hv
      rw [List.getElem?_append_left (hl ▸ hi)] at hd
      exact r.at' i v d hv hd
    · rw [List.getElem?_append_right (by omega)] at hv
      rw [List.getElem?_append_right (by omega)] at hd
      rw [hl] at hv
      exact q.at' _ v d hv hd⟩

theorem plain_push (h : Heap) (its : Array Value) : (h.push { cls := .type "list", data := .seq its }).PlainList h.objs.size its := ⟨_, Heap.get?_push_size _ rfl⟩
theorem Rep.newList {s : Shared} (ok : Γ.Ok s.heap) {vs : List Value} {ds : List PV} {its : Array Value} (hi : its = vs.toArray) (rs : Reps Γ.O s.heap vs ds) : Rep Γ.O (s.heap.push { cls := .type "list", data := .seq its }) (.ref s.heap.objs.size) (.list ds) := by
  subst hi
  exact Rep.mkList (ok.fresh (Nat.le_refl _)) (plain_push _ _) (rs.keeps fun _ _ e => Heap.get?_push_of_some _ e)

theorem wp_addList {s : Shared} {a b : Addr} {vs us : List Value} {ds es : List PV} {Q : Value → Shared → Prop} {E : Value → Shared → Prop} (ok : Γ.Ok s.heap) (hl : s.heap.PlainList a vs.toArray) (hr : Reps Γ.O s.heap vs ds)
    (hl' : s.heap.PlainList b us.toArray) (hr' : Reps Γ.O s.heap us es) (hz : ds.length + es.length ≤ sizeLine) (h : ∀ v s', Ext s s' → Rep Γ.O s'.heap v (.list (ds ++ es)) → Q v s') : wpAny (model prog w) A (binaryOp .Add (.ref a) (.ref b)) Q E s := by
  obtain ⟨n, e⟩ := hl
  obtain ⟨n', e'⟩ := hl'
  refine P.add_list (show IsL s.heap a vs.toArray n from e) (show IsL s.heap b us.toArray n' from e') (h _ _ (Ext.push _ _) (Rep.newList ok (vs := vs ++ us) (by simp) (hr.append hr'))) (by simpa [hr.len, hr'.len] using hz)
theorem Ev.addList {e1 e2 : Expr} {pos : Pos} {ds es : List PV} (h1 : LV prog w A Γ e1 ds) (h2 : LV prog w A Γ e2 es) (hz : ds.length + es.length ≤ sizeLine) : Ev prog w A Γ (.BinOp e1 .Add e2 pos) (.list (ds ++ es)) := fun s Q E ok h =>
  wpAny_BinOp (h1 s _ _ ok fun a vs s₁ k₁ hl rs => h2 s₁ _ _ (ok.step k₁) fun b us s₂ k₂ hl' rs' =>
    wp_addList ((ok.step k₁).step k₂) (hl.at fun o e => k₂.get _ o e) (rs.keeps k₂.get) hl' rs' hz fun v s' k r => h v s' ((k₁.trans k₂).trans k) r)

theorem foldl_replicate (its : Array Value) (n : Nat) (acc : Array Value) : (List.replicate n its).foldl (fun x1 x2 => x1 ++ x2) acc = acc ++ ((List.replicate n its.toList).flatten).toArray := by
  induction n generalizing acc with
  | zero => simp
  | succ n ih => 
    rw [List.replicate_succ, List.foldl_cons, ih, List.replicate_succ, List.flatten_cons, Array.append_assoc]
    congr 1
    apply Array.ext'
    simp
theorem flatten_one {α : Type} (x : α) (n : Nat) : (List.replicate n [x]).flatten = List.replicate n x := by
  induction n with
  | zero => rfl
  | succ n ih => rw [List.replicate_succ, List.flatten_cons, ih, List.replicate_succ]; rfl
/-- [x] * k -/
theorem BOp.mulOne {d : PV} {k : Int} (hlo : -(2 ^ 63 : Int) ≤ k) (hk : k.toNat ≤ 2 ^ 20) : BOp prog w A Γ .Mult (.list [d]) (.int k) (.list (List.replicate k.toNat d)) := fun s v1 v2 Q E ok r1 r2 h => by
  obtain ⟨a, vs, rfl, _, hl, hr⟩ := r1.list_inv
  obtain ⟨u, rfl⟩ := r2.int_inv
  match vs, hr.len with
  | [v], _ =>
  obtain ⟨n, hl⟩ := hl
  have hhi : k < 2 ^ 63 := by omega
  refine wpAny_binaryOp_repeat_ref (T := "list") (U := "int") (by decide) ⟨_, hl, rfl⟩ (fun s' => typeIs_int s' k u) noFill_list_mul F.fills_int_mul F.slot_int_rmul repeat_list F.slot_int_index.lookup
    (call_meets F.slot_int_rmul (typeIs_int s k u) F.entry_int_rmul (F.args_int_rmul_2 _ _) (int___rmul___int_list k u a [v].toArray n)
      ⟨hl, rfl, ⟨_, hl, rfl⟩, call_meets F.slot_list_mul ⟨_, hl, rfl⟩ F.entry_list_mul (F.args_list_mul_2 _ _)
        (AutoListH.list___mul___list_int_3 a [v].toArray n k u (by simp [Builtin.List.listFitsIndex]; omega) (by simp; omega) (by simp [Builtin.List.listTooLong, sizeLine]; omega))
        ⟨hl, h _ _ (Ext.push _ _) (Rep.newList ok (vs := List.replicate k.toNat v) ?_ ⟨by simp, fun i u e hu he => ?_⟩)⟩⟩)
  · rw [foldl_replicate]; simp [flatten_one]
  · have hu' := List.getElem?_eq_some_iff.mp hu
    have he' := List.getElem?_eq_some_iff.mp he
    obtain ⟨_, hu'⟩ := hu'; obtain ⟨_, he'⟩ := he'
    simp at hu' he'; subst hu' he'
    exact hr.head

theorem Itr.list {e : Expr} {ds : List PV} (hA : A.handled = none) (h : Ev prog w A Γ e (.list ds)) : Itr prog w A Γ e ds := fun s Q E ok k =>
  h s _ _ ok fun v s₁ k₁ r => by
    obtain ⟨a, vs, rfl, ha, hl, hr⟩ := r.list_inv
    have ok₁ := ok.step k₁
    refine wpAny_pyIter_list hl.isList (k _ _ (k₁.trans (Ext.push _ _)) ?_)
    have hlt : a < s₁.heap.objs.size := by obtain ⟨n, e⟩ := hl; exact Heap.lt_size e
    refine ⟨s₁.heap.objs.size, [s₁.heap.objs.size, a], [s₁.heap.objs.size], fun i v => vs.toArray[i]? = some v, (fun i h => h.IsListIter s₁.heap.objs.size a i ∧ h.IsList a vs.toArray), rfl, ?_, ⟨⟨_, Heap.get?_push_size _ rfl, rfl, rfl⟩, hl.isList.push _⟩, ?_, ?_, ?_, ?_⟩
    · have := Walks.list (prog := prog) (w := w) hA s₁.heap.objs.size a (Nat.ne_of_lt hlt) vs.toArray
      simpa [hr.len] using this
    · intro b hb
      simp only [List.mem_cons, List.not_mem_nil, or_false] at hb
      rcases hb with rfl | rfl
      · refine ⟨by rw [Heap.size_push]; exact Nat.lt_succ_self _, fun hs => ?_, ok₁.fresh (Nat.le_refl _)⟩
        exact absurd (ok₁.fr.lt hs) (Nat.lt_irrefl _)
      · refine ⟨by rw [Heap.size_push]; exact Nat.lt_succ_of_lt hlt, fun hs => ?_, ha⟩
        obtain ⟨n, e⟩ := hl
        exact ok₁.fr.notSeq hs e (.inl ⟨_, _, rfl⟩)
    · intro b hb
      simp only [List.mem_cons, List.not_mem_nil, or_false] at hb
      subst hb
      cases e : s.heap.get? s₁.heap.objs.size with
      | none => rfl
      | some o => exact absurd (Heap.lt_size (k₁.get _ _ e)) (Nat.lt_irrefl _)
    · rintro i h b o ⟨⟨o', e', _, hd⟩, _⟩ hb e hq
      simp only [List.mem_cons, List.not_mem_nil, or_false] at hb
      subst hb
      rw [e] at e'; cases e'; exact notSeq_fields hd hq
    · intro i v d h' hv hd kk
      refine (hr.at' i v d (by simpa using hv) hd).mono (fun _ x => x) fun b o hb hs e => kk b o hb hs (Heap.get?_push_of_some _ e)
end Mine
namespace Mine
theorem pyIdx_nat (n k : Nat) : pyIdx n (k : Int) = k := by
  unfold pyIdx
  rw [if_neg (by omega)]; omega
theorem pyIdx_pos {n : Nat} {k : Int} (h : 0 ≤ k) : pyIdx n k = k.toNat := by
  unfold pyIdx
  rw [if_neg (by omega)]
theorem pyIdx_last (n : Nat) : pyIdx n (-1) = n - 1 := by
  unfold pyIdx
  rw [if_pos (by omega)]; omega
end Mine

end
section
open PySem PySem.W PyProof.Rows PySem.Calls
set_option autoImplicit false
set_option linter.all false
namespace Mine
set_option maxRecDepth 100000
variable {prog : Program} {w : World}

/-- how many are not greater -/
noncomputable def cntLe (xs : List Int) (x : Int) : Nat := xs.countP fun y => decide (y ≤ x)

theorem cnt_split {xs : List Int} {x : Int} {k : Nat} (hk : k ≤ xs.length) (h1 : ∀ i y, i < k → xs[i]? = some y → y ≤ x) (h2 : ∀ i y, k ≤ i → xs[i]? = some y → x < y) : cntLe xs x = k := by
  unfold cntLe
  induction xs generalizing k with
  | nil => simp at hk; simp [hk]
  | cons z zs ih =>
    cases k with
    | zero =>
      rw [List.countP_cons]
      have hz : x < z := h2 0 z (Nat.le_refl _) rfl
      have := ih (k := 0) (Nat.zero_le _) (fun i y hi => absurd hi (Nat.not_lt_zero _)) (fun i y hi e => h2 (i + 1) y (Nat.zero_le _) (by simpa using e))
      rw [this]; simp; omega
    | succ k =>
      rw [List.countP_cons]
      have hz : z ≤ x := h1 0 z (Nat.succ_pos _) rfl
      have := ih (k := k) (by simpa using hk) (fun i y hi e => h1 (i + 1) y (by omega) (by simpa using e)) (fun i y hi e => h2 (i + 1) y (by omega) (by simpa using e))
      rw [this]; simp [hz]

theorem fun_br {P : Params} {h : Heap} (t : TF P h) : ∃ doc pm an cdv ct, Fun h 39 (fdAt (topAt 3) "bisect_right" (.ref 31) (.ref 32) doc pm an cdv ct) := by
  have e : fdK P 39 = fdAt (topAt 3) "bisect_right" (.ref 31) (.ref 32) (fdK P 39).doc (fdK P 39).pyModule (fdK P 39).annotations (fdK P 39).code (fdK P 39).closureTuple := by kernel_rfl
  exact ⟨_, _, _, _, _, e ▸ t.fn 39 (by kernel_rfl) (by kernel_rfl)⟩

noncomputable def Sorted (xs : List Int) : Prop := ∀ (i j : Nat) y z, i ≤ j → xs[i]? = some y → xs[j]? = some z → y ≤ z

noncomputable def intsPV (xs : List Int) : List PV := xs.map .int
theorem intsPV_get {xs : List Int} {i : Nat} {y : Int} (h : xs[i]? = some y) : (intsPV xs)[i]? = some (.int y) := by simp [intsPV, h]
theorem intsPV_len (xs : List Int) : (intsPV xs).length = xs.length := by simp [intsPV]

theorem bisect_right_ok {xs : List Int} {x : Int} (hs : Sorted xs) (hn : xs.length < 2 ^ 20) : FnOk prog w (TF w.params) 1 39 [.list (intsPV xs), .int x, .int 0, .none] (.int (cntLe xs x)) := by
  intro A s vs R hA t rs hR
  obtain ⟨doc, pm, an, cdv, ct, hf⟩ := fun_br t
  match vs, rs.len with
  | [va, vx, vl, vh], _ =>
  have rs' : Reps [] s.heap [va, vx, vl, vh, .none] [.list (intsPV xs), .int x, .int 0, .none, .none] := rs.snoc .none
  refine fn_pos ["a", "x", "lo", "hi", "key"] (RV := fun v s' => Rep [] s'.heap v (.int (cntLe xs x))) hA hf t.lim rs' ?_ ?_ hR
  · exact kp_binds t.k (fun S => by kernel_rfl)
  conv => arg 5; whnf
  refine X.ifF (Tr.cmp (Ev.name rfl) Ev.int COp.lt) ?_
  refine X.ifT (Tr.cmp (Ev.name rfl) Ev.none (COp.isNone (.inl ⟨rfl, rfl⟩))) (X.stepL (S.assign (Ev.bcall (gl_len t) (Evs.cons (Ev.name rfl) Evs.nil) (BCall.len (by rw [intsPV_len]; omega)))) fun s ok => ⟨rfl, ok⟩) ?_
  refine X.ifTr [("lo", .int (cntLe xs x))] (Tr.cmp (Ev.name rfl) Ev.none (COp.isNone (.inl ⟨rfl, rfl⟩))) ?_ (X.ret (Ev.name rfl) fun v s' _ r => r)
  refine X.one (S.whileR (ι := Nat × Nat) (fun i => [("a", .list (intsPV xs)), ("x", .int x), ("lo", .int (i.1 : Int)), ("hi", .int (i.2 : Int))])
    (fun i => i.1 ≤ i.2 ∧ i.2 ≤ xs.length ∧ (∀ k y, k < i.1 → xs[k]? = some y → y ≤ x) ∧ (∀ k y, i.2 ≤ k → xs[k]? = some y → x < y)) (fun i => i.2 - i.1) (fun i => decide (i.1 < i.2)) (0, xs.length) ?_ ?_ ?_ ?_ ?_)
  · exact ⟨Nat.zero_le _, Nat.le_refl _, fun k y hk => absurd hk (Nat.not_lt_zero _), fun k y hk e => by rw [List.getElem?_eq_none hk] at e; cases e⟩
  · exact Sub.cons rfl (Sub.cons rfl (Sub.cons rfl (Sub.cons (by rw [← intsPV_len]; rfl) Sub.nil)))
  · rintro ⟨lo, hi⟩ ⟨h1, h2, h3, h4⟩
    have e : decide (lo < hi) = decide ((lo : Int) < (hi : Int)) := by simp
    dsimp only
    rw [e]
    exact Tr.cmp (Ev.name rfl) (Ev.name rfl) COp.lt
  · rintro ⟨lo, hi⟩ ⟨h1, h2, h3, h4⟩ hc
    dsimp only at *
    have hlt : lo < hi := of_decide_eq_true hc
    have hmid : ((lo : Int) + (hi : Int)).fdiv 2 = (((lo + hi) / 2 : Nat) : Int) := by
      rw [Int.fdiv_eq_ediv_of_nonneg _ (by omega)]; omega
    have hml : (lo + hi) / 2 < xs.length := by omega
    obtain ⟨y, hy⟩ : ∃ y, xs[(lo + hi) / 2]? = some y := ⟨xs[(lo + hi) / 2], by simp [hml]⟩
    refine X.step (S.assign (Ev.bin (Ev.bin (Ev.name rfl) (Ev.name rfl) BOp.add) Ev.int (BOp.fdiv (by decide) (PyProof.noPylong_small (by decide))))) ?_
    rw [hmid]
    refine X.one (S.ifs (Tr.cmp (Ev.name rfl) (Ev.idx (d := .int y) (k := (((lo + hi) / 2 : Nat) : Int)) (LV.of (Ev.name rfl)) (Ev.name rfl) ?_ ?_) COp.lt) (fun hb => ?_) (fun hb => ?_))
    · have := pyIdx_nat (intsPV xs).length ((lo + hi) / 2)
      rw [this]; exact intsPV_get hy
    · rw [intsPV_len]; omega
    · have hxy : x < y := of_decide_eq_true hb
      refine X.stepL (S.assign (Ev.name rfl)) fun s' ok => ⟨(lo, (lo + hi) / 2), ⟨by dsimp only; omega, by dsimp only; omega, h3, fun k z hk e => ?_⟩, by dsimp only; omega, ok.to (Sub.cons rfl (Sub.cons rfl (Sub.cons rfl (Sub.cons rfl Sub.nil))))⟩
      have := hs _ k y z hk hy e
      omega
    · have hxy : ¬ x < y := of_decide_eq_false hb
      refine X.stepL (S.assign (Ev.bin (Ev.name rfl) Ev.int BOp.add)) fun s' ok => ⟨((lo + hi) / 2 + 1, hi), ⟨by dsimp only; omega, h2, fun k z hk e => ?_, h4⟩, by dsimp only; omega, ok.to (Sub.cons rfl (Sub.cons rfl (Sub.cons rfl (Sub.cons rfl Sub.nil))))⟩
      have := hs k _ z y (by dsimp only at hk; omega) e hy
      omega
  · rintro ⟨lo, hi⟩ s' ⟨h1, h2, h3, h4⟩ hc ok
    dsimp only at *
    have hge : ¬ lo < hi := of_decide_eq_false hc
    have : lo = hi := by omega
    subst this
    have hcnt := cnt_split h2 h3 h4
    exact ⟨rfl, ok.to (Sub.cons (by rw [hcnt]; rfl) Sub.nil)⟩
end Mine

end
section
open PySem PySem.W PyProof.Rows PySem.Calls
set_option autoImplicit false
set_option linter.all false
namespace Mine
set_option maxRecDepth 100000
variable {prog : Program} {w : World}

theorem fun_bl {P : Params} {h : Heap} (t : TF P h) : ∃ doc pm an cdv ct, Fun h 48 (fdAt (topAt 4) "bisect_left" (.ref 40) (.ref 41) doc pm an cdv ct) := by
  have e : fdK P 48 = fdAt (topAt 4) "bisect_left" (.ref 40) (.ref 41) (fdK P 48).doc (fdK P 48).pyModule (fdK P 48).annotations (fdK P 48).code (fdK P 48).closureTuple := by kernel_rfl
  exact ⟨_, _, _, _, _, e ▸ t.fn 48 (by kernel_rfl) (by kernel_rfl)⟩

theorem bisect_left_key {A : Around} {s : Shared} {R : Result → Shared → Prop} {n : Nat} {f : Addr} {fdl : FuncData} {va : Value} {ds : List PV} {q : Nat → Bool} (hA : AOk (n + 1) A) (t : TF w.params s.heap) (ra : Rep [] s.heap va (.list ds)) (hf : Fun s.heap f fdl)
    (hkey : ∀ i d, ds[i]? = some d → FnOk prog w (fun h => ∀ b o, s.heap.get? b = some o → h.get? b = some o) n f [d] (.bool (q i))) (r : Nat) (hr : r ≤ ds.length) (h1 : ∀ i, i < r → q i = false) (h2 : ∀ i, r ≤ i → i < ds.length → q i = true) (hn : ds.length < 2 ^ 20)
    (hR : ∀ v s', Ext s s' → Rep [] s'.heap v (.int r) → R (.ok (.ret v)) s') : codeAny (model prog w) A (.call (.ref 48) ⟨[va, .bool true], [("key", .ref f)]⟩) R s := by
  obtain ⟨doc, pm, an, cdv, ct, hb⟩ := fun_bl t
  have rs' : Reps [] s.heap [va, .bool true, .int 0 223, .none, .ref f] [.list ds, .bool true, .int 0, .none, .ref f] := Reps.cons ra (Reps.cons (.bool _) (Reps.cons (.int _ _) (Reps.cons .none (Reps.cons (.ref f) Reps.nil))))
  refine fn_pos ["a", "x", "lo", "hi", "key"] (RV := fun v s' => Rep [] s'.heap v (.int r)) hA hb t.lim rs' ?_ ?_ hR
  · exact kp_binds t.k (fun S => by kernel_rfl)
  conv => arg 5; whnf
  refine X.ifF (Tr.cmp (Ev.name rfl) Ev.int COp.lt) ?_
  refine X.ifT (Tr.cmp (Ev.name rfl) Ev.none (COp.isNone (.inl ⟨rfl, rfl⟩))) (X.stepL (S.assign (Ev.bcall (gl_len t) (Evs.cons (Ev.name rfl) Evs.nil) (BCall.len (by omega)))) fun s ok => ⟨rfl, ok⟩) ?_
  refine X.ifJr [("lo", .int r)] (Tr.cmp (Ev.name rfl) Ev.none (COp.isNone (b := false) (.inr ⟨(fun q => PV.noConfusion q), rfl⟩))) (fun q => by cases q) (fun _ => ?_) (X.ret (Ev.name rfl) fun v s' _ r => r)
  refine X.one (S.whileR (ι := Nat × Nat) (fun i => [("a", .list ds), ("x", .bool true), ("lo", .int (i.1 : Int)), ("hi", .int (i.2 : Int)), ("key", .ref f)])
    (fun i => i.1 ≤ i.2 ∧ i.2 ≤ ds.length ∧ (∀ k, k < i.1 → q k = false) ∧ (∀ k, i.2 ≤ k → k < ds.length → q k = true)) (fun i => i.2 - i.1) (fun i => decide (i.1 < i.2)) (0, ds.length) ?_ ?_ ?_ ?_ ?_)
  · exact ⟨Nat.zero_le _, Nat.le_refl _, fun k hk => absurd hk (Nat.not_lt_zero _), fun k hk e => absurd e (Nat.not_lt.mpr hk)⟩
  · exact Sub.cons rfl (Sub.cons rfl (Sub.cons rfl (Sub.cons rfl (Sub.cons rfl Sub.nil))))
  · rintro ⟨lo, hi⟩ _
    have e : decide (lo < hi) = decide ((lo : Int) < (hi : Int)) := by simp
    dsimp only
    rw [e]
    exact Tr.cmp (Ev.name rfl) (Ev.name rfl) COp.lt
  · rintro ⟨lo, hi⟩ ⟨g1, g2, g3, g4⟩ hc
    dsimp only at *
    have hlt : lo < hi := of_decide_eq_true hc
    have hmid : ((lo : Int) + (hi : Int)).fdiv 2 = (((lo + hi) / 2 : Nat) : Int) := by
      rw [Int.fdiv_eq_ediv_of_nonneg _ (by omega)]; omega
    have hml : (lo + hi) / 2 < ds.length := by omega
    obtain ⟨y, hy⟩ : ∃ y, ds[(lo + hi) / 2]? = some y := ⟨ds[(lo + hi) / 2], by simp [hml]⟩
    refine X.step (S.assign (Ev.bin (Ev.bin (Ev.name rfl) (Ev.name rfl) BOp.add) Ev.int (BOp.fdiv (by decide) (PyProof.noPylong_small (by decide))))) ?_
    rw [hmid]
    refine X.one (S.ifs (Tr.cmp (Ev.callVar (d := .bool (q ((lo + hi) / 2))) (Ev.name rfl) hf (fun h k => k) (hA.deeper _) (EvsF.cons (EvF.of (Ev.idx (d := y) (k := (((lo + hi) / 2 : Nat) : Int)) (LV.of (Ev.name rfl)) (Ev.name rfl) ?_ ?_)) EvsF.nil) (hkey _ _ hy) (.inl rfl)) (Ev.name rfl) COp.ltb) (fun hb => ?_) (fun hb => ?_))
    · have := pyIdx_nat ds.length ((lo + hi) / 2)
      rw [this]; exact hy
    · omega
    · have hq : q ((lo + hi) / 2) = false := by simpa using hb
      refine X.stepL (S.assign (Ev.bin (Ev.name rfl) Ev.int BOp.add)) fun s' ok => ⟨((lo + hi) / 2 + 1, hi), ⟨by dsimp only; omega, g2, fun k hk => ?_, g4⟩, by dsimp only; omega, ok.to (Sub.cons rfl (Sub.cons rfl (Sub.cons rfl (Sub.cons rfl (Sub.cons rfl Sub.nil)))))⟩
      by_cases hkr : k < r
      · exact h1 k hkr
      · exfalso
        have hmr : (lo + hi) / 2 < r := by
          apply Classical.byContradiction
          intro hn'
          have := h2 ((lo + hi) / 2) (by omega) hml
          rw [hq] at this; cases this
        dsimp only at hk
        omega
    · have hq : q ((lo + hi) / 2) = true := by simpa using hb
      refine X.stepL (S.assign (Ev.name rfl)) fun s' ok => ⟨(lo, (lo + hi) / 2), ⟨by dsimp only; omega, by dsimp only; omega, g3, fun k hk hl => ?_⟩, by dsimp only; omega, ok.to (Sub.cons rfl (Sub.cons rfl (Sub.cons rfl (Sub.cons rfl (Sub.cons rfl Sub.nil)))))⟩
      have hmr : r ≤ (lo + hi) / 2 := by
        apply Classical.byContradiction
        intro hn'
        have := h1 ((lo + hi) / 2) (by omega)
        rw [hq] at this; cases this
      exact h2 k (by dsimp only at hk; omega) hl
  · rintro ⟨lo, hi⟩ s' ⟨g1, g2, g3, g4⟩ hc ok
    dsimp only at *
    have hge : ¬ lo < hi := of_decide_eq_false hc
    have e : lo = hi := by omega
    subst e
    have hrl : r = lo := by
      rcases Nat.lt_trichotomy r lo with hh | hh | hh
      · have a := g3 r hh
        have b := h2 r (Nat.le_refl _) (by omega)
        rw [a] at b; cases b
      · exact hh
      · have a := h1 lo hh
        have b := g4 lo (Nat.le_refl _) (by omega)
        rw [a] at b; cases b
    exact ⟨rfl, ok.to (Sub.cons (by rw [hrl]; rfl) Sub.nil)⟩
end Mine

end
section
open PySem PySem.W PyProof.Rows PySem.Calls
set_option autoImplicit false
set_option linter.all false
namespace Mine
variable {prog : Program} {w : World} {A : Around} {Γ : Cx}

noncomputable def Cx.put (Γ : Cx) (i : Nat) (a : Addr) (ds : List PV) : Cx := { Γ with μ := Γ.μ.set i (a, ds) }

theorem put_O {i : Nat} {a : Addr} {ds : List PV} (hi : Γ.μ[i]? = some (a, ds)) (ds' : List PV) : (Γ.put i a ds').O = Γ.O := by
  show (Γ.μ.set i (a, ds')).map (·.1) = Γ.μ.map (·.1)
  apply List.ext_getElem?
  intro j
  rw [List.getElem?_map, List.getElem?_map, List.getElem?_set]
  by_cases hj : i = j
  · subst hj
    have hlt := (List.getElem?_eq_some_iff.mp hi).1
    rw [if_pos rfl, if_pos hlt, hi]; rfl
  · rw [if_neg hj]

theorem Cx.Ok.put {h h' : Heap} {i : Nat} {a : Addr} {ds ds' : List PV} {vs' : List Value} (ok : Γ.Ok h) (hi : Γ.μ[i]? = some (a, ds)) (hl : h'.PlainList a vs'.toArray) (hr : Reps Γ.O h vs' ds') (hs : Heap.SameBut a h h') : (Γ.put i a ds').Ok h' := by
  have hO := put_O hi ds'
  have hm : (a, ds) ∈ Γ.μ := List.mem_of_getElem? hi
  have haO : a ∈ Γ.O := List.mem_map.mpr ⟨_, hm, rfl⟩
  obtain ⟨vs, ⟨n, ea⟩, _⟩ := ok.mem a ds hm
  have hne : ∀ b o, h.get? b = some o → ¬ (∃ its n, o.data = .seq its n) → b ≠ a := fun b o e hq q => by
    subst q; rw [ea] at e; cases e; exact hq ⟨_, _, rfl⟩
  have kR : ∀ b o, b ∉ Γ.O → isSeqObj o → h.get? b = some o → h'.get? b = some o := fun b o hb _ e => (hs.2 b fun q => hb (q ▸ haO)).trans e
  refine ⟨fun b o e => (hs.2 b fun q => by subst q; exact ok.out _ _ (.inr haO) e).trans (ok.base b o e), ?_, fun x d e => ?_, fun b es e => ?_, by rw [hO]; exact ok.nd, fun b o hb e => ok.out b o (by rw [hO] at hb; exact hb) e⟩
  · refine ⟨ok.fr.fn, ok.fr.gl, ok.fr.bl, ?_, fun x c e => ?_, ok.fr.inj⟩
    · obtain ⟨m, ⟨o, es, ep, e, hd, r⟩, hsim⟩ := ok.fr.ns
      exact ⟨m, ⟨o, es, ep, (hs.2 _ (hne _ o e (by rintro ⟨_, _, q⟩; rw [hd] at q; cases q))).trans e, hd, r⟩, hsim⟩
    · obtain ⟨v, o, e', hd⟩ := ok.fr.cl x c e
      exact ⟨v, o, (hs.2 _ (hne _ o e' (by rintro ⟨_, _, q⟩; rw [hd] at q; cases q))).trans e', hd⟩
  · obtain ⟨v, hv, hr'⟩ := ok.vars x d e
    refine ⟨v, ?_, by rw [hO]; exact hr'.mono (fun _ x => x) kR⟩
    rcases hv with ⟨h1, m, ⟨o, es, ep, e', hd, r⟩, h3⟩ | ⟨h1, c, h2, o, e', hd⟩
    · exact .inl ⟨h1, m, ⟨o, es, ep, (hs.2 _ (hne _ o e' (by rintro ⟨_, _, q⟩; rw [hd] at q; cases q))).trans e', hd, r⟩, h3⟩
    · exact .inr ⟨h1, c, h2, o, (hs.2 _ (hne _ o e' (by rintro ⟨_, _, q⟩; rw [hd] at q; cases q))).trans e', hd⟩
  · obtain ⟨j, hj, e2⟩ := List.mem_iff_getElem.mp e
    have e3 : (Γ.μ.set i (a, ds'))[j]? = some (b, es) := by show (Γ.put i a ds').μ[j]? = _; rw [List.getElem?_eq_getElem hj, e2]
    rw [List.getElem?_set] at e3
    rw [hO]
    by_cases hij : i = j
    · rw [if_pos hij] at e3
      split at e3
      · cases e3; exact ⟨vs', hl, hr.mono (fun _ x => x) kR⟩
      · cases e3
    · rw [if_neg hij] at e3
      have hba : b ≠ a := by
        rintro rfl
        have h1 : Γ.O[i]? = some b := by show (Γ.μ.map _)[i]? = _; rw [List.getElem?_map, hi]; rfl
        have h2 : Γ.O[j]? = some b := by show (Γ.μ.map _)[j]? = _; rw [List.getElem?_map, e3]; rfl
        obtain ⟨p1, q1⟩ := List.getElem?_eq_some_iff.mp h1
        obtain ⟨p2, q2⟩ := List.getElem?_eq_some_iff.mp h2
        have hp := List.pairwise_iff_getElem.mp ok.nd
        rcases Nat.lt_trichotomy i j with hh | hh | hh
        · exact hp i j p1 p2 hh (by rw [q1, q2])
        · exact hij hh
        · exact hp j i p2 p1 hh (by rw [q1, q2])
      obtain ⟨us, ⟨n', e4⟩, hr4⟩ := ok.mem b es (List.mem_of_getElem? e3)
      exact ⟨us, ⟨n', (hs.2 b hba).trans e4⟩, hr4.mono (fun _ x => x) kR⟩

theorem kp_put {s : Shared} {h' : Heap} {tk : Nat} {a : Addr} (ha : a ∈ Γ.O) (hs : Heap.SameBut a s.heap h') : Kp Γ s { s with heap := h', toks := tk } :=
  ⟨⟨_, _, rfl⟩, fun b o _ hb e => (hs.2 b fun q => hb (q ▸ ha)).trans e⟩

theorem interactive_fn {env : Env} (h : env.scope.kind = .function) : interactive env = false := by unfold interactive; rw [h]; rfl

theorem S.append {x : Str} {p apos pos epos : Pos} {e : Expr} {a : Addr} {ds : List PV} {d : PV} {pl : Sem Bool} (i : Nat) (hx : Ev prog w A Γ (.Name x p) (.ref a)) (he : Ev prog w A Γ e d) (hi : Γ.μ[i]? = some (a, ds) := by rfl) (hz : ds.length ≤ sizeLine)
    (hc : eval (.Call (.Attribute (.Name x p) "append" apos) [e] [] pos) Γ.env = (do
      let ov ← eval (.Name x p) Γ.env
      standAt apos.atName
      let (f, first) ← holding [ov] (getMethod ov "append" pl)
      callWith pos f first (backTo pos (starEach [e] Γ.env)) []) := by rfl)
    (hst : starEach [e] Γ.env = (false, eval e Γ.env) :: starEach [] Γ.env := by rfl)
    (hs : swapsWith (.Call (.Attribute (.Name x p) "append" apos) [e] [] pos) none epos.line Γ.env = pure false := by rfl) :
    S prog w A Γ (.Expr (.Call (.Attribute (.Name x p) "append" apos) [e] [] pos) epos) (Nx (Γ.put i a (ds ++ [d]))) := fun s Q E ok h => by
  have hm : (a, ds) ∈ Γ.μ := List.mem_of_getElem? hi
  have haO : a ∈ Γ.O := List.mem_map.mpr ⟨_, hm, rfl⟩
  refine wpAny_Expr (MethodCall_ (hx s _ _ ok fun v s₁ k₁ r₁ => ?_) hc) (interactive_fn ok.fr.fn) hs
  rw [r₁.ref_inv]
  have ok₁ := ok.step k₁
  obtain ⟨vs, ⟨n, e1⟩, _⟩ := ok₁.mem a ds hm
  refine getMethod_list_append e1 rfl rfl ?_
  refine callWith_method1 (wpAny_items_cons (he s₁ _ _ ok₁ fun v s₂ k₂ r₂ => wpAny_items_nil ?_) hst) hst rfl
  have ok₂ := ok₁.step k₂
  obtain ⟨us, hl, hr⟩ := ok₂.mem a ds hm
  refine wpAny_list_append_plain hl (fun h' hl' hsb => ?_) (by simpa [hr.len] using hz)
  have e2 : us.toArray.push v = (us ++ [v]).toArray := by simp
  rw [e2] at hl'
  exact h _ _ (Kp.trans rfl rfl rfl (k₁.trans k₂).kp (kp_put (tk := s₂.toks) haO hsb)) ⟨rfl, ok₂.put hi hl' (hr.snoc r₂) hsb⟩
end Mine
namespace Mine
variable {prog : Program} {w : World} {A : Around} {Γ : Cx}
theorem Reps.take {O : List Addr} {h : Heap} {vs : List Value} {ds : List PV} (r : Reps O h vs ds) (k : Nat) : Reps O h (vs.take k) (ds.take k) :=
  ⟨by simp [r.len], fun i v d hv hd => by
    rw [List.getElem?_take] at hv hd
    split at hv
    · rename_i hk; rw [if_pos hk] at hd; exact r.at' i v d hv hd
    · cases hv⟩
theorem Reps.drop {O : List Addr} {h : Heap} {vs : List Value} {ds : List PV} (r : Reps O h vs ds) (k : Nat) : Reps O h (vs.drop k) (ds.drop k) :=
  ⟨by simp [r.len], fun i v d hv hd => by
    rw [List.getElem?_drop] at hv hd
    exact r.at' _ v d hv hd⟩
theorem Reps.set {O : List Addr} {h : Heap} {vs : List Value} {ds : List PV} {v : Value} {d : PV} (r : Reps O h vs ds) (q : Rep O h v d) (k : Nat) : Reps O h (vs.set k v) (ds.set k d) :=
  ⟨by simp [r.len], fun i u e hu he => by
    rw [List.getElem?_set] at hu he
    by_cases hk : k = i
    · rw [if_pos hk] at hu he
      split at hu
      · split at he
        · cases hu; cases he; exact q
        · cases he
      · cases hu
    · rw [if_neg hk] at hu he
      exact r.at' i u e hu he⟩

theorem wp_insert {prog : Program} {w : World} {A : Around} {s : Shared} {E : Value → Shared → Prop} {a : Addr} {its : Array Value} {n : Nat} {k : Int} {tk : Tok} {v : Value} {Q : Value → Shared → Prop}
    (hl : s.heap.get? a = some { cls := .type "list", data := .seq its n }) (hfit : ¬ (!Builtin.List.listFitsIndex k) = true) (hsz : its.size ≤ sizeLine)
    (h : Q .none { s with heap := s.heap.update a (Obj.mapSeq fun xs => have k := if k < 0 then (k + ((xs.size : Nat) : Int)).toNat else min k.toNat xs.size; (xs.extract 0 k).push v ++ xs.extract k) }) :
    wpAny (model prog w) A (PySem.call (.builtin "list.insert") [.ref a, .int k tk, v]) Q E s := by
  have hT : s.TypeIs (.ref a) "list" := ⟨_, hl, rfl⟩
  have hargs := PySem.F.args_list_insert_3 (.ref a) (.int k tk) v
  have hme := @AutoListH.list_insert_list_int_val_1 a its n k tk v hfit hsz
  exact call_meets PySem.F.slot_list_insert hT PySem.F.entry_list_insert hargs hme ⟨hl, h⟩

theorem S.insert {x : Str} {p apos pos epos : Pos} {e1 e2 : Expr} {a : Addr} {ds : List PV} {d : PV} {k : Nat} {pl : Sem Bool} (i : Nat) (hx : Ev prog w A Γ (.Name x p) (.ref a)) (he : Evs prog w A Γ [e1, e2] [.int k, d]) (hk : k ≤ ds.length) (hi : Γ.μ[i]? = some (a, ds) := by rfl) (hz : ds.length ≤ 2 ^ 20)
    (hc : eval (.Call (.Attribute (.Name x p) "insert" apos) [e1, e2] [] pos) Γ.env = (do
      let ov ← eval (.Name x p) Γ.env
      standAt apos.atName
      let (f, first) ← holding [ov] (getMethod ov "insert" pl)
      callWith pos f first (backTo pos (starEach [e1, e2] Γ.env)) []) := by rfl)
    (hst : starEach [e1, e2] Γ.env = (false, eval e1 Γ.env) :: starEach [e2] Γ.env := by rfl) (hpl : (backTo pos (starEach [e2] Γ.env)).any (·.1) = false := by rfl)
    (hs : swapsWith (.Call (.Attribute (.Name x p) "insert" apos) [e1, e2] [] pos) none epos.line Γ.env = pure false := by rfl) :
    S prog w A Γ (.Expr (.Call (.Attribute (.Name x p) "insert" apos) [e1, e2] [] pos) epos) (Nx (Γ.put i a (ds.take k ++ [d] ++ ds.drop k))) := fun s Q E ok h => by
  have hm : (a, ds) ∈ Γ.μ := List.mem_of_getElem? hi
  have haO : a ∈ Γ.O := List.mem_map.mpr ⟨_, hm, rfl⟩
  refine wpAny_Expr (MethodCall_ (hx s _ _ ok fun v s₁ k₁ r₁ => ?_) hc) (interactive_fn ok.fr.fn) hs
  rw [r₁.ref_inv]
  have ok₁ := ok.step k₁
  obtain ⟨vs, ⟨n, e1⟩, _⟩ := ok₁.mem a ds hm
  refine getMethod_list_of F.slot_list_insert F.type_list_insert ⟨_, e1, rfl, _, rfl⟩ ⟨_, e1, rfl⟩ ?_
  refine callWith_method1 (he s₁ pos _ _ ok₁ fun vs s₂ k₂ rs => ?_) hst hpl
  match vs, rs.len with
  | [vk, v], _ =>
  obtain ⟨tk, rfl⟩ := rs.head.int_inv
  have ok₂ := ok₁.step k₂
  obtain ⟨us, ⟨n, hl⟩, hr⟩ := ok₂.mem a ds hm
  have hlen := hr.len
  show wpAny (model prog w) A (PySem.call (.builtin "list.insert") [.ref a, .int k tk, v]) _ _ s₂
  have hT : s₂.TypeIs (.ref a) "list" := ⟨_, hl, rfl⟩
  have hfit : ¬ (!Builtin.List.listFitsIndex (k : Int)) = true := by
    rw [fitsIndex_of (by omega) (by omega)]; exact Bool.false_ne_true
  have hsz : us.toArray.size ≤ sizeLine := by rw [List.size_toArray, hlen, sizeLine_eq]; omega
  refine wp_insert hl hfit hsz ?_
  · have hup := IsL.update (show IsL s₂.heap a us.toArray n from hl) (fun xs => have k' := if (k : Int) < 0 then ((k : Int) + ((xs.size : Nat) : Int)).toNat else min (k : Int).toNat xs.size; (xs.extract 0 k').push v ++ xs.extract k')
    have hit : (us.toArray.extract 0 k).push v ++ us.toArray.extract k = (us.take k ++ [v] ++ us.drop k).toArray := by
      apply Array.ext'
      simp [Array.toList_extract, List.extract_eq_take_drop, ← hlen]
      exact List.take_of_length_le (by simp)
    have hk' : (if (k : Int) < 0 then ((k : Int) + ((us.toArray.size : Nat) : Int)).toNat else min (k : Int).toNat us.toArray.size) = k := by
      rw [if_neg (by omega)]; simp; omega
    have hup' : (s₂.heap.update a (Obj.mapSeq fun xs => have k' := if (k : Int) < 0 then ((k : Int) + ((xs.size : Nat) : Int)).toNat else min (k : Int).toNat xs.size; (xs.extract 0 k').push v ++ xs.extract k')).PlainList a (us.take k ++ [v] ++ us.drop k).toArray := by
      have hval : (have k' := if (k : Int) < 0 then ((k : Int) + ((us.toArray.size : Nat) : Int)).toNat else min (k : Int).toNat us.toArray.size; (us.toArray.extract 0 k').push v ++ us.toArray.extract k') = (us.take k ++ [v] ++ us.drop k).toArray := by
        dsimp only; rw [hk']; exact hit
      rw [hval] at hup
      exact ⟨_, hup⟩
    refine h _ _ (Kp.trans rfl rfl rfl (k₁.trans k₂).kp (kp_put (tk := s₂.toks) haO (Heap.SameBut.update ..))) ⟨rfl, ok₂.put hi hup' ?_ (Heap.SameBut.update ..)⟩
    exact ((hr.take k).append (Reps.cons rs.tail.head Reps.nil)).append (hr.drop k)

theorem wpAny_setItem_plain {s : Shared} {E : Value → Shared → Prop} {l : Addr} {items : Array Value} {k : Int} {t : Tok} {v : Value} {Q : Unit → Shared → Prop} (hl : s.heap.PlainList l items)
    (h0 : 0 ≤ k) (hfit : k < 2 ^ 63) (hn : k < items.size)
    (hQ : ∀ h', h'.PlainList l (items.setIfInBounds k.toNat v) → Heap.SameBut l s.heap h' → Q () { s with heap := h' }) :
    wpAny (model prog w) A (setItem (.ref l) (.int k t) v) Q E s := by
  obtain ⟨n, ho⟩ := hl
  have hil : s.heap.IsList l items := ⟨_, ho, rfl, _, rfl⟩
  unfold setItem
  try with_reducible refine wpAny_holding ?_
  first | refine wpAny_bind (wpAny_pure ?_) | skip
  refine wpAny_bind (wpAny_sequenceKey hil.typeIs (by decide) ?_)
  refine wpAny_bind (wpAny_callSpecial?_slot (name := Str.ofString "__setitem__") hil.typeIs slot_list_setitem
    (wpAny_call_entry slot_list_setitem hil.typeIs entry_list_setitem ?_ (args_list_setitem _ _ _)))
  show wpAny _ _ (Builtin.List.listSubscript? (.int k t) >>= _) _ _ s
  refine wpAny_bind (wpAny_listSubscript_int (fitsIndex_of h0 hfit) ?_)
  clear hfit
  obtain ⟨j, rfl⟩ := Int.eq_ofNat_of_zero_le h0
  have hj : j < items.size := by omega
  have hx' : items[j]? = some items[j] := Array.getElem?_eq_getElem hj
  show wpAny _ _ ((seqItemAt l j >>= fun r => pure (r.map (j, ·))) >>= _) _ _ s
  refine wpAny_bind (wpAny_bind (wpAny_seqItemAt ho rfl (wpAny_pure ?_)))
  rw [hx']
  show wpAny _ _ (setSeqItemAt l j v >>= _) _ _ s
  have hup : (s.heap.update l (Obj.mapSeq (·.setIfInBounds j v))).PlainList l (items.setIfInBounds j v) := ⟨_, IsL.update (show IsL s.heap l items n from ho) (·.setIfInBounds j v)⟩
  refine wpAny_bind (wpAny_setSeqItemAt ho rfl ?_)
  first
    | exact wpAny_bind (wpAny_pure (wpAny_pure ⟨.none, rfl, wpAny_pure (hQ _ hup (Heap.SameBut.update ..))⟩))
    | exact wpAny_pure ⟨.none, rfl, wpAny_pure (hQ _ hup (Heap.SameBut.update ..))⟩
end Mine

end
section
open PySem PySem.W PyProof.Rows PySem.Calls
set_option autoImplicit false
set_option linter.all false
namespace Mine
variable {prog : Program} {w : World} {A : Around} {Γ : Cx}

theorem Rep.fresh {O : List Addr} {h h' : Heap} {v : Value} {d : PV} {a : Addr} (r : Rep O h v d) (ha : h.get? a = Option.none) (k : ∀ b o, b ∉ O → isSeqObj o → h.get? b = some o → h'.get? b = some o) : Rep (O ++ [a]) h' v d := by
  induction r with
  | none => exact .none
  | bool b => exact .bool b
  | int i t => exact .int i t
  | str s t => exact .str s t
  | ref a => exact .ref a
  | list hb hl hn _ ih =>
    obtain ⟨n, e⟩ := hl
    refine .list (fun q => ?_) ⟨n, k _ _ hb (.inl ⟨_, _, rfl⟩) e⟩ hn ih
    rcases List.mem_append.mp q with q | q
    · exact hb q
    · have := List.mem_singleton.mp q; subst this; rw [ha] at e; cases e
  | tup hb hl hn _ ih =>
    obtain ⟨o, e, hc, n, hd⟩ := hl
    refine .tup (fun q => ?_) ⟨o, k _ _ hb (.inl ⟨_, _, hd⟩) e, hc, n, hd⟩ hn ih
    rcases List.mem_append.mp q with q | q
    · exact hb q
    · have := List.mem_singleton.mp q; subst this; rw [ha] at e; cases e
  | obj hb hx h1 h2 hw hn _ ih =>
    refine .obj (fun q => ?_) (fun q => ?_) (k _ _ hb (.inr (.inl rfl)) h1) (k _ _ hx (isSeq_dict hw) h2) hw hn ih
    · rcases List.mem_append.mp q with q | q
      · exact hb q
      · have := List.mem_singleton.mp q; subst this; rw [ha] at h1; cases h1
    · rcases List.mem_append.mp q with q | q
      · exact hx q
      · have := List.mem_singleton.mp q; subst this; rw [ha] at h2; cases h2
theorem Reps.fresh {O : List Addr} {h h' : Heap} {v : List Value} {d : List PV} {a : Addr} (r : Reps O h v d) (ha : h.get? a = Option.none) (k : ∀ b o, b ∉ O → isSeqObj o → h.get? b = some o → h'.get? b = some o) : Reps (O ++ [a]) h' v d :=
  ⟨r.len, fun i u e hu he => (r.at' i u e hu he).fresh ha k⟩

/-- an expression that makes a new list -/
noncomputable def EvN (prog : Program) (w : World) (A : Around) (Γ : Cx) (e : Expr) (ds : List PV) : Prop :=
  ∀ (s : Shared) (Q : Value → Shared → Prop) (E : Value → Shared → Prop), Γ.Ok s.heap → (∀ a vs s', Ext s s' → s.heap.get? a = none → s'.heap.PlainList a vs.toArray → Reps (Γ.O ++ [a]) s'.heap vs ds → Q (.ref a) s') → wpAny (model prog w) A (eval e Γ.env) Q E s
theorem EvN.ev {e : Expr} {ds : List PV} (h : EvN prog w A Γ e ds) : Ev prog w A Γ e (.list ds) := fun s Q E ok k => h s Q E ok fun a vs s' x ha hl hr => k _ s' x (Rep.mkList (fun q => by
  have := ok.lt q
  obtain ⟨⟨b, ds⟩, hm, rfl⟩ := List.mem_map.mp q
  obtain ⟨us, ⟨n, e⟩, _⟩ := ok.mem b ds hm
  rw [ha] at e; cases e) hl (hr.mono (fun _ x => List.mem_append_left _ x) fun _ _ _ _ e => e))
theorem get?_size (h : Heap) : h.get? h.objs.size = none := by
  cases e : h.get? h.objs.size with
  | none => rfl
  | some o => exact absurd (Heap.lt_size e) (Nat.lt_irrefl _)
theorem EvN.nil {pos : Pos} : EvN prog w A Γ (.List [] pos) [] := fun s Q E ok k =>
  wpAny_List (wpAny_items_nil ⟨Nat.zero_le _, k _ [] _ (Ext.push _ _) (get?_size _) (plainList_push _ _) Reps.nil⟩)

theorem Cx.Ok.thaw {h h' : Heap} {a : Addr} {vs : List Value} {ds : List PV} (ok : Γ.Ok h) (k : ∀ b o, h.get? b = some o → h'.get? b = some o) (ha : h.get? a = none) (hl : h'.PlainList a vs.toArray) (hr : Reps (Γ.O ++ [a]) h' vs ds) :
    ({ Γ with μ := Γ.μ ++ [(a, ds)] } : Cx).Ok h' := by
  have hO : ({ Γ with μ := Γ.μ ++ [(a, ds)] } : Cx).O = Γ.O ++ [a] := by show (Γ.μ ++ [(a, ds)]).map _ = _; rw [List.map_append]; rfl
  have ok' := ok.keeps k
  have hnot : a ∉ Γ.O := fun q => by
    obtain ⟨⟨b, es⟩, hm, rfl⟩ := List.mem_map.mp q
    obtain ⟨us, ⟨n, e⟩, _⟩ := ok.mem b es hm
    rw [ha] at e; cases e
  refine ⟨ok'.base, ok'.fr, fun x d e => ?_, fun b es e => ?_, ?_, fun b o hb e => ?_⟩
  · obtain ⟨v, hv, hr'⟩ := ok.vars x d e
    exact ⟨v, hv.keeps k, by rw [hO]; exact hr'.fresh ha fun b o _ _ e => k b o e⟩
  · rcases List.mem_append.mp e with e | e
    · obtain ⟨us, hl', hr'⟩ := ok.mem b es e
      exact ⟨us, hl'.at fun o e => k _ o e, by rw [hO]; exact hr'.fresh ha fun b o _ _ e => k b o e⟩
    · have := List.mem_singleton.mp e
      cases this
      exact ⟨vs, hl, by rw [hO]; exact hr⟩
  · rw [hO]
    exact List.nodup_append.mpr ⟨ok.nd, by simp, fun x hx y hy => by
      have := List.mem_singleton.mp hy; subst this
      rintro rfl; exact hnot hx⟩
  · rcases hb with hb | hb
    · exact ok.out b o (.inl hb) e
    · rw [hO] at hb
      rcases List.mem_append.mp hb with hb | hb
      · exact ok.out b o (.inr hb) e
      · have := List.mem_singleton.mp hb; subst this
        rw [ok.base _ _ e] at ha; cases ha

/-- the frame has come by a new list -/
noncomputable def Cx.own (Γ : Cx) (a : Addr) (ds : List PV) : Cx := { Γ with μ := Γ.μ ++ [(a, ds)] }
theorem own_O (Γ : Cx) (a : Addr) (ds : List PV) : (Γ.own a ds).O = Γ.O ++ [a] := by show (Γ.μ ++ [(a, ds)]).map _ = _; rw [List.map_append]; rfl

theorem Kp.own {s s' : Shared} {a : Addr} {ds : List PV} (ha : s.heap.get? a = none) (x : Kp (Γ.own a ds) s s') : Kp Γ s s' :=
  ⟨x.as, fun b o h1 h2 e => x.get b o h1 (by
    rw [own_O]; intro q
    rcases List.mem_append.mp q with q | q
    · exact h2 q
    · have := List.mem_singleton.mp q; subst this; rw [ha] at e; cases e) e⟩

theorem X.assignNew {x : Str} {p pos : Pos} {e : Expr} {ds : List PV} {rest : List Stmt} {R : Flow → Shared → Prop} (h1 : EvN prog w A Γ e ds) (h2 : ∀ a, X prog w A ((Γ.own a ds).set x (.ref a)) rest R)
    (hx : storable Γ.env Γ.W x = true := by rfl) (hs : swapsWith e (some (.Name x p)) pos.line Γ.env = pure false := by rfl) : X prog w A Γ (.Assign [.Name x p] e pos :: rest) R := fun s Q E ok k =>
  wpAny_execs_cons (wpAny_Assign_Name (h1 s _ _ ok fun a vs s₁ k₁ ha hl hr => by
    have ok₁ : (Γ.own a ds).Ok s₁.heap := ok.thaw k₁.get ha hl hr
    refine wp_store (Γ := Γ.own a ds) ok₁ (.ref a) hx fun s' ok' kps => ?_
    have kp := kps.kp
    refine h2 a s' _ _ ok' fun f s'' kp' r => k f s'' ?_ r
    exact Kp.own ha (Kp.trans rfl rfl rfl k₁.kp (Kp.trans (Γ := Γ.own a ds) (Γ' := (Γ.own a ds).set x (.ref a)) rfl rfl rfl kp kp'))) hs)

/-- a list that the frame may turn is turned no more -/
theorem Cx.Ok.freeze {h : Heap} {μ₁ μ₂ : List (Addr × List PV)} {a : Addr} {ds : List PV} {ρ' : List (Str × PV)} (ok : Γ.Ok h) (hμ : Γ.μ = μ₁ ++ (a, ds) :: μ₂)
    (hρ : ∀ x d, ρ'.lookup x = some d → Γ.ρ.lookup x = some d ∨ (Γ.ρ.lookup x = some (.ref a) ∧ d = .list ds)) : ({ Γ with ρ := ρ', μ := μ₁ ++ μ₂ } : Cx).Ok h := by
  have hO : ∀ b, b ∈ (μ₁ ++ μ₂).map (·.1) → b ∈ Γ.O := fun b hb => by
    show b ∈ Γ.μ.map _
    rw [hμ]
    rw [List.map_append] at hb ⊢
    rcases List.mem_append.mp hb with hb | hb
    · exact List.mem_append_left _ hb
    · exact List.mem_append_right _ (List.mem_cons_of_mem _ hb)
  have hnd := ok.nd
  have ham : (a, ds) ∈ Γ.μ := by rw [hμ]; exact List.mem_append_right _ (List.mem_cons_self ..)
  have haN : a ∉ (μ₁ ++ μ₂).map (·.1) := by
    have hnd' : (Γ.μ.map (·.1)).Nodup := hnd
    rw [hμ, List.map_append, List.map_cons, List.nodup_append, List.nodup_cons] at hnd'
    rw [List.map_append]
    intro q
    rcases List.mem_append.mp q with q | q
    · exact hnd'.2.2 a q a (List.mem_cons_self ..) rfl
    · exact hnd'.2.1.1 q
  refine ⟨ok.base, ok.fr, fun x d e => ?_, fun b es e => ?_, ?_, fun b o hb e => ?_⟩
  · rcases hρ x d e with e' | ⟨e', rfl⟩
    · obtain ⟨v, hv, hr⟩ := ok.vars x d e'
      exact ⟨v, hv, hr.mono hO fun _ _ _ _ e => e⟩
    · obtain ⟨v, hv, hr⟩ := ok.vars x _ e'
      rw [hr.ref_inv] at hv
      obtain ⟨vs, hl, hr'⟩ := ok.mem a ds ham
      exact ⟨_, hv, Rep.mkList haN hl (hr'.mono hO fun _ _ _ _ e => e)⟩
  · have hm : (b, es) ∈ Γ.μ := by
      rw [hμ]
      rcases List.mem_append.mp e with e | e
      · exact List.mem_append_left _ e
      · exact List.mem_append_right _ (List.mem_cons_of_mem _ e)
    obtain ⟨vs, hl, hr⟩ := ok.mem b es hm
    exact ⟨vs, hl, hr.mono hO fun _ _ _ _ e => e⟩
  · have hnd' : (Γ.μ.map (·.1)).Nodup := hnd
    rw [hμ] at hnd'
    show ((μ₁ ++ μ₂).map _).Nodup
    exact hnd'.sublist (by rw [List.map_append, List.map_append]; exact List.Sublist.append (List.Sublist.refl _) (List.sublist_cons_self ..))
  · rcases hb with hb | hb
    · exact ok.out b o (.inl hb) e
    · exact ok.out b o (.inr (hO b hb)) e
theorem X.freeze {ss : List Stmt} {R : Flow → Shared → Prop} (μ₁ μ₂ : List (Addr × List PV)) (a : Addr) (ds : List PV) (ρ' : List (Str × PV)) (hμ : Γ.μ = μ₁ ++ (a, ds) :: μ₂)
    (hρ : ∀ x d, ρ'.lookup x = some d → Γ.ρ.lookup x = some d ∨ (Γ.ρ.lookup x = some (.ref a) ∧ d = .list ds)) (h : X prog w A { Γ with ρ := ρ', μ := μ₁ ++ μ₂ } ss R) : X prog w A Γ ss R := fun s Q E ok k =>
  h s Q E (ok.freeze hμ hρ) fun f s' kp r => k f s' ⟨kp.as, fun b o h1 h2 e => kp.get b o h1 (fun q => h2 (by
    show b ∈ Γ.μ.map _
    have q : b ∈ (μ₁ ++ μ₂).map (·.1) := q
    rw [hμ]
    rw [List.map_append] at q ⊢
    rcases List.mem_append.mp q with q | q
    · exact List.mem_append_left _ q
    · exact List.mem_append_right _ (List.mem_cons_of_mem _ q))) e⟩ r

theorem S.setitem {x : Str} {p tpos pos : Pos} {i e : Expr} {a : Addr} {ds : List PV} {d : PV} {k : Nat} (j : Nat) (hx : Ev prog w A Γ (.Name x p) (.ref a)) (hi : Ev prog w A Γ i (.int k)) (he : Ev prog w A Γ e d) (hk : k < ds.length) (hj : Γ.μ[j]? = some (a, ds) := by rfl) (hz : ds.length ≤ 2 ^ 20)
    (hs : swapsWith e (some (.Subscript (.Name x p) i tpos)) pos.line Γ.env = pure false := by rfl) :
    S prog w A Γ (.Assign [.Subscript (.Name x p) i tpos] e pos) (Nx (Γ.put j a (ds.set k d))) := fun s Q E ok h => by
  have hm : (a, ds) ∈ Γ.μ := List.mem_of_getElem? hj
  have haO : a ∈ Γ.O := List.mem_map.mpr ⟨_, hm, rfl⟩
  refine wpAny_Assign_Subscript (he s _ _ ok fun v s₁ k₁ r₁ => hx s₁ _ _ (ok.step k₁) fun ov s₂ k₂ r₂ => hi s₂ _ _ ((ok.step k₁).step k₂) fun iv s₃ k₃ r₃ => ?_) hs
  rw [r₂.ref_inv]
  obtain ⟨t, rfl⟩ := r₃.int_inv
  have ok₃ := ((ok.step k₁).step k₂).step k₃
  obtain ⟨us, hl, hr⟩ := ok₃.mem a ds hm
  refine wpAny_setItem_plain hl (by omega) (by omega) (by simp [hr.len]; omega) fun h' hl' hsb => ?_
  have e2 : us.toArray.setIfInBounds ((k : Int)).toNat v = (us.set k v).toArray := by simp
  rw [e2] at hl'
  exact h _ _ (Kp.trans rfl rfl rfl ((k₁.trans k₂).trans k₃).kp (kp_put (tk := s₃.toks) haO hsb)) ⟨rfl, ok₃.put hj hl' (hr.set ((r₁.keeps k₂.get).keeps k₃.get) k) hsb⟩
end Mine

end
section
open PySem PySem.W PyProof.Rows PySem.Calls
set_option autoImplicit false
set_option linter.all false
namespace Mine
set_option maxRecDepth 100000
variable {prog : Program} {w : World}

theorem fun_ir {P : Params} {h : Heap} (t : TF P h) : ∃ doc pm an cdv ct, Fun h 30 (fdAt (topAt 2) "insort_right" (.ref 22) (.ref 23) doc pm an cdv ct) := by
  have e : fdK P 30 = fdAt (topAt 2) "insort_right" (.ref 22) (.ref 23) (fdK P 30).doc (fdK P 30).pyModule (fdK P 30).annotations (fdK P 30).code (fdK P 30).closureTuple := by kernel_rfl
  exact ⟨_, _, _, _, _, e ▸ t.fn 30 (by kernel_rfl) (by kernel_rfl)⟩
theorem fun_isn {P : Params} {h : Heap} (t : TF P h) : ∃ doc pm an cdv ct, Fun h 131 (fdAt (topAt 60) "ISNONTERMINAL" .none .none doc pm an cdv ct) := by
  have e : fdK P 131 = fdAt (topAt 60) "ISNONTERMINAL" .none .none (fdK P 131).doc (fdK P 131).pyModule (fdK P 131).annotations (fdK P 131).code (fdK P 131).closureTuple := by kernel_rfl
  exact ⟨_, _, _, _, _, e ▸ t.fn 131 (by kernel_rfl) (by kernel_rfl)⟩
theorem fun_ise {P : Params} {h : Heap} (t : TF P h) : ∃ doc pm an cdv ct, Fun h 138 (fdAt (topAt 61) "ISEOF" .none .none doc pm an cdv ct) := by
  have e : fdK P 138 = fdAt (topAt 61) "ISEOF" .none .none (fdK P 138).doc (fdK P 138).pyModule (fdK P 138).annotations (fdK P 138).code (fdK P 138).closureTuple := by kernel_rfl
  exact ⟨_, _, _, _, _, e ▸ t.fn 138 (by kernel_rfl) (by kernel_rfl)⟩

theorem isterm {x : Int} : FnOk prog w (TF w.params) 1 124 [.int x] (.bool (decide (x < 256))) := by
  intro A s vs R hA t rs hR
  obtain ⟨doc, pm, an, cdv, ct, hf⟩ := fun_term t
  match vs, rs.len with
  | [v], _ =>
  refine fn_pos ["x"] (RV := fun v s' => Rep [] s'.heap v (.bool (decide (x < 256)))) hA hf t.lim rs (BindsTo.of_eq rfl) ?_ hR
  conv => arg 5; whnf
  refine X.ret (Ev.cmp (Ev.name rfl) (Ev.glob (gl_off t) (fun h => .int 256 _)) COp.lt) fun v s' _ r => r
theorem isnonterm {x : Int} : FnOk prog w (TF w.params) 1 131 [.int x] (.bool (decide (256 ≤ x))) := by
  intro A s vs R hA t rs hR
  obtain ⟨doc, pm, an, cdv, ct, hf⟩ := fun_isn t
  match vs, rs.len with
  | [v], _ =>
  refine fn_pos ["x"] (RV := fun v s' => Rep [] s'.heap v (.bool (decide (256 ≤ x)))) hA hf t.lim rs (BindsTo.of_eq rfl) ?_ hR
  conv => arg 5; whnf
  refine X.ret (Ev.cmp (Ev.name rfl) (Ev.glob (gl_off t) (fun h => .int 256 _)) COp.ge) fun v s' _ r => r
theorem iseof {x : Int} : FnOk prog w (TF w.params) 1 138 [.int x] (.bool (decide (x = 0))) := by
  intro A s vs R hA t rs hR
  obtain ⟨doc, pm, an, cdv, ct, hf⟩ := fun_ise t
  match vs, rs.len with
  | [v], _ =>
  refine fn_pos ["x"] (RV := fun v s' => Rep [] s'.heap v (.bool (decide (x = 0)))) hA hf t.lim rs (BindsTo.of_eq rfl) ?_ hR
  conv => arg 5; whnf
  refine X.ret (Ev.cmp (Ev.name rfl) (Ev.glob (gl_end t) (fun h => .int 0 _)) COp.eq) fun v s' _ r => r

noncomputable def ins (xs : List Int) (y : Int) : List Int := xs.take (cntLe xs y) ++ [y] ++ xs.drop (cntLe xs y)
theorem cntLe_le (xs : List Int) (y : Int) : cntLe xs y ≤ xs.length := List.countP_le_length

theorem insort_ok {A : Around} {s : Shared} {g : Heap} {a : Addr} {vs : List Value} {vy : Value} {xs : List Int} {y : Int} {R : Result → Shared → Prop} (hA : AOk 2 A) (t : TF w.params g) (hg : ∀ b o, g.get? b = some o → s.heap.get? b = some o) (ha : g.get? a = none)
    (hl : s.heap.PlainList a vs.toArray) (hr : Reps [a] s.heap vs (intsPV xs)) (ry : Rep [a] s.heap vy (.int y)) (hs : Sorted xs) (hn : xs.length < 2 ^ 20)
    (hR : ∀ s' vs', (∃ h' tk, s' = { s with heap := h', toks := tk }) → (∀ b o, b ≠ a → s.heap.get? b = some o → s'.heap.get? b = some o) → s'.heap.PlainList a vs'.toArray → Reps [a] s'.heap vs' (intsPV (ins xs y)) → R (.ok (.ret .none)) s') :
    codeAny (model prog w) A (.call (.ref 30) ⟨[.ref a, vy], []⟩) R s := by
  have ts := t.keeps hg
  obtain ⟨doc, pm, an, cdv, ct, hf⟩ := fun_ir ts
  refine fn_plainM (n := 1) (B := g) (μ := [(a, intsPV xs)]) (ρ := [("a", .ref a), ("x", .int y), ("lo", .int 0), ("hi", .none), ("key", .none)]) (binds := [("a", .ref a), ("x", vy), ("lo", .int 0 196), ("hi", .none), ("key", .none)])
    (RV := fun v s' => v = .none ∧ ∃ vs', s'.heap.PlainList a vs'.toArray ∧ Reps [a] s'.heap vs' (intsPV (ins xs y))) hA hf ts.lim rfl (kp_binds ts.k (fun S => by kernel_rfl)) hg ?_ (by simp) ?_ (fun x c e => by cases e) (fun x y c e => by cases e) ?_ ?_ ?_ ?_
  · intro b ds hm
    have := List.mem_singleton.mp hm
    cases this
    exact ⟨ha, vs, hl, hr⟩
  · intro x d e
    have := PySem.mem_of_lookup e
    simp only [List.mem_cons, Prod.mk.injEq, List.not_mem_nil, or_false] at this
    rcases this with ⟨rfl, rfl⟩ | ⟨rfl, rfl⟩ | ⟨rfl, rfl⟩ | ⟨rfl, rfl⟩ | ⟨rfl, rfl⟩
    · exact .inl ⟨rfl, _, rfl, .ref a⟩
    · exact .inl ⟨rfl, _, rfl, ry⟩
    · exact .inl ⟨rfl, _, rfl, .int _ _⟩
    · exact .inl ⟨rfl, _, rfl, .none⟩
    · exact .inl ⟨rfl, _, rfl, .none⟩
  · conv => arg 5; whnf
    obtain ⟨doc', pm', an', cdv', ct', hbr⟩ := fun_br t
    refine X.ifT (Tr.cmp (Ev.name rfl) Ev.none (COp.isNone (.inl ⟨rfl, rfl⟩))) (X.stepL (S.assign (Ev.call (gl_br t) hbr (fun h k => t.keeps k) (hA.deeper _)
      (EvsF.cons (EvF.own (Ev.name rfl) (.head _)) (EvsF.cons (EvF.of (Ev.name rfl)) (EvsF.cons (EvF.of (Ev.name rfl)) (EvsF.cons (EvF.of (Ev.name rfl)) EvsF.nil)))) (bisect_right_ok hs hn) (.inr rfl))) fun s ok => ⟨rfl, ok⟩) ?_
    refine X.stepL (S.insert (k := cntLe xs y) 0 (Ev.name rfl) (Evs.cons (Ev.name rfl) (Evs.cons (Ev.name rfl) Evs.nil)) (by rw [intsPV_len]; exact cntLe_le xs y) rfl (by rw [intsPV_len]; omega)) fun s' ok => ⟨rfl, ?_⟩
    obtain ⟨us, hl', hr'⟩ := ok.mem a _ (.head _)
    refine ⟨us, hl', ?_⟩
    have e : intsPV (ins xs y) = List.take (cntLe xs y) (intsPV xs) ++ [PV.int y] ++ List.drop (cntLe xs y) (intsPV xs) := by simp [ins, intsPV, List.map_take, List.map_drop]
    rw [e]; exact hr'
  · rintro v s' hs' hk ⟨rfl, vs', h1, h2⟩
    exact hR s' vs' hs' (fun b o hb e => hk b o (by simpa using hb) e) h1 h2
  · intro x hx
    simp only [List.mem_cons, List.not_mem_nil, or_false] at hx
    rcases hx with rfl | rfl | rfl | rfl | rfl <;> rfl
  · intro x hx
    have h : ((scopeOf (topAt 2)).names.all fun x => x.2 != NameKind.cell) = true := by rfl
    have := List.all_eq_true.mp h x hx
    simpa using this
end Mine

end
section
open PySem PySem.W PyProof.Rows PySem.Calls
set_option autoImplicit false
set_option linter.all false
namespace Mine
variable {prog : Program} {w : World} {A : Around} {Γ : Cx}

/-- the place inside a comprehension: its own locals at C, the list it fills at D -/
noncomputable def compCx (Γ : Cx) (scope : Scope) (cl : List (Str × Addr)) (ρc : List (Str × PV)) (C D : Addr) (ys : List PV) : Cx :=
  ⟨Γ.B, compEnvC scope cl C Γ.env, [], ρc, Γ.μ ++ [(D, ys)]⟩
theorem compCx_O (Γ : Cx) (scope : Scope) (cl : List (Str × Addr)) (ρc : List (Str × PV)) (C D : Addr) (ys : List PV) : (compCx Γ scope cl ρc C D ys).O = Γ.O ++ [D] := by
  show (Γ.μ ++ [(D, ys)]).map _ = _; rw [List.map_append]; rfl

/-- what a comprehension reads of the frame around it -/
noncomputable def Caps (Γ : Cx) (scope : Scope) (cl : List (Str × Addr)) (ρc : List (Str × PV)) : Prop :=
  ∀ p ∈ ρc, Γ.ρ.lookup p.1 = some p.2 ∧ (Γ.env.kindOf p.1 = some .cell ∨ Γ.env.kindOf p.1 = some .free) ∧ ((relabel scope Γ.env).names.lookup p.1 = some .cell ∨ (relabel scope Γ.env).names.lookup p.1 = some .free) ∧ cl.lookup p.1 = Γ.env.cells.lookup p.1
theorem Caps.nil {scope : Scope} {cl : List (Str × Addr)} : Caps Γ scope cl [] := fun p hp => absurd hp List.not_mem_nil
noncomputable def isCap : Option NameKind → Bool
  | some .cell => true
  | some .free => true
  | _ => false
theorem isCap_or {k : Option NameKind} (h : isCap k = true) : k = some .cell ∨ k = some .free := by
  unfold isCap at h
  split at h
  · exact .inl rfl
  · exact .inr rfl
  · cases h
theorem Caps.cons {scope : Scope} {cl : List (Str × Addr)} {ρc : List (Str × PV)} {x : Str} {d : PV} (h1 : Γ.ρ.lookup x = some d) (h : Caps Γ scope cl ρc) (h2 : isCap (Γ.env.kindOf x) = true := by rfl) (h3 : isCap ((relabel scope Γ.env).names.lookup x) = true := by rfl)
    (h4 : cl.lookup x = Γ.env.cells.lookup x := by rfl) : Caps Γ scope cl ((x, d) :: ρc) := fun p hp => by
  rcases List.mem_cons.mp hp with rfl | hp
  · exact ⟨h1, isCap_or h2, isCap_or h3, h4⟩
  · exact h p hp
noncomputable def ClSub (env : Env) (cl : List (Str × Addr)) : Prop := ∀ p ∈ cl, env.cells.lookup p.1 = some p.2
theorem ClSub.nil {env : Env} : ClSub env [] := fun p hp => absurd hp List.not_mem_nil
theorem ClSub.cons {env : Env} {cl : List (Str × Addr)} {x : Str} {c : Addr} (h1 : env.cells.lookup x = some c) (h : ClSub env cl) : ClSub env ((x, c) :: cl) := fun p hp => by
  rcases List.mem_cons.mp hp with rfl | hp
  · exact h1
  · exact h p hp

theorem compCx_ok {scope : Scope} {cl : List (Str × Addr)} {ρc : List (Str × PV)} {C D : Addr} {ys : List PV} {us : List Value} {h₂ h : Heap} {m : Str → Option Value} (ok : Γ.Ok h₂) (okh : Γ.Ok h) (hkind : scope.kind = .function) (hcap : Caps Γ scope cl ρc) (hcl : ClSub Γ.env cl)
    (hD : h₂.get? D = none) (hC : h₂.get? C = none) (hk : ∀ b o, b ∉ Γ.O → isSeqObj o → h₂.get? b = some o → h.get? b = some o) (hkm : ∀ b o, b ∈ Γ.O → h₂.get? b = some o → h.get? b = some o) (hn : h.Ns C m ∧ m "is_simple" = none) (hl : h.PlainList D us.toArray) (hr : Reps (Γ.O ++ [D]) h us ys)
    (hvars : ∀ x d, Γ.ρ.lookup x = some d → ∀ v, Var Γ.env h₂ x v → Var Γ.env h x v) : (compCx Γ scope cl ρc C D ys).Ok h := by
  have hO := compCx_O Γ scope cl ρc C D ys
  have hDn : D ∉ Γ.O := fun q => by
    obtain ⟨⟨b, es⟩, hm, rfl⟩ := List.mem_map.mp q
    obtain ⟨us, ⟨n, e⟩, _⟩ := ok.mem b es hm
    rw [hD] at e; cases e
  refine ⟨okh.base, ⟨hkind, ok.fr.gl, ok.fr.bl, ⟨m, hn⟩, fun x c e => ?_, fun x y c e e' => ?_⟩, fun x d e => ?_, fun b es e => ?_, ?_, fun b o hb e => ?_⟩
  · have e : cl.lookup x = some c := e
    exact okh.fr.cl x c (hcl _ (PySem.mem_of_lookup e))
  · have e : cl.lookup x = some c := e
    have e' : cl.lookup y = some c := e'
    exact ok.fr.inj x y c (hcl _ (PySem.mem_of_lookup e)) (hcl _ (PySem.mem_of_lookup e'))
  · have e : ρc.lookup x = some d := e
    obtain ⟨h1, h2, h3, h4⟩ := hcap _ (PySem.mem_of_lookup e)
    obtain ⟨v, hv, hr'⟩ := ok.vars x d h1
    refine ⟨v, ?_, by rw [hO]; exact hr'.fresh hD hk⟩
    rcases hvars x d h1 v hv with ⟨q, _⟩ | ⟨_, c, hc, hcell⟩
    · rcases h2 with h2 | h2 <;> · simp only at h2; rw [h2] at q; cases q
    · exact .inr ⟨h3, c, by show cl.lookup x = some c; rw [h4]; exact hc, hcell⟩
  · rw [hO]
    rcases List.mem_append.mp e with e | e
    · obtain ⟨vs, ⟨n, e1⟩, hr'⟩ := ok.mem b es e
      exact ⟨vs, ⟨n, hkm b _ (List.mem_map.mpr ⟨_, e, rfl⟩) e1⟩, hr'.fresh hD hk⟩
    · have := List.mem_singleton.mp e
      cases this
      exact ⟨us, hl, hr⟩
  · rw [hO]
    exact List.nodup_append.mpr ⟨ok.nd, by simp, fun x hx y hy => by
      have := List.mem_singleton.mp hy; subst this
      rintro rfl; exact hDn hx⟩
  · rw [hO] at hb
    rcases hb with (hb | ⟨x, hx, _⟩) | hb
    · have hb : b = C := hb
      rw [ok.base _ _ (hb ▸ e)] at hC; cases hC
    · exact absurd hx List.not_mem_nil
    · rcases List.mem_append.mp hb with hb | hb
      · exact ok.out b o (.inr hb) e
      · have := List.mem_singleton.mp hb; subst this
        rw [ok.base _ _ e] at hD; cases hD

theorem ns_notSeq {h : Heap} {C : Addr} {m : Str → Option Value} {o : Obj} (hn : h.Ns C m) (e : h.get? C = some o) (hs : m "is_simple" = none) : ¬ isSeqObj o := by
  obtain ⟨o', es, ep, e', hd', _, hm⟩ := hn
  rw [e] at e'; cases e'
  rintro (⟨its, n, hd⟩ | hd | ⟨es', n, v, hd, hf⟩)
  · rw [hd] at hd'; cases hd'
  · rw [hd] at hd'; cases hd'
  · rw [hd] at hd'; cases hd'
    rw [hm, hs] at hf; cases hf

noncomputable def Trs (prog : Program) (w : World) (A : Around) (Γ : Cx) (ifs : List Expr) (b : Bool) : Prop :=
  ∀ (s : Shared) (Q : Bool → Shared → Prop) (E : Value → Shared → Prop), Γ.Ok s.heap → (∀ s', Ext s s' → Q b s') →
    wpAny (model prog w) A (forIn ifs true fun c r => if r = true then do let ok ← isTrue c Γ.env (eval c Γ.env); pure (ForInStep.yield ok) else pure (ForInStep.yield r)) Q E s
theorem Trs.nil : Trs prog w A Γ [] true := fun s Q E ok h => wpAny_tests_nil (h s (Ext.refl _))
theorem Trs.one {c : Expr} {b : Bool} (h1 : Tr prog w A Γ c b) : Trs prog w A Γ [c] b := fun s Q E ok h => wpAny_tests_one (h1 s Q E ok h)

theorem comp_core {elt iter : Expr} {x : Str} {px : Pos} {ifs : List Expr} {scope : Scope} {pos pos' : Pos} {cl : List (Str × Addr)} {ρc : List (Str × PV)} {ds : List PV} {p : PV → Bool} {f : PV → PV} {use : Option (Value → Sem Unit)} {Q : Value → Shared → Prop} {E : Value → Shared → Prop} {s : Shared} (ok : Γ.Ok s.heap)
    (hclos : closureFor scope Γ.env = pure cl) (hcell : ∀ y ∈ scope.names, y.2 ≠ .cell) (hkind : scope.kind = .function) (hnames : ∀ y ∈ scope.names, y.2 = .local → scope.names.lookup y.1 = some .local) (hx : scope.names.lookup x = some .local) (hxs : (x != ("is_simple" : Str)) = true)
    (hs : ∀ v, foldedSetIterable iter Γ.env v = pure v) (hcap : Caps Γ scope cl ρc) (hcs : ClSub Γ.env cl)
    (hit : Itr prog w A Γ iter ds) (hz : ds.length ≤ 2 ^ 20)
    (htest : ∀ C D ys (k : Nat) d, ds[k]? = some d → Trs prog w A ((compCx Γ scope cl ρc C D ys).set x d) ifs (p d))
    (helt : ∀ C D ys (k : Nat) d, ds[k]? = some d → p d = true → Ev prog w A ((compCx Γ scope cl ρc C D ys).set x d) elt (f d))
    (hfin : ∀ D C h' tk m us, s.heap.get? D = none → s.heap.get? C = none → D ≠ C → h'.Ns C m → m "is_simple" = none → h'.PlainList D us.toArray → Reps (Γ.O ++ [D]) h' us ((ds.filter p).map f) → (∀ b o, s.heap.get? b = some o → h'.get? b = some o) →
      compPost (model prog w) A E use Q (.ref D) C (.ok .next) { s with heap := h', toks := tk }) :
    wpAny (model prog w) A (comprehension (.ListComp elt [⟨.Name x px, iter, ifs, 0⟩] scope pos) scope Γ.env pos' (newList []) false (eval iter Γ.env) use) Q E s := by
  refine wpAny_comprehension_free rfl hs hclos hkind hnames (hit s _ _ ok fun it s₂ k₂ hsrc => ?_)
  obtain ⟨I, fp, wr, P, St, rfl, W, hst, hfp, hwr, hns, hitem⟩ := hsrc
  have ok₂ := ok.step k₂
  refine wpAny_newObj_type (wpAny_newFunctionEnv hcell (by intro y hy; simp at hy) (fun h₁ hns₁ hsb₁ => ?_) hkind)
  dsimp only at hns₁ hsb₁ ⊢
  generalize hH2 : s₂.heap.push { cls := .type "list", dict := none, data := .seq ([] : List Value).toArray } = H2 at hns₁ hsb₁ ⊢
  have hCs : H2.objs.size = s₂.heap.objs.size + 1 := by rw [← hH2, Heap.size_push]
  generalize hCC : H2.objs.size = C at *
  generalize hDD : s₂.heap.objs.size = D at *
  have hDC : D ≠ C := by rw [hCs]; exact Nat.ne_of_lt (Nat.lt_succ_self _)
  have hD2 : s₂.heap.get? D = none := by rw [← hDD]; exact get?_size _
  have hC2 : s₂.heap.get? C = none := by
    cases e : s₂.heap.get? C with
    | none => rfl
    | some o => exact absurd (Heap.lt_size e) (by rw [hDD, hCs]; exact Nat.not_lt.mpr (Nat.le_succ _))
  have hDs : s.heap.get? D = none := by
    cases e : s.heap.get? D with
    | none => rfl
    | some o => rw [k₂.get _ _ e] at hD2; cases hD2
  have hCs' : s.heap.get? C = none := by
    cases e : s.heap.get? C with
    | none => rfl
    | some o => rw [k₂.get _ _ e] at hC2; cases hC2
  have old : ∀ b o, s₂.heap.get? b = some o → h₁.get? b = some o := fun b o e => hsb₁.extBut b o (by rintro rfl; rw [hC2] at e; cases e) (Heap.get?_push_of_some _ (hH2 ▸ Heap.get?_push_of_some _ e))
  have hacc : h₁.PlainList D #[] := ⟨_, hsb₁.extBut _ _ hDC (Heap.get?_push_of_some _ (by rw [← hH2, ← hDD]; exact Heap.get?_push_size _ rfl))⟩
  have hst₁ : St 0 h₁ := W.frame _ _ _ hst fun b _ o e => old b o e
  have hDf : D ∉ fp := fun hm => Nat.lt_irrefl _ (hfp _ hm).1
  have hCf : C ∉ fp := fun hm => by have := (hfp _ hm).1; rw [hCs] at this; exact absurd this (Nat.not_lt.mpr (Nat.le_succ _))
  have hwr2 : ∀ b, b ∈ wr → ∀ o, ¬ (s.heap.get? b = some o) := fun b hb o e => by rw [hwr b hb] at e; cases e
  have hnotwr : ∀ b, ((∃ o', Γ.B.get? b = some o') ∨ b = Γ.env.locals ∨ (∃ x, Γ.env.cells.lookup x = some b)) → b ∉ wr := fun b hb hm => by
    obtain ⟨o, e⟩ := ok.stands hb
    exact hwr2 b hm o e
  have hseqwr : ∀ b o, isSeqObj o → s₂.heap.get? b = some o → b ∉ wr := fun b o hq e hm => hns 0 s₂.heap b o hst hm e hq
  -- what is known of a heap inside the loop
  have okIn : ∀ (h : Heap) (m : Str → Option Value) (us : List Value) (ys : List PV), (∀ b o, b ∉ wr → s₂.heap.get? b = some o → h.get? b = some o) → (h.Ns C m ∧ m "is_simple" = none) → h.PlainList D us.toArray → Reps (Γ.O ++ [D]) h us ys → (compCx Γ scope cl ρc C D ys).Ok h := fun h m us ys kk hn hl hr => by
    have okh : Γ.Ok h := ok₂.change fun b o hb e => kk b o (by
      rcases hb with hb | hb
      · exact hseqwr b o hb e
      · exact hnotwr b hb) e
    refine compCx_ok ok₂ okh hkind hcap hcs hD2 hC2 (fun b o _ hq e => kk b o (hseqwr b o hq e) e) (fun b o hb e => ?_) hn hl hr (fun y d _ v hv => ?_)
    · obtain ⟨⟨b', es⟩, hm, rfl⟩ := List.mem_map.mp hb
      obtain ⟨vs, ⟨n, e1⟩, _⟩ := ok₂.mem b' es hm
      rw [e1] at e; cases e
      exact kk _ _ (hseqwr _ _ (.inl ⟨_, _, rfl⟩) e1) e1
    · rcases hv with ⟨q1, mm, ⟨o, es, ep, e, r⟩, q3⟩ | ⟨q1, c, q2, o, e, q3⟩
      · exact .inl ⟨q1, mm, ⟨o, es, ep, kk _ _ (hnotwr _ (.inr (.inl rfl))) e, r⟩, q3⟩
      · exact .inr ⟨q1, c, q2, o, kk _ _ (hnotwr _ (.inr (.inr ⟨y, q2⟩))) e, q3⟩
  have loop : codeAny (model prog w) A (.compLoop (.ListComp elt [⟨.Name x px, iter, ifs, 0⟩] scope pos) 0 (.ref I) (.ref D) (compEnvC scope cl C Γ.env)) (compPost (model prog w) A E use Q (.ref D) C) { s₂ with heap := h₁, toks := s₂.toks + ([] : List (Str × Value)).length } := by
    refine codeAny_compLoop_tests
      (fun n s' => ∃ i h' tk m us, n = ds.length + 1 - i ∧ i ≤ ds.length ∧ s' = { s₂ with heap := h', toks := tk } ∧ St i h' ∧ (h'.Ns C m ∧ m "is_simple" = none) ∧ h'.PlainList D us.toArray ∧ Reps (Γ.O ++ [D]) h' us (((ds.take i).filter p).map f) ∧ us.length ≤ i ∧
        (∀ b o, b ∉ wr → s₂.heap.get? b = some o → h'.get? b = some o)) ?_ (ds.length + 1)
      ⟨0, h₁, s₂.toks + ([] : List (Str × Value)).length, _, [], rfl, Nat.zero_le _, rfl, hst₁, ⟨hns₁, rfl⟩, hacc, by simpa using Reps.nil, Nat.le_refl _, fun b o _ e => old b o e⟩
    rintro n s' ⟨i, h', tk, m, us, rfl, hi, rfl, hst', ⟨hn', hsm⟩, hl', hr', hul, hk'⟩
    have hCw : C ∉ wr := fun hm => hCf (W.sub _ hm)
    have hDw : D ∉ wr := fun hm => hDf (W.sub _ hm)
    by_cases hlt : i < ds.length
    · refine W.item i _ _ _ hlt hst' fun v h₃ tk₃ hP hst₃ hk₃ => ?_
      obtain ⟨d, hd⟩ : ∃ d, ds[i]? = some d := ⟨ds[i], by simp [hlt]⟩
      have htake : ds.take (i + 1) = ds.take i ++ [d] := by rw [List.take_add_one, hd]; rfl
      have hn₃ : h₃.Ns C m := hn'.at' fun o e => hk₃ _ o hCw e
      have hl₃ : h₃.PlainList D us.toArray := hl'.at fun o e => hk₃ _ o hDw e
      have hk₃' : ∀ b o, b ∉ wr → s₂.heap.get? b = some o → h₃.get? b = some o := fun b o hb e => hk₃ b o hb (hk' b o hb e)
      have hr₃ : Reps (Γ.O ++ [D]) h₃ us (((ds.take i).filter p).map f) := hr'.mono (fun _ x => x) fun b o hb hq e => hk₃ b o (fun hm => hns i h' b o hst' hm e hq) e
      have ok₃ := okIn h₃ m us _ hk₃' ⟨hn₃, hsm⟩ hl₃ hr₃
      have hrep : Rep (Γ.O ++ [D]) h₃ v d := by
        have r0 : Rep Γ.O s₂.heap v d := hitem i v d s₂.heap hP hd fun _ _ _ _ e => e
        exact r0.fresh hD2 fun b o _ hq e => hk₃' b o (hseqwr b o hq e) e
      refine wpAny_assign_Name ?_
      refine wp_store (Γ := compCx Γ scope cl ρc C D (((ds.take i).filter p).map f)) (s := { s₂ with heap := h₃, toks := tk₃ }) ok₃ (by rw [compCx_O]; exact hrep) (by
        unfold storable
        have : (compCx Γ scope cl ρc C D (((ds.take i).filter p).map f)).env.kindOf x = some .local := lookup_relabel_local hx
        rw [this]; exact hxs) fun s₄ ok₄ kp₄ => ?_
      have nst : ∀ b, b ≠ C → ¬ Stor (compCx Γ scope cl ρc C D (((ds.take i).filter p).map f)).env (compCx Γ scope cl ρc C D (((ds.take i).filter p).map f)).W b := fun b hb hs => by
        rcases hs with hs | ⟨y, hy, _⟩
        · exact hb hs
        · exact absurd hy List.not_mem_nil
      refine htest C D _ i d hd s₄ _ _ ok₄ fun s₅ k₅ => ?_
      have ok₅ := ok₄.step k₅
      have hst₅ : St (i + 1) s₅.heap := W.frame _ _ _ hst₃ fun b hb o e => k₅.get _ _ (kp₄.get b o (nst b fun q => hCf (q ▸ hb)) e)
      have up₅ : ∀ b o, b ≠ C → h₃.get? b = some o → s₅.heap.get? b = some o := fun b o hb e => k₅.get _ _ (kp₄.get b o (nst b hb) e)
      have hk₅ : ∀ b o, b ∉ wr → s₂.heap.get? b = some o → s₅.heap.get? b = some o := fun b o hb e => up₅ b o (by rintro rfl; rw [hC2] at e; cases e) (hk₃' b o hb e)
      obtain ⟨m₅, hn₅, hsm₅⟩ := ok₅.fr.ns
      have hn₅ : s₅.heap.Ns C m₅ := hn₅
      obtain ⟨us₅, hl₅, hr₅⟩ := ok₅.mem D _ (List.mem_append_right _ (List.mem_singleton.mpr rfl))
      have hus : us₅ = us := by
        obtain ⟨n1, e1⟩ := hl₅
        obtain ⟨n2, e2⟩ := hl₃
        have := up₅ D _ hDC e2
        rw [e1] at this; cases this; rfl
      subst hus
      have hr₅ : Reps (Γ.O ++ [D]) s₅.heap us₅ (((ds.take i).filter p).map f) := by rw [← compCx_O Γ scope cl ρc C D (((ds.take i).filter p).map f)]; exact hr₅
      obtain ⟨h₄', t₄', e₄⟩ := kp₄.as
      obtain ⟨⟨h₅', t₅', e₅⟩, _⟩ := id k₅
      have as₅ : s₅ = { s₂ with heap := s₅.heap, toks := s₅.toks } := by rw [e₅, e₄]
      cases hp : p d with
      | false =>
        simp only [Bool.false_eq_true, if_false]
        refine ⟨ds.length + 1 - (i + 1), by omega, i + 1, s₅.heap, s₅.toks, m₅, us₅, rfl, hlt, as₅, hst₅, ⟨hn₅, hsm₅⟩, hl₅, ?_, by omega, hk₅⟩
        rw [htake, List.filter_append]; simpa [hp] using hr₅
      | true =>
        simp only [if_true]
        refine helt C D _ i d hd hp s₅ _ _ ok₅ fun y s₆ k₆ r₆ => ?_
        have r₆ : Rep (Γ.O ++ [D]) s₆.heap y (f d) := by rw [← compCx_O Γ scope cl ρc C D (((ds.take i).filter p).map f)]; exact r₆
        refine wpAny_list_append_plain (hl₅.at fun o e => k₆.get _ o e) (fun h₇ hl₇ hs₇ => ?_) (by simp [sizeLine]; omega)
        obtain ⟨⟨h₆', t₆', e₆⟩, _⟩ := id k₆
        have kR : ∀ b o, b ∉ Γ.O ++ [D] → isSeqObj o → s₆.heap.get? b = some o → h₇.get? b = some o := fun b o hb _ e => (hs₇.2 b fun q => hb (q ▸ List.mem_append_right _ (List.mem_singleton.mpr rfl))).trans e
        refine ⟨ds.length + 1 - (i + 1), by omega, i + 1, h₇, s₆.toks, m₅, us₅ ++ [y], rfl, hlt, by rw [e₆, as₅], ?_, ⟨(hn₅.keeps k₆.get).sameBut hs₇ (Ne.symm hDC), hsm₅⟩, by simpa using hl₇, ?_, by simp; omega, ?_⟩
        · exact W.frame _ _ _ hst₅ fun b hb o e => (hs₇.2 b fun q => hDf (q ▸ hb)).trans (k₆.get _ _ e)
        · rw [htake, List.filter_append]
          have := ((hr₅.keeps k₆.get).snoc r₆).mono (fun _ x => x) kR
          simpa [hp] using this
        · exact fun b o hb e => (hs₇.2 b (by rintro rfl; rw [hD2] at e; cases e)).trans (k₆.get _ _ (hk₅ b o hb e))
    · have hin : i = ds.length := by omega
      subst hin
      refine W.done _ _ _ hst' fun h₃ tk₃ hk₃ => ?_
      have hr₃ : Reps (Γ.O ++ [D]) h₃ us ((ds.filter p).map f) := by
        have := hr'.mono (fun _ x => x) fun b o hb hq e => hk₃ b o (fun hm => hns _ h' b o hst' hm e hq) e
        rw [List.take_length] at this; exact this
      have hlast := hfin D C h₃ tk₃ m us hDs hCs' hDC (hn'.at' fun o e => hk₃ _ o hCw e) hsm (hl'.at fun o e => hk₃ _ o hDw e) hr₃ fun b o e => hk₃ b o (fun hm => hwr2 b hm o e) (hk' b o (fun hm => hwr2 b hm o e) (k₂.get _ _ e))
      obtain ⟨⟨h₂', t₂', e₂⟩, _⟩ := id k₂
      have : ({ s₂ with heap := h₃, toks := tk₃ } : Shared) = { s with heap := h₃, toks := tk₃ } := by rw [e₂]
      rw [this]; exact hlast
  exact codeAny_compStart_list loop (W.self 0 _ _ _ hst₁ loop)

theorem EvN.comp {elt iter : Expr} {x : Str} {px : Pos} {ifs : List Expr} {scope : Scope} {pos : Pos} {cl : List (Str × Addr)} {ds : List PV} (ρc : List (Str × PV)) (p : PV → Bool) (f : PV → PV)
    (hclos : closureFor scope Γ.env = pure cl) (hcs : ClSub Γ.env cl) (hcap : Caps Γ scope cl ρc)
    (hit : Itr prog w A Γ iter ds) (hz : ds.length ≤ 2 ^ 20)
    (htest : ∀ C D ys (k : Nat) d, ds[k]? = some d → Trs prog w A ((compCx Γ scope cl ρc C D ys).set x d) ifs (p d))
    (helt : ∀ C D ys (k : Nat) d, ds[k]? = some d → p d = true → Ev prog w A ((compCx Γ scope cl ρc C D ys).set x d) elt (f d))
    (hcell : ∀ y ∈ scope.names, y.2 ≠ .cell := by decide) (hkind : scope.kind = .function := by rfl) (hnames : ∀ y ∈ scope.names, y.2 = .local → scope.names.lookup y.1 = some .local := by decide) (hx : scope.names.lookup x = some .local := by rfl)
    (hs : ∀ v, foldedSetIterable iter Γ.env v = pure v := by intro _; rfl) (hxs : (x != ("is_simple" : Str)) = true := by rfl) :
    EvN prog w A Γ (.ListComp elt [⟨.Name x px, iter, ifs, 0⟩] scope pos) ((ds.filter p).map f) := fun s Q E ok k => by
  rw [eval_ListComp]
  refine comp_core ok hclos hcell hkind hnames hx hxs hs hcap hcs hit hz htest helt fun D C h' tk m us hD hC hDC hn hsm hl hr hkp => ?_
  refine ⟨m, hn, fun h'' hs'' => k D us _ (Ext.mk' h'' tk fun b o e => ?_) hD (hl.extBut hs''.extBut hDC) (hr.mono (fun _ x => x) fun b o hb hq e => ?_)⟩
  · exact (hs''.2 b (by rintro rfl; rw [hC] at e; cases e)).trans (hkp b o e)
  · exact (hs''.2 b (by
      rintro rfl
      exact ns_notSeq hn e hsm hq)).trans e
end Mine

end
section
open PySem PySem.W PyProof.Rows PySem.Calls
set_option autoImplicit false
set_option linter.all false
namespace Mine
variable {prog : Program} {w : World} {A : Around} {Γ : Cx}

theorem lookup_pair_inj {cs : List (Str × Addr)} (hp : cs.Pairwise fun x y => x.2 ≠ y.2) : ∀ x y c, cs.lookup x = some c → cs.lookup y = some c → x = y := by
  intro x y c e e'
  exact name_of_addr hp (PySem.mem_of_lookup e) (PySem.mem_of_lookup e')

/-- a def with cells of its own is called -/
theorem fn_cells {n : Nat} {s : Shared} {fa : Addr} {fd : FuncData} {body : List Stmt} {vs : List Value} {binds : List (Str × Value)} {W : List Str} {ρ : List (Str × PV)} {B : Heap} {R : Result → Shared → Prop} {RV : Value → Shared → Prop}
    (hA : AOk (n + 1) A) (hf : Fun s.heap fa fd) (hlim : s.heap.NoLimit) (hbody : fd.body = .stmts body) (hbind : bindArgs fd ⟨vs, []⟩ = pure binds) (hclo : fd.closure = [])
    (hB : ∀ b o, B.get? b = some o → s.heap.get? b = some o)
    (hkind : ∀ x ∈ binds, fd.scope.names.lookup x.1 = some .local ∨ (fd.scope.names.lookup x.1 = some .cell ∧ ((cellsFrom (s.heap.objs.size + 1) fd.scope.names []).lookup x.1).isSome = true))
    (hρ : ∀ x d, ρ.lookup x = some d → ∃ v, Rep [] s.heap v d ∧ ((fd.scope.names.lookup x = some .local ∧ bindL (callEnvC fd s.heap.objs.size fa).kindOf binds (fun _ => none) x = some v) ∨
      (fd.scope.names.lookup x = some .cell ∧ ((cellsFrom (s.heap.objs.size + 1) fd.scope.names []).lookup x).isSome = true ∧ bindC (callEnvC fd s.heap.objs.size fa).kindOf binds (fun _ => none) x = some v)))
    (h : X prog w (A.deeper (callEnvC fd s.heap.objs.size fa)) ⟨B, callEnvC fd s.heap.objs.size fa, W, ρ, []⟩ body (fun f s' => RV (retOf f) s'))
    (hR : ∀ v s', Ext s s' → RV v s' → R (.ok (.ret v)) s')
    (hco : fd.scope.isCoroutine = false := by rfl) (hgen : fd.scope.isGenerator = false := by rfl) (hk : fd.scope.kind = .function := by rfl) (hgl : fd.globals = mainGlobals := by rfl) (hbl : fd.builtins = builtinsNs := by rfl)
    (hsim : bindL (callEnvC fd s.heap.objs.size fa).kindOf binds (fun _ => none) "is_simple" = none := by rfl) :
    codeAny (model prog w) A (.call (.ref fa) ⟨vs, []⟩) R s := by
  obtain ⟨o, ho, hd⟩ := hf.at'
  refine codeAny_call_cells hA.room ho hd hlim hf.code hbody hbind hclo hkind (fun s₁ IC => ?_) hco hgen hk
  obtain ⟨h₁, tk₁, rfl, hkp⟩ := IC.done
  have hL : (callEnvC fd s.heap.objs.size fa).locals = s.heap.objs.size := rfl
  have hst : ∀ b, Stor (callEnvC fd s.heap.objs.size fa) W b → s.heap.objs.size ≤ b := by
    rintro b (hb | ⟨x, _, hx⟩)
    · rw [hb]; exact Nat.le_refl _
    · exact Nat.le_of_lt (IC.above x b (PySem.mem_of_lookup hx))
  have ok : (⟨B, callEnvC fd s.heap.objs.size fa, W, ρ, []⟩ : Cx).Ok h₁ := by
    refine ⟨fun b o e => hkp _ _ (hB b o e), ⟨hk, hgl, hbl, ⟨_, IC.toInCall.ns, hsim⟩, fun x c e => ⟨_, IC.cell x c e⟩, lookup_pair_inj IC.apart⟩, fun x d e => ?_, fun a ds e => absurd e List.not_mem_nil, List.nodup_nil, fun b o hb e => ?_⟩
    · obtain ⟨v, hr, hv⟩ := hρ x d e
      refine ⟨v, ?_, hr.keeps hkp⟩
      rcases hv with ⟨h1, h2⟩ | ⟨h1, h2, h3⟩
      · exact .inl ⟨h1, _, IC.toInCall.ns, h2⟩
      · obtain ⟨c, hc⟩ := Option.isSome_iff_exists.mp h2
        refine .inr ⟨.inl h1, c, hc, ?_⟩
        have := IC.cell x c hc
        rw [h3] at this; exact this
    · rcases hb with hb | hb
      · exact absurd (Heap.lt_size (hB _ _ e)) (Nat.not_lt.mpr (hst b hb))
      · exact absurd hb List.not_mem_nil
  refine h _ _ _ ok fun f s' kp r => ?_
  have hx : Ext s s' := by
    obtain ⟨h', tk, rfl⟩ := kp.as
    exact ⟨⟨_, _, rfl⟩, fun b o e => kp.get b o (fun hb => absurd (Heap.lt_size e) (Nat.not_lt.mpr (hst b hb))) List.not_mem_nil (hkp b o e)⟩
  have := hR _ s' hx r
  cases f <;> exact this

/-- x = [.. for ..] where the stores are exchanged -/
theorem X.assignComp {y : Str} {py spos : Pos} {elt iter : Expr} {x : Str} {px : Pos} {ifs : List Expr} {scope : Scope} {pos : Pos} {cl : List (Str × Addr)} {ds : List PV} {rest : List Stmt} {R : Flow → Shared → Prop} (ρc : List (Str × PV)) (p : PV → Bool) (f : PV → PV)
    (hclos : closureFor scope Γ.env = pure cl) (hcs : ClSub Γ.env cl) (hcap : Caps Γ scope cl ρc)
    (hit : Itr prog w A Γ iter ds) (hz : ds.length ≤ 2 ^ 20)
    (htest : ∀ C D ys (k : Nat) d, ds[k]? = some d → Trs prog w A ((compCx Γ scope cl ρc C D ys).set x d) ifs (p d))
    (helt : ∀ C D ys (k : Nat) d, ds[k]? = some d → p d = true → Ev prog w A ((compCx Γ scope cl ρc C D ys).set x d) elt (f d))
    (h2 : ∀ a, X prog w A ((Γ.own a ((ds.filter p).map f)).set y (.ref a)) rest R)
    (hsw : swapsWith (.ListComp elt [⟨.Name x px, iter, ifs, 0⟩] scope pos) (some (.Name y py)) spos.line Γ.env = pure true := by rfl)
    (hy : storable Γ.env Γ.W y = true := by rfl)
    (hcell : ∀ y ∈ scope.names, y.2 ≠ .cell := by decide) (hkind : scope.kind = .function := by rfl) (hnames : ∀ y ∈ scope.names, y.2 = .local → scope.names.lookup y.1 = some .local := by decide) (hx : scope.names.lookup x = some .local := by rfl)
    (hs : ∀ v, foldedSetIterable iter Γ.env v = pure v := by intro _; rfl) (hxs : (x != ("is_simple" : Str)) = true := by rfl) :
    X prog w A Γ (.Assign [.Name y py] (.ListComp elt [⟨.Name x px, iter, ifs, 0⟩] scope pos) spos :: rest) R := fun s Q E ok k => wpAny_execs_cons (by
  rw [exec_Assign_Name_used _ _ _ _ hsw]
  refine wpAny_bind (wpAny_standAt (wpAny_bind ?_))
  show wpAny _ A (do let _ ← comprehension (.ListComp elt [⟨.Name x px, iter, ifs, 0⟩] scope pos) scope Γ.env _ (newList []) false (eval iter Γ.env) (some (assign (.Name y py) Γ.env))) _ _ s
  refine wpAny_bind (wpAny_mono (comp_core (use := some (assign (.Name y py) Γ.env)) (Q := fun _ s' => wpAny (model prog w) A (execs rest Γ.env) Q E s') ok hclos hcell hkind hnames hx hxs hs hcap hcs hit hz htest helt fun D C h' tk m us hD hC hDC hn hsm hl hr hkp => ?_) (fun _ s' hq => wpAny_pure (wpAny_pure hq)) fun _ _ e => e)
  show wpAny _ A (assign (.Name y py) Γ.env (.ref D)) _ _ _
  refine wpAny_assign_Name ?_
  have ok₁ : (Γ.own D ((ds.filter p).map f)).Ok h' := ok.thaw hkp hD hl hr
  refine wp_store (Γ := Γ.own D ((ds.filter p).map f)) (s := { s with heap := h', toks := tk }) ok₁ (.ref D) hy fun s₂ ok₂ kps => ?_
  obtain ⟨h₂, tk₂, rfl⟩ := kps.as
  have hCst : ¬ Stor (Γ.own D ((ds.filter p).map f)).env (Γ.own D ((ds.filter p).map f)).W C := fun q => by
    rcases q with q | ⟨z, _, q⟩
    · obtain ⟨o, e⟩ := ok.stands (b := C) (.inr (.inl q)); rw [hC] at e; cases e
    · obtain ⟨o, e⟩ := ok.stands (b := C) (.inr (.inr ⟨z, q⟩)); rw [hC] at e; cases e
  refine ⟨m, hn.at' fun o e => kps.get _ o hCst e, fun h₃ hs₃ => ?_⟩
  -- the comprehension's own locals are let go: nothing of ours lies there
  have ok₃ : ((Γ.own D ((ds.filter p).map f)).set y (.ref D)).Ok h₃ := ok₂.change fun b o hb e => (hs₃.2 b (by
    rintro rfl
    rcases hb with hb | hb
    · exact ns_notSeq (hn.at' fun o e => kps.get _ o hCst e) e hsm hb
    · obtain ⟨o', e'⟩ := ok.stands (b := b) hb
      rw [hC] at e'; cases e')).trans e
  refine h2 D { s with heap := h₃, toks := tk₂ } _ _ ok₃ fun f' s'' kp' r => k f' s'' ?_ r
  refine Kp.own (ds := (ds.filter p).map f) hD ?_
  have k1 : Kp (Γ.own D ((ds.filter p).map f)) s { s with heap := h₃, toks := tk₂ } := ⟨⟨_, _, rfl⟩, fun b o h1 h2 e => (hs₃.2 b (by rintro rfl; rw [hC] at e; cases e)).trans (kps.get b o h1 (hkp b o e))⟩
  exact Kp.trans (Γ := Γ.own D ((ds.filter p).map f)) (Γ' := (Γ.own D ((ds.filter p).map f)).set y (.ref D)) rfl rfl rfl k1 kp')
end Mine
namespace Mine
variable {prog : Program} {w : World} {A : Around} {Γ : Cx}
theorem X.thawed {y : Str} {a : Addr} {ds : List PV} {rest : List Stmt} {R : Flow → Shared → Prop} (h : X prog w A (Γ.set y (.list ds)) rest R) : X prog w A ((Γ.own a ds).set y (.ref a)) rest R := by
  refine X.freeze Γ.μ [] a ds ((y, .list ds) :: Γ.ρ) rfl (fun x d e => ?_) ?_
  · rw [List.lookup_cons] at e
    show List.lookup x ((y, PV.ref a) :: Γ.ρ) = _ ∨ List.lookup x ((y, PV.ref a) :: Γ.ρ) = _ ∧ _
    rw [List.lookup_cons]
    cases hxy : x == y with
    | true => rw [hxy] at e; cases e; exact .inr ⟨rfl, rfl⟩
    | false => rw [hxy] at e; exact .inl e
  · have : ({ (Γ.own a ds).set y (.ref a) with ρ := (y, .list ds) :: Γ.ρ, μ := Γ.μ ++ [] } : Cx) = Γ.set y (.list ds) := by
      show (⟨Γ.B, Γ.env, Γ.W, _, Γ.μ ++ []⟩ : Cx) = ⟨Γ.B, Γ.env, Γ.W, _, Γ.μ⟩
      rw [List.append_nil]
    rw [this]; exact h
theorem X.assignCompV {y : Str} {py spos : Pos} {elt iter : Expr} {x : Str} {px : Pos} {ifs : List Expr} {scope : Scope} {pos : Pos} {cl : List (Str × Addr)} {ds : List PV} {rest : List Stmt} {R : Flow → Shared → Prop} (ρc : List (Str × PV)) (p : PV → Bool) (f : PV → PV)
    (hclos : closureFor scope Γ.env = pure cl) (hcs : ClSub Γ.env cl) (hcap : Caps Γ scope cl ρc)
    (hit : Itr prog w A Γ iter ds) (hz : ds.length ≤ 2 ^ 20)
    (htest : ∀ C D ys (k : Nat) d, ds[k]? = some d → Trs prog w A ((compCx Γ scope cl ρc C D ys).set x d) ifs (p d))
    (helt : ∀ C D ys (k : Nat) d, ds[k]? = some d → p d = true → Ev prog w A ((compCx Γ scope cl ρc C D ys).set x d) elt (f d))
    (h2 : X prog w A (Γ.set y (.list ((ds.filter p).map f))) rest R)
    (hsw : swapsWith (.ListComp elt [⟨.Name x px, iter, ifs, 0⟩] scope pos) (some (.Name y py)) spos.line Γ.env = pure true := by rfl)
    (hy : storable Γ.env Γ.W y = true := by rfl)
    (hcell : ∀ y ∈ scope.names, y.2 ≠ .cell := by decide) (hkind : scope.kind = .function := by rfl) (hnames : ∀ y ∈ scope.names, y.2 = .local → scope.names.lookup y.1 = some .local := by decide) (hx : scope.names.lookup x = some .local := by rfl)
    (hs : ∀ v, foldedSetIterable iter Γ.env v = pure v := by intro _; rfl) (hxs : (x != ("is_simple" : Str)) = true := by rfl) :
    X prog w A Γ (.Assign [.Name y py] (.ListComp elt [⟨.Name x px, iter, ifs, 0⟩] scope pos) spos :: rest) R :=
  X.assignComp ρc p f hclos hcs hcap hit hz htest helt (fun a => X.thawed h2) hsw hy hcell hkind hnames hx hs hxs
end Mine
namespace Mine
variable {prog : Program} {w : World} {A : Around} {Γ : Cx}
noncomputable def Cx.at' (Γ : Cx) (ρ : List (Str × PV)) (μ : List (Addr × List PV)) : Cx := { Γ with ρ := ρ, μ := μ }

theorem X.weakM {ss : List Stmt} {R : Flow → Shared → Prop} (ρ' : List (Str × PV)) (hs : Sub ρ' Γ.ρ) (h : X prog w A (Γ.at' ρ' Γ.μ) ss R) : X prog w A Γ ss R := X.to ρ' hs h

/-- a for whose turns all go on -/
theorem X.for (ρs : Nat → List (Str × PV)) (μs : Nat → List (Addr × List PV)) {x : Str} {px : Pos} {iter : Expr} {body rest : List Stmt} {pos : Pos} {ds : List PV} {R : Flow → Shared → Prop}
    (hs : Sub (ρs 0) Γ.ρ) (hμ : μs 0 = Γ.μ) (hO : ∀ k, (μs k).map (·.1) = Γ.O)
    (hit : Itr prog w A (Γ.at' (ρs 0) (μs 0)) iter ds)
    (hb : ∀ (k : Nat) d, ds[k]? = some d → X prog w A ((Γ.at' (ρs k) (μs k)).set x d) body (Nx (Γ.at' (ρs (k + 1)) (μs (k + 1)))))
    (hr : X prog w A (Γ.at' (ρs ds.length) (μs ds.length)) rest R)
    (hx : storable Γ.env Γ.W x = true := by rfl) (hf : ∀ v, foldedSetIterable iter Γ.env v = pure v := by intro _; rfl) :
    X prog w A Γ (.For (.Name x px) iter body [] pos :: rest) R := by
  refine X.weakM (ρs 0) hs ?_
  rw [← hμ]
  refine X.cons (S.for (fun k => Γ.at' (ρs k) (μs k)) (RB := fun _ => False) (RR := fun _ _ => False) hit (fun _ => rfl) (fun _ => rfl) (fun k => by show (μs k).map _ = (μs 0).map _; rw [hO, hO]) (fun _ => rfl) (fun k d hd => X.fin (hb k d hd) fun s ok => ok) hx hf) (fun s' r => ?_) (fun f s' hf r => ?_)
  · rcases r with ⟨_, r | r⟩ | ⟨v, q, _⟩
    · exact ⟨Γ.at' (ρs ds.length) (μs ds.length), rfl, rfl, by show (μs _).map _ = (μs 0).map _; rw [hO, hO], r, hr⟩
    · exact r.elim
    · cases q
  · rcases r with ⟨q, _⟩ | ⟨v, _, q⟩
    · exact absurd q hf
    · exact q.elim
end Mine

end
section
open PySem PySem.W PyProof.Rows PySem.Calls
set_option autoImplicit false
set_option linter.all false
namespace Mine
variable {prog : Program} {w : World} {A : Around} {Γ : Cx}

noncomputable def rng (a c : Int) (n : Nat) : List PV := (List.range n).map fun i : Nat => .int (a + (i : Int) * c)
theorem rng_len (a c : Int) (n : Nat) : (rng a c n).length = n := by simp [rng]
theorem rng_get {a c : Int} {n k : Nat} {d : PV} (h : (rng a c n)[k]? = some d) : k < n ∧ d = .int (a + (k : Int) * c) := by
  unfold rng at h
  rw [List.getElem?_map] at h
  by_cases hk : k < n
  · rw [List.getElem?_range hk] at h; cases h; exact ⟨hk, rfl⟩
  · rw [List.getElem?_eq_none (by simpa using hk)] at h; cases h

theorem src_range {s s₁ : Shared} {a c : Int} {n : Nat} (hA : A.handled = none) (ok₁ : Γ.Ok s₁.heap) (k₁ : Ext s s₁) :
    Src prog w A Γ s { s₁ with heap := s₁.heap.push { cls := .type "range_iterator", data := .fields #[rawInt a, rawInt (n : Int), rawInt c] } } (.ref s₁.heap.objs.size) (rng a c n) := by
  refine ⟨s₁.heap.objs.size, [s₁.heap.objs.size], [s₁.heap.objs.size], fun i v => ∃ t, v = .int (a + i * c) t, (fun i h => IsRangeIter h s₁.heap.objs.size (a + (i : Nat) * c) ((n : Int) - (i : Nat)) c), rfl, ?_, ?_, ?_, ?_, ?_, ?_⟩
  · have := Walks.range (prog := prog) (w := w) hA s₁.heap.objs.size a c n
    rw [rng_len]; exact this
  · show (s₁.heap.push _).get? s₁.heap.objs.size = _
    rw [Heap.get?_push_size _ rfl]; simp
  · intro b hb
    have := List.mem_singleton.mp hb; subst this
    exact ⟨by rw [Heap.size_push]; exact Nat.lt_succ_self _, fun hs => absurd (ok₁.fr.lt hs) (Nat.lt_irrefl _), ok₁.fresh (Nat.le_refl _)⟩
  · intro b hb
    have := List.mem_singleton.mp hb; subst this
    cases e : s.heap.get? s₁.heap.objs.size with
    | none => rfl
    | some o => exact absurd (Heap.lt_size (k₁.get _ _ e)) (Nat.lt_irrefl _)
  · rintro i h b o hst hb e hq
    have := List.mem_singleton.mp hb; subst this
    have hst : h.get? _ = some _ := hst
    rw [e] at hst; cases hst; exact notSeq_fields rfl hq
  · rintro i v d h' ⟨t, rfl⟩ hd _
    obtain ⟨_, rfl⟩ := rng_get hd
    exact .int _ _

theorem fits_of {i : Int} (h : -(2 ^ 63) ≤ i) (h' : i < 2 ^ 63) : Builtin.Range.rangeFitsLong i = true := by
  unfold Builtin.Range.rangeFitsLong; simp only [Bool.and_eq_true, decide_eq_true_eq]; exact ⟨h, h'⟩
theorem small_one {a b : Int} (ha : a < 2 ^ 62) (ha' : -(2 ^ 62) < a) (hb : b < 2 ^ 62) (hb' : -(2 ^ 62) < b) : Builtin.Range.small a b 1 = true := by
  have hs := rangeSize_nat a b
  unfold Builtin.Range.small
  rw [fits_of (i := a) (by omega) (by omega), fits_of (i := b) (by omega) (by omega), fits_of (i := 1) (by omega) (by omega), fits_of (i := Builtin.Range.rangeSize a b 1) (by omega) (by omega)]
  have h3 : Builtin.Range.rangeFitsLong (b + (1 - 1)) = true := fits_of (by omega) (by omega)
  simp only [Bool.true_and, Bool.or_eq_true]
  exact .inr (by rw [if_pos (by decide)]; exact h3)
theorem small_down {a b : Int} (ha : a < 2 ^ 62) (ha' : -(2 ^ 62) < a) (hb : b < 2 ^ 62) (hb' : -(2 ^ 62) < b) : Builtin.Range.small a b (-1) = true := by
  have hs := rangeSize_downNat a b
  unfold Builtin.Range.small
  rw [fits_of (i := a) (by omega) (by omega), fits_of (i := b) (by omega) (by omega), fits_of (i := -1) (by omega) (by omega), fits_of (i := Builtin.Range.rangeSize a b (-1)) (by omega) (by omega)]
  have h3 : Builtin.Range.rangeFitsLong (b + (-1 + 1)) = true := fits_of (by omega) (by omega)
  simp only [Bool.true_and, Bool.or_eq_true]
  exact .inr (by rw [if_neg (by decide)]; exact h3)
theorem Itr.range1 {f : Str} {p pos : Pos} {e : Expr} {n : Int} (hA : A.handled = none) (hg : GlobV Γ.B f (.type "range")) (h1 : Ev prog w A Γ e (.int n)) (hn : n < 2 ^ 62) (hn' : -(2 ^ 62) < n := by omega) (hk : Γ.env.kindOf f = some .globalImplicit := by rfl)
    (he : starEach [e] Γ.env = (false, eval e Γ.env) :: starEach [] Γ.env := by rfl) (hd : (f == ("__debug__" : Str)) = false := by decide) : Itr prog w A Γ (.Call (.Name f p) [e] [] pos) (rng 0 1 n.toNat) := fun s Q E ok k => by
  rw [eval_CallName]
  refine wpAny_bind (wp_glob ok hk hg ?_ hd)
  refine PyProof.Rows.callWith_type1 (wpAny_items_cons (h1 s _ _ ok fun v s₁ k₁ r => wpAny_items_nil ?_) he) he rfl
  obtain ⟨t, rfl⟩ := r.int_inv
  refine call_range_1 ?_
  refine wpAny_pyIter_range (IsRange.new _ _ _ _ _ _ _) (small_one (by omega) (by omega) (by omega) (by omega)) ?_
  have ek : Ext s { s₁ with heap := s₁.heap.push { cls := .type "range", data := .fields #[.int 0 s₁.toks, .int n t, .int 1 (s₁.toks + 1)] }, toks := s₁.toks + 1 + 1 } := k₁.trans (Ext.push _ _)
  have es : Builtin.Range.rangeSize 0 n 1 = ((n.toNat : Nat) : Int) := by rw [rangeSize_nat]; simp
  rw [es]
  exact k _ _ (ek.trans (Ext.push _ _)) (src_range hA (ok.step ek) ek)
theorem Itr.range2 {f : Str} {p pos : Pos} {e1 e2 : Expr} {a b : Int} (hA : A.handled = none) (hg : GlobV Γ.B f (.type "range")) (h1 : Evs prog w A Γ [e1, e2] [.int a, .int b]) (ha : a < 2 ^ 62) (ha' : -(2 ^ 62) < a) (hb : b < 2 ^ 62) (hb' : -(2 ^ 62) < b) (hk : Γ.env.kindOf f = some .globalImplicit := by rfl)
    (he : starEach [e1, e2] Γ.env = (false, eval e1 Γ.env) :: starEach [e2] Γ.env := by rfl) (hpl : (backTo pos (starEach [e2] Γ.env)).any (·.1) = false := by rfl) (hd : (f == ("__debug__" : Str)) = false := by decide) :
    Itr prog w A Γ (.Call (.Name f p) [e1, e2] [] pos) (rng a 1 (b - a).toNat) := fun s Q E ok k => by
  rw [eval_CallName]
  refine wpAny_bind (wp_glob ok hk hg ?_ hd)
  refine PyProof.Rows.callWith_type1 (h1 s pos _ _ ok fun vs s₁ k₁ rs => ?_) he hpl
  match vs, rs.len with
  | [v1, v2], _ =>
  obtain ⟨t, rfl⟩ := rs.head.int_inv
  obtain ⟨u, rfl⟩ := rs.tail.head.int_inv
  refine call_range_2 ?_
  refine wpAny_pyIter_range (IsRange.new _ _ _ _ _ _ _) (small_one ha ha' hb hb') ?_
  have ek : Ext s { s₁ with heap := s₁.heap.push { cls := .type "range", data := .fields #[.int a t, .int b u, .int 1 s₁.toks] }, toks := s₁.toks + 1 } := k₁.trans (Ext.push _ _)
  have es : Builtin.Range.rangeSize a b 1 = (((b - a).toNat : Nat) : Int) := rangeSize_nat a b
  rw [es]
  exact k _ _ (ek.trans (Ext.push _ _)) (src_range hA (ok.step ek) ek)
theorem Itr.rangeDown {f : Str} {p pos : Pos} {e1 e2 e3 : Expr} {a b : Int} (hA : A.handled = none) (hg : GlobV Γ.B f (.type "range")) (h1 : Evs prog w A Γ [e1, e2, e3] [.int a, .int b, .int (-1)]) (ha : a < 2 ^ 62) (ha' : -(2 ^ 62) < a) (hb : b < 2 ^ 62) (hb' : -(2 ^ 62) < b) (hk : Γ.env.kindOf f = some .globalImplicit := by rfl)
    (he : starEach [e1, e2, e3] Γ.env = (false, eval e1 Γ.env) :: starEach [e2, e3] Γ.env := by rfl) (hpl : (backTo pos (starEach [e2, e3] Γ.env)).any (·.1) = false := by rfl) (hd : (f == ("__debug__" : Str)) = false := by decide) :
    Itr prog w A Γ (.Call (.Name f p) [e1, e2, e3] [] pos) (rng a (-1) (a - b).toNat) := fun s Q E ok k => by
  rw [eval_CallName]
  refine wpAny_bind (wp_glob ok hk hg ?_ hd)
  refine PyProof.Rows.callWith_type1 (h1 s pos _ _ ok fun vs s₁ k₁ rs => ?_) he hpl
  match vs, rs.len with
  | [v1, v2, v3], _ =>
  obtain ⟨t, rfl⟩ := rs.head.int_inv
  obtain ⟨u, rfl⟩ := rs.tail.head.int_inv
  obtain ⟨v, rfl⟩ := rs.tail.tail.head.int_inv
  refine call_range_3 (by decide) ?_ (.inl (PyProof.noPylong_small (by decide)))
  refine wpAny_pyIter_range (IsRange.new _ _ _ _ _ _ _) (small_down ha ha' hb hb') ?_
  have ek : Ext s { s₁ with heap := s₁.heap.push { cls := .type "range", data := .fields #[.int a t, .int b u, .int (-1) v] }, toks := s₁.toks } := k₁.trans (Ext.push _ _)
  have es : Builtin.Range.rangeSize a b (-1) = (((a - b).toNat : Nat) : Int) := rangeSize_downNat a b
  rw [es]
  exact k _ _ (ek.trans (Ext.push _ _)) (src_range hA (ok.step ek) ek)
end Mine
namespace Mine
variable {prog : Program} {w : World} {A : Around} {Γ : Cx}
theorem Itr.cast {e : Expr} {ds ds' : List PV} (h : Itr prog w A Γ e ds) (q : ds = ds') : Itr prog w A Γ e ds' := q ▸ h
theorem Ev.cast {e : Expr} {d d' : PV} (h : Ev prog w A Γ e d) (q : d = d') : Ev prog w A Γ e d' := q ▸ h
theorem Tr.cast {e : Expr} {b b' : Bool} (h : Tr prog w A Γ e b) (q : b = b') : Tr prog w A Γ e b' := q ▸ h
theorem S.nx {st : Stmt} {Γ' Γ'' : Cx} (h : S prog w A Γ st (Nx Γ')) (q : Γ' = Γ'') : S prog w A Γ st (Nx Γ'') := q ▸ h
end Mine

end
section
open PySem PySem.W PyProof.Rows PySem.Calls
set_option autoImplicit false
set_option linter.all false
namespace Mine
variable {prog : Program} {w : World} {A : Around} {Γ : Cx}

/-- the datum is one of the library's -/
noncomputable def Enc (d : PV) (p : PyData) : Prop := ∀ (O : List Addr) (h : Heap) (v : Value), Rep O h v d → ∃ as, Reads h v p as
theorem Enc.none : Enc .none .none := fun O h v r => by cases r.none_inv; exact ⟨_, .none⟩
theorem Enc.bool (b : Bool) : Enc (.bool b) (.bool b) := fun O h v r => by cases r.bool_inv; exact ⟨_, .bool b⟩
theorem Enc.int (i : Int) : Enc (.int i) (.int i) := fun O h v r => by obtain ⟨t, rfl⟩ := r.int_inv; exact ⟨_, .int i t⟩
theorem Enc.str (x : Str) : Enc (.str x) (.str x) := fun O h v r => by obtain ⟨t, rfl⟩ := r.str_inv; exact ⟨_, .str x t⟩
theorem readsAll_of {O : List Addr} {h : Heap} : ∀ (vs : List Value) (ds : List PV) (ps : List PyData), Reps O h vs ds → ds.length = ps.length → (∀ (i : Nat) d p, ds[i]? = some d → ps[i]? = some p → Enc d p) → ∃ as, ReadsAll h vs ps as := by
  intro vs
  induction vs with
  | nil =>
    intro ds ps r hl _
    have h1 := r.len
    cases ds with
    | nil => cases ps with
      | nil => exact ⟨_, .nil⟩
      | cons => cases hl
    | cons => cases h1
  | cons v vs ih =>
    intro ds ps r hl he
    cases ds with
    | nil => have h1 := r.len; cases h1
    | cons d ds => cases ps with
      | nil => cases hl
      | cons p ps =>
        obtain ⟨as, ra⟩ := he 0 d p rfl rfl O h v r.head
        obtain ⟨bs, rb⟩ := ih ds ps r.tail (by simpa using hl) fun i d' p' h1 h2 => he (i + 1) d' p' (by simpa using h1) (by simpa using h2)
        exact ⟨_, .cons ra rb⟩
theorem Enc.list {ds : List PV} {ps : List PyData} (hl : ds.length = ps.length) (he : ∀ (i : Nat) d p, ds[i]? = some d → ps[i]? = some p → Enc d p) : Enc (.list ds) (.list ps) := fun O h v r => by
  obtain ⟨a, vs, rfl, _, ⟨n, e⟩, hr⟩ := r.list_inv
  obtain ⟨as, ra⟩ := readsAll_of vs ds ps hr hl he
  exact ⟨_, .list e rfl rfl (by simpa using ra)⟩
theorem Enc.tup {ds : List PV} {ps : List PyData} (hl : ds.length = ps.length) (he : ∀ (i : Nat) d p, ds[i]? = some d → ps[i]? = some p → Enc d p) : Enc (.tup ds) (.tuple ps) := fun O h v r => by
  obtain ⟨a, vs, rfl, _, ⟨o, e, hc, n, hd⟩, hr⟩ := r.tup_inv
  obtain ⟨as, ra⟩ := readsAll_of vs ds ps hr hl he
  exact ⟨_, .tuple e hc hd (by simpa using ra)⟩
theorem Enc.map {α : Type} {f : α → PV} {g : α → PyData} (h : ∀ x, Enc (f x) (g x)) (xs : List α) : Enc (.list (xs.map f)) (.list (xs.map g)) := Enc.list (by simp) fun i d p h1 h2 => by
  rw [List.getElem?_map] at h1 h2
  cases hx : xs[i]? with
  | none => rw [hx] at h1; cases h1
  | some x => rw [hx] at h1 h2; cases h1; cases h2; exact h x

/-- depth at most k, no dict -/
structure Small (k : Nat) (p : PyData) : Prop where
  lay : p.canLay0 = true
  deep : p.depth ≤ k
theorem Small.int (i : Int) : Small 0 (.int i) := ⟨rfl, Nat.le_refl _⟩
theorem Small.bool (b : Bool) : Small 0 (.bool b) := ⟨rfl, Nat.le_refl _⟩
theorem smallAll {k : Nat} : ∀ ps : List PyData, (∀ p ∈ ps, Small k p) → PyData.canLayAll0 ps = true ∧ PyData.depthAll ps ≤ k
  | [], _ => ⟨rfl, Nat.zero_le _⟩
  | p :: ps, h => by
    obtain ⟨h1, h2⟩ := smallAll ps fun q hq => h q (List.mem_cons_of_mem _ hq)
    obtain ⟨h3, h4⟩ := h p (List.mem_cons_self ..)
    exact ⟨by rw [PyData.canLayAll0, h3, h1]; rfl, by rw [PyData.depthAll]; exact Nat.max_le.mpr ⟨h4, h2⟩⟩
theorem Small.list {k : Nat} {ps : List PyData} (h : ∀ p ∈ ps, Small k p) : Small (k + 1) (.list ps) := ⟨(smallAll ps h).1, by rw [PyData.depth]; exact Nat.succ_le_succ (smallAll ps h).2⟩
theorem Small.tuple {k : Nat} {ps : List PyData} (h : ∀ p ∈ ps, Small k p) : Small (k + 1) (.tuple ps) := ⟨(smallAll ps h).1, by rw [PyData.depth]; exact Nat.succ_le_succ (smallAll ps h).2⟩
theorem Small.le {k m : Nat} {p : PyData} (h : Small k p) (hm : k ≤ m) : Small m p := ⟨h.lay, Nat.le_trans h.deep hm⟩

theorem COp.eqE {n k : Nat} {d1 d2 : PV} {p1 p2 : PyData} (hA : AOk n A) (e1 : Enc d1 p1) (e2 : Enc d2 p2) (s1 : Small k p1) (s2 : Small k p2) (hk : k ≤ 64) : COp prog w A Γ .Eq d1 d2 (PyData.eqv p1 p2) := fun s v1 v2 Q E _ r1 r2 h => by
  obtain ⟨as, ra⟩ := e1 _ _ _ r1
  obtain ⟨bs, rb⟩ := e2 _ _ _ r2
  have hu := hA.2.2
  have h1 := s1.deep
  exact SeqAt.compareEq_reads ra rb s1.lay s2.lay (by omega) (h _ (Ext.refl _))
theorem COp.neE {n k : Nat} {d1 d2 : PV} {p1 p2 : PyData} (hA : AOk n A) (e1 : Enc d1 p1) (e2 : Enc d2 p2) (s1 : Small k p1) (s2 : Small k p2) (hk : k ≤ 64) : COp prog w A Γ .NotEq d1 d2 (!PyData.eqv p1 p2) := fun s v1 v2 Q E _ r1 r2 h => by
  obtain ⟨as, ra⟩ := e1 _ _ _ r1
  obtain ⟨bs, rb⟩ := e2 _ _ _ r2
  have hu := hA.2.2
  have h1 := s1.deep
  exact SeqAt.compareNe_reads ra rb s1.lay s2.lay (by omega) (h _ (Ext.refl _))

theorem eqv_nil (ps : List PyData) : PyData.eqv (.list ps) (.list []) = ps.isEmpty := by cases ps <;> rfl
theorem eqvAll_ints : ∀ xs ys : List Int, PyData.eqvAll (xs.map .int) (ys.map .int) = decide (xs = ys)
  | [], [] => rfl
  | [], _ :: _ => by simp [PyData.eqvAll]
  | _ :: _, [] => by simp [PyData.eqvAll]
  | x :: xs, y :: ys => by
    rw [List.map_cons, List.map_cons, PyData.eqvAll, eqvAll_ints xs ys]
    by_cases hx : x = y <;> by_cases hxs : xs = ys <;> simp [PyData.eqv, hx, hxs]
theorem eqv_ints (xs ys : List Int) : PyData.eqv (.list (xs.map .int)) (.list (ys.map .int)) = decide (xs = ys) := eqvAll_ints xs ys
noncomputable def encInts (xs : List Int) : PyData := .list (xs.map .int)
theorem Enc.ints (xs : List Int) : Enc (.list (xs.map .int)) (encInts xs) := Enc.map Enc.int xs
theorem Small.ints (xs : List Int) : Small 1 (encInts xs) := Small.list fun p hp => by
  obtain ⟨x, _, rfl⟩ := List.mem_map.mp hp; exact Small.int x

theorem any_bools (b : Bool) : ∀ bs : List Bool, (bs.map PyData.bool).any (fun y => PyData.eqv y (.bool b)) = bs.contains b
  | [] => rfl
  | c :: bs => by
    rw [List.map_cons, List.any_cons, any_bools b bs, List.contains_cons]
    cases b <;> cases c <;> rfl
theorem COp.inBools {n : Nat} {b : Bool} {bs : List Bool} (hA : AOk n A) : COp prog w A Γ .In (.bool b) (.list (bs.map .bool)) (bs.contains b) := fun s v1 v2 Q E _ r1 r2 h => by
  obtain ⟨as, ra⟩ := Enc.bool b _ _ _ r1
  obtain ⟨cs, rb⟩ := Enc.map Enc.bool bs _ _ _ r2
  have hu := hA.2.2
  have hs := smallAll (k := 0) (bs.map .bool) fun p hp => by obtain ⟨x, _, rfl⟩ := List.mem_map.mp hp; exact Small.bool x
  refine SeqAt.in_list_reads rb ra hs.1 rfl (by have := hs.2; show A.units + 1 + min _ 0 < cLine; omega) ?_
  rw [any_bools]; exact h _ (Ext.refl _)
theorem COp.notInBools {n : Nat} {b : Bool} {bs : List Bool} (hA : AOk n A) : COp prog w A Γ .NotIn (.bool b) (.list (bs.map .bool)) (!bs.contains b) := fun s v1 v2 Q E _ r1 r2 h => by
  obtain ⟨as, ra⟩ := Enc.bool b _ _ _ r1
  obtain ⟨cs, rb⟩ := Enc.map Enc.bool bs _ _ _ r2
  have hu := hA.2.2
  have hs := smallAll (k := 0) (bs.map .bool) fun p hp => by obtain ⟨x, _, rfl⟩ := List.mem_map.mp hp; exact Small.bool x
  refine SeqAt.notIn_list_reads rb ra hs.1 rfl (by have := hs.2; show A.units + 1 + min _ 0 < cLine; omega) ?_
  rw [any_bools]; exact h _ (Ext.refl _)
theorem COp.isB {a b : Bool} : COp prog w A Γ .Is (.bool a) (.bool b) (a == b) := fun s v1 v2 Q E _ r1 r2 h => by
  rw [r1.bool_inv, r2.bool_inv]
  refine wpAny_is_plain (by rfl) ?_
  have e : (Value.bool a == Value.bool b) = (a == b) := by cases a <;> cases b <;> rfl
  rw [e]; exact h _ (Ext.refl _)
theorem COp.isNotB {a b : Bool} : COp prog w A Γ .IsNot (.bool a) (.bool b) (!(a == b)) := fun s v1 v2 Q E _ r1 r2 h => by
  rw [r1.bool_inv, r2.bool_inv]
  refine wpAny_isNot_plain (by rfl) ?_
  have e : (Value.bool a == Value.bool b) = (a == b) := by cases a <;> cases b <;> rfl
  rw [e]; exact h _ (Ext.refl _)
theorem COp.neB {n : Nat} {a b : Bool} (hA : AOk n A) : COp prog w A Γ .NotEq (.bool a) (.bool b) (!(a == b)) := by
  have := COp.neE (prog := prog) (w := w) (Γ := Γ) hA (Enc.bool a) (Enc.bool b) (Small.bool a) (Small.bool b) (by omega)
  have e : PyData.eqv (.bool a) (.bool b) = (a == b) := rfl
  rw [e] at this; exact this
end Mine

end
section
open PySem PySem.W PyProof.Rows PySem.Calls
set_option autoImplicit false
set_option linter.all false
namespace Mine
variable {prog : Program} {w : World} {A : Around} {Γ : Cx}
theorem EvN.mulOne {e1 e2 : Expr} {pos : Pos} {d : PV} {k : Int} (h1 : Ev prog w A Γ e1 (.list [d])) (h2 : Ev prog w A Γ e2 (.int k)) (hlo : -(2 ^ 63 : Int) ≤ k) (hk : k.toNat ≤ 2 ^ 20) (hf : d.flat = true) : EvN prog w A Γ (.BinOp e1 .Mult e2 pos) (List.replicate k.toNat d) := fun s Q E ok h =>
  wpAny_BinOp (h1 s _ _ ok fun v1 s₁ k₁ r₁ => h2 s₁ _ _ (ok.step k₁) fun v2 s₂ k₂ r₂ => by
    obtain ⟨a, vs, rfl, _, hl, hr⟩ := (r₁.keeps k₂.get).list_inv
    obtain ⟨u, rfl⟩ := r₂.int_inv
    match vs, hr.len with
    | [v], _ =>
    obtain ⟨n, hl⟩ := hl
    have hhi : k < 2 ^ 63 := by omega
    refine wpAny_binaryOp_repeat_ref (T := "list") (U := "int") (by decide) ⟨_, hl, rfl⟩ (fun s' => typeIs_int s' k u) noFill_list_mul F.fills_int_mul F.slot_int_rmul repeat_list F.slot_int_index.lookup
      (call_meets F.slot_int_rmul (typeIs_int s₂ k u) F.entry_int_rmul (F.args_int_rmul_2 _ _) (int___rmul___int_list k u a [v].toArray n)
        ⟨hl, rfl, ⟨_, hl, rfl⟩, call_meets F.slot_list_mul ⟨_, hl, rfl⟩ F.entry_list_mul (F.args_list_mul_2 _ _)
          (AutoListH.list___mul___list_int_3 a [v].toArray n k u (by simp [Builtin.List.listFitsIndex]; omega) (by simp; omega) (by simp [Builtin.List.listTooLong, sizeLine]; omega))
          ⟨hl, h s₂.heap.objs.size (List.replicate k.toNat v) _ ((k₁.trans k₂).trans (Ext.push _ _)) ?_ ?_ ⟨by simp, fun i u e hu he => ?_⟩⟩⟩)
    · cases e : s.heap.get? s₂.heap.objs.size with
      | none => rfl
      | some o => exact absurd (Heap.lt_size ((k₁.trans k₂).get _ _ e)) (Nat.lt_irrefl _)
    · have e : List.foldl (fun x1 x2 => x1 ++ x2) #[] (List.replicate (if [v].toArray.isEmpty = true then 0 else k.toNat) [v].toArray) = (List.replicate k.toNat v).toArray := by
        rw [foldl_replicate]; simp [flatten_one]
      have := plain_push s₂.heap (List.foldl (fun x1 x2 => x1 ++ x2) #[] (List.replicate (if [v].toArray.isEmpty = true then 0 else k.toNat) [v].toArray))
      rw [← e]; exact this
    · obtain ⟨_, hu'⟩ := List.getElem?_eq_some_iff.mp hu
      obtain ⟨_, he'⟩ := List.getElem?_eq_some_iff.mp he
      simp at hu' he'; subst hu' he'
      exact hr.head.of_flat hf)
end Mine

end
section
open PySem PySem.W PyProof.Rows PySem.Calls
set_option autoImplicit false
set_option linter.all false
namespace Mine
set_option maxRecDepth 100000
variable {prog : Program} {w : World}

theorem fun_held {P : Params} {h : Heap} (t : TF P h) : ∃ doc pm an cdv ct, Fun h 155 (fdAt (topAt 65) "_law_held" .none .none doc pm an cdv ct) := by
  have e : fdK P 155 = fdAt (topAt 65) "_law_held" .none .none (fdK P 155).doc (fdK P 155).pyModule (fdK P 155).annotations (fdK P 155).code (fdK P 155).closureTuple := by kernel_rfl
  exact ⟨_, _, _, _, _, e ▸ t.fn 155 (by kernel_rfl) (by kernel_rfl)⟩

noncomputable def natsPV (l : List Nat) : List PV := l.map fun k : Nat => .int (k : Int)
noncomputable def kidsPV (kids : List (List Nat)) : List PV := kids.map fun l => .list (natsPV l)
/-- a tree as the law holds it -/
structure TreeOk (kids : List (List Nat)) (ns : List Int) (n : Nat) : Prop where
  klen : kids.length = n
  nlen : ns.length = n
  pos : 0 < n
  small : n ≤ 9
  down : ∀ (i : Nat) l k, kids[i]? = some l → k ∈ l → i < k ∧ k < n
  short : ∀ (i : Nat) l, kids[i]? = some l → l.length ≤ n

/-- what «held» means -/
noncomputable def HeldEq (kids : List (List Nat)) (ns : List Int) (bar : Int) (hld : Nat → Bool) : Prop :=
  ∀ (i : Nat) l x, kids[i]? = some l → ns[i]? = some x → hld i = if l = [] then decide (bar ≤ x) else if x % 2 = 0 then l.any hld else l.all hld

noncomputable def heldSt (n : Nat) (hld : Nat → Bool) (k : Nat) : List Bool := (List.range n).map fun j => if n - k ≤ j then hld j else false
theorem heldSt_len (n : Nat) (hld : Nat → Bool) (k : Nat) : (heldSt n hld k).length = n := by simp [heldSt]
theorem heldSt_zero (n : Nat) (hld : Nat → Bool) : heldSt n hld 0 = List.replicate n false := by
  apply List.ext_getElem
  · simp [heldSt]
  · intro i h1 h2
    simp [heldSt] at h1 ⊢
    omega
theorem heldSt_succ {n k : Nat} (hld : Nat → Bool) (hk : k < n) : heldSt n hld (k + 1) = (heldSt n hld k).set (n - 1 - k) (hld (n - 1 - k)) := by
  apply List.ext_getElem
  · simp [heldSt]
  · intro i h1 h2
    simp only [heldSt, List.getElem_map, List.getElem_range, List.getElem_set]
    by_cases hi : n - 1 - k = i
    · subst hi; rw [if_pos (by omega), if_pos rfl]
    · rw [if_neg hi]
      by_cases h3 : n - k ≤ i
      · rw [if_pos h3, if_pos (by omega)]
      · rw [if_neg h3, if_neg (by omega)]
theorem heldSt_get {n k j : Nat} (hld : Nat → Bool) (hj : j < n) (hk : n - k ≤ j) : (heldSt n hld k)[j]? = some (hld j) := by
  simp [heldSt, hj]
  omega

theorem boolPV_get {bs : List Bool} {i : Nat} {b : Bool} (h : bs[i]? = some b) : (bs.map PV.bool)[i]? = some (.bool b) := by simp [h]

theorem contains_true (l : List Nat) (f : Nat → Bool) : (l.map f).contains true = l.any f := by
  induction l with
  | nil => rfl
  | cons x l ih => rw [List.map_cons, List.contains_cons, ih, List.any_cons]; cases f x <;> rfl
theorem contains_false (l : List Nat) (f : Nat → Bool) : (!(l.map f).contains false) = l.all f := by
  induction l with
  | nil => rfl
  | cons x l ih => rw [List.map_cons, List.contains_cons, List.all_cons, ← ih]; cases f x <;> simp
theorem held_ok {kids : List (List Nat)} {ns : List Int} {n : Nat} {bar : Int} {hld : Nat → Bool} (ht : TreeOk kids ns n) (he : HeldEq kids ns bar hld) :
    FnOk prog w (TF w.params) 2 155 [.list (kidsPV kids), .list (intsPV ns), .int bar] (.bool (hld 0)) := by
  intro A s vs R hA t rs hR
  obtain ⟨doc, pm, an, cdv, ct, hf⟩ := fun_held t
  match vs, rs.len with
  | [vk, vn, vb], _ =>
  have hn9 := ht.small
  have hn0 := ht.pos
  have hkl : (kidsPV kids).length = n := by simp [kidsPV, ht.klen]
  have hnl : (intsPV ns).length = n := by rw [intsPV_len, ht.nlen]
  refine fn_cells (n := 1) (B := s.heap) (W := ["held"]) (ρ := [("kids", .list (kidsPV kids)), ("numbers", .list (intsPV ns)), ("bar", .int bar)]) (binds := [("kids", vk), ("numbers", vn), ("bar", vb)])
    (RV := fun v s' => Rep [] s'.heap v (.bool (hld 0))) hA hf t.lim rfl rfl rfl (fun _ _ e => e) ?_ ?_ ?_ hR
  · intro x hx
    simp only [List.mem_cons, List.not_mem_nil, or_false] at hx
    rcases hx with rfl | rfl | rfl <;> exact .inl rfl
  · intro x d e
    have := PySem.mem_of_lookup e
    simp only [List.mem_cons, Prod.mk.injEq, List.not_mem_nil, or_false] at this
    rcases this with ⟨rfl, rfl⟩ | ⟨rfl, rfl⟩ | ⟨rfl, rfl⟩
    · exact ⟨vk, rs.head, .inl ⟨rfl, rfl⟩⟩
    · exact ⟨vn, rs.tail.head, .inl ⟨rfl, rfl⟩⟩
    · exact ⟨vb, rs.tail.tail.head, .inl ⟨rfl, rfl⟩⟩
  conv => arg 5; whnf
  have hA' : AOk 1 (A.deeper (callEnvC (fdAt (topAt 65) "_law_held" .none .none doc pm an cdv ct) s.heap.objs.size 155)) := hA.deeper _
  -- held = [False] * len(kids)
  refine X.assignNew (EvN.mulOne (Ev.list (Evs.cons Ev.bool Evs.nil)) (Ev.bcall (gl_len t) (Evs.cons (Ev.name rfl) Evs.nil) (BCall.len (by rw [hkl]; omega))) (by omega) (by rw [hkl]; omega) rfl) fun a => ?_
  have e0 : List.replicate ((kidsPV kids).length : Int).toNat (PV.bool false) = (heldSt n hld 0).map PV.bool := by rw [heldSt_zero, hkl]; simp
  rw [e0]
  -- the loop, from the last place
  refine X.for (fun _ => [("kids", .list (kidsPV kids)), ("numbers", .list (intsPV ns)), ("bar", .int bar), ("held", .ref a)]) (fun k => [(a, (heldSt n hld k).map PV.bool)]) (ds := rng (n - 1) (-1) n) ?_ rfl (fun _ => rfl) ?_ ?_ ?_
  · exact Sub.cons rfl (Sub.cons rfl (Sub.cons rfl (Sub.cons rfl Sub.nil)))
  · refine Itr.cast (Itr.rangeDown (a := ((kidsPV kids).length : Int) - 1) (b := -1) hA'.1 (gl_range t) (Evs.cons (Ev.bin (Ev.bcall (gl_len t) (Evs.cons (Ev.name rfl) Evs.nil) (BCall.len (by rw [hkl]; omega))) Ev.int BOp.sub) (Evs.cons (Ev.neg Ev.int) (Evs.cons (Ev.neg Ev.int) Evs.nil))) (by rw [hkl]; omega) (by rw [hkl]; omega) (by omega) (by omega)) ?_
    rw [hkl]
    have : ((n : Int) - 1 - -1).toNat = n := by omega
    rw [this]
  · intro k d hd
    obtain ⟨hk, rfl⟩ := rng_get hd
    have hpl : (n : Int) - 1 + (k : Int) * -1 = ((n - 1 - k : Nat) : Int) := by omega
    rw [hpl]
    generalize hp : n - 1 - k = pl
    have hpn : pl < n := by omega
    obtain ⟨l, hl⟩ : ∃ l, kids[pl]? = some l := ⟨kids[pl]'(by rw [ht.klen]; exact hpn), by simp [ht.klen, hpn]⟩
    obtain ⟨x, hx⟩ : ∃ x, ns[pl]? = some x := ⟨ns[pl]'(by rw [ht.nlen]; exact hpn), by simp [ht.nlen, hpn]⟩
    have hll : l.length ≤ 2 ^ 20 := by have := ht.short pl l hl; omega
    have hkv : (kidsPV kids)[pyIdx (kidsPV kids).length (pl : Int)]? = some (.list (natsPV l)) := by rw [pyIdx_nat]; simp [kidsPV, hl]
    have hnv : (intsPV ns)[pyIdx (intsPV ns).length (pl : Int)]? = some (.int x) := by rw [pyIdx_nat]; exact intsPV_get hx
    -- parts = [held[k] for k in kids[place]]
    refine X.assignCompV [("held", .ref a)] (fun _ => true) (fun d => match d with | .int i => .bool (hld i.toNat) | _ => .none) rfl (ClSub.cons rfl ClSub.nil) (Caps.cons rfl Caps.nil)
      (Itr.list hA'.1 (Ev.idx (LV.of (Ev.name rfl)) (Ev.name rfl) hkv (by omega))) (by simp [natsPV]; exact hll) (fun C D ys j d hd => Trs.nil) (fun C D ys j d hd _ => ?_) ?_
    · obtain ⟨kk, hkk, rfl⟩ : ∃ kk, kk ∈ l ∧ d = .int (kk : Int) := by
        have hm := List.mem_of_getElem? hd
        obtain ⟨kk, h1, h2⟩ := List.mem_map.mp hm
        exact ⟨kk, h1, h2.symm⟩
      have hdn := ht.down pl l kk hl hkk
      refine Ev.idx (k := (kk : Int)) (LV.own (Ev.name rfl) (.head _)) (Ev.name rfl) ?_ (by omega)
      rw [pyIdx_nat]
      exact boolPV_get (heldSt_get hld hdn.2 (by omega))
    · have eparts : List.map (fun d : PV => match d with | .int i => PV.bool (hld i.toNat) | _ => PV.none) (List.filter (fun _ => true) (natsPV l)) = (l.map hld).map PV.bool := by
        rw [List.filter_eq_self.mpr (fun _ _ => rfl)]
        simp [natsPV]
      rw [eparts]
      have hset : ((heldSt n hld k).map PV.bool).set pl (.bool (hld pl)) = (heldSt n hld (k + 1)).map PV.bool := by
        rw [heldSt_succ hld hk, hp, List.map_set]
      have hlen : ((heldSt n hld k).map PV.bool).length = n := by simp [heldSt_len]
      have heq := he pl l x hl hx
      obtain ⟨doc', pm', an', cdv', ct', hisn⟩ := fun_isn t
      refine X.one (S.ifs (Tr.cmp (Ev.name rfl) (Ev.list Evs.nil) (COp.eqE hA' (Enc.map Enc.bool (l.map hld)) (Enc.list (ds := []) (ps := []) rfl (fun i d p h1 h2 => by simp at h1)) (Small.list (k := 0) fun p hp => by obtain ⟨b, _, rfl⟩ := List.mem_map.mp hp; exact Small.bool b) (Small.list (k := 0) fun p hp => absurd hp List.not_mem_nil) (by omega))) (fun hb => ?_) (fun hb => ?_))
      · rw [eqv_nil] at hb
        have hnil : l = [] := by simpa using hb
        refine X.stepL (S.setitem (k := pl) 0 (Ev.name rfl) (Ev.name rfl) (Ev.call (gl_isn t) hisn (fun h k => t.keeps k) hA' (EvsF.cons (EvF.of (Ev.bin (Ev.bin Ev.int (Ev.idx (LV.of (Ev.name rfl)) (Ev.name rfl) hnv (by omega)) BOp.add) (Ev.name rfl) BOp.sub)) EvsF.nil) isnonterm (.inr rfl)) (by rw [hlen]; exact hpn) rfl (by rw [hlen]; omega)) fun s' ok => ⟨rfl, ?_⟩
        have hv : decide ((256 : Int) ≤ 256 + x - bar) = hld pl := by
          rw [heq, if_pos hnil]
          by_cases h : bar ≤ x
          · rw [decide_eq_true h, decide_eq_true (by omega)]
          · rw [decide_eq_false h, decide_eq_false (by omega)]
        have ok2 := ok.to (ρ' := [("kids", .list (kidsPV kids)), ("numbers", .list (intsPV ns)), ("bar", .int bar), ("held", .ref a)]) (Sub.cons rfl (Sub.cons rfl (Sub.cons rfl (Sub.cons rfl Sub.nil))))
        rw [hv] at ok2
        rw [← hset]
        exact ok2
      · rw [eqv_nil] at hb
        have hnil : l ≠ [] := by simpa using hb
        have hmod : x.fmod 2 = x % 2 := Int.fmod_eq_emod_of_nonneg x (by omega)
        refine X.one (S.ifs (Tr.cmp (Ev.bin (Ev.idx (LV.of (Ev.name rfl)) (Ev.name rfl) hnv (by omega)) Ev.int (BOp.mod (by decide))) Ev.int COp.eq) (fun hb2 => ?_) (fun hb2 => ?_))
        · have hev : x % 2 = 0 := by rw [hmod] at hb2; exact of_decide_eq_true hb2
          refine X.stepL (S.setitem (k := pl) 0 (Ev.name rfl) (Ev.name rfl) (Ev.cmp Ev.bool (Ev.name rfl) (COp.inBools hA')) (by rw [hlen]; exact hpn) rfl (by rw [hlen]; omega)) fun s' ok => ⟨rfl, ?_⟩
          have hv : (l.map hld).contains true = hld pl := by
            rw [heq, if_neg hnil, if_pos hev, contains_true]
          have ok2 := ok.to (ρ' := [("kids", .list (kidsPV kids)), ("numbers", .list (intsPV ns)), ("bar", .int bar), ("held", .ref a)]) (Sub.cons rfl (Sub.cons rfl (Sub.cons rfl (Sub.cons rfl Sub.nil))))
          rw [hv] at ok2
          rw [← hset]
          exact ok2
        · have hev : ¬ x % 2 = 0 := by rw [hmod] at hb2; exact of_decide_eq_false hb2
          refine X.stepL (S.setitem (k := pl) 0 (Ev.name rfl) (Ev.name rfl) (Ev.cmp Ev.bool (Ev.name rfl) (COp.notInBools hA')) (by rw [hlen]; exact hpn) rfl (by rw [hlen]; omega)) fun s' ok => ⟨rfl, ?_⟩
          have hv : (!(l.map hld).contains false) = hld pl := by
            rw [heq, if_neg hnil, if_neg hev, contains_false]
          have ok2 := ok.to (ρ' := [("kids", .list (kidsPV kids)), ("numbers", .list (intsPV ns)), ("bar", .int bar), ("held", .ref a)]) (Sub.cons rfl (Sub.cons rfl (Sub.cons rfl (Sub.cons rfl Sub.nil))))
          rw [hv] at ok2
          rw [← hset]
          exact ok2
  · refine X.ret (Ev.idx (k := 0) (LV.own (Ev.name rfl) (.head _)) Ev.int ?_ (by omega)) fun v s' _ r => r.free
    rw [rng_len, pyIdx_pos (by decide)]
    exact boolPV_get (heldSt_get hld hn0 (by omega))
end Mine

end
section
open PySem PySem.W PyProof.Rows PySem.Calls
set_option autoImplicit false
set_option linter.all false
namespace Mine
variable {prog : Program} {w : World} {A : Around} {Γ : Cx}

noncomputable abbrev two (elt : Expr) (x0 : Str) (p0 : Pos) (i0 : Expr) (x1 : Str) (p1 : Pos) (i1 : Expr) (scope : Scope) (pos : Pos) : Expr := .ListComp elt [⟨.Name x0 p0, i0, [], 0⟩, ⟨.Name x1 p1, i1, [], 0⟩] scope pos

section
variable {elt i0 i1 : Expr} {x0 x1 : Str} {p0 p1 pos : Pos} {scope : Scope} {it acc : Value} {env : Env} {R : Result → Shared → Prop} {s : Shared}

theorem compStart_two1 (h0 : codeAny (model prog w) A (.compLoop (two elt x0 p0 i0 x1 p1 i1 scope pos) 1 it acc env) R s)
    (h : ∀ E, wpAny (model prog w) A (pyIter it) (fun it' s' => codeAny (model prog w) A (.compLoop (two elt x0 p0 i0 x1 p1 i1 scope pos) 1 it' acc env) R s') E s) :
    codeAny (model prog w) A (.compStart (two elt x0 p0 i0 x1 p1 i1 scope pos) 1 it acc env) R s := by
  refine codeAny_of_tree ?_
  show wpAny _ _ ((compStart (two elt x0 p0 i0 x1 p1 i1 scope pos) 1 it acc env).onRaise (fun x => do noteFrame x env; standAt theWindowsPlace)) _ _ s
  refine wpAny_notedAt ?_
  unfold compStart
  show wpAny _ _ (ask >>= _) _ _ s
  refine wpAny_bind (wpAny_askSetting (wpAny_ite ?_))
  split
  · first
      | exact wpAny_bind (wpAny_pure (wpAny_pure (And.intro rfl h0)))
      | exact wpAny_pure (And.intro rfl h0)
  · first
      | exact wpAny_bind (wpAny_rule (wpAny_bind (wpAny_standAt (wpAny_bind (wpAny_mono (h _) (fun it' s' h' => wpAny_pure (And.intro rfl h')) fun _ _ x => x)))))
      | exact wpAny_bind (wpAny_rule (wpAny_bind (wpAny_standAt (wpAny_bind (wpAny_mono (h _) (fun it' s' h' => wpAny_bind (wpAny_pure (wpAny_pure (And.intro rfl h')))) fun _ _ x => x)))))

theorem compTurn_two1 : compTurn (two elt x0 p0 i0 x1 p1 i1 scope pos) 1 it acc env = (do
      standAt i1.pos
      match ← pyNext it with
      | none => pure (.done .next)
      | some v =>
        letOwnedTupleGo (.Name x1 p1) it v
        assign (.Name x1 p1) env v
        (do let _ ← call (.builtin "list.append") [acc, ← eval elt env])
        again (.compLoop (two elt x0 p0 i0 x1 p1 i1 scope pos) 1 it acc env)) := by rfl
theorem compTurn_two0 : compTurn (two elt x0 p0 i0 x1 p1 i1 scope pos) 0 it acc env = (do
      standAt i0.pos
      match ← pyNext it with
      | none => pure (.done .next)
      | some v =>
        letOwnedTupleGo (.Name x0 p0) it v
        assign (.Name x0 p0) env v
        let x ← eval i1 env
        standAt i1.pos
        let x ← foldedSetIterable i1 env x
        let _ ← runOwn (.compStart (two elt x0 p0 i0 x1 p1 i1 scope pos) 1 (← holding [x] (pyIter x)) acc env) env
        again (.compLoop (two elt x0 p0 i0 x1 p1 i1 scope pos) 0 it acc env)) := by rfl

theorem compLoop_two1 (I : Nat → Shared → Prop)
    (turn : ∀ n s E, I n s → wpAny (model prog w) A (pyNext it) (fun r s₁ => match r with
      | none => R (.ok .next) s₁
      | some v => wpAny (model prog w) A (assign (.Name x1 p1) env v) (fun _ s₂ => wpAny (model prog w) A (eval elt env) (fun x s₄ =>
              wpAny (model prog w) A (call (.builtin "list.append") [acc, x]) (fun _ s₅ => ∃ m, m < n ∧ I m s₅) E s₄) E s₂) E s₁) E s)
    (n : Nat) (h : I n s) : codeAny (model prog w) A (.compLoop (two elt x0 p0 i0 x1 p1 i1 scope pos) 1 it acc env) R s := by
  refine codeAny_loop rfl I (fun n s hI => ?_) n h
  show wpAny _ A ((compTurn (two elt x0 p0 i0 x1 p1 i1 scope pos) 1 it acc env).onRaise (fun x => do noteFrame x env; theTreesLotGoes x)) _ _ s
  refine wpAny_noted ?_
  rw [compTurn_two1]
  refine wpAny_bind (wpAny_standAt (wpAny_bind (wpAny_mono (turn n s _ hI) (fun r s₁ h₁ => ?_) fun _ _ h' => h')))
  cases r with
  | none => exact wpAny_pure h₁
  | some v =>
    refine wpAny_bind (wpAny_of_eq (a := ()) rfl ?_)
    refine wpAny_bind (wpAny_mono h₁ (fun _ s₂ h₂ => ?_) fun _ _ h' => h')
    refine wpAny_bind (wpAny_bind (wpAny_mono h₂ (fun x s₄ h₄ => wpAny_bind (wpAny_mono h₄ (fun _ s₅ h₅ => wpAny_pure (wpAny_pure ⟨rfl, h₅⟩)) fun _ _ h' => h')) fun _ _ h' => h'))

theorem compLoop_two0 (I : Nat → Shared → Prop) (hs : ∀ v, foldedSetIterable i1 env v = pure v)
    (turn : ∀ n s E, I n s → wpAny (model prog w) A (pyNext it) (fun r s₁ => match r with
      | none => R (.ok .next) s₁
      | some v => wpAny (model prog w) A (assign (.Name x0 p0) env v) (fun _ s₂ => wpAny (model prog w) A (eval i1 env) (fun x s₃ => wpAny (model prog w) A (pyIter x) (fun it' s₄ =>
              codeAny (model prog w) A (.compStart (two elt x0 p0 i0 x1 p1 i1 scope pos) 1 it' acc env) (fun r s₅ => r = .ok .next ∧ ∃ m, m < n ∧ I m s₅) s₄) E s₃) E s₂) E s₁) E s)
    (n : Nat) (h : I n s) : codeAny (model prog w) A (.compLoop (two elt x0 p0 i0 x1 p1 i1 scope pos) 0 it acc env) R s := by
  refine codeAny_loop rfl I (fun n s hI => ?_) n h
  show wpAny _ A ((compTurn (two elt x0 p0 i0 x1 p1 i1 scope pos) 0 it acc env).onRaise (fun x => do noteFrame x env; theTreesLotGoes x)) _ _ s
  refine wpAny_noted ?_
  rw [compTurn_two0]
  refine wpAny_bind (wpAny_standAt (wpAny_bind (wpAny_mono (turn n s _ hI) (fun r s₁ h₁ => ?_) fun _ _ h' => h')))
  cases r with
  | none => exact wpAny_pure h₁
  | some v =>
    refine wpAny_bind (wpAny_of_eq (a := ()) rfl ?_)
    refine wpAny_bind (wpAny_mono h₁ (fun _ s₂ h₂ => ?_) fun _ _ h' => h')
    refine wpAny_bind (wpAny_mono h₂ (fun x s₃ h₃ => wpAny_bind (wpAny_standAt (wpAny_bind (wpAny_of_eq (hs x) (wpAny_bind (wpAny_holding (wpAny_mono h₃ (fun it' s₄ h₄ => ?_) fun _ _ h' => h'))))))) fun _ _ h' => h')
    refine wpAny_bind (wpAny_runOwn (codeAny_mono h₄ fun r s₅ h₅ => ?_))
    obtain ⟨rfl, h₅⟩ := h₅
    exact wpAny_pure ⟨rfl, h₅⟩
end

/-- the inner loop of a comprehension with two clauses: D is filled, C holds the loops' names -/
theorem inner_two {elt i0 i1 : Expr} {x0 x1 : Str} {p0 p1 pos : Pos} {scope : Scope} {s₀ s : Shared} {it : Value} {D : Addr} {ys es : List PV} {f : PV → PV} {μ0 : List (Addr × List PV)} {R : Result → Shared → Prop}
    (hμ : Γ.μ = μ0 ++ [(D, ys)]) (hW : Γ.W = []) (ok : Γ.Ok s.heap) (ok₀ : Γ.Ok s₀.heap) (k₀ : Ext s₀ s) (hsrc : Src prog w A Γ s₀ s it es) (hx : Γ.env.kindOf x1 = some .local) (hxs : (x1 != ("is_simple" : Str)) = true) (hxρ : Γ.ρ.lookup x1 = none) (hz : ys.length + es.length ≤ 2 ^ 20)
    (helt : ∀ ys' (k : Nat) d, es[k]? = some d → Ev prog w A (({ Γ with μ := μ0 ++ [(D, ys')] } : Cx).set x1 d) elt (f d))
    (hR : ∀ s', (∃ h' tk, s' = { s with heap := h', toks := tk }) → ({ Γ with μ := μ0 ++ [(D, ys ++ es.map f)] } : Cx).Ok s'.heap → (∀ b o, b ≠ Γ.env.locals → b ≠ D → s₀.heap.get? b = some o → s'.heap.get? b = some o) → R (.ok .next) s') :
    codeAny (model prog w) A (.compStart (two elt x0 p0 i0 x1 p1 i1 scope pos) 1 it (.ref D) Γ.env) R s := by
  obtain ⟨I, fp, wr, P, St, rfl, W, hst, hfp, hwr, hns, hitem⟩ := hsrc
  have hOy : ∀ ys', ({ Γ with μ := μ0 ++ [(D, ys')] } : Cx).O = Γ.O := fun ys' => by
    show (μ0 ++ [(D, ys')]).map _ = Γ.μ.map _
    rw [hμ, List.map_append, List.map_append]; rfl
  have hDO : D ∈ Γ.O := by
    show D ∈ Γ.μ.map _
    rw [hμ, List.map_append]; exact List.mem_append_right _ (List.mem_singleton.mpr rfl)
  have hwr2 : ∀ b, b ∈ wr → ∀ o, ¬ (s₀.heap.get? b = some o) := fun b hb o e => by rw [hwr b hb] at e; cases e
  have hnotwr : ∀ b, ((∃ o', Γ.B.get? b = some o') ∨ b = Γ.env.locals ∨ (∃ x, Γ.env.cells.lookup x = some b)) → b ∉ wr := fun b hb hm => by
    obtain ⟨o, e⟩ := ok₀.stands hb
    exact hwr2 b hm o e
  have nst : ∀ b, b ≠ Γ.env.locals → ¬ Stor Γ.env Γ.W b := fun b hb hs => by
    rcases hs with hs | ⟨y, hy, _⟩
    · exact hb hs
    · rw [hW] at hy; exact absurd hy List.not_mem_nil
  have hfpL : ∀ b ∈ fp, b ≠ Γ.env.locals := fun b hb q => (hfp b hb).2.1 (.inl q)
  have hfpD : ∀ b ∈ fp, b ≠ D := fun b hb q => (hfp b hb).2.2 (q ▸ hDO)
  have loop : codeAny (model prog w) A (.compLoop (two elt x0 p0 i0 x1 p1 i1 scope pos) 1 (.ref I) (.ref D) Γ.env) R s := by
    refine compLoop_two1 (fun n s' => ∃ i h' tk, n = es.length + 1 - i ∧ i ≤ es.length ∧ s' = { s with heap := h', toks := tk } ∧ St i h' ∧ ({ Γ with μ := μ0 ++ [(D, ys ++ (es.take i).map f)] } : Cx).Ok h' ∧
        (∀ b o, b ≠ Γ.env.locals → b ≠ D → b ∉ wr → s.heap.get? b = some o → h'.get? b = some o)) ?_ (es.length + 1)
      ⟨0, s.heap, s.toks, rfl, Nat.zero_le _, rfl, hst, by
        have : ({ Γ with μ := μ0 ++ [(D, ys ++ (es.take 0).map f)] } : Cx) = Γ := by
          simp only [List.take_zero, List.map_nil, List.append_nil]
          rw [← hμ]
        rw [this]; exact ok, fun _ _ _ _ _ e => e⟩
    rintro n s' E ⟨i, h', tk, rfl, hi, rfl, hst', ok', hk'⟩
    by_cases hlt : i < es.length
    · refine W.item i _ _ _ hlt hst' fun v h₃ tk₃ hP hst₃ hk₃ => ?_
      obtain ⟨d, hd⟩ : ∃ d, es[i]? = some d := ⟨es[i], by simp [hlt]⟩
      have htake : es.take (i + 1) = es.take i ++ [d] := by rw [List.take_add_one, hd]; rfl
      have ok₃ : ({ Γ with μ := μ0 ++ [(D, ys ++ (es.take i).map f)] } : Cx).Ok h₃ := ok'.change fun b o hb e => by
        refine hk₃ b o ?_ e
        rcases hb with hb | hb
        · exact fun hm => hns i h' b o hst' hm e hb
        · exact hnotwr b hb
      have hrep : Rep Γ.O h₃ v d := hitem i v d h₃ hP hd fun b o hb hq e => by
        have hbL : b ≠ Γ.env.locals := by rintro rfl; exact ok.fr.notSeq (W := []) (.inl rfl) e hq
        have hbD : b ≠ D := fun q => hb (q ▸ hDO)
        have hbw : b ∉ wr := fun hm => hns 0 s.heap b o hst hm e hq
        exact hk₃ b o hbw (hk' b o hbL hbD hbw e)
      refine wpAny_assign_Name ?_
      refine wp_store (Γ := { Γ with μ := μ0 ++ [(D, ys ++ (es.take i).map f)] }) (s := { s with heap := h₃, toks := tk₃ }) ok₃ (by rw [hOy]; exact hrep) (by unfold storable; rw [show ({ Γ with μ := μ0 ++ [(D, ys ++ (es.take i).map f)] } : Cx).env.kindOf x1 = some .local from hx]; exact hxs) fun s₄ ok₄ kp₄ => ?_
      refine helt _ i d hd s₄ _ _ ok₄ fun y s₅ k₅ r₅ => ?_
      have ok₅ := ok₄.step k₅
      have up₅ : ∀ b o, b ≠ Γ.env.locals → h₃.get? b = some o → s₅.heap.get? b = some o := fun b o hb e => k₅.get _ _ (kp₄.get b o (nst b hb) e)
      have hst₅ : St (i + 1) s₅.heap := W.frame _ _ _ hst₃ fun b hb o e => up₅ b o (hfpL b hb) e
      obtain ⟨us, hl, hr⟩ := ok₅.mem D _ (List.mem_append_right _ (List.mem_singleton.mpr rfl))
      have hlen : us.length = ys.length + i := by
        rw [hr.len]; simp; omega
      refine wpAny_list_append_plain hl (fun h₆ hl₆ hs₆ => ?_) (by simp [sizeLine]; omega)
      obtain ⟨h₄', t₄', e₄⟩ := kp₄.as
      obtain ⟨⟨h₅', t₅', e₅⟩, _⟩ := id k₅
      have hidx : (({ Γ with μ := μ0 ++ [(D, ys ++ (es.take i).map f)] } : Cx).set x1 d).μ[μ0.length]? = some (D, ys ++ (es.take i).map f) := by
        show (μ0 ++ [(D, ys ++ (es.take i).map f)])[μ0.length]? = _
        simp
      have ok₆ := ok₅.put (vs' := us ++ [y]) (ds' := ys ++ (es.take i).map f ++ [f d]) hidx (by simpa using hl₆) (hr.snoc r₅) hs₆
      have ok₇ := ok₆.sub Γ.ρ (fun z dz hz' => by
        show List.lookup z ((x1, d) :: Γ.ρ) = some dz
        rw [List.lookup_cons]
        cases hzx : z == x1 with
        | true => rw [eq_of_beq hzx, hxρ] at hz'; cases hz'
        | false => exact hz')
      have hset : (μ0 ++ [(D, ys ++ (es.take i).map f)]).set μ0.length (D, ys ++ (es.take i).map f ++ [f d]) = μ0 ++ [(D, ys ++ (es.take (i + 1)).map f)] := by
        rw [htake]; simp
      refine ⟨es.length + 1 - (i + 1), by omega, i + 1, h₆, s₅.toks, rfl, hlt, by rw [e₅, e₄], W.frame _ _ _ hst₅ fun b hb o e => (hs₆.2 b (hfpD b hb)).trans e, ?_, ?_⟩
      · rw [← hset]; exact ok₇
      · exact fun b o h1 h2 h3 e => (hs₆.2 b h2).trans (up₅ b o h1 (hk₃ b o h3 (hk' b o h1 h2 h3 e)))
    · have hin : i = es.length := by omega
      subst hin
      refine W.done _ _ _ hst' fun h₃ tk₃ hk₃ => ?_
      refine hR _ ⟨_, _, rfl⟩ ?_ ?_
      · have := ok'.change (h' := h₃) fun b o hb e => by
          refine hk₃ b o ?_ e
          rcases hb with hb | hb
          · exact fun hm => hns _ h' b o hst' hm e hb
          · exact hnotwr b hb
        rw [List.take_length] at this; exact this
      · exact fun b o h1 h2 e => hk₃ b o (fun hm => hwr2 b hm o e) (hk' b o h1 h2 (fun hm => hwr2 b hm o e) (k₀.get _ _ e))
  exact compStart_two1 loop fun E => W.self 0 _ _ _ hst loop

/-- [elt for x0 in i0 for x1 in i1] -/
theorem two_core {elt i0 i1 : Expr} {x0 x1 : Str} {p0 p1 pos pos' : Pos} {scope : Scope} {cl : List (Str × Addr)} {ρc : List (Str × PV)} {ds : List PV} {es : PV → List PV} {f : PV → PV → PV} {use : Option (Value → Sem Unit)} {Q : Value → Shared → Prop} {E : Value → Shared → Prop} {s : Shared} (ok : Γ.Ok s.heap)
    (hclos : closureFor scope Γ.env = pure cl) (hcell : ∀ y ∈ scope.names, y.2 ≠ .cell) (hkind : scope.kind = .function) (hnames : ∀ y ∈ scope.names, y.2 = .local → scope.names.lookup y.1 = some .local) (hx0 : scope.names.lookup x0 = some .local) (hx1 : scope.names.lookup x1 = some .local)
    (hx01 : (x1 == x0) = false) (hxs0 : (x0 != ("is_simple" : Str)) = true) (hxs1 : (x1 != ("is_simple" : Str)) = true) (hxρ : ρc.lookup x1 = none)
    (hs : ∀ v, foldedSetIterable i0 Γ.env v = pure v) (hs1 : ∀ C v, foldedSetIterable i1 (compEnvC scope cl C Γ.env) v = pure v) (hcap : Caps Γ scope cl ρc) (hcs : ClSub Γ.env cl)
    (hit : Itr prog w A Γ i0 ds) (hz : (ds.flatMap fun d => (es d).map (f d)).length ≤ 2 ^ 20)
    (hin : ∀ C D ys (k : Nat) d, ds[k]? = some d → Itr prog w A ((compCx Γ scope cl ρc C D ys).set x0 d) i1 (es d))
    (helt : ∀ C D ys (k : Nat) d (j : Nat) e, ds[k]? = some d → (es d)[j]? = some e → Ev prog w A (((compCx Γ scope cl ρc C D ys).set x0 d).set x1 e) elt (f d e))
    (hfin : ∀ D C h' tk m us, s.heap.get? D = none → s.heap.get? C = none → D ≠ C → h'.Ns C m → m "is_simple" = none → h'.PlainList D us.toArray → Reps (Γ.O ++ [D]) h' us (ds.flatMap fun d => (es d).map (f d)) → (∀ b o, s.heap.get? b = some o → h'.get? b = some o) →
      compPost (model prog w) A E use Q (.ref D) C (.ok .next) { s with heap := h', toks := tk }) :
    wpAny (model prog w) A (comprehension (two elt x0 p0 i0 x1 p1 i1 scope pos) scope Γ.env pos' (newList []) false (eval i0 Γ.env) use) Q E s := by
  refine wpAny_comprehension_free rfl hs hclos hkind hnames (hit s _ _ ok fun it s₂ k₂ hsrc => ?_)
  obtain ⟨I, fp, wr, P, St, rfl, W, hst, hfp, hwr, hns, hitem⟩ := hsrc
  have ok₂ := ok.step k₂
  refine wpAny_newObj_type (wpAny_newFunctionEnv hcell (by intro y hy; simp at hy) (fun h₁ hns₁ hsb₁ => ?_) hkind)
  dsimp only at hns₁ hsb₁ ⊢
  generalize hH2 : s₂.heap.push { cls := .type "list", dict := none, data := .seq ([] : List Value).toArray } = H2 at hns₁ hsb₁ ⊢
  have hCs : H2.objs.size = s₂.heap.objs.size + 1 := by rw [← hH2, Heap.size_push]
  generalize hCC : H2.objs.size = C at *
  generalize hDD : s₂.heap.objs.size = D at *
  have hDC : D ≠ C := by rw [hCs]; exact Nat.ne_of_lt (Nat.lt_succ_self _)
  have hD2 : s₂.heap.get? D = none := by rw [← hDD]; exact get?_size _
  have hC2 : s₂.heap.get? C = none := by
    cases e : s₂.heap.get? C with
    | none => rfl
    | some o => exact absurd (Heap.lt_size e) (by rw [hDD, hCs]; exact Nat.not_lt.mpr (Nat.le_succ _))
  have hDs : s.heap.get? D = none := by
    cases e : s.heap.get? D with
    | none => rfl
    | some o => rw [k₂.get _ _ e] at hD2; cases hD2
  have hCs' : s.heap.get? C = none := by
    cases e : s.heap.get? C with
    | none => rfl
    | some o => rw [k₂.get _ _ e] at hC2; cases hC2
  have old : ∀ b o, s₂.heap.get? b = some o → h₁.get? b = some o := fun b o e => hsb₁.extBut b o (by rintro rfl; rw [hC2] at e; cases e) (Heap.get?_push_of_some _ (hH2 ▸ Heap.get?_push_of_some _ e))
  have hacc : h₁.PlainList D #[] := ⟨_, hsb₁.extBut _ _ hDC (Heap.get?_push_of_some _ (by rw [← hH2, ← hDD]; exact Heap.get?_push_size _ rfl))⟩
  have hst₁ : St 0 h₁ := W.frame _ _ _ hst fun b _ o e => old b o e
  have hDf : D ∉ fp := fun hm => Nat.lt_irrefl _ (hfp _ hm).1
  have hCf : C ∉ fp := fun hm => by have := (hfp _ hm).1; rw [hCs] at this; exact absurd this (Nat.not_lt.mpr (Nat.le_succ _))
  have hwr2 : ∀ b, b ∈ wr → ∀ o, ¬ (s.heap.get? b = some o) := fun b hb o e => by rw [hwr b hb] at e; cases e
  have hnotwr : ∀ b, ((∃ o', Γ.B.get? b = some o') ∨ b = Γ.env.locals ∨ (∃ x, Γ.env.cells.lookup x = some b)) → b ∉ wr := fun b hb hm => by
    obtain ⟨o, e⟩ := ok.stands hb
    exact hwr2 b hm o e
  have hseqwr : ∀ b o, isSeqObj o → s₂.heap.get? b = some o → b ∉ wr := fun b o hq e hm => hns 0 s₂.heap b o hst hm e hq
  have okIn : ∀ (h : Heap) (m : Str → Option Value) (us : List Value) (ys : List PV), (∀ b o, b ∉ wr → s₂.heap.get? b = some o → h.get? b = some o) → (h.Ns C m ∧ m "is_simple" = none) → h.PlainList D us.toArray → Reps (Γ.O ++ [D]) h us ys → (compCx Γ scope cl ρc C D ys).Ok h := fun h m us ys kk hn hl hr => by
    have okh : Γ.Ok h := ok₂.change fun b o hb e => kk b o (by
      rcases hb with hb | hb
      · exact hseqwr b o hb e
      · exact hnotwr b hb) e
    refine compCx_ok ok₂ okh hkind hcap hcs hD2 hC2 (fun b o _ hq e => kk b o (hseqwr b o hq e) e) (fun b o hb e => ?_) hn hl hr (fun y d _ v hv => ?_)
    · obtain ⟨⟨b', es⟩, hm, rfl⟩ := List.mem_map.mp hb
      obtain ⟨vs, ⟨n, e1⟩, _⟩ := ok₂.mem b' es hm
      rw [e1] at e; cases e
      exact kk _ _ (hseqwr _ _ (.inl ⟨_, _, rfl⟩) e1) e1
    · rcases hv with ⟨q1, mm, ⟨o, es, ep, e, r⟩, q3⟩ | ⟨q1, c, q2, o, e, q3⟩
      · exact .inl ⟨q1, mm, ⟨o, es, ep, kk _ _ (hnotwr _ (.inr (.inl rfl))) e, r⟩, q3⟩
      · exact .inr ⟨q1, c, q2, o, kk _ _ (hnotwr _ (.inr (.inr ⟨y, q2⟩))) e, q3⟩
  have hCw : C ∉ wr := fun hm => hCf (W.sub _ hm)
  have hDw : D ∉ wr := fun hm => hDf (W.sub _ hm)
  have loop : codeAny (model prog w) A (.compLoop (two elt x0 p0 i0 x1 p1 i1 scope pos) 0 (.ref I) (.ref D) (compEnvC scope cl C Γ.env)) (compPost (model prog w) A E use Q (.ref D) C) { s₂ with heap := h₁, toks := s₂.toks + ([] : List (Str × Value)).length } := by
    refine compLoop_two0
      (fun n s' => ∃ i h' tk, n = ds.length + 1 - i ∧ i ≤ ds.length ∧ s' = { s₂ with heap := h', toks := tk } ∧ St i h' ∧ (compCx Γ scope cl ρc C D ((ds.take i).flatMap fun d => (es d).map (f d))).Ok h' ∧
        (∀ b o, b ∉ wr → s₂.heap.get? b = some o → h'.get? b = some o)) (hs1 C) ?_ (ds.length + 1)
      ⟨0, h₁, s₂.toks + ([] : List (Str × Value)).length, rfl, Nat.zero_le _, rfl, hst₁, okIn h₁ _ [] [] (fun b o _ e => old b o e) ⟨hns₁, rfl⟩ hacc Reps.nil, fun b o _ e => old b o e⟩
    rintro n s' E' ⟨i, h', tk, rfl, hi, rfl, hst', ok', hk'⟩
    by_cases hlt : i < ds.length
    · refine W.item i _ _ _ hlt hst' fun v h₃ tk₃ hP hst₃ hk₃ => ?_
      obtain ⟨d, hd⟩ : ∃ d, ds[i]? = some d := ⟨ds[i], by simp [hlt]⟩
      have htake : ds.take (i + 1) = ds.take i ++ [d] := by rw [List.take_add_one, hd]; rfl
      generalize hys : ((ds.take i).flatMap fun d => (es d).map (f d)) = ys at *
      have hys1 : ((ds.take (i + 1)).flatMap fun d => (es d).map (f d)) = ys ++ (es d).map (f d) := by rw [htake, List.flatMap_append, hys]; simp
      have hk₃' : ∀ b o, b ∉ wr → s₂.heap.get? b = some o → h₃.get? b = some o := fun b o hb e => hk₃ b o hb (hk' b o hb e)
      have ok₃ : (compCx Γ scope cl ρc C D ys).Ok h₃ := ok'.change fun b o hb e => by
        refine hk₃ b o ?_ e
        rcases hb with hb | hb
        · exact fun hm => hns i h' b o hst' hm e hb
        · rcases hb with hb | hb | ⟨z, hz'⟩
          · exact hnotwr b (.inl hb)
          · exact fun hm => hCw (by rw [show b = C from hb] at hm; exact hm)
          · have hz' : cl.lookup z = some b := hz'
            exact hnotwr b (.inr (.inr ⟨z, hcs _ (PySem.mem_of_lookup hz')⟩))
      have hrep : Rep (Γ.O ++ [D]) h₃ v d := by
        have r0 : Rep Γ.O s₂.heap v d := hitem i v d s₂.heap hP hd fun _ _ _ _ e => e
        exact r0.fresh hD2 fun b o _ hq e => hk₃' b o (hseqwr b o hq e) e
      refine wpAny_assign_Name ?_
      refine wp_store (Γ := compCx Γ scope cl ρc C D ys) (s := { s₂ with heap := h₃, toks := tk₃ }) ok₃ (by rw [compCx_O]; exact hrep) (by
        unfold storable
        have : (compCx Γ scope cl ρc C D ys).env.kindOf x0 = some .local := lookup_relabel_local hx0
        rw [this]; exact hxs0) fun s₄ ok₄ kp₄ => ?_
      have nst : ∀ b, b ≠ C → ¬ Stor (compCx Γ scope cl ρc C D ys).env (compCx Γ scope cl ρc C D ys).W b := fun b hb hs => by
        rcases hs with hs | ⟨y, hy, _⟩
        · exact hb hs
        · exact absurd hy List.not_mem_nil
      refine hin C D ys i d hd s₄ _ _ ok₄ fun it' s₅ k₅ hsrc₅ => ?_
      have hlenb : ys.length + (es d).length ≤ 2 ^ 20 := by
        have h1 : (ys ++ (es d).map (f d)).length ≤ (ds.flatMap fun d => (es d).map (f d)).length := by
          rw [← hys1]
          have : ds.flatMap (fun d => (es d).map (f d)) = (ds.take (i + 1)).flatMap (fun d => (es d).map (f d)) ++ (ds.drop (i + 1)).flatMap (fun d => (es d).map (f d)) := by rw [← List.flatMap_append, List.take_append_drop]
          rw [this, List.length_append]; omega
        rw [List.length_append, List.length_map] at h1; omega
      refine inner_two (Γ := (compCx Γ scope cl ρc C D ys).set x0 d) (μ0 := Γ.μ) (ys := ys) (es := es d) (f := f d) rfl rfl (ok₄.step k₅) ok₄ k₅ hsrc₅ (lookup_relabel_local hx1) hxs1 (by
        show List.lookup x1 ((x0, d) :: ρc) = none
        rw [List.lookup_cons, hx01]; exact hxρ) hlenb (fun ys' j e hj => helt C D ys' i d j e hd hj) fun s₆ as₆ ok₆ hk₆ => ?_
      have hk₆ : ∀ b o, b ≠ C → b ≠ D → s₄.heap.get? b = some o → s₆.heap.get? b = some o := hk₆
      have up₆ : ∀ b o, b ≠ C → b ≠ D → h₃.get? b = some o → s₆.heap.get? b = some o := fun b o h1 h2 e => hk₆ b o h1 h2 (kp₄.get b o (nst b h1) e)
      obtain ⟨h₄', t₄', e₄⟩ := kp₄.as
      obtain ⟨⟨h₅', t₅', e₅⟩, _⟩ := id k₅
      obtain ⟨h₆', t₆', e₆⟩ := as₆
      refine ⟨rfl, ds.length + 1 - (i + 1), by omega, i + 1, s₆.heap, s₆.toks, rfl, hlt, by rw [e₆, e₅, e₄], W.frame _ _ _ hst₃ fun b hb o e => up₆ b o (fun q => hCf (q ▸ hb)) (fun q => hDf (q ▸ hb)) e, ?_, ?_⟩
      · rw [hys1]
        exact ok₆.sub ρc fun z dz hz' => by
          show List.lookup z ((x0, d) :: ρc) = some dz
          rw [List.lookup_cons]
          cases hzx : z == x0 with
          | false => exact hz'
          | true =>
            exfalso
            -- a name that is caught is no loop's name
            obtain ⟨_, _, h3, _⟩ := hcap _ (PySem.mem_of_lookup hz')
            rw [eq_of_beq hzx] at h3
            have := lookup_relabel_local (env := Γ.env) hx0
            rcases h3 with h3 | h3 <;> · rw [show (relabel scope Γ.env).names.lookup x0 = some .local from this] at h3; cases h3
      · exact fun b o hb e => up₆ b o (by rintro rfl; rw [hC2] at e; cases e) (by rintro rfl; rw [hD2] at e; cases e) (hk₃' b o hb e)
    · have hin' : i = ds.length := by omega
      subst hin'
      refine W.done _ _ _ hst' fun h₃ tk₃ hk₃ => ?_
      rw [List.take_length] at ok'
      have ok₃ : (compCx Γ scope cl ρc C D (ds.flatMap fun d => (es d).map (f d))).Ok h₃ := ok'.change fun b o hb e => by
        refine hk₃ b o ?_ e
        rcases hb with hb | hb
        · exact fun hm => hns _ h' b o hst' hm e hb
        · rcases hb with hb | hb | ⟨z, hz'⟩
          · exact hnotwr b (.inl hb)
          · exact fun hm => hCw (by rw [show b = C from hb] at hm; exact hm)
          · have hz' : cl.lookup z = some b := hz'
            exact hnotwr b (.inr (.inr ⟨z, hcs _ (PySem.mem_of_lookup hz')⟩))
      obtain ⟨m, hn, hsm⟩ := ok₃.fr.ns
      obtain ⟨us, hl, hr⟩ := ok₃.mem D _ (List.mem_append_right _ (List.mem_singleton.mpr rfl))
      rw [compCx_O] at hr
      have hlast := hfin D C h₃ tk₃ m us hDs hCs' hDC hn hsm hl hr fun b o e => hk₃ b o (fun hm => hwr2 b hm o e) (hk' b o (fun hm => hwr2 b hm o e) (k₂.get _ _ e))
      obtain ⟨⟨h₂', t₂', e₂⟩, _⟩ := id k₂
      have : ({ s₂ with heap := h₃, toks := tk₃ } : Shared) = { s with heap := h₃, toks := tk₃ } := by rw [e₂]
      rw [this]; exact hlast
  exact codeAny_compStart_list loop (W.self 0 _ _ _ hst₁ loop)

theorem EvN.two {elt i0 i1 : Expr} {x0 x1 : Str} {p0 p1 pos : Pos} {scope : Scope} {cl : List (Str × Addr)} {ds : List PV} (ρc : List (Str × PV)) (es : PV → List PV) (f : PV → PV → PV)
    (hclos : closureFor scope Γ.env = pure cl) (hcs : ClSub Γ.env cl) (hcap : Caps Γ scope cl ρc)
    (hit : Itr prog w A Γ i0 ds) (hz : (ds.flatMap fun d => (es d).map (f d)).length ≤ 2 ^ 20)
    (hin : ∀ C D ys (k : Nat) d, ds[k]? = some d → Itr prog w A ((compCx Γ scope cl ρc C D ys).set x0 d) i1 (es d))
    (helt : ∀ C D ys (k : Nat) d (j : Nat) e, ds[k]? = some d → (es d)[j]? = some e → Ev prog w A (((compCx Γ scope cl ρc C D ys).set x0 d).set x1 e) elt (f d e))
    (hcell : ∀ y ∈ scope.names, y.2 ≠ .cell := by decide) (hkind : scope.kind = .function := by rfl) (hnames : ∀ y ∈ scope.names, y.2 = .local → scope.names.lookup y.1 = some .local := by decide) (hx0 : scope.names.lookup x0 = some .local := by rfl) (hx1 : scope.names.lookup x1 = some .local := by rfl)
    (hx01 : (x1 == x0) = false := by decide) (hxρ : ρc.lookup x1 = none := by rfl)
    (hs : ∀ v, foldedSetIterable i0 Γ.env v = pure v := by intro _; rfl) (hs1 : ∀ C v, foldedSetIterable i1 (compEnvC scope cl C Γ.env) v = pure v := by intro _ _; rfl)
    (hxs0 : (x0 != ("is_simple" : Str)) = true := by rfl) (hxs1 : (x1 != ("is_simple" : Str)) = true := by rfl) :
    EvN prog w A Γ (.ListComp elt [⟨.Name x0 p0, i0, [], 0⟩, ⟨.Name x1 p1, i1, [], 0⟩] scope pos) (ds.flatMap fun d => (es d).map (f d)) := fun s Q E ok k => by
  rw [eval_ListComp]
  refine two_core ok hclos hcell hkind hnames hx0 hx1 hx01 hxs0 hxs1 hxρ hs hs1 hcap hcs hit hz hin helt fun D C h' tk m us hD hC hDC hn hsm hl hr hkp => ?_
  refine ⟨m, hn, fun h'' hs'' => k D us _ (Ext.mk' h'' tk fun b o e => ?_) hD (hl.extBut hs''.extBut hDC) (hr.mono (fun _ x => x) fun b o hb hq e => ?_)⟩
  · exact (hs''.2 b (by rintro rfl; rw [hC] at e; cases e)).trans (hkp b o e)
  · exact (hs''.2 b (by
      rintro rfl
      exact ns_notSeq hn e hsm hq)).trans e
end Mine
namespace Mine
variable {prog : Program} {w : World} {A : Around} {Γ : Cx}
theorem X.assignTwoV {y : Str} {py spos : Pos} {elt i0 i1 : Expr} {x0 x1 : Str} {p0 p1 pos : Pos} {scope : Scope} {cl : List (Str × Addr)} {ds : List PV} {rest : List Stmt} {R : Flow → Shared → Prop} (ρc : List (Str × PV)) (es : PV → List PV) (f : PV → PV → PV)
    (hclos : closureFor scope Γ.env = pure cl) (hcs : ClSub Γ.env cl) (hcap : Caps Γ scope cl ρc)
    (hit : Itr prog w A Γ i0 ds) (hz : (ds.flatMap fun d => (es d).map (f d)).length ≤ 2 ^ 20)
    (hin : ∀ C D ys (k : Nat) d, ds[k]? = some d → Itr prog w A ((compCx Γ scope cl ρc C D ys).set x0 d) i1 (es d))
    (helt : ∀ C D ys (k : Nat) d (j : Nat) e, ds[k]? = some d → (es d)[j]? = some e → Ev prog w A (((compCx Γ scope cl ρc C D ys).set x0 d).set x1 e) elt (f d e))
    (h2 : X prog w A (Γ.set y (.list (ds.flatMap fun d => (es d).map (f d)))) rest R)
    (hsw : swapsWith (.ListComp elt [⟨.Name x0 p0, i0, [], 0⟩, ⟨.Name x1 p1, i1, [], 0⟩] scope pos) (some (.Name y py)) spos.line Γ.env = pure true := by rfl)
    (hy : storable Γ.env Γ.W y = true := by rfl)
    (hcell : ∀ y ∈ scope.names, y.2 ≠ .cell := by decide) (hkind : scope.kind = .function := by rfl) (hnames : ∀ y ∈ scope.names, y.2 = .local → scope.names.lookup y.1 = some .local := by decide) (hx0 : scope.names.lookup x0 = some .local := by rfl) (hx1 : scope.names.lookup x1 = some .local := by rfl)
    (hx01 : (x1 == x0) = false := by decide) (hxρ : ρc.lookup x1 = none := by rfl)
    (hs : ∀ v, foldedSetIterable i0 Γ.env v = pure v := by intro _; rfl) (hs1 : ∀ C v, foldedSetIterable i1 (compEnvC scope cl C Γ.env) v = pure v := by intro _ _; rfl)
    (hxs0 : (x0 != ("is_simple" : Str)) = true := by rfl) (hxs1 : (x1 != ("is_simple" : Str)) = true := by rfl) :
    X prog w A Γ (.Assign [.Name y py] (.ListComp elt [⟨.Name x0 p0, i0, [], 0⟩, ⟨.Name x1 p1, i1, [], 0⟩] scope pos) spos :: rest) R := fun s Q E ok k => wpAny_execs_cons (by
  rw [exec_Assign_Name_used _ _ _ _ hsw]
  refine wpAny_bind (wpAny_standAt (wpAny_bind ?_))
  show wpAny _ A (do let _ ← comprehension (two elt x0 p0 i0 x1 p1 i1 scope pos) scope Γ.env _ (newList []) false (eval i0 Γ.env) (some (assign (.Name y py) Γ.env))) _ _ s
  refine wpAny_bind (wpAny_mono (two_core (use := some (assign (.Name y py) Γ.env)) (Q := fun _ s' => wpAny (model prog w) A (execs rest Γ.env) Q E s') ok hclos hcell hkind hnames hx0 hx1 hx01 hxs0 hxs1 hxρ hs hs1 hcap hcs hit hz hin helt fun D C h' tk m us hD hC hDC hn hsm hl hr hkp => ?_) (fun _ s' hq => wpAny_pure (wpAny_pure hq)) fun _ _ e => e)
  generalize (ds.flatMap fun d => (es d).map (f d)) = out at *
  show wpAny _ A (assign (.Name y py) Γ.env (.ref D)) _ _ _
  refine wpAny_assign_Name ?_
  have ok₁ : (Γ.own D out).Ok h' := ok.thaw hkp hD hl hr
  refine wp_store (Γ := Γ.own D out) (s := { s with heap := h', toks := tk }) ok₁ (.ref D) hy fun s₂ ok₂ kps => ?_
  obtain ⟨h₂, tk₂, rfl⟩ := kps.as
  have hCst : ¬ Stor (Γ.own D out).env (Γ.own D out).W C := fun q => by
    rcases q with q | ⟨z, _, q⟩
    · obtain ⟨o, e⟩ := ok.stands (b := C) (.inr (.inl q)); rw [hC] at e; cases e
    · obtain ⟨o, e⟩ := ok.stands (b := C) (.inr (.inr ⟨z, q⟩)); rw [hC] at e; cases e
  refine ⟨m, hn.at' fun o e => kps.get _ o hCst e, fun h₃ hs₃ => ?_⟩
  have ok₃ : ((Γ.own D out).set y (.ref D)).Ok h₃ := ok₂.change fun b o hb e => (hs₃.2 b (by
    rintro rfl
    rcases hb with hb | hb
    · exact ns_notSeq (hn.at' fun o e => kps.get _ o hCst e) e hsm hb
    · obtain ⟨o', e'⟩ := ok.stands (b := b) hb
      rw [hC] at e'; cases e')).trans e
  refine X.thawed h2 { s with heap := h₃, toks := tk₂ } _ _ ok₃ fun f' s'' kp' r => k f' s'' ?_ r
  refine Kp.own (ds := out) hD ?_
  have k1 : Kp (Γ.own D out) s { s with heap := h₃, toks := tk₂ } := ⟨⟨_, _, rfl⟩, fun b o h1 h2 e => (hs₃.2 b (by rintro rfl; rw [hC] at e; cases e)).trans (kps.get b o h1 (hkp b o e))⟩
  exact Kp.trans (Γ := Γ.own D out) (Γ' := (Γ.own D out).set y (.ref D)) rfl rfl rfl k1 kp')
end Mine

end
section
open PySem PySem.W PyProof.Rows PySem.Calls
set_option autoImplicit false
set_option linter.all false
namespace Mine
set_option maxRecDepth 100000
variable {prog : Program} {w : World}

theorem fun_plans {P : Params} {h : Heap} (t : TF P h) : ∃ doc pm an cdv ct, Fun h 160 (fdAt (topAt 66) "_law_plans" .none .none doc pm an cdv ct) := by
  have e : fdK P 160 = fdAt (topAt 66) "_law_plans" .none .none (fdK P 160).doc (fdK P 160).pyModule (fdK P 160).annotations (fdK P 160).code (fdK P 160).closureTuple := by kernel_rfl
  exact ⟨_, _, _, _, _, e ▸ t.fn 160 (by kernel_rfl) (by kernel_rfl)⟩

noncomputable def plansPV (ps : List (List Nat)) : List PV := ps.map fun p => .list (natsPV p)
/-- one plan out of each, laid end to end -/
noncomputable def cross (J M : List (List Nat)) : List (List Nat) := J.flatMap fun p => M.map fun m => p ++ m
noncomputable def joint (l : List Nat) (pl : Nat → List (List Nat)) : List (List Nat) := l.foldl (fun J k => cross J (pl k)) [[]]
structure PlanEq (kids : List (List Nat)) (ns : List Int) (side : Int) (pl : Nat → List (List Nat)) : Prop where
  eq : ∀ (i : Nat) l x, kids[i]? = some l → ns[i]? = some x → pl i = if l = [] then [[i]] else if x % 2 = side then l.flatMap pl else joint l pl
  few : ∀ (i : Nat) l, kids[i]? = some l → (l.flatMap pl).length ≤ 2 ^ 20 ∧ ∀ j, (joint (l.take j) pl).length ≤ 2 ^ 20
  short : ∀ (i : Nat) l j, kids[i]? = some l → ∀ p ∈ joint (l.take j) pl, p.length ≤ 2 ^ 20
  shortP : ∀ i, ∀ p ∈ pl i, p.length ≤ 2 ^ 20

noncomputable def planSt (n : Nat) (pl : Nat → List (List Nat)) (k : Nat) : List PV := (List.range n).map fun j => if n - k ≤ j then .list (plansPV (pl j)) else .list []
theorem planSt_len (n : Nat) (pl : Nat → List (List Nat)) (k : Nat) : (planSt n pl k).length = n := by simp [planSt]
theorem planSt_zero (n : Nat) (pl : Nat → List (List Nat)) : planSt n pl 0 = List.replicate n (.list []) := by
  apply List.ext_getElem
  · simp [planSt]
  · intro i h1 h2
    simp [planSt] at h1 ⊢
    omega
theorem planSt_succ {n k : Nat} (pl : Nat → List (List Nat)) (hk : k < n) : planSt n pl (k + 1) = (planSt n pl k).set (n - 1 - k) (.list (plansPV (pl (n - 1 - k)))) := by
  apply List.ext_getElem
  · simp [planSt]
  · intro i h1 h2
    simp only [planSt, List.getElem_map, List.getElem_range, List.getElem_set]
    by_cases hi : n - 1 - k = i
    · subst hi; rw [if_pos (by omega), if_pos rfl]
    · rw [if_neg hi]
      by_cases h3 : n - k ≤ i
      · rw [if_pos h3, if_pos (by omega)]
      · rw [if_neg h3, if_neg (by omega)]
theorem planSt_get {n k j : Nat} (pl : Nat → List (List Nat)) (hj : j < n) (hk : n - k ≤ j) : (planSt n pl k)[j]? = some (.list (plansPV (pl j))) := by
  simp [planSt, hj]
  intro h; omega

theorem plans_ok {kids : List (List Nat)} {ns : List Int} {n : Nat} {side : Int} {pl : Nat → List (List Nat)} (ht : TreeOk kids ns n) (he : PlanEq kids ns side pl) :
    FnOk prog w (TF w.params) 2 160 [.list (kidsPV kids), .list (intsPV ns), .int side] (.list (plansPV (pl 0))) := by
  intro A s vs R hA t rs hR
  obtain ⟨doc, pm, an, cdv, ct, hf⟩ := fun_plans t
  match vs, rs.len with
  | [vk, vn, vb], _ =>
  have hn9 := ht.small
  have hn0 := ht.pos
  have hkl : (kidsPV kids).length = n := by simp [kidsPV, ht.klen]
  have hnl : (intsPV ns).length = n := by rw [intsPV_len, ht.nlen]
  refine fn_cells (n := 1) (B := s.heap) (W := ["plans", "k"]) (ρ := [("kids", .list (kidsPV kids)), ("numbers", .list (intsPV ns)), ("side", .int side)]) (binds := [("kids", vk), ("numbers", vn), ("side", vb)])
    (RV := fun v s' => Rep [] s'.heap v (.list (plansPV (pl 0)))) hA hf t.lim rfl rfl rfl (fun _ _ e => e) ?_ ?_ ?_ hR
  · intro x hx
    simp only [List.mem_cons, List.not_mem_nil, or_false] at hx
    rcases hx with rfl | rfl | rfl <;> exact .inl rfl
  · intro x d e
    have := PySem.mem_of_lookup e
    simp only [List.mem_cons, Prod.mk.injEq, List.not_mem_nil, or_false] at this
    rcases this with ⟨rfl, rfl⟩ | ⟨rfl, rfl⟩ | ⟨rfl, rfl⟩
    · exact ⟨vk, rs.head, .inl ⟨rfl, rfl⟩⟩
    · exact ⟨vn, rs.tail.head, .inl ⟨rfl, rfl⟩⟩
    · exact ⟨vb, rs.tail.tail.head, .inl ⟨rfl, rfl⟩⟩
  conv => arg 5; whnf
  have hA' : AOk 1 (A.deeper (callEnvC (fdAt (topAt 66) "_law_plans" .none .none doc pm an cdv ct) s.heap.objs.size 160)) := hA.deeper _
  -- plans = [[] for kid in kids]
  refine X.assignNew (EvN.comp [] (fun _ => true) (fun _ => .list []) rfl ClSub.nil Caps.nil (Itr.list hA'.1 (Ev.name rfl)) (by rw [hkl]; omega) (fun C D ys j d hd => Trs.nil) (fun C D ys j d hd _ => Ev.list Evs.nil)) fun a => ?_
  have e0 : List.map (fun _ : PV => PV.list []) (List.filter (fun _ => true) (kidsPV kids)) = planSt n pl 0 := by
    rw [planSt_zero, List.filter_eq_self.mpr (fun _ _ => rfl), List.map_const', hkl]
  rw [e0]
  refine X.for (fun _ => [("kids", .list (kidsPV kids)), ("numbers", .list (intsPV ns)), ("side", .int side), ("plans", .ref a)]) (fun k => [(a, planSt n pl k)]) (ds := rng (n - 1) (-1) n) ?_ rfl (fun _ => rfl) ?_ ?_ ?_
  · exact Sub.cons rfl (Sub.cons rfl (Sub.cons rfl (Sub.cons rfl Sub.nil)))
  · refine Itr.cast (Itr.rangeDown (a := ((kidsPV kids).length : Int) - 1) (b := -1) hA'.1 (gl_range t) (Evs.cons (Ev.bin (Ev.bcall (gl_len t) (Evs.cons (Ev.name rfl) Evs.nil) (BCall.len (by rw [hkl]; omega))) Ev.int BOp.sub) (Evs.cons (Ev.neg Ev.int) (Evs.cons (Ev.neg Ev.int) Evs.nil))) (by rw [hkl]; omega) (by rw [hkl]; omega) (by omega) (by omega)) ?_
    rw [hkl]
    have : ((n : Int) - 1 - -1).toNat = n := by omega
    rw [this]
  · intro k d hd
    obtain ⟨hk, rfl⟩ := rng_get hd
    have hpl : (n : Int) - 1 + (k : Int) * -1 = ((n - 1 - k : Nat) : Int) := by omega
    rw [hpl]
    generalize hp : n - 1 - k = q
    have hpn : q < n := by omega
    obtain ⟨l, hl⟩ : ∃ l, kids[q]? = some l := ⟨kids[q]'(by rw [ht.klen]; exact hpn), by simp [ht.klen, hpn]⟩
    obtain ⟨x, hx⟩ : ∃ x, ns[q]? = some x := ⟨ns[q]'(by rw [ht.nlen]; exact hpn), by simp [ht.nlen, hpn]⟩
    have hll : l.length ≤ 2 ^ 20 := by have := ht.short q l hl; omega
    have hkv : (kidsPV kids)[pyIdx (kidsPV kids).length (q : Int)]? = some (.list (natsPV l)) := by rw [pyIdx_nat]; simp [kidsPV, hl]
    have hnv : (intsPV ns)[pyIdx (intsPV ns).length (q : Int)]? = some (.int x) := by rw [pyIdx_nat]; exact intsPV_get hx
    have hset : (planSt n pl k).set q (.list (plansPV (pl q))) = planSt n pl (k + 1) := by rw [planSt_succ pl hk, hp]
    have hlen : (planSt n pl k).length = n := planSt_len n pl k
    have heq := he.eq q l x hl hx
    have hmod : x.fmod 2 = x % 2 := Int.fmod_eq_emod_of_nonneg x (by omega)
    have done : ∀ (s' : Shared) (ρ1 : List (Str × PV)) (d : PV), d = .list (plansPV (pl q)) → Sub [("kids", .list (kidsPV kids)), ("numbers", .list (intsPV ns)), ("side", .int side), ("plans", .ref a)] ρ1 →
        (Cx.put ⟨s.heap, callEnvC (fdAt (topAt 66) "_law_plans" .none .none doc pm an cdv ct) s.heap.objs.size 160, ["plans", "k"], ρ1, [(a, planSt n pl k)]⟩ 0 a ((planSt n pl k).set q d)).Ok s'.heap →
        (⟨s.heap, callEnvC (fdAt (topAt 66) "_law_plans" .none .none doc pm an cdv ct) s.heap.objs.size 160, ["plans", "k"], [("kids", .list (kidsPV kids)), ("numbers", .list (intsPV ns)), ("side", .int side), ("plans", .ref a)], [(a, planSt n pl (k + 1))]⟩ : Cx).Ok s'.heap := by
      rintro s' ρ1 d rfl hsub ok
      have ok2 := ok.to hsub
      rw [← hset]
      exact ok2
    refine X.one (S.ifs (Tr.cmp (Ev.idx (LV.of (Ev.name rfl)) (Ev.name rfl) hkv (by omega)) (Ev.list Evs.nil) (COp.eqE hA' (Enc.map (fun k : Nat => Enc.int (k : Int)) l) (Enc.list (ds := []) (ps := []) rfl (fun i d p h1 h2 => by simp at h1)) (Small.list (k := 0) fun p hp => by obtain ⟨b, _, rfl⟩ := List.mem_map.mp hp; exact Small.int b) (Small.list (k := 0) fun p hp => absurd hp List.not_mem_nil) (by omega))) (fun hb => ?_) (fun hb => ?_))
    · rw [eqv_nil] at hb
      have hnil : l = [] := by simpa using hb
      refine X.stepL (S.setitem (k := q) 0 (Ev.name rfl) (Ev.name rfl) (Ev.list (Evs.cons (Ev.list (Evs.cons (Ev.name rfl) Evs.nil)) Evs.nil)) (by rw [hlen]; exact hpn) rfl (by rw [hlen]; omega)) fun s' ok => ⟨rfl, ?_⟩
      refine done s' _ _ ?_ (Sub.cons rfl (Sub.cons rfl (Sub.cons rfl (Sub.cons rfl Sub.nil)))) ok
      rw [heq, if_pos hnil]; rfl
    · rw [eqv_nil] at hb
      have hnil : l ≠ [] := by simpa using hb
      refine X.one (S.ifs (Tr.cmp (Ev.bin (Ev.idx (LV.of (Ev.name rfl)) (Ev.name rfl) hnv (by omega)) Ev.int (BOp.mod (by decide))) (Ev.name rfl) COp.eq) (fun hb2 => ?_) (fun hb2 => ?_))
      · have hev : x % 2 = side := by rw [hmod] at hb2; exact of_decide_eq_true hb2
        have eout : List.flatMap (fun d : PV => List.map (fun e : PV => e) (match d with | .int i => plansPV (pl i.toNat) | _ => [])) (natsPV l) = plansPV (l.flatMap pl) := by
          simp only [natsPV, plansPV, List.flatMap_map, List.map_flatMap, List.map_id']
          simp
        refine X.stepL (S.setitem (k := q) 0 (Ev.name rfl) (Ev.name rfl) (EvN.ev (EvN.two [("plans", .ref a)] (fun d : PV => match d with | .int i => plansPV (pl i.toNat) | _ => []) (fun _ e => e) rfl (ClSub.cons rfl ClSub.nil) (Caps.cons rfl Caps.nil)
          (Itr.list hA'.1 (Ev.idx (LV.of (Ev.name rfl)) (Ev.name rfl) hkv (by omega))) ?_ (fun C D ys j d hd => ?_) (fun C D ys j d i e hd hi => Ev.name rfl))) (by rw [hlen]; exact hpn) rfl (by rw [hlen]; omega)) fun s' ok => ⟨rfl, ?_⟩
        · rw [eout]; simp only [plansPV, List.length_map]; exact (he.few q l hl).1
        · obtain ⟨kk, hkk, rfl⟩ : ∃ kk, kk ∈ l ∧ d = .int (kk : Int) := by
            have hm := List.mem_of_getElem? hd
            obtain ⟨kk, h1, h2⟩ := List.mem_map.mp hm
            exact ⟨kk, h1, h2.symm⟩
          have hdn := ht.down q l kk hl hkk
          refine Itr.list hA'.1 (Ev.idx (k := (kk : Int)) (LV.own (Ev.name rfl) (.head _)) (Ev.name rfl) ?_ (by omega))
          rw [pyIdx_nat]
          exact planSt_get pl hdn.2 (by omega)
        · refine done s' _ _ ?_ (Sub.cons rfl (Sub.cons rfl (Sub.cons rfl (Sub.cons rfl Sub.nil)))) ok
          rw [heq, if_neg hnil, if_pos hev, ← eout]
      · have hev : ¬ x % 2 = side := by rw [hmod] at hb2; exact of_decide_eq_false hb2
        refine X.step (S.assign (Ev.list (Evs.cons (Ev.list Evs.nil) Evs.nil))) ?_
        refine X.for (fun j => [("kids", .list (kidsPV kids)), ("numbers", .list (intsPV ns)), ("side", .int side), ("plans", .ref a), ("place", .int (q : Int)), ("joint", .list (plansPV (joint (l.take j) pl)))]) (fun _ => [(a, planSt n pl k)]) (ds := natsPV l) ?_ rfl (fun _ => rfl) ?_ ?_ ?_
        · exact Sub.cons rfl (Sub.cons rfl (Sub.cons rfl (Sub.cons rfl (Sub.cons rfl (Sub.cons rfl Sub.nil)))))
        · exact Itr.list hA'.1 (Ev.idx (LV.of (Ev.name rfl)) (Ev.name rfl) hkv (by omega))
        · intro j d hd
          obtain ⟨kk, hkk, rfl⟩ : ∃ kk, l[j]? = some kk ∧ d = .int (kk : Int) := by
            unfold natsPV at hd
            rw [List.getElem?_map] at hd
            cases hx2 : l[j]? with
            | none => rw [hx2] at hd; cases hd
            | some kk => rw [hx2] at hd; cases hd; exact ⟨kk, rfl, rfl⟩
          have hdn := ht.down q l kk hl (List.mem_of_getElem? hkk)
          have hjt : joint (l.take (j + 1)) pl = cross (joint (l.take j) pl) (pl kk) := by
            unfold joint
            rw [List.take_add_one, hkk, List.foldl_append]; rfl
          have eout : List.flatMap (fun d : PV => List.map (fun e : PV => match d, e with | .list x, .list y => PV.list (x ++ y) | _, _ => .none) (plansPV (pl kk))) (plansPV (joint (l.take j) pl)) = plansPV (joint (l.take (j + 1)) pl) := by
            rw [hjt]
            simp only [plansPV, cross, natsPV, List.flatMap_map, List.map_flatMap, List.map_map]
            congr 1
            funext p
            apply List.map_congr_left
            intro m _
            simp
          refine X.assignTwoV [("k", .int (kk : Int)), ("plans", .ref a)] (fun _ => plansPV (pl kk)) (fun d e => match d, e with | .list x, .list y => PV.list (x ++ y) | _, _ => .none) rfl (ClSub.cons rfl (ClSub.cons rfl ClSub.nil)) (Caps.cons rfl (Caps.cons rfl Caps.nil))
            (Itr.list hA'.1 (Ev.name rfl)) ?_ (fun C D ys j2 d hd => ?_) (fun C D ys j2 d i e hd hi => ?_) ?_
          · rw [eout]; simp only [plansPV, List.length_map]; exact (he.few q l hl).2 (j + 1)
          · refine Itr.list hA'.1 (Ev.idx (k := (kk : Int)) (LV.own (Ev.name rfl) (.head _)) (Ev.name rfl) ?_ (by omega))
            rw [pyIdx_nat]
            exact planSt_get pl hdn.2 (by omega)
          · obtain ⟨pa, hpa, rfl⟩ := List.mem_map.mp (List.mem_of_getElem? hd)
            obtain ⟨pb, hpb, rfl⟩ := List.mem_map.mp (List.mem_of_getElem? hi)
            refine Ev.addList (LV.of (Ev.name rfl)) (LV.of (Ev.name rfl)) ?_
            have h1 := he.short q l j hl pa hpa
            have h2 := he.shortP kk pb hpb
            simp [natsPV, sizeLine]; omega
          · rw [eout]
            exact X.nil fun s' ok => ⟨rfl, ok.to (Sub.cons rfl (Sub.cons rfl (Sub.cons rfl (Sub.cons rfl (Sub.cons rfl (Sub.cons rfl Sub.nil))))))⟩
        · refine X.stepL (S.setitem (k := q) 0 (Ev.name rfl) (Ev.name rfl) (Ev.name rfl) (by rw [hlen]; exact hpn) rfl (by rw [hlen]; omega)) fun s' ok => ⟨rfl, ?_⟩
          refine done s' _ _ ?_ (Sub.cons rfl (Sub.cons rfl (Sub.cons rfl (Sub.cons rfl Sub.nil)))) ok
          rw [heq, if_neg hnil, if_neg hev]
          have : (natsPV l).length = l.length := by simp [natsPV]
          rw [this, List.take_length]
  · refine X.ret (Ev.idx (k := 0) (LV.own (Ev.name rfl) (.head _)) Ev.int ?_ (by omega)) fun v s' _ r => r.free
    rw [rng_len, pyIdx_pos (by decide)]
    exact planSt_get pl hn0 (by omega)
end Mine

end
section
open PySem PySem.W PyProof.Rows PySem.Calls
set_option autoImplicit false
set_option linter.all false
set_option maxRecDepth 100000
namespace Mine
variable {prog : Program} {w : World} {A : Around} {Γ : Cx}

noncomputable abbrev K39 (P : Params) : Frag := Kf P

theorem objAt {O : List Addr} {h : Heap} {a dx : Addr} {es : List DictEntry} {n : Nat} (h1 : h.get? a = some (instObj 110 dx)) (h2 : h.get? dx = some (dictOf es n)) : InstAt h a (instObj 110 dx) 110 (some (dictOf es n)) := ⟨h1, rfl, rfl, h2⟩

theorem k_ga (P : Params) : findIn (K39 P) (.ref 110) "__getattribute__" = some (some (.builtin "object.__getattribute__")) := by kernel_rfl
theorem k_gt (P : Params) : findIn (K39 P) (.ref 110) "__getattr__" = some none := by kernel_rfl
theorem k_hd (P : Params) : hasDictIn (K39 P) 110 = true := by kernel_rfl
theorem k_n (P : Params) : findIn (K39 P) (.ref 110) "n" = some none := by kernel_rfl
theorem k_nt (P : Params) : findIn (K39 P) (.ref 110) "nt" = some none := by kernel_rfl
theorem k_norm (P : Params) : findIn (K39 P) (.ref 110) "norm" = some none := by kernel_rfl
theorem k_sim (P : Params) : findIn (K39 P) (.ref 110) "is_simple" = some none := by kernel_rfl
theorem k_raw (P : Params) : findIn (K39 P) (.ref 110) "raw" = some none := by kernel_rfl

/-- the four attributes -/
inductive WsAt : Str → Nat → Prop
  | n : WsAt "n" 0
  | nt : WsAt "nt" 1
  | norm : WsAt "norm" 2
  | sim : WsAt "is_simple" 3

theorem rep_handed {O : List Addr} {h : Heap} {v : Value} {d : PV} (r : Rep O h v d) : handedIn v = true := by cases r <;> rfl

theorem Ev.attrN {x attr : Str} {np pos : Pos} {ds : List PV} {d : PV} {i : Nat} (t : TF w.params Γ.B) (h1 : Ev prog w A Γ (.Name x np) (.obj ds)) (ha : WsAt attr i) (hd : ds[i]? = some d) : Ev prog w A Γ (.Attribute (.Name x np) attr pos) d := fun s Q E ok k => by
  refine Attribute_name (h1 s _ _ ok fun v s₁ k₁ r₁ => ?_)
  obtain ⟨a, dx, es, n, vs, rfl, hO1, hO2, g1, g2, hw, rs⟩ := r₁.obj_inv
  have ok₁ := ok.step k₁
  have X := t.k.keeps ok₁.base
  obtain ⟨v0, v1, v2, v3, rfl, e0, e1, e2, e3, _⟩ := hw
  have key : ∀ v, [v0, v1, v2, v3][i]? = some v → getL attr es = some (some v) ∧ findIn (K39 w.params) (.ref 110) attr = some Option.none := by
    cases ha with
    | n => rintro v hv; cases hv; exact ⟨e0, k_n _⟩
    | nt => rintro v hv; cases hv; exact ⟨e1, k_nt _⟩
    | norm => rintro v hv; cases hv; exact ⟨e2, k_norm _⟩
    | sim => rintro v hv; cases hv; exact ⟨e3, k_sim _⟩
  obtain ⟨v, hv⟩ : ∃ v, [v0, v1, v2, v3][i]? = some v := by cases ha <;> exact ⟨_, rfl⟩
  obtain ⟨hl, hf⟩ := key v hv
  have r := rs.at' i v d hv hd
  exact get_value X (objAt (O := []) g1 g2) (k_ga _) (findObj_own (k_hd _) hf rfl hl) (rep_handed r) (k _ _ (k₁.trans (Ext.toks _)) r)

/-- the methods -/
inductive WsM : Str → Addr → Prop
  | less : WsM "less" 100
  | equal : WsM "equal" 86
  | longest : WsM "longest_run_of_spaces" 72
  | level : WsM "indent_level" 79
theorem k_m (P : Params) : findIn (K39 P) (.ref 110) "less" = some (some (.ref 100)) ∧ findIn (K39 P) (.ref 110) "equal" = some (some (.ref 86)) ∧ findIn (K39 P) (.ref 110) "longest_run_of_spaces" = some (some (.ref 72)) ∧ findIn (K39 P) (.ref 110) "indent_level" = some (some (.ref 79)) :=
  ⟨by kernel_rfl, by kernel_rfl, by kernel_rfl, by kernel_rfl⟩
theorem k_mt (P : Params) : typeIn (K39 P) (.ref 100) = some (.type "function") ∧ typeIn (K39 P) (.ref 86) = some (.type "function") ∧ typeIn (K39 P) (.ref 72) = some (.type "function") ∧ typeIn (K39 P) (.ref 79) = some (.type "function") :=
  ⟨by kernel_rfl, by kernel_rfl, by kernel_rfl, by kernel_rfl⟩
theorem WsM.look {m : Str} {f : Addr} (h : WsM m f) (P : Params) : findIn (K39 P) (.ref 110) m = some (some (.ref f)) ∧ typeIn (K39 P) (.ref f) = some (.type "function") := by
  cases h
  · exact ⟨(k_m P).1, (k_mt P).1⟩
  · exact ⟨(k_m P).2.1, (k_mt P).2.1⟩
  · exact ⟨(k_m P).2.2.1, (k_mt P).2.2.1⟩
  · exact ⟨(k_m P).2.2.2, (k_mt P).2.2.2⟩
theorem WsM.none {m : Str} {f : Addr} (h : WsM m f) {es : List DictEntry} {vs : List Value} (hw : WsDict es vs) : getL m es = some Option.none := by
  obtain ⟨v0, v1, v2, v3, _, _, _, _, _, a, b, c, d⟩ := hw
  cases h <;> assumption

theorem getMethod_ws {pl : Sem Bool} {Q : Value × List Value → Shared → Prop} {E : Value → Shared → Prop} {s : Shared} {O : List Addr} {v : Value} {ds : List PV} {m : Str} {f : Addr} (t : TF w.params s.heap) (hm : WsM m f) (r : Rep O s.heap v (.obj ds)) (h : Q (.ref f, [v]) s) :
    wpAny (model prog w) A (getMethod v m pl) Q E s := by
  obtain ⟨a, dx, es, n, vs, rfl, hO1, hO2, g1, g2, hw, rs⟩ := r.obj_inv
  refine method_fn t.k (objAt (O := []) g1 g2) (k_ga _) (k_gt _) (hm.look _).1 (hm.look _).2 ?_ h
  show (lookIn m (dictOf es n)).map _ = _
  rw [lookIn_dict, hm.none hw]; rfl

theorem Ev.meth {P : Heap → Prop} {n : Nat} {o : Expr} {name : Str} {apos pos : Pos} {e : Expr} {es : List Expr} {ds' ds : List PV} {d : PV} {fa : Addr} {fd : FuncData} {pl : Sem Bool} (t : TF w.params Γ.B) (hm : WsM name fa) (h0 : Ev prog w A Γ o (.obj ds')) (hf : Fun Γ.B fa fd)
    (hP : ∀ h, (∀ b o, Γ.B.get? b = some o → h.get? b = some o) → P h)
    (hA : AOk n A) (h1 : EvsF prog w A Γ (e :: es) ds) (hc : FnOk prog w P n fa (.obj ds' :: ds) d) (hO : Γ.O = [] ∨ d.flat = true)
    (he : starEach (e :: es) Γ.env = (false, eval e Γ.env) :: starEach es Γ.env := by rfl)
    (hev : eval (.Call (.Attribute o name apos) (e :: es) [] pos) Γ.env = (do
      let ov ← eval o Γ.env
      standAt apos.atName
      let (f, first) ← holding [ov] (getMethod ov name pl)
      callWith pos f first (backTo pos (starEach (e :: es) Γ.env)) []) := by rfl) :
    Ev prog w A Γ (.Call (.Attribute o name apos) (e :: es) [] pos) d := fun s Q E ok h => by
  refine MethodCall_ (pl := pl) (h0 s _ _ ok fun v s₀ k₀ r₀ => getMethod_ws (t.keeps (ok.step k₀).base) hm r₀ ?_) hev
  obtain ⟨o, ho, hdat⟩ := hf.at'
  have ok₀ := ok.step k₀
  refine callWith_meth hdat (ok₀.base _ _ ho) (h1 s₀ pos _ _ ok₀ fun vs s₁ k₁ rs => ⟨fun b o e => k₁.get b o e, wpAny_call ?_⟩) he
  exact hc A s₁ (v :: vs) _ hA (hP _ fun b o e => k₁.get _ _ (ok₀.base _ _ e)) (Reps.cons (r₀.keeps k₁.get).free rs) fun v s' k r => h v s' ((k₀.trans k₁).trans k) (r.lift hO)
theorem Ev.meth0 {P : Heap → Prop} {n : Nat} {o : Expr} {name : Str} {apos pos : Pos} {ds' : List PV} {d : PV} {fa : Addr} {fd : FuncData} {pl : Sem Bool} (t : TF w.params Γ.B) (hm : WsM name fa) (h0 : Ev prog w A Γ o (.obj ds')) (hf : Fun Γ.B fa fd)
    (hP : ∀ h, (∀ b o, Γ.B.get? b = some o → h.get? b = some o) → P h)
    (hA : AOk n A) (hc : FnOk prog w P n fa [.obj ds'] d) (hO : Γ.O = [] ∨ d.flat = true)
    (hev : eval (.Call (.Attribute o name apos) [] [] pos) Γ.env = (do
      let ov ← eval o Γ.env
      standAt apos.atName
      let (f, first) ← holding [ov] (getMethod ov name pl)
      callWith pos f first (backTo pos (starEach [] Γ.env)) []) := by rfl) :
    Ev prog w A Γ (.Call (.Attribute o name apos) [] [] pos) d := fun s Q E ok h => by
  refine MethodCall_ (pl := pl) (h0 s _ _ ok fun v s₀ k₀ r₀ => getMethod_ws (t.keeps (ok.step k₀).base) hm r₀ ?_) hev
  obtain ⟨o, ho, hdat⟩ := hf.at'
  have ok₀ := ok.step k₀
  refine callWith_meth0 hdat (ok₀.base _ _ ho) (wpAny_call ?_)
  exact hc A s₀ [v] _ hA (hP _ fun b o e => (ok₀.base _ _ e)) (Reps.cons r₀.free Reps.nil) fun v s' k r => h v s' (k₀.trans k) (r.lift hO)
end Mine

end
section
open PySem PySem.W PyProof.Rows PySem.Calls
set_option autoImplicit false
set_option linter.all false
namespace Mine
variable {prog : Program} {w : World} {A : Around} {Γ : Cx}

theorem KpS.rep {s s' : Shared} {O : List Addr} {v : Value} {d : PV} (ok : Γ.Ok s.heap) (k : KpS Γ s s') (r : Rep O s.heap v d) : Rep O s'.heap v d :=
  r.mono (fun _ x => x) fun b o _ hq e => k.get b o (fun hs => ok.fr.notSeq hs e hq) e
theorem KpS.reps {s s' : Shared} {O : List Addr} {v : List Value} {d : List PV} (ok : Γ.Ok s.heap) (k : KpS Γ s s') (r : Reps O s.heap v d) : Reps O s'.heap v d :=
  ⟨r.len, fun i u e hu he => k.rep ok (r.at' i u e hu he)⟩
theorem KpS.trans {Γ' : Cx} {s s' s'' : Shared} (he : Γ'.env = Γ.env) (hW : Γ'.W = Γ.W) (x : KpS Γ s s') (y : KpS Γ' s' s'') : KpS Γ s s'' := by
  obtain ⟨⟨h, t, rfl⟩, k⟩ := x; obtain ⟨⟨h', t', rfl⟩, k'⟩ := y
  exact ⟨⟨h', t', rfl⟩, fun b o hs e => k' b o (by rw [he, hW]; exact hs) (k b o hs e)⟩
theorem KpS.refl (s : Shared) : KpS Γ s s := ⟨⟨_, _, rfl⟩, fun _ _ _ e => e⟩

noncomputable def Cx.sets (Γ : Cx) : List Str → List PV → Cx
  | x :: xs, d :: ds => (Γ.set x d).sets xs ds
  | _, _ => Γ

inductive Nms : List Expr → List Str → Prop
  | nil : Nms [] []
  | cons {x : Str} {p : Pos} {es : List Expr} {xs : List Str} : Nms es xs → Nms (.Name x p :: es) (x :: xs)

theorem assignEach_Name (x : Str) (p : Pos) (es : List Expr) (env : Env) : assignEach (.Name x p :: es) env = (false, assign (.Name x p) env) :: assignEach es env := rfl

theorem wp_stores {elts : List Expr} {xs : List Str} (hn : Nms elts xs) : ∀ {Γ : Cx} {s : Shared} {vs : List Value} {ds : List PV} {Q : Unit → Shared → Prop} {E : Value → Shared → Prop}, Γ.Ok s.heap → Reps Γ.O s.heap vs ds → xs.length = ds.length → xs.all (storable Γ.env Γ.W) = true →
    (∀ s', (Γ.sets xs ds).Ok s'.heap → KpS Γ s s' → Q () s') → wpAny (model prog w) A (assignInOrder ((assignEach elts Γ.env).map (·.2)) vs) Q E s := by
  induction hn with
  | nil =>
    intro Γ s vs ds Q E ok r hl _ h
    cases ds with
    | cons _ _ => cases hl
    | nil =>
      cases vs with
      | cons _ _ => have := r.len; cases this
      | nil => exact wpAny_pure (h s ok (KpS.refl _))
  | cons hn ih =>
    rename_i x p es xs
    intro Γ s vs ds Q E ok r hl hst h
    cases ds with
    | nil => cases hl
    | cons d ds =>
      cases vs with
      | nil => have := r.len; cases this
      | cons v vs =>
        rw [List.all_cons, Bool.and_eq_true] at hst
        rw [assignEach_Name]
        refine wpAny_assignInOrder_more (PyProof.Rows.assign_Name (wp_store ok r.head hst.1 fun s' ok' kp => ?_))
        exact ih (Γ := Γ.set x d) ok' (kp.reps ok r.tail) (by simpa using hl) hst.2 fun s'' ok'' kp' => h s'' ok'' (KpS.trans (Γ' := Γ.set x d) rfl rfl kp kp')

theorem wp_storesB {xs : List Str} : ∀ {Γ : Cx} {s : Shared} {vs : List Value} {ds : List PV} {Q : Unit → Shared → Prop} {E : Value → Shared → Prop}, Γ.Ok s.heap → Reps Γ.O s.heap vs ds → xs.length = ds.length → xs.all (storable Γ.env Γ.W) = true →
    (∀ s', (Γ.sets xs ds).Ok s'.heap → KpS Γ s s' → Q () s') → wpAny (model prog w) A (assignInOrder (xs.map fun n => bindName Γ.env n) vs) Q E s := by
  induction xs with
  | nil =>
    intro Γ s vs ds Q E ok r hl _ h
    cases ds with
    | cons _ _ => cases hl
    | nil =>
      cases vs with
      | cons _ _ => have := r.len; cases this
      | nil => exact wpAny_pure (h s ok (KpS.refl _))
  | cons x xs ih =>
    intro Γ s vs ds Q E ok r hl hst h
    cases ds with
    | nil => cases hl
    | cons d ds =>
      cases vs with
      | nil => have := r.len; cases this
      | cons v vs =>
        rw [List.all_cons, Bool.and_eq_true] at hst
        refine wpAny_assignInOrder_more (PyProof.Rows.bindName_ (wp_store ok r.head hst.1 fun s' ok' kp => ?_))
        exact ih (Γ := Γ.set x d) ok' (kp.reps ok r.tail) (by simpa using hl) hst.2 fun s'' ok'' kp' => h s'' ok'' (KpS.trans (Γ' := Γ.set x d) rfl rfl kp kp')

theorem sets_env (xs : List Str) : ∀ (Γ : Cx) (ds : List PV), (Γ.sets xs ds).env = Γ.env ∧ (Γ.sets xs ds).W = Γ.W ∧ (Γ.sets xs ds).μ = Γ.μ := by
  induction xs with
  | nil => intro Γ ds; exact ⟨rfl, rfl, rfl⟩
  | cons x xs ih =>
    intro Γ ds
    cases ds with
    | nil => exact ⟨rfl, rfl, rfl⟩
    | cons d ds => exact ih (Γ.set x d) ds

/-- a heap that has grown but for one fresh place -/
theorem ext_fresh {s : Shared} {h' : Heap} (hs : Heap.ExtBut s.heap.objs.size s.heap h') : Ext s { s with heap := h' } :=
  ⟨⟨_, _, rfl⟩, fun b o e => hs b o (fun q => absurd (Heap.lt_size e) (by rw [q]; exact Nat.lt_irrefl _)) e⟩

theorem assignEach_len {elts : List Expr} {xs : List Str} (hn : Nms elts xs) (env : Env) : (assignEach elts env).length = xs.length ∧ (assignEach elts env).findIdx? (·.1) = none := by
  induction hn with
  | nil => exact ⟨rfl, rfl⟩
  | cons hn ih =>
    rename_i x p es xs
    rw [assignEach_Name]
    refine ⟨by simp [ih.1], ?_⟩
    rw [List.findIdx?_cons]; simp [ih.2]

theorem wp_unpack {elts : List Expr} {xs : List Str} {k : Nat} {pos : Pos} {s : Shared} {v : Value} {ds : List PV} {Q : Unit → Shared → Prop} {E : Value → Shared → Prop} (hA : A.handled = none) (hn : Nms elts xs) (ok : Γ.Ok s.heap) (r : Rep Γ.O s.heap v (.tup ds)) (hl : xs.length = ds.length) (hst : xs.all (storable Γ.env Γ.W) = true)
    (h : ∀ s', (Γ.sets xs ds).Ok s'.heap → KpS Γ s s' → Q () s') : wpAny (model prog w) A (assign (.Tuple elts k pos) Γ.env v) Q E s := by
  obtain ⟨a, vs, rfl, ha, ht, rs⟩ := r.tup_inv
  refine wpAny_assign_Tuple hA ht (by rw [(assignEach_len hn _).1, hl, ← rs.len]; simp) (assignEach_len hn _).2 fun h' hs => ?_
  have x := ext_fresh hs
  refine wp_stores hn (s := { s with heap := h' }) (ok.step x) (rs.keeps x.get) hl hst fun s' ok' kp => h s' ok' ?_
  exact ⟨let ⟨h1, t1, e1⟩ := kp.as; ⟨h1, t1, by rw [e1]⟩, fun b o hb e => kp.get b o hb (x.get b o e)⟩

theorem S.unpack {elts : List Expr} {k : Nat} {tpos pos : Pos} {value : Expr} {ds : List PV} (xs : List Str) (hA : A.handled = none) (hn : Nms elts xs) (h1 : Ev prog w A Γ value (.tup ds)) (hl : xs.length = ds.length := by rfl) (hst : xs.all (storable Γ.env Γ.W) = true := by rfl)
    (hs : swapsWithSole [.Tuple elts k tpos] value pos.line Γ.env = pure false := by rfl) (hw : swappedStores [.Tuple elts k tpos] value Γ.env = pure none := by rfl) :
    S prog w A Γ (.Assign [.Tuple elts k tpos] value pos) (Nx (Γ.sets xs ds)) := fun s Q E ok h =>
  Assign_Tuple (h1 s _ _ ok fun v s₁ k₁ r₁ => wp_unpack hA hn (ok.step k₁) r₁ hl hst fun s' ok' kp => h _ _ (Kp.trans rfl rfl rfl k₁.kp kp.kp) ⟨rfl, ok'⟩) hs hw

theorem S.unpackSw {elts : List Expr} {k : Nat} {tpos pos : Pos} {value : Expr} {ds : List PV} (xs : List Str) (hA : A.handled = none) (h1 : Ev prog w A Γ value (.tup ds)) (hl : xs.length = ds.length := by rfl) (hst : xs.reverse.all (storable Γ.env Γ.W) = true := by rfl)
    (hs : swapsWithSole [.Tuple elts k tpos] value pos.line Γ.env = pure false := by rfl) (hw : swappedStores [.Tuple elts k tpos] value Γ.env = pure (some xs) := by rfl) :
    S prog w A Γ (.Assign [.Tuple elts k tpos] value pos) (Nx (Γ.sets xs.reverse ds.reverse)) := fun s Q E ok h =>
  Assign_Tuple_swapped (h1 s _ _ ok fun v s₁ k₁ r₁ => by
    obtain ⟨a, vs, rfl, ha, ht, rs⟩ := r₁.tup_inv
    have hsz : xs.length = vs.toArray.size := by rw [hl, ← rs.len]; simp
    rw [hsz]
    refine wpAny_unpackItems_tuple hA ht fun h' hs' => ?_
    have x := ext_fresh hs'
    have ok₁ := ok.step k₁
    have rr : Reps Γ.O h' vs.reverse ds.reverse := ⟨by simp [rs.len], fun i u e hu he => by
      have h1 := (List.getElem?_eq_some_iff.mp hu).1
      have h2 := (List.getElem?_eq_some_iff.mp he).1
      rw [List.length_reverse] at h1 h2
      rw [List.getElem?_reverse h1] at hu
      rw [List.getElem?_reverse h2, ← rs.len] at he
      exact (rs.at' _ u e hu he).keeps x.get⟩
    refine wp_storesB (s := { s₁ with heap := h' }) (ok₁.step x) rr (by simp [hl]) hst fun s' ok' kp => h _ _ ?_ ⟨rfl, ok'⟩
    have k2 : Kp Γ s₁ s' := ⟨let ⟨h1, t1, e1⟩ := kp.as; ⟨h1, t1, by rw [e1]⟩, fun b o hb _ e => kp.get b o hb (x.get b o e)⟩
    exact Kp.trans rfl rfl rfl k₁.kp k2) hs hw
end Mine

end
section
open PySem PySem.W PyProof.Rows PySem.Calls
set_option autoImplicit false
set_option linter.all false
namespace Mine
variable {prog : Program} {w : World} {A : Around} {Γ : Cx}

theorem ints_of {O : List Addr} {h : Heap} : ∀ {vs : List Value} {ns : List Int}, Reps O h vs (ns.map .int) → IntsAre vs ns := by
  intro vs
  induction vs with
  | nil =>
    intro ns r
    cases ns with
    | nil => exact .nil
    | cons _ _ => have := r.len; cases this
  | cons v vs ih =>
    intro ns r
    cases ns with
    | nil => have := r.len; cases this
    | cons n ns =>
      obtain ⟨t, rfl⟩ := Rep.int_inv (r.head (d := .int n))
      exact .cons n t (ih r.tail)
theorem of_ints {O : List Addr} {h : Heap} : ∀ {vs : List Value} {ns : List Int}, IntsAre vs ns → Reps O h vs (ns.map .int)
  | _, _, .nil => Reps.nil
  | _, _, .cons n t r => Reps.cons (.int n t) (of_ints r)
theorem reps1 {O : List Addr} {h : Heap} {vs : List Value} {d : PV} (r : Reps O h vs [d]) : ∃ v, vs = [v] ∧ Rep O h v d := by
  match vs, r.len with
  | [v], _ => exact ⟨v, rfl, r.head⟩
theorem reps2 {O : List Addr} {h : Heap} {vs : List Value} {d e : PV} (r : Reps O h vs [d, e]) : ∃ v u, vs = [v, u] ∧ Rep O h v d ∧ Rep O h u e := by
  match vs, r.len with
  | [v, u], _ => exact ⟨v, u, rfl, r.head, r.tail.head⟩

theorem BCall.max2 {a b : Int} (hA : A.handled = none) : BCall prog w A Γ (.builtin "max") [.int a, .int b] (.int (max a b)) := fun s vs Q E ok r h => by
  obtain ⟨v, u, rfl, r1, r2⟩ := reps2 r
  obtain ⟨t, rfl⟩ := r1.int_inv; obtain ⟨t', rfl⟩ := r2.int_inv
  refine max_two_ints hA fun h' tk hk => ?_
  by_cases hc : b > a
  · rw [if_pos hc]; refine h _ _ (Ext.mk' h' tk hk) ?_
    rw [show max a b = b by omega]; exact .int b _
  · rw [if_neg hc]; refine h _ _ (Ext.mk' h' tk hk) ?_
    rw [show max a b = a by omega]; exact .int a _
theorem BCall.min2 {a b : Int} (hA : A.handled = none) : BCall prog w A Γ (.builtin "min") [.int a, .int b] (.int (min a b)) := fun s vs Q E ok r h => by
  obtain ⟨v, u, rfl, r1, r2⟩ := reps2 r
  obtain ⟨t, rfl⟩ := r1.int_inv; obtain ⟨t', rfl⟩ := r2.int_inv
  refine min_two_ints hA fun h' tk hk => ?_
  by_cases hc : b < a
  · rw [if_pos hc]; refine h _ _ (Ext.mk' h' tk hk) ?_
    rw [show min a b = b by omega]; exact .int b _
  · rw [if_neg hc]; refine h _ _ (Ext.mk' h' tk hk) ?_
    rw [show min a b = a by omega]; exact .int a _

theorem plain_isList {h : Heap} {a : Addr} {vs : Array Value} (p : h.PlainList a vs) : h.IsList a vs := by
  obtain ⟨n, e⟩ := p; exact ⟨_, e, rfl, n, rfl⟩

theorem BCall.sumL {ns : List Int} (hA : A.handled = none) : BCall prog w A Γ (.builtin "sum") [.list (ns.map .int)] (.int ns.sum) := fun s vs Q E ok r h => by
  obtain ⟨v, rfl, r1⟩ := reps1 r
  obtain ⟨a, us, rfl, _, hl, rs⟩ := r1.list_inv
  have hi := ints_of rs
  obtain ⟨xs, hx⟩ := hi.allInts.items
  have hl' : s.heap.IsList a (intItems xs) := hx ▸ plain_isList hl
  refine sum_intListG hA hl' fun h' tk t' hk => ?_
  have e1 : ns = xs.toList.map (·.1) := by
    rw [← nums_intItems, ← hx]
    exact (show numsOf us.toArray.toList = ns from hi.numsOf).symm
  have e2 : preSum (numAt xs) xs.size = ns.sum := by
    rw [preSum_eq, List.take_of_length_le (by simp), e1]
  rw [e2]
  exact h _ _ (Ext.mk' h' tk hk) (.int _ _)

theorem BCall.maxL {ns : List Int} {M : Int} (hA : A.handled = none) (hM : M ∈ ns) (hle : ∀ a ∈ ns, a ≤ M) : BCall prog w A Γ (.builtin "max") [.list (ns.map .int)] (.int M) := fun s vs Q E ok r h => by
  obtain ⟨v, rfl, r1⟩ := reps1 r
  obtain ⟨a, us, rfl, _, hl, rs⟩ := r1.list_inv
  have hi := ints_of rs
  obtain ⟨xs, hx⟩ := hi.allInts.items
  have hl' : s.heap.IsList a (intItems xs) := hx ▸ plain_isList hl
  have e1 : ns = xs.toList.map (·.1) := by
    rw [← nums_intItems, ← hx]
    exact (show numsOf us.toArray.toList = ns from hi.numsOf).symm
  have hsz : 0 < xs.size := by
    have : 0 < ns.length := List.length_pos_of_mem hM
    rw [e1] at this; simpa using this
  refine max_intList hA hl' hsz fun v h' tk hv hk => ?_
  obtain ⟨t, rfl⟩ := intItems_at hv
  obtain ⟨h1, h2⟩ := argBest_gt (numAt xs) (xs.size - 1)
  generalize hg : numAt xs (argBest (fun i j => decide (numAt xs i > numAt xs j)) (xs.size - 1)) = N at *
  have hN : N ∈ ns := by
    rw [e1, ← hg, numAt_eq]; exact getD_mem (by rw [List.length_map, Array.length_toList]; omega)
  have hle' : ∀ a ∈ ns, a ≤ N := fun a ha => by
    rw [e1] at ha
    obtain ⟨j, hj, rfl⟩ := mem_getD ha
    rw [List.length_map, Array.length_toList] at hj
    rw [← numAt_eq]; exact h2 j (by omega)
  have : N = M := Int.le_antisymm (hle _ hN) (hle' _ hM)
  rw [this]
  exact h _ _ (Ext.mk' h' tk hk) (.int _ _)
theorem BCall.minL {ns : List Int} {M : Int} (hA : A.handled = none) (hM : M ∈ ns) (hle : ∀ a ∈ ns, M ≤ a) : BCall prog w A Γ (.builtin "min") [.list (ns.map .int)] (.int M) := fun s vs Q E ok r h => by
  obtain ⟨v, rfl, r1⟩ := reps1 r
  obtain ⟨a, us, rfl, _, hl, rs⟩ := r1.list_inv
  have hi := ints_of rs
  obtain ⟨xs, hx⟩ := hi.allInts.items
  have hl' : s.heap.IsList a (intItems xs) := hx ▸ plain_isList hl
  have e1 : ns = xs.toList.map (·.1) := by
    rw [← nums_intItems, ← hx]
    exact (show numsOf us.toArray.toList = ns from hi.numsOf).symm
  have hsz : 0 < xs.size := by
    have : 0 < ns.length := List.length_pos_of_mem hM
    rw [e1] at this; simpa using this
  refine min_intList hA hl' hsz fun v h' tk hv hk => ?_
  obtain ⟨t, rfl⟩ := intItems_at hv
  obtain ⟨h1, h2⟩ := argBest_lt (numAt xs) (xs.size - 1)
  generalize hg : numAt xs (argBest (fun i j => decide (numAt xs i < numAt xs j)) (xs.size - 1)) = N at *
  have hN : N ∈ ns := by
    rw [e1, ← hg, numAt_eq]; exact getD_mem (by rw [List.length_map, Array.length_toList]; omega)
  have hle' : ∀ a ∈ ns, N ≤ a := fun a ha => by
    rw [e1] at ha
    obtain ⟨j, hj, rfl⟩ := mem_getD ha
    rw [List.length_map, Array.length_toList] at hj
    rw [← numAt_eq]; exact h2 j (by omega)
  have : N = M := Int.le_antisymm (hle' _ hM) (hle _ hN)
  rw [this]
  exact h _ _ (Ext.mk' h' tk hk) (.int _ _)

theorem BCall.sorted {ns ns' : List Int} (hp : ns'.Perm ns) (hs : ns'.Pairwise (· ≤ ·)) (h64 : ns.length < 64) : BCall prog w A Γ (.builtin "sorted") [.list (ns.map .int)] (.list (ns'.map .int)) := fun s vs Q E ok r h => by
  obtain ⟨v, rfl, r1⟩ := reps1 r
  obtain ⟨a, us, rfl, _, hl, rs⟩ := r1.list_inv
  have hi := ints_of rs
  refine sorted_ints (plain_isList hl) hi (by rw [rs.len]; simpa using h64) fun out ns2 a1 a2 a3 => ?_
  obtain ⟨e, he⟩ := sortedAll_at s.heap us out
  have hq : ns2 = ns' := List.Perm.eq_of_pairwise (fun a b _ _ h1 h2 => Int.le_antisymm h1 h2) a3 hs (a2.trans hp.symm)
  subst hq
  have x : Ext s { s with heap := sortedAll s.heap us out } := ⟨⟨_, _, rfl⟩, fun _ _ => sortedAll_old⟩
  exact h _ _ x (Rep.mkList (vs := out.toList) (ok.fresh (Nat.le_succ _)) ⟨e, by simpa using he⟩ (of_ints a1))

theorem BCall.tuple {ds : List PV} (hz : ds.length ≤ sizeLine) : BCall prog w A Γ (.type "tuple") [.list ds] (.tup ds) := fun s vs Q E ok r h => by
  obtain ⟨v, rfl, r1⟩ := reps1 r
  obtain ⟨a, us, rfl, _, hl, rs⟩ := r1.list_inv
  refine call_tuple_list (plain_isList hl) (fun h' hk => ?_) (by rw [List.size_toArray, rs.len]; exact hz)
  have x : Ext s { s with heap := h'.push { cls := .type "tuple", data := .seq us.toArray } } := ⟨⟨_, _, rfl⟩, fun b o e => Heap.get?_push_of_some _ (hk b o e)⟩
  exact h _ _ x (Rep.mkTup ((ok.keeps hk).fresh (Nat.le_refl _)) (isTuple_push _ _) (rs.keeps x.get))
end Mine

end
section
open PySem PySem.W PyProof.Rows PySem.Calls
set_option autoImplicit false
set_option linter.all false
namespace Mine
variable {prog : Program} {w : World} {A : Around} {Γ : Cx}

theorem BCall.lenT {ds : List PV} (hz : (ds.length : Int) < 2 ^ 63) : BCall prog w A Γ (.builtin "len") [.tup ds] (.int ds.length) := fun s vs Q E ok rs h => by
  obtain ⟨v, rfl, r⟩ := reps1 rs
  obtain ⟨a, us, rfl, _, hl, hr⟩ := r.tup_inv
  refine PyProof.Rows.len_tuple (t := a) (items := us.toArray) hl (by simpa [hr.len] using hz) ?_
  have e : ((us.toArray.size : Nat) : Int) = (ds.length : Int) := by simp [hr.len]
  rw [e]
  exact h _ _ (Ext.toks _) (.int _ _)

theorem Ev.idxT {e i : Expr} {pos : Pos} {ds : List PV} {k : Nat} {d : PV} (h1 : Ev prog w A Γ e (.tup ds)) (h2 : Ev prog w A Γ i (.int k)) (hd : ds[k]? = some d) (hfit : (k : Int) < 2 ^ 63) : Ev prog w A Γ (.Subscript e i pos) d := fun s Q E ok h =>
  Subscript_ (h1 s _ _ ok fun u s₁ k₁ r₁ => h2 s₁ _ _ (ok.step k₁) fun v s₂ k₂ r₂ => by
    obtain ⟨t, rfl⟩ := r₂.int_inv
    obtain ⟨a, vs, rfl, _, hl, rs⟩ := r₁.tup_inv
    have hlt : k < ds.length := (List.getElem?_eq_some_iff.mp hd).1
    have hlen := rs.len
    obtain ⟨v, hv⟩ : ∃ v, vs[k]? = some v := ⟨vs[k]'(by rw [hlen]; exact hlt), by simp [hlen, hlt]⟩
    obtain ⟨ops, ho⟩ := sub_ops i (.ref a) (.int (k : Int) t)
    have hl2 : IsTup s₂.heap a vs.toArray := IsTup.keeps hl k₂.get
    refine tail_any (T := "tuple") (let ⟨o, e, c, _⟩ := hl2; ⟨o, e, c⟩) slot_tuple_getitem.lookup (PyProof.Rows.getItem_tuple hl2 (by omega) hfit (j := k) (by unfold seqIndex?; simp; omega) (by simpa using hv) (h v s₂ (k₁.trans k₂) ((rs.at' _ v d hv hd).keeps k₂.get))) ho)

/-- a for whose turns go on, or give back -/
theorem X.forR (ρs : Nat → List (Str × PV)) {x : Str} {px : Pos} {iter : Expr} {body rest : List Stmt} {pos : Pos} {ds : List PV} {R : Flow → Shared → Prop} (hs : Sub (ρs 0) Γ.ρ)
    (hit : Itr prog w A (Γ.to (ρs 0)) iter ds)
    (hb : ∀ (k : Nat) d, ds[k]? = some d → X prog w A ((Γ.to (ρs k)).set x d) body (fun f s' => match f with | .next | .cont => (Γ.to (ρs (k + 1))).Ok s'.heap | .brk => False | .ret v => R (.ret v) s'))
    (hr : X prog w A (Γ.to (ρs ds.length)) rest R)
    (hx : storable Γ.env Γ.W x = true := by rfl) (hf : ∀ v, foldedSetIterable iter Γ.env v = pure v := by intro _; rfl) : X prog w A Γ (.For (.Name x px) iter body [] pos :: rest) R := by
  refine X.to (ρs 0) hs ?_
  refine X.cons (S.for (fun k => Γ.to (ρs k)) (RB := fun _ => False) (RR := fun v s' => R (.ret v) s') hit (fun _ => rfl) (fun _ => rfl) (fun _ => rfl) (fun _ => rfl) hb hx hf) (fun s' r => ?_) (fun f s' hf r => ?_)
  · rcases r with ⟨_, r | r⟩ | ⟨v, q, _⟩
    · exact ⟨Γ.to (ρs ds.length), rfl, rfl, rfl, r, hr⟩
    · exact r.elim
    · cases q
  · rcases r with ⟨q, _⟩ | ⟨v, rfl, q⟩
    · exact absurd q hf
    · exact q

theorem no_obj {O : List Addr} {h : Heap} {v : Value} (r : Rep O h v (.obj [])) : False := by
  obtain ⟨a, dx, es, n, vs, _, _, _, _, _, hw, rs⟩ := r.obj_inv
  obtain ⟨v0, v1, v2, v3, rfl, _⟩ := hw
  have := rs.len; cases this

open Classical in
/-- a for with a fact that is kept from turn to turn -/
theorem X.forJ (J : Nat → Prop) (ρs : Nat → List (Str × PV)) {x : Str} {px : Pos} {iter : Expr} {body rest : List Stmt} {pos : Pos} {ds : List PV} {R : Flow → Shared → Prop} (h0 : J 0) (hs : Sub (ρs 0) Γ.ρ)
    (hit : Itr prog w A (Γ.to (ρs 0)) iter ds)
    (hb : ∀ (k : Nat) d, ds[k]? = some d → J k → X prog w A ((Γ.to (ρs k)).set x d) body (fun f s' => match f with | .next | .cont => J (k + 1) ∧ (Γ.to (ρs (k + 1))).Ok s'.heap | .brk => False | .ret v => R (.ret v) s'))
    (hr : J ds.length → X prog w A (Γ.to (ρs ds.length)) rest R)
    (hx : storable Γ.env Γ.W x = true := by rfl) (hf : ∀ v, foldedSetIterable iter Γ.env v = pure v := by intro _; rfl) (hxe : ((("" : Str)) == x) = false := by rfl) : X prog w A Γ (.For (.Name x px) iter body [] pos :: rest) R := by
  have bot : ∀ h, ¬ (Γ.to [("", .obj [])]).Ok h := fun h ok => by
    obtain ⟨v, _, r⟩ := ok.vars "" (.obj []) rfl
    exact no_obj r
  refine X.forR (ds := ds) (fun k => if J k then ρs k else [("", .obj [])]) ?_ ?_ (fun k d hd => ?_) ?_ hx hf
  · rw [if_pos h0]; exact hs
  · rw [if_pos h0]; exact hit
  · by_cases hj : J k
    · rw [if_pos hj]
      refine (hb k d hd hj).mono fun f s r => ?_
      cases f with
      | next => show (Γ.to (if J (k + 1) then _ else _)).Ok _; rw [if_pos r.1]; exact r.2
      | cont => show (Γ.to (if J (k + 1) then _ else _)).Ok _; rw [if_pos r.1]; exact r.2
      | brk => exact r
      | ret v => exact r
    · rw [if_neg hj]
      intro s Q E ok _
      exfalso
      obtain ⟨v, _, r⟩ := ok.vars "" (.obj []) (by
        show List.lookup ("" : Str) ((x, d) :: [(("" : Str), .obj [])]) = _
        rw [List.lookup_cons, hxe]; rfl)
      exact no_obj r
  · by_cases hj : J ds.length
    · rw [if_pos hj]; exact hr hj
    · rw [if_neg hj]
      intro s Q E ok _
      exact absurd ok (bot _)
end Mine

end
section
open PySem PySem.W PyProof.Rows PySem.Calls
set_option autoImplicit false
set_option linter.all false
set_option maxRecDepth 100000
namespace Mine
variable {prog : Program} {w : World} {A : Around} {Γ : Cx}

/-- what a Whitespace keeps -/
structure Ws where
  c : List Int
  b : Nat
  n : Nat
  nt : Nat
deriving DecidableEq
structure Ws.Ok (x : Ws) : Prop where
  cl : x.c.length ≤ 64
  b : x.b ≤ 64
  n : x.n ≤ 64
  nt : x.nt ≤ 64
noncomputable def Ws.fs (x : Ws) : List PV := [.int x.n, .int x.nt, .tup [.tup (x.c.map .int), .int x.b], .bool (decide (x.c.length ≤ 1))]
noncomputable def Ws.run (x : Ws) : Int := max ((x.c.length : Int) - 1) x.b
noncomputable def Ws.il (x : Ws) (ts k : Nat) : Int := ((List.range k).map fun j => (((ts + j : Nat) : Int).fdiv (ts : Int)) * x.c.getD (ts + j) 0).sum
noncomputable def Ws.lvl (x : Ws) (ts : Nat) : Int := x.b + ts * (x.il ts (x.c.length - ts) + x.nt)
noncomputable def Ws.less (x y : Ws) : Bool :=
  if y.n ≤ x.n then false else if x.c.length ≤ 1 ∧ y.c.length ≤ 1 then decide (x.nt ≤ y.nt)
  else (List.range ((max x.run y.run).toNat)).all fun i => decide (x.lvl (i + 2) < y.lvl (i + 2))

theorem fun_longest {P : Params} {h : Heap} (t : TF P h) : ∃ doc pm an cdv ct, Fun h 72 (fdAt (inCls 2 (topAt 6)) "Whitespace.longest_run_of_spaces" .none .none doc pm an cdv ct) := by
  have e : fdK P 72 = fdAt (inCls 2 (topAt 6)) "Whitespace.longest_run_of_spaces" .none .none (fdK P 72).doc (fdK P 72).pyModule (fdK P 72).annotations (fdK P 72).code (fdK P 72).closureTuple := by kernel_rfl
  exact ⟨_, _, _, _, _, e ▸ t.fn 72 (by kernel_rfl) (by kernel_rfl)⟩
theorem fun_level {P : Params} {h : Heap} (t : TF P h) : ∃ doc pm an cdv ct, Fun h 79 (fdAt (inCls 3 (topAt 6)) "Whitespace.indent_level" .none .none doc pm an cdv ct) := by
  have e : fdK P 79 = fdAt (inCls 3 (topAt 6)) "Whitespace.indent_level" .none .none (fdK P 79).doc (fdK P 79).pyModule (fdK P 79).annotations (fdK P 79).code (fdK P 79).closureTuple := by kernel_rfl
  exact ⟨_, _, _, _, _, e ▸ t.fn 79 (by kernel_rfl) (by kernel_rfl)⟩
theorem fun_equal {P : Params} {h : Heap} (t : TF P h) : ∃ doc pm an cdv ct, Fun h 86 (fdAt (inCls 4 (topAt 6)) "Whitespace.equal" .none .none doc pm an cdv ct) := by
  have e : fdK P 86 = fdAt (inCls 4 (topAt 6)) "Whitespace.equal" .none .none (fdK P 86).doc (fdK P 86).pyModule (fdK P 86).annotations (fdK P 86).code (fdK P 86).closureTuple := by kernel_rfl
  exact ⟨_, _, _, _, _, e ▸ t.fn 86 (by kernel_rfl) (by kernel_rfl)⟩
theorem fun_less {P : Params} {h : Heap} (t : TF P h) : ∃ doc pm an cdv ct, Fun h 100 (fdAt (inCls 6 (topAt 6)) "Whitespace.less" .none .none doc pm an cdv ct) := by
  have e : fdK P 100 = fdAt (inCls 6 (topAt 6)) "Whitespace.less" .none .none (fdK P 100).doc (fdK P 100).pyModule (fdK P 100).annotations (fdK P 100).code (fdK P 100).closureTuple := by kernel_rfl
  exact ⟨_, _, _, _, _, e ▸ t.fn 100 (by kernel_rfl) (by kernel_rfl)⟩

theorem longest_ok {x : Ws} (hx : x.Ok) : FnOk prog w (TF w.params) 1 72 [.obj x.fs] (.int x.run) := by
  intro A s vs R hA t rs hR
  obtain ⟨doc, pm, an, cdv, ct, hf⟩ := fun_longest t
  match vs, rs.len with
  | [v], _ =>
  refine fn_pos (n := 0) ["self"] (RV := fun v s' => Rep [] s'.heap v (.int x.run)) hA hf t.lim rs (BindsTo.of_eq rfl) ?_ hR
  conv => arg 5; whnf
  have hA' : AOk 0 (A.deeper (callEnv (fdAt (inCls 2 (topAt 6)) "Whitespace.longest_run_of_spaces" .none .none doc pm an cdv ct) s.heap.objs.size 72)) := hA.deeper _
  have h1 := hx.cl
  refine X.step (S.unpack ["count", "trailing"] hA'.1 (.cons (.cons .nil)) (Ev.attrN t (Ev.name rfl) .norm rfl)) ?_
  refine X.ret (d := .int x.run) ?_ fun v s' _ r => r
  have e : x.run = max (((x.c.map PV.int).length : Int) - 1) x.b := by simp [Ws.run]
  rw [e]
  exact Ev.bcall (gl_max t) (Evs.cons (Ev.bin (Ev.bcall (gl_len t) (Evs.cons (Ev.name rfl) Evs.nil) (BCall.lenT (by simp; omega))) Ev.int BOp.sub) (Evs.cons (Ev.name rfl) Evs.nil)) (BCall.max2 hA'.1)

theorem Ws.il_succ (x : Ws) (ts k : Nat) : x.il ts (k + 1) = x.il ts k + (((ts + k : Nat) : Int).fdiv (ts : Int)) * x.c.getD (ts + k) 0 := by
  unfold Ws.il
  rw [List.range_succ, List.map_append, List.sum_append]; simp

theorem mulOk_small {a b : Int} (h : a.natAbs < 2 ^ 64) : IntMulOk a b := IntMulOk.of_left (intBits_le_iff.mpr h)

theorem level_ok {x : Ws} (hx : x.Ok) {ts : Nat} (h2 : 0 < ts) (h3 : ts ≤ 100) : FnOk prog w (TF w.params) 1 79 [.obj x.fs, .int ts] (.int (x.lvl ts)) := by
  intro A s vs R hA t rs hR
  obtain ⟨doc, pm, an, cdv, ct, hf⟩ := fun_level t
  match vs, rs.len with
  | [v, u], _ =>
  refine fn_pos (n := 0) ["self", "tabsize"] (RV := fun v s' => Rep [] s'.heap v (.int (x.lvl ts))) hA hf t.lim rs (BindsTo.of_eq rfl) ?_ hR
  conv => arg 5; whnf
  have hA' : AOk 0 (A.deeper (callEnv (fdAt (inCls 3 (topAt 6)) "Whitespace.indent_level" .none .none doc pm an cdv ct) s.heap.objs.size 79)) := hA.deeper _
  have h1 := hx.cl
  have hcl : ((x.c.map PV.int).length : Int) = x.c.length := by simp
  refine X.step (S.unpack ["count", "trailing"] hA'.1 (.cons (.cons .nil)) (Ev.attrN t (Ev.name rfl) .norm rfl)) ?_
  refine X.step (S.assign Ev.int) ?_
  refine X.for (fun k => [("self", .obj x.fs), ("tabsize", .int ts), ("count", .tup (x.c.map .int)), ("trailing", .int x.b), ("il", .int (x.il ts k))]) (fun _ => []) (ds := rng ts 1 (x.c.length - ts)) ?_ rfl (fun _ => rfl) ?_ ?_ ?_
  · exact Sub.cons rfl (Sub.cons rfl (Sub.cons rfl (Sub.cons rfl (Sub.cons rfl Sub.nil))))
  · refine Itr.cast (Itr.range2 (a := (ts : Int)) (b := ((x.c.map PV.int).length : Int)) hA'.1 (gl_range t) (Evs.cons (Ev.name rfl) (Evs.cons (Ev.bcall (gl_len t) (Evs.cons (Ev.name rfl) Evs.nil) (BCall.lenT (by simp; omega))) Evs.nil)) (by omega) (by omega) (by rw [hcl]; omega) (by rw [hcl]; omega)) ?_
    rw [hcl]
    have : ((x.c.length : Int) - ts).toNat = x.c.length - ts := by omega
    rw [this]
  · intro k d hd
    obtain ⟨hk, rfl⟩ := rng_get hd
    have hi : (ts : Int) + (k : Int) * 1 = ((ts + k : Nat) : Int) := by omega
    rw [hi]
    have hlt : ts + k < x.c.length := by omega
    have hg : (x.c.map PV.int)[ts + k]? = some (.int (x.c.getD (ts + k) 0)) := by simp [hlt]
    refine X.stepL (S.nx (Γ' := _) (S.assign (d := .int (x.il ts (k + 1))) ?_) rfl) fun s' ok => ⟨rfl, ok.to (Sub.cons rfl (Sub.cons rfl (Sub.cons rfl (Sub.cons rfl (Sub.cons rfl Sub.nil)))))⟩
    rw [Ws.il_succ]
    refine Ev.bin (Ev.name rfl) (Ev.bin (Ev.bin (Ev.name rfl) (Ev.name rfl) (BOp.fdiv (by omega) (PyProof.noPylong_small (by omega)))) (Ev.idxT (k := ts + k) (Ev.name rfl) (Ev.name rfl) hg (by omega)) (BOp.mul (mulOk_small ?_))) BOp.add
    have := natAbs_fdiv_le ((ts + k : Nat) : Int) (ts : Int)
    omega
  · rw [rng_len]
    refine X.ret (d := .int (x.lvl ts)) ?_ fun v s' _ r => r
    exact Ev.bin (Ev.name rfl) (Ev.bin (Ev.name rfl) (Ev.bin (Ev.name rfl) (Ev.attrN t (Ev.name rfl) .nt rfl) BOp.add) (BOp.mul (mulOk_small (by omega)))) BOp.add

noncomputable def Ws.enc (x : Ws) : PyData := .tuple [.tuple (x.c.map .int), .int x.b]
theorem Ws.encOk (x : Ws) : Enc (.tup [.tup (x.c.map .int), .int x.b]) x.enc := Enc.tup rfl fun i d p h1 h2 => by
  match i with
  | 0 =>
    cases h1; cases h2
    exact Enc.tup (by simp) fun i d p h1 h2 => by
      rw [List.getElem?_map] at h1 h2
      cases hx : x.c[i]? with
      | none => rw [hx] at h1; cases h1
      | some y => rw [hx] at h1 h2; cases h1; cases h2; exact Enc.int y
  | 1 => cases h1; cases h2; exact Enc.int _
  | i + 2 => simp at h1
theorem Ws.small (x : Ws) : Small 2 x.enc := Small.tuple fun p hp => by
  simp only [List.mem_cons, List.not_mem_nil, or_false] at hp
  rcases hp with rfl | rfl
  · exact Small.tuple fun p hp => by obtain ⟨y, _, rfl⟩ := List.mem_map.mp hp; exact Small.int y
  · exact (Small.int _).le (by omega)
theorem Ws.eqv (x y : Ws) : PyData.eqv x.enc y.enc = decide (x.c = y.c ∧ x.b = y.b) := by
  show PyData.eqvAll [.tuple (x.c.map .int), .int x.b] [.tuple (y.c.map .int), .int y.b] = _
  rw [PyData.eqvAll]
  have e1 : PyData.eqv (.tuple (x.c.map .int)) (.tuple (y.c.map .int)) = decide (x.c = y.c) := eqvAll_ints x.c y.c
  rw [e1, PyData.eqvAll]
  have e2 : PyData.eqv (.int (x.b : Int)) (.int (y.b : Int)) = decide (x.b = y.b) := by
    show decide ((x.b : Int) = y.b) = _
    by_cases h : x.b = y.b <;> simp [h] <;> omega
  rw [e2]
  by_cases h1 : x.c = y.c <;> by_cases h2 : x.b = y.b <;> simp [h1, h2, PyData.eqvAll]

theorem equal_ok {x y : Ws} : FnOk prog w (TF w.params) 1 86 [.obj x.fs, .obj y.fs] (.bool (decide (x.c = y.c ∧ x.b = y.b))) := by
  intro A s vs R hA t rs hR
  obtain ⟨doc, pm, an, cdv, ct, hf⟩ := fun_equal t
  match vs, rs.len with
  | [v, u], _ =>
  refine fn_pos (n := 0) ["self", "other"] (RV := fun v s' => Rep [] s'.heap v (.bool (decide (x.c = y.c ∧ x.b = y.b)))) hA hf t.lim rs (BindsTo.of_eq rfl) ?_ hR
  conv => arg 5; whnf
  have hA' : AOk 0 (A.deeper (callEnv (fdAt (inCls 4 (topAt 6)) "Whitespace.equal" .none .none doc pm an cdv ct) s.heap.objs.size 86)) := hA.deeper _
  refine X.ret (d := .bool (decide (x.c = y.c ∧ x.b = y.b))) ?_ fun v s' _ r => r
  rw [← Ws.eqv]
  exact Ev.cmp (Ev.attrN t (Ev.name rfl) .norm rfl) (Ev.attrN t (Ev.name rfl) .norm rfl) (COp.eqE hA' x.encOk y.encOk x.small y.small (by omega))

theorem Ws.run_le {x : Ws} (hx : x.Ok) : x.run ≤ 64 := by have := hx.cl; have := hx.b; unfold Ws.run; omega
theorem Ws.run_ge (x : Ws) : 0 ≤ x.run := by unfold Ws.run; omega

theorem less_ok {x y : Ws} (hx : x.Ok) (hy : y.Ok) : FnOk prog w (TF w.params) 2 100 [.obj x.fs, .obj y.fs] (.bool (x.less y)) := by
  intro A s vs R hA t rs hR
  obtain ⟨doc, pm, an, cdv, ct, hf⟩ := fun_less t
  match vs, rs.len with
  | [v, u], _ =>
  refine fn_pos (n := 1) ["self", "other"] (RV := fun v s' => Rep [] s'.heap v (.bool (x.less y))) hA hf t.lim rs (BindsTo.of_eq rfl) ?_ hR
  conv => arg 5; whnf
  have hA' : AOk 1 (A.deeper (callEnv (fdAt (inCls 6 (topAt 6)) "Whitespace.less" .none .none doc pm an cdv ct) s.heap.objs.size 100)) := hA.deeper _
  have r1 := x.run_ge
  have r2 := y.run_ge
  have r3 := Ws.run_le hx
  have r4 := Ws.run_le hy
  obtain ⟨_, _, _, _, _, hfL⟩ := fun_longest t
  obtain ⟨_, _, _, _, _, hfV⟩ := fun_level t
  refine X.ifRet (Tr.cmp (Ev.attrN t (Ev.name rfl) .n rfl) (Ev.attrN t (Ev.name rfl) .n rfl) COp.ge) (fun hc => ?_) (fun hc => ?_)
  · refine X.ret Ev.bool fun v s' _ r => ⟨by simp, ?_⟩
    have hc : (y.n : Int) ≤ x.n := by simpa using hc
    have : x.less y = false := by unfold Ws.less; rw [if_pos (by omega)]
    rw [this]; exact r
  have hc : ¬ (y.n : Int) ≤ x.n := by simpa using hc
  have hl : x.less y = if x.c.length ≤ 1 ∧ y.c.length ≤ 1 then decide (x.nt ≤ y.nt) else (List.range ((max x.run y.run).toNat)).all fun i => decide (x.lvl (i + 2) < y.lvl (i + 2)) := by
    unfold Ws.less; rw [if_neg (by omega)]
  refine X.ifRet (b := decide (x.c.length ≤ 1) && (decide (y.c.length ≤ 1) && true)) (Tr.and (Tr.plain (Ev.attrN t (Ev.name rfl) .sim rfl)) fun _ => Tr.and (Tr.plain (Ev.attrN t (Ev.name rfl) .sim rfl)) fun _ => Tr.and_nil) (fun hc => ?_) (fun hc => ?_)
  · have hc : x.c.length ≤ 1 ∧ y.c.length ≤ 1 := by simpa using hc
    rw [if_pos hc] at hl
    refine X.ret (d := .bool (x.less y)) ?_ fun v s' _ r => ⟨by simp, r⟩
    have : x.less y = decide ((x.nt : Int) ≤ y.nt) := by rw [hl]; congr 1; simp
    rw [this]
    exact Ev.cmp (Ev.attrN t (Ev.name rfl) .nt rfl) (Ev.attrN t (Ev.name rfl) .nt rfl) COp.le
  have hc : ¬ (x.c.length ≤ 1 ∧ y.c.length ≤ 1) := by simpa using hc
  rw [if_neg hc] at hl
  -- n = max(...) + 1
  refine X.step (S.assign (Ev.bin (Ev.bcall (gl_max t) (Evs.cons (Ev.meth0 t .longest (Ev.name rfl) hfL (fun h k => t.keeps k) hA' (longest_ok hx) (.inr rfl)) (Evs.cons (Ev.meth0 t .longest (Ev.name rfl) hfL (fun h k => t.keeps k) hA' (longest_ok hy) (.inr rfl)) Evs.nil)) (BCall.max2 hA'.1)) Ev.int BOp.add)) ?_
  have hm : ((max x.run y.run).toNat : Int) = max x.run y.run := by omega
  generalize hM : (max x.run y.run).toNat = M at *
  refine X.forJ (fun k => ∀ i, i < k → x.lvl (i + 2) < y.lvl (i + 2)) (fun _ => [("self", .obj x.fs), ("other", .obj y.fs), ("n", .int (max x.run y.run + 1))]) (ds := rng 2 1 M) (fun i hi => absurd hi (Nat.not_lt_zero _)) ?_ ?_ ?_ ?_
  · exact Sub.cons rfl (Sub.cons rfl (Sub.cons rfl Sub.nil))
  · refine Itr.cast (Itr.range2 (a := 2) (b := max x.run y.run + 1 + 1) hA'.1 (gl_range t) (Evs.cons Ev.int (Evs.cons (Ev.bin (Ev.name rfl) Ev.int BOp.add) Evs.nil)) (by omega) (by omega) (by omega) (by omega)) ?_
    have : (max x.run y.run + 1 + 1 - 2).toNat = M := by omega
    rw [this]
  · intro k d hd hj
    obtain ⟨hk, rfl⟩ := rng_get hd
    have hi : (2 : Int) + (k : Int) * 1 = ((k + 2 : Nat) : Int) := by omega
    rw [hi]
    have v1 := level_ok (prog := prog) (w := w) hx (ts := k + 2) (by omega) (by omega)
    have v2 := level_ok (prog := prog) (w := w) hy (ts := k + 2) (by omega) (by omega)
    refine X.ifRet (Tr.cmp (Ev.meth t .level (Ev.name rfl) hfV (fun h k => t.keeps k) hA' (EvsF.cons (EvF.of (Ev.name rfl)) EvsF.nil) v1 (.inr rfl)) (Ev.meth t .level (Ev.name rfl) hfV (fun h k => t.keeps k) hA' (EvsF.cons (EvF.of (Ev.name rfl)) EvsF.nil) v2 (.inr rfl)) COp.ge) (fun hc => ?_) (fun hc => ?_)
    · refine X.ret Ev.bool fun v s' _ r => ⟨by simp, ?_⟩
      have hc : y.lvl (k + 2) ≤ x.lvl (k + 2) := by simpa using hc
      have : x.less y = false := by
        rw [hl, List.all_eq_false]
        exact ⟨k, List.mem_range.mpr hk, by simp; omega⟩
      rw [this]; exact r
    · refine X.nil fun s' ok => ⟨fun i hi => ?_, ok.to (Sub.cons rfl (Sub.cons rfl (Sub.cons rfl Sub.nil)))⟩
      have hc : ¬ y.lvl (k + 2) ≤ x.lvl (k + 2) := by simpa using hc
      by_cases q : i = k
      · subst q; omega
      · exact hj i (by omega)
  · intro hj
    rw [rng_len] at hj
    refine X.ret Ev.bool fun v s' _ r => ?_
    have : x.less y = true := by
      rw [hl, List.all_eq_true]
      intro i hi
      simpa using hj i (List.mem_range.mp hi)
    rw [this]; exact r
end Mine

end
section
open PySem PySem.W PyProof.Rows PySem.Calls
set_option autoImplicit false
set_option linter.all false
namespace Mine
variable {prog : Program} {w : World} {A : Around} {Γ : Cx}

/-- everything that the frame may turn -/
noncomputable def stl (Γ : Cx) : List Addr := Γ.env.locals :: (Γ.W.filterMap fun x => Γ.env.cells.lookup x) ++ Γ.O
theorem stl_iff (Γ : Cx) (b : Addr) : b ∈ stl Γ ↔ (Stor Γ.env Γ.W b ∨ b ∈ Γ.O) := by
  unfold stl Stor
  rw [List.cons_append, List.mem_cons, List.mem_append, List.mem_filterMap]
  constructor
  · rintro (h | ⟨x, h1, h2⟩ | h)
    · exact .inl (.inl h)
    · exact .inl (.inr ⟨x, h1, h2⟩)
    · exact .inr h
  · rintro ((h | ⟨x, h1, h2⟩) | h)
    · exact .inl h
    · exact .inr (.inl ⟨x, h1, h2⟩)
    · exact .inr (.inr h)
noncomputable def rest (h : Heap) (Γ : Cx) : Heap := hideAll h (stl Γ)
theorem rest_get {h : Heap} {b : Addr} {o : Obj} (e : h.get? b = some o) (h1 : ¬ Stor Γ.env Γ.W b) (h2 : b ∉ Γ.O) : (rest h Γ).get? b = some o := hideAll_get _ e fun q => by
  rcases (stl_iff Γ b).mp q with q | q
  · exact h1 q
  · exact h2 q
/-- the base may be taken as all that the frame may not turn -/
theorem Cx.Ok.rebase {h : Heap} (ok : Γ.Ok h) : ({ Γ with B := rest h Γ } : Cx).Ok h :=
  ⟨fun b o e => of_hideAll _ e, ok.fr, ok.vars, ok.mem, ok.nd, fun b o hb e => by
    have : (rest h Γ).get? b = none := hideAll_none _ ((stl_iff Γ b).mpr hb)
    rw [this] at e; cases e⟩
theorem Cx.Ok.rest_sub {h : Heap} (ok : Γ.Ok h) : ∀ b o, Γ.B.get? b = some o → (rest h Γ).get? b = some o := fun b o e =>
  rest_get (ok.base b o e) (fun q => ok.out b o (.inl q) e) (fun q => ok.out b o (.inr q) e)
theorem Cx.Ok.unbase {h B : Heap} (hB : ∀ b o, B.get? b = some o → Γ.B.get? b = some o) (ok : Γ.Ok h) : ({ Γ with B := B } : Cx).Ok h :=
  ⟨fun b o e => ok.base b o (hB b o e), ok.fr, ok.vars, ok.mem, ok.nd, fun b o hb e => ok.out b o hb (hB b o e)⟩

noncomputable def As (s s' : Shared) : Prop := ∃ h' tk, s' = { s with heap := h', toks := tk }
theorem As.trans {s s' s'' : Shared} (x : As s s') (y : As s' s'') : As s s'' := by
  obtain ⟨h, t, rfl⟩ := x; obtain ⟨h', t', rfl⟩ := y; exact ⟨h', t', rfl⟩

/-- the statements run; what they keep is said by the base alone -/
noncomputable def X0 (prog : Program) (w : World) (A : Around) (Γ : Cx) (ss : List Stmt) (R : Flow → Shared → Prop) : Prop :=
  ∀ (s : Shared) (Q : Flow → Shared → Prop) (E : Value → Shared → Prop), Γ.Ok s.heap → (∀ f s', As s s' → R f s' → Q f s') → wpAny (model prog w) A (execs ss Γ.env) Q E s
noncomputable def S0 (prog : Program) (w : World) (A : Around) (Γ : Cx) (st : Stmt) (R : Flow → Shared → Prop) : Prop :=
  ∀ (s : Shared) (Q : Flow → Shared → Prop) (E : Value → Shared → Prop), Γ.Ok s.heap → (∀ f s', As s s' → R f s' → Q f s') → wpAny (model prog w) A (exec st Γ.env) Q E s
theorem X0.of {ss : List Stmt} {R : Flow → Shared → Prop} (h : X prog w A Γ ss R) : X0 prog w A Γ ss R := fun s Q E ok k => h s Q E ok fun f s' kp r => k f s' kp.as r
theorem S0.of {st : Stmt} {R : Flow → Shared → Prop} (h : S prog w A Γ st R) : S0 prog w A Γ st R := fun s Q E ok k => h s Q E ok fun f s' kp r => k f s' kp.as r
theorem X0.cons {st : Stmt} {rest : List Stmt} {R R₁ : Flow → Shared → Prop} (h1 : S0 prog w A Γ st R₁)
    (h2 : ∀ s', R₁ .next s' → ∃ Γ', Γ'.env = Γ.env ∧ Γ'.Ok s'.heap ∧ X0 prog w A Γ' rest R) (h3 : ∀ f s', f ≠ .next → R₁ f s' → R f s') : X0 prog w A Γ (st :: rest) R := fun s Q E ok k =>
  wpAny_execs_cons (h1 s _ _ ok fun f s' kp r => by
    cases f with
    | next =>
      obtain ⟨Γ', he, ok', hX⟩ := h2 s' r
      have := hX s' Q E ok' fun f s'' kp' r' => k f s'' (kp.trans kp') r'
      rw [he] at this; exact this
    | brk => exact k _ _ kp (h3 _ _ (by intro q; cases q) r)
    | cont => exact k _ _ kp (h3 _ _ (by intro q; cases q) r)
    | ret v => exact k _ _ kp (h3 _ _ (by intro q; cases q) r))
theorem X0.step {st : Stmt} {rest : List Stmt} {R : Flow → Shared → Prop} {Γ' : Cx} (h1 : S prog w A Γ st (Nx Γ')) (h2 : X0 prog w A Γ' rest R) (he : Γ'.env = Γ.env := by rfl) : X0 prog w A Γ (st :: rest) R :=
  X0.cons (S0.of h1) (fun s' r => ⟨Γ', he, r.2, h2⟩) fun f s' hf r => absurd r.1 hf
theorem X0.nil {R : Flow → Shared → Prop} (h : ∀ s, Γ.Ok s.heap → R .next s) : X0 prog w A Γ [] R := fun s Q E ok k => wpAny_execs_nil (k _ _ ⟨_, _, rfl⟩ (h s ok))
theorem X0.mono {ss : List Stmt} {R R' : Flow → Shared → Prop} (h : X0 prog w A Γ ss R) (hR : ∀ f s, R f s → R' f s) : X0 prog w A Γ ss R' := fun s Q E ok k => h s Q E ok fun f s' kp r => k f s' kp (hR _ _ r)
theorem X0.weak {ss : List Stmt} {R : Flow → Shared → Prop} {Γ' : Cx} (h : X0 prog w A Γ' ss R) (hok : ∀ hp, Γ.Ok hp → Γ'.Ok hp) (he : Γ'.env = Γ.env := by rfl) : X0 prog w A Γ ss R := fun s Q E ok k => by
  have := h s Q E (hok _ ok) fun f s' kp r => k f s' kp r
  rw [he] at this; exact this
theorem X0.to {ss : List Stmt} {R : Flow → Shared → Prop} (ρ' : List (Str × PV)) (hs : Sub ρ' Γ.ρ) (h : X0 prog w A (Γ.to ρ') ss R) : X0 prog w A Γ ss R := X0.weak h fun hp ok => ok.to hs
theorem S0.ifs {t : Expr} {body orelse : List Stmt} {pos : Pos} {b : Bool} {R : Flow → Shared → Prop} (ht : Tr prog w A Γ t b) (h1 : b = true → X0 prog w A Γ body R) (h2 : b = false → X0 prog w A Γ orelse R) :
    S0 prog w A Γ (.If t body orelse pos) R := fun s Q E ok h =>
  wpAny_If (ht s _ _ ok fun s' k => by
    have as : As s s' := k.as
    cases b with
    | true => exact h1 rfl s' _ _ (ok.step k) fun f s'' kp r => h f s'' (as.trans kp) r
    | false => exact h2 rfl s' _ _ (ok.step k) fun f s'' kp r => h f s'' (as.trans kp) r)
theorem X0.one {st : Stmt} {R : Flow → Shared → Prop} (h : S0 prog w A Γ st R) : X0 prog w A Γ [st] R := fun s Q E ok k =>
  wpAny_execs_cons (h s _ _ ok fun f s' kp r => by
    cases f with
    | next => exact wpAny_execs_nil (k _ _ kp r)
    | brk => exact k _ _ kp r
    | cont => exact k _ _ kp r
    | ret v => exact k _ _ kp r)
theorem X0.assignNew {x : Str} {p pos : Pos} {e : Expr} {ds : List PV} {rest : List Stmt} {R : Flow → Shared → Prop} (h1 : EvN prog w A Γ e ds) (h2 : ∀ a, X0 prog w A ((Γ.own a ds).set x (.ref a)) rest R)
    (hx : storable Γ.env Γ.W x = true := by rfl) (hs : swapsWith e (some (.Name x p)) pos.line Γ.env = pure false := by rfl) : X0 prog w A Γ (.Assign [.Name x p] e pos :: rest) R := fun s Q E ok k =>
  wpAny_execs_cons (wpAny_Assign_Name (h1 s _ _ ok fun a vs s₁ k₁ ha hl hr => by
    have ok₁ : (Γ.own a ds).Ok s₁.heap := ok.thaw k₁.get ha hl hr
    refine wp_store (Γ := Γ.own a ds) ok₁ (.ref a) hx fun s' ok' kps => ?_
    have as : As s s' := As.trans k₁.as kps.as
    exact h2 a s' _ _ ok' fun f s'' kp' r => k f s'' (as.trans kp') r) hs)

theorem EvN.add {e1 e2 : Expr} {pos : Pos} {ds es : List PV} (h1 : LV prog w A Γ e1 ds) (h2 : LV prog w A Γ e2 es) (hz : ds.length + es.length ≤ sizeLine) : EvN prog w A Γ (.BinOp e1 .Add e2 pos) (ds ++ es) := fun s Q E ok h =>
  wpAny_BinOp (h1 s _ _ ok fun a vs s₁ k₁ hl rs => h2 s₁ _ _ (ok.step k₁) fun b us s₂ k₂ hl' rs' => by
    have ok₂ := (ok.step k₁).step k₂
    obtain ⟨n, e⟩ := hl.at fun o e => k₂.get _ o e
    obtain ⟨n', e'⟩ := hl'
    have hlen := rs.len
    have hlen' := rs'.len
    refine P.add_list (show IsL s₂.heap a vs.toArray n from e) (show IsL s₂.heap b us.toArray n' from e') ?_ (by simpa [hlen, hlen'] using hz)
    have x : Ext s₂ { s₂ with heap := s₂.heap.push { cls := .type "list", data := .seq (vs.toArray ++ us.toArray) } } := ⟨⟨_, _, rfl⟩, fun b o e => Heap.get?_push_of_some _ e⟩
    have hfr : s.heap.get? s₂.heap.objs.size = none := by
      cases q : s.heap.get? s₂.heap.objs.size with
      | none => rfl
      | some o => exact absurd (Heap.lt_size (k₂.get _ _ (k₁.get _ _ q))) (Nat.lt_irrefl _)
    have rr : Reps Γ.O s₂.heap (vs ++ us) (ds ++ es) := (rs.keeps k₂.get).append rs'
    refine h s₂.heap.objs.size (vs ++ us) _ ((k₁.trans k₂).trans x) hfr ⟨_, by rw [List.append_toArray]; exact Heap.get?_push_size _ rfl⟩ ?_
    exact rr.fresh (get?_size _) fun b o _ _ e => Heap.get?_push_of_some _ e)

/-- an iterator that stands alone and gives flat data in turn -/
noncomputable def SrcW (prog : Program) (w : World) (A : Around) (Γ : Cx) (s s' : Shared) (it : Value) (ds : List PV) : Prop :=
  ∃ (I : Addr) (wr : List Addr) (P : Nat → Value → Prop) (St : Nat → Heap → Prop), it = .ref I ∧ Walks prog w A I wr wr ds.length P St ∧ St 0 s'.heap ∧
    (∀ b ∈ wr, ¬ Stor Γ.env Γ.W b) ∧ (∀ b ∈ wr, s.heap.get? b = none) ∧ (∀ i h b o, St i h → b ∈ wr → h.get? b = some o → ¬ isSeqObj o) ∧
    (∀ i v d, P i v → ds[i]? = some d → ∀ O h, Rep O h v d)
noncomputable def ItrW (prog : Program) (w : World) (A : Around) (Γ : Cx) (e : Expr) (ds : List PV) : Prop :=
  ∀ (s : Shared) (Q : Value → Shared → Prop) (E : Value → Shared → Prop), Γ.Ok s.heap → (∀ it s', Ext s s' → SrcW prog w A Γ s s' it ds → Q it s') →
    wpAny (model prog w) A (eval e Γ.env) (fun x s₁ => wpAny (model prog w) A (pyIter x) Q E s₁) E s

noncomputable def chrs (x : Str) : List PV := x.cps.toList.map fun c => .str ⟨#[c]⟩
theorem ItrW.str {e : Expr} {x : Str} (hA : A.handled = none) (h : Ev prog w A Γ e (.str x)) : ItrW prog w A Γ e (chrs x) := fun s Q E ok k =>
  h s _ _ ok fun v s₁ k₁ r => by
    obtain ⟨t, rfl⟩ := r.str_inv
    have ok₁ := ok.step k₁
    have hlen : (chrs x).length = x.cps.size := by simp [chrs]
    have hst : ∀ b ∈ [s₁.heap.objs.size], ¬ Stor Γ.env Γ.W b := fun b hb hs => by
      rw [List.mem_singleton.mp hb] at hs; exact absurd (ok₁.fr.lt hs) (Nat.lt_irrefl _)
    have hno : ∀ b ∈ [s₁.heap.objs.size], s.heap.get? b = none := fun b hb => by
      rw [List.mem_singleton.mp hb]
      cases e : s.heap.get? s₁.heap.objs.size with
      | none => rfl
      | some o => exact absurd (Heap.lt_size (k₁.get _ _ e)) (Nat.lt_irrefl _)
    have hit : ∀ i v d, SignAt x i v → (chrs x)[i]? = some d → ∀ O h, Rep O h v d := by
      rintro i v d ⟨c, u, hc, rfl⟩ hd O h
      unfold chrs at hd
      rw [List.getElem?_map, Array.getElem?_toList, hc] at hd
      cases hd; exact .str _ _
    cases ha : x.cps.all (· < 128)
    · refine wpAny_pyIter_wide ha (k _ _ (k₁.trans (Ext.push _ _)) ⟨s₁.heap.objs.size, [s₁.heap.objs.size], SignAt x, fun i h => h.IsStrIter s₁.heap.objs.size "str_iterator" x t i, rfl, by rw [hlen]; exact Walks.strWide hA _ x t, ⟨_, Heap.get?_push_size _ rfl, rfl, rfl⟩, hst, hno, ?_, hit⟩)
      rintro i h b o ⟨o', e', _, hd⟩ hb e hq
      rw [List.mem_singleton.mp hb, e'] at e; cases e
      exact notSeq_fields hd hq
    · refine wpAny_pyIter_ascii ha (k _ _ (k₁.trans (Ext.push _ _)) ⟨s₁.heap.objs.size, [s₁.heap.objs.size], SignAt x, fun i h => h.IsStrIter s₁.heap.objs.size "str_ascii_iterator" x t i, rfl, by rw [hlen]; exact Walks.strAscii hA _ x t, ⟨_, Heap.get?_push_size _ rfl, rfl, rfl⟩, hst, hno, ?_, hit⟩)
      rintro i h b o ⟨o', e', _, hd⟩ hb e hq
      rw [List.mem_singleton.mp hb, e'] at e; cases e
      exact notSeq_fields hd hq

/-- a for whose turns pass a family of places, and that is left at turn m -/
theorem S0.forG (P : Nat → List (Str × PV) → List (Addr × List PV) → Prop) {x : Str} {px : Pos} {iter : Expr} {body : List Stmt} {pos : Pos} {ds : List PV} (m : Nat) (hm : m < ds.length) (h0 : P 0 Γ.ρ Γ.μ)
    (hit : ItrW prog w A Γ iter ds)
    (hb : ∀ (B : Heap) (k : Nat) ρ μ d, (∀ b o, Γ.B.get? b = some o → B.get? b = some o) → P k ρ μ → ds[k]? = some d → k < m →
      X0 prog w A ⟨B, Γ.env, Γ.W, (x, d) :: ρ, μ⟩ body (fun f s' => f = .next ∧ ∃ ρ' μ', P (k + 1) ρ' μ' ∧ (⟨B, Γ.env, Γ.W, ρ', μ'⟩ : Cx).Ok s'.heap))
    (hbm : ∀ (B : Heap) ρ μ d, (∀ b o, Γ.B.get? b = some o → B.get? b = some o) → P m ρ μ → ds[m]? = some d →
      X0 prog w A ⟨B, Γ.env, Γ.W, (x, d) :: ρ, μ⟩ body (fun f s' => f = .brk ∧ ∃ ρ' μ', P m ρ' μ' ∧ (⟨B, Γ.env, Γ.W, ρ', μ'⟩ : Cx).Ok s'.heap))
    (hx : storable Γ.env Γ.W x = true := by rfl) (hs : ∀ v, foldedSetIterable iter Γ.env v = pure v := by intro _; rfl) :
    S0 prog w A Γ (.For (.Name x px) iter body [] pos) (fun f s' => f = .next ∧ ∃ ρ' μ', P m ρ' μ' ∧ (⟨Γ.B, Γ.env, Γ.W, ρ', μ'⟩ : Cx).Ok s'.heap) := fun s Q E ok h => by
  refine wpAny_For (hit s _ _ ok fun it s₂ k₂ hsrc => ?_) hs
  obtain ⟨I, wr, PV', St, rfl, W, hst, hfp, hwr, hns, hitem⟩ := hsrc
  have ok₂ := ok.step k₂
  have as₂ : As s s₂ := k₂.as
  refine codeAny_forLoop (fun n s' => ∃ k ρ μ, n = m + 1 - k ∧ k ≤ m ∧ As s₂ s' ∧ St k s'.heap ∧ P k ρ μ ∧ (⟨Γ.B, Γ.env, Γ.W, ρ, μ⟩ : Cx).Ok s'.heap) (fun n s' hI => ?_) (m + 1)
    ⟨0, Γ.ρ, Γ.μ, rfl, Nat.zero_le _, ⟨_, _, rfl⟩, hst, h0, ok₂⟩
  obtain ⟨k, ρ, μ, rfl, hk, as', hst', hP, ok'⟩ := hI
  have hwr2 : ∀ b, b ∈ wr → ∀ o, ¬ (s.heap.get? b = some o) := fun b hb o e => by rw [hwr b hb] at e; cases e
  have hlt : k < ds.length := by omega
  refine W.item k _ _ _ hlt hst' fun v h₃ tk₃ hPv hst₃ hk₃ => ?_
  obtain ⟨d, hd⟩ : ∃ d, ds[k]? = some d := ⟨ds[k], by simp [hlt]⟩
  have ok₃ : (⟨Γ.B, Γ.env, Γ.W, ρ, μ⟩ : Cx).Ok h₃ := ok'.change fun b o hb e => by
    refine hk₃ b o ?_ e
    rcases hb with hb | hb
    · exact fun hm => hns k s'.heap b o hst' hm e hb
    · intro hm
      obtain ⟨o', e'⟩ := ok.stands (b := b) hb
      exact hwr2 b hm o' e'
  refine wpAny_assign_Name ?_
  refine wp_store (Γ := ⟨Γ.B, Γ.env, Γ.W, ρ, μ⟩) (s := { s' with heap := h₃, toks := tk₃ }) ok₃ (hitem k v d hPv hd _ _) hx fun s₄ ok₄ kps₄ => ?_
  have hst₄ : St (k + 1) s₄.heap := W.frame _ _ _ hst₃ fun b hb o e => kps₄.get b o (hfp b hb) e
  have as₄ : As s' s₄ := As.trans ⟨h₃, tk₃, rfl⟩ kps₄.as
  have hO₄ : ∀ b ∈ wr, b ∉ μ.map (·.1) := fun b hb hm => by
    obtain ⟨⟨a, es⟩, hm', rfl⟩ := List.mem_map.mp hm
    obtain ⟨vs, ⟨n, e⟩, _⟩ := ok₄.mem a es hm'
    exact hns (k + 1) s₄.heap a _ hst₄ hb e (.inl ⟨_, _, rfl⟩)
  have okR : (⟨rest s₄.heap ⟨Γ.B, Γ.env, Γ.W, (x, d) :: ρ, μ⟩, Γ.env, Γ.W, (x, d) :: ρ, μ⟩ : Cx).Ok s₄.heap := ok₄.rebase
  have hsub : ∀ b o, Γ.B.get? b = some o → (rest s₄.heap ⟨Γ.B, Γ.env, Γ.W, (x, d) :: ρ, μ⟩).get? b = some o := ok₄.rest_sub
  have hkeep : ∀ (s₅ : Shared) ρ' μ', (⟨rest s₄.heap ⟨Γ.B, Γ.env, Γ.W, (x, d) :: ρ, μ⟩, Γ.env, Γ.W, ρ', μ'⟩ : Cx).Ok s₅.heap → St (k + 1) s₅.heap := fun s₅ ρ' μ' ok₅ =>
    W.frame _ _ _ hst₄ fun b hb o e => ok₅.base b o (rest_get e (hfp b hb) (hO₄ b hb))
  by_cases hkm : k < m
  · refine hb _ k ρ μ d hsub hP hd hkm s₄ _ _ okR fun f s₅ as₅ r => ?_
    obtain ⟨rfl, ρ', μ', hP', ok₅⟩ := r
    exact ⟨m + 1 - (k + 1), by omega, k + 1, ρ', μ', rfl, hkm, (as'.trans as₄).trans as₅, hkeep s₅ ρ' μ' ok₅, hP', ok₅.unbase hsub⟩
  · have hkm : k = m := by omega
    subst hkm
    refine hbm _ ρ μ d hsub hP hd s₄ _ _ okR fun f s₅ as₅ r => ?_
    obtain ⟨rfl, ρ', μ', hP', ok₅⟩ := r
    exact h _ _ (((as₂.trans as').trans as₄).trans as₅) ⟨rfl, ρ', μ', hP', ok₅.unbase hsub⟩
end Mine

end
section
open PySem PySem.W PyProof.Rows PySem.Calls
set_option autoImplicit false
set_option linter.all false
set_option maxRecDepth 100000
namespace Mine
variable {prog : Program} {w : World} {A : Around} {Γ : Cx}

theorem k_sa (P : Params) : findIn (K39 P) (.ref 110) "__setattr__" = some (some (.builtin "object.__setattr__")) := by kernel_rfl
theorem k_po (P : Params) : plainOver (K39 P) 110 = true := by kernel_rfl
theorem k_tk (P : Params) : takerIn (K39 P) 110 "raw" = some none ∧ takerIn (K39 P) 110 "n" = some none ∧ takerIn (K39 P) 110 "nt" = some none ∧ takerIn (K39 P) 110 "norm" = some none ∧ takerIn (K39 P) 110 "is_simple" = some none :=
  ⟨by kernel_rfl, by kernel_rfl, by kernel_rfl, by kernel_rfl, by kernel_rfl⟩

theorem osa_raw {s : Shared} {x dx : Addr} {es : List DictEntry} {n : Nat} {name : Str} {tk : Tok} {v : Value} {R : Result → Shared → Prop} (X : (K39 w.params).In s.heap) (h1 : s.heap.get? x = some (instObj 110 dx)) (h2 : s.heap.get? dx = some (dictOf es n))
    (ht : takerIn (K39 w.params) 110 name = some none) (hl : (getL name es).isSome = true) (hz : (putL name (PyData.keyHash w.params name) (.str name s.toks) v es).length ≤ 1000)
    (h : ∀ h', Heap.SameBut dx s.heap h' → h'.get? dx = some (dictOf (putL name (PyData.keyHash w.params name) (.str name s.toks) v es) (putN name es n)) → R (.ok (.ret .none)) { s with heap := h', toks := s.toks + 1 }) :
    codeAny (model prog w) A (.call (.builtin "object.__setattr__") ⟨[.ref x, .str name tk, v], []⟩) R s := by
  refine osa_open X (objAt (O := []) h1 h2) (k_po _) ht fun b => ?_
  obtain ⟨cd, hc, hd'⟩ := any_some (show (clsIn (K39 w.params) 110).any (·.hasDict) = true from k_hd _)
  have D' : (s.heap.update dx (Obj.putName name (PyData.keyHash w.params name) (.str name s.toks) v)).get? dx = some (dictOf (putL name (PyData.keyHash w.params name) (.str name s.toks) v es) (putN name es n)) := by
    rw [← putName_dict]; exact Heap.get?_update_self _ h2 (by rw [putName_dict]; rfl)
  refine wpAny_bind (wpAny_pure (wpAny_bind (wpAny_bind (wpAny_loadPart h1 (wpAny_bind ((looks_clsIn X hc).here ?_))))))
  rw [hd']
  refine wpAny_pure (a := some dx) (wpAny_bind (wpAny_pure (wpAny_bind ?_)))
  unfold nsSet
  refine wpAny_bind (wpAny_bind (wpAny_askSetting (wpAny_pure (wpAny_bind (wpAny_mkText (wpAny_bind (wpAny_loadPart h2 ?_)))))))
  dsimp only
  have c : (!es.toArray.any (·.key.isStr name) && es.toArray.any (·.refKey)) = false := by
    rw [List.any_toArray, List.any_toArray]
    unfold getL at hl
    split at hl
    · rename_i en he
      rw [List.any_eq_true.mpr ⟨en, List.mem_of_find?_eq_some he, List.find?_some he⟩]; rfl
    · split at hl
      · cases hl
      · rename_i z; rw [Bool.not_eq_true] at z; rw [z, Bool.and_false]
  rw [aRefKeyMayBeTheName_at, c]
  refine wpAny_updatePart h2 ?_
  refine wpAny_bind (wpAny_lookBehind D' (pastItsLine_dict (by rw [List.size_toArray, sizeLine_eq]; omega)) ?_)
  exact wpAny_pure (h _ (Heap.SameBut.update _ _ _) D')

theorem notSeq_dict {es : List DictEntry} {n : Nat} (h : nsFind es.toArray "is_simple" = none) : ¬ isSeqObj (dictOf es n) := by
  rintro (⟨its, k, q⟩ | q | ⟨es', k, v, q, hf⟩)
  · cases q
  · cases q
  · cases q; rw [h] at hf; cases hf

theorem set_step {s : Shared} {x dx : Addr} {es : List DictEntry} {n : Nat} {attr : Str} {p1 p2 pos : Pos} {e : Expr} {d : PV} {Q : Flow → Shared → Prop} {E : Value → Shared → Prop} (t : TF w.params Γ.B) (ok : Γ.Ok s.heap) (hself : Γ.ρ.lookup ("self" : Str) = some (.ref x)) (he : Ev prog w A Γ e d)
    (h1 : s.heap.get? x = some (instObj 110 dx)) (h2 : s.heap.get? dx = some (dictOf es n)) (hsim : nsFind es.toArray "is_simple" = none) (hB : Γ.B.get? dx = none) (hdl : dx ≠ Γ.env.locals)
    (ht : takerIn (K39 w.params) 110 attr = some none) (hl : (getL attr es).isSome = true) (hz : ∀ tk v, (putL attr (PyData.keyHash w.params attr) (.str attr tk) v es).length ≤ 1000)
    (h : ∀ v tk s', As s s' → Γ.Ok s'.heap → s'.heap.get? x = some (instObj 110 dx) → s'.heap.get? dx = some (dictOf (putL attr (PyData.keyHash w.params attr) (.str attr tk) v es) (putN attr es n)) → Rep Γ.O s'.heap v d → (∀ O u d', Rep O s.heap u d' → Rep O s'.heap u d') → Q .next s')
    (hs : swapsWith e (some (.Attribute (.Name "self" p1) attr p2)) pos.line Γ.env = pure false := by rfl) :
    wpAny (model prog w) A (exec (.Assign [.Attribute (.Name "self" p1) attr p2] e pos) Γ.env) Q E s := by
  refine plainObj_wpAny_Assign_Attribute (he s _ _ ok fun v s₁ k₁ r₁ => (Ev.name hself) s₁ _ _ (ok.step k₁) fun ov s₂ k₂ r₂ => ?_) hs
  rw [r₂.ref_inv]
  have ok₂ := (ok.step k₁).step k₂
  have X := t.k.keeps ok₂.base
  have g1 := k₂.get _ _ (k₁.get _ _ h1)
  have g2 := k₂.get _ _ (k₁.get _ _ h2)
  refine set_plain X (objAt (O := []) g1 g2) (k_sa _) (osa_raw (s := { s₂ with toks := s₂.toks + 1 }) X g1 g2 ht hl (hz _ _) fun h' sb hd => ?_)
  have hns := notSeq_dict (n := n) hsim
  have ok' : Γ.Ok h' := ok₂.change fun b o hb e => (sb.2 b (by
    rintro rfl
    rcases hb with hb | ⟨o', hb⟩ | hb | ⟨y, hb⟩
    · rw [g2] at e; cases e; exact hns hb
    · rw [hB] at hb; cases hb
    · exact hdl hb
    · obtain ⟨u, o', e', hc⟩ := ok₂.fr.cl y b hb
      rw [g2] at e'; cases e'; cases hc)).trans e
  have hxd : x ≠ dx := by rintro rfl; rw [g1] at g2; cases g2
  have km : ∀ O u d', Rep O s₂.heap u d' → Rep O h' u d' := fun O u d' r => r.mono (fun _ x => x) fun b o _ hq e => (sb.2 b (by rintro rfl; rw [g2] at e; cases e; exact hns hq)).trans e
  have as : As s { s₂ with heap := h', toks := s₂.toks + 1 + 1 } := As.trans (As.trans k₁.as k₂.as) ⟨_, _, rfl⟩
  exact h v _ _ as ok' ((sb.2 x hxd).trans g1) hd (km _ _ _ (r₁.keeps k₂.get)) fun O u d' r => km O u d' ((r.keeps k₁.get).keeps k₂.get)

/-- Whitespace.S and Whitespace.T -/
noncomputable def strTok : Option CFound → Tok
  | some (.val (.str _ t)) => t
  | _ => 0
theorem k_rd (P : Params) : readsIn (K39 P) 110 (.type "type") = true := by kernel_rfl
theorem k_S (P : Params) : findCls (K39 P) (.ref 110) (.type "type") "S" = some (.val (.str " " (strTok (findCls (K39 P) (.ref 110) (.type "type") "S")))) := by kernel_rfl
theorem k_T (P : Params) : findCls (K39 P) (.ref 110) (.type "type") "T" = some (.val (.str "\t" (strTok (findCls (K39 P) (.ref 110) (.type "type") "T")))) := by kernel_rfl
theorem Ev.clsS {np pos : Pos} (t : TF w.params Γ.B) (hk : Γ.env.kindOf "Whitespace" = some .globalImplicit := by rfl) : Ev prog w A Γ (.Attribute (.Name "Whitespace" np) "S" pos) (.str " ") := fun s Q E ok k =>
  Attribute_name (wp_glob ok hk (gl_ws t) (cls_value (t.k.keeps ok.base) (k_rd _) (k_S _) rfl (k _ _ (Ext.toks _) (.str _ _))))
theorem Ev.clsT {np pos : Pos} (t : TF w.params Γ.B) (hk : Γ.env.kindOf "Whitespace" = some .globalImplicit := by rfl) : Ev prog w A Γ (.Attribute (.Name "Whitespace" np) "T" pos) (.str "\t") := fun s Q E ok k =>
  Attribute_name (wp_glob ok hk (gl_ws t) (cls_value (t.k.keeps ok.base) (k_rd _) (k_T _) rfl (k _ _ (Ext.toks _) (.str _ _))))

/-- self.raw, while the object is made -/
theorem Ev.raw {x dx : Addr} {es : List DictEntry} {n : Nat} {np pos : Pos} {v : Value} {d : PV} (t : TF w.params Γ.B) (hself : Γ.ρ.lookup ("self" : Str) = some (.ref x)) (h1 : Γ.B.get? x = some (instObj 110 dx)) (h2 : Γ.B.get? dx = some (dictOf es n)) (hl : getL "raw" es = some (some v)) (hr : ∀ O h, Rep O h v d) :
    Ev prog w A Γ (.Attribute (.Name "self" np) "raw" pos) d := fun s Q E ok k =>
  Attribute_name ((Ev.name hself) s _ _ ok fun u s₁ k₁ r₁ => by
    rw [r₁.ref_inv]
    have ok₁ := ok.step k₁
    exact get_value (t.k.keeps ok₁.base) (objAt (O := []) (ok₁.base _ _ h1) (ok₁.base _ _ h2)) (k_ga _) (findObj_own (k_hd _) (k_raw _) rfl hl) (rep_handed (hr Γ.O s.heap)) (k _ _ (k₁.trans (Ext.toks _)) (hr _ _)))
end Mine

end
section
open PySem PySem.W PyProof.Rows PySem.Calls
set_option autoImplicit false
set_option linter.all false
set_option maxRecDepth 100000
namespace Mine
variable {prog : Program} {w : World} {A : Around} {Γ : Cx}

/-- comes to d, of which nothing but flat data stood before -/
noncomputable def EvFr (prog : Program) (w : World) (A : Around) (Γ : Cx) (e : Expr) (d : PV) : Prop :=
  ∀ (s : Shared) (Q : Value → Shared → Prop) (E : Value → Shared → Prop), Γ.Ok s.heap → (∀ v s', Ext s s' → (∀ O : List Addr, (∀ b ∈ O, ∃ o, s.heap.get? b = some o) → Rep O s'.heap v d) → Q v s') → wpAny (model prog w) A (eval e Γ.env) Q E s
theorem EvFr.flat {e : Expr} {d : PV} (h : Ev prog w A Γ e d) (hf : d.flat = true) : EvFr prog w A Γ e d := fun s Q E ok k => h s Q E ok fun v s' x r => k v s' x fun O _ => r.of_flat hf
noncomputable def EvsFr (prog : Program) (w : World) (A : Around) (Γ : Cx) (es : List Expr) (ds : List PV) : Prop :=
  ∀ (s : Shared) (pos : Pos) (Q : List Value → Shared → Prop) (E : Value → Shared → Prop), Γ.Ok s.heap → (∀ vs s', Ext s s' → (∀ O : List Addr, (∀ b ∈ O, ∃ o, s.heap.get? b = some o) → Reps O s'.heap vs ds) → Q vs s') →
    wpAny (model prog w) A (spliced (backTo pos (starEach es Γ.env))) Q E s
theorem EvsFr.nil : EvsFr prog w A Γ [] [] := fun s pos Q E _ h => wpAny_items_nil (h _ _ (Ext.refl _) fun _ _ => Reps.nil)
theorem EvsFr.cons {e : Expr} {es : List Expr} {d : PV} {ds : List PV} (h1 : EvFr prog w A Γ e d) (h2 : EvsFr prog w A Γ es ds) (he : starEach (e :: es) Γ.env = (false, eval e Γ.env) :: starEach es Γ.env := by rfl) :
    EvsFr prog w A Γ (e :: es) (d :: ds) := fun s pos Q E ok h =>
  wpAny_items_cons (h1 s _ _ ok fun v s₁ k₁ r₁ => h2 s₁ pos _ _ (ok.step k₁) fun vs s₂ k₂ rs => h _ _ (k₁.trans k₂) fun O hO => Reps.cons ((r₁ O hO).keeps k₂.get) (rs O fun b hb => let ⟨o, e⟩ := hO b hb; ⟨o, k₁.get _ _ e⟩)) he
theorem not_old {h : Heap} {O : List Addr} (hO : ∀ b ∈ O, ∃ o, h.get? b = some o) {a : Addr} (ha : h.get? a = none) : a ∉ O := fun q => by
  obtain ⟨o, e⟩ := hO a q; rw [ha] at e; cases e
theorem EvFr.tup {es : List Expr} {k : Nat} {pos : Pos} {ds : List PV} (h1 : EvsFr prog w A Γ es ds) (hz : ds.length ≤ sizeLine := by first | decide | simp [sizeLine]) : EvFr prog w A Γ (.Tuple es k pos) (.tup ds) := fun s Q E ok h =>
  wpAny_Tuple (h1 s pos _ _ ok fun vs s₁ k₁ rs => ⟨by rw [(rs [] (fun b hb => absurd hb List.not_mem_nil)).len]; exact hz, h _ _ (k₁.trans (Ext.push _ _)) fun O hO =>
    Rep.mkTup (not_old (h := s₁.heap) (fun b hb => let ⟨o, e⟩ := hO b hb; ⟨o, k₁.get _ _ e⟩) (get?_size _)) (isTuple_push _ _) ((rs O hO).keeps fun _ _ e => Heap.get?_push_of_some _ e)⟩)
/-- tuple(x) of a list of ints that the frame may turn -/
theorem EvFr.tupleOwn {x : Str} {f : Str} {p p' pos : Pos} {a : Addr} {ns : List Int} (hg : GlobV Γ.B f (.type "tuple")) (hx : Γ.ρ.lookup x = some (.ref a)) (hm : (a, ns.map PV.int) ∈ Γ.μ) (hz : ns.length ≤ sizeLine) (hk : Γ.env.kindOf f = some .globalImplicit := by rfl)
    (he : starEach [.Name x p'] Γ.env = (false, eval (.Name x p') Γ.env) :: starEach [] Γ.env := by rfl) (hd : (f == ("__debug__" : Str)) = false := by decide) (hd' : (x == ("__debug__" : Str)) = false := by decide) (hn' : (x == ("__classdict__" : Str)) = false := by decide) :
    EvFr prog w A Γ (.Call (.Name f p) [.Name x p'] [] pos) (.tup (ns.map .int)) := fun s Q E ok h => by
  rw [eval_CallName]
  refine wpAny_bind (wp_glob ok hk hg ?_ hd)
  refine PyProof.Rows.callWith_type1 ((Evs.cons (Ev.name hx hd' hn') Evs.nil) s pos _ _ ok fun vs s₁ k₁ rs => ?_) he rfl
  obtain ⟨v, rfl, r⟩ := reps1 rs
  rw [r.ref_inv]
  have ok₁ := ok.step k₁
  obtain ⟨us, hl, hr⟩ := ok₁.mem a _ hm
  refine call_tuple_list (plain_isList hl) (fun h' hk' => ?_) (by rw [List.size_toArray, hr.len]; simpa using hz)
  have x : Ext s₁ { s₁ with heap := h'.push { cls := .type "tuple", data := .seq us.toArray } } := ⟨⟨_, _, rfl⟩, fun b o e => Heap.get?_push_of_some _ (hk' b o e)⟩
  refine h _ _ (k₁.trans x) fun O hO => Rep.mkTup (not_old (h := h') (fun b hb => let ⟨o, e⟩ := hO b hb; ⟨o, hk' _ _ (k₁.get _ _ e)⟩) (get?_size _)) (isTuple_push _ _) (of_ints (ints_of hr))

theorem S_assign3 {x y z : Str} {px py pz pos : Pos} {e : Expr} {d : PV} (h1 : Ev prog w A Γ e d) (hf : d.flat = true := by rfl) (hx : storable Γ.env Γ.W x = true := by rfl) (hy : storable Γ.env Γ.W y = true := by rfl) (hz : storable Γ.env Γ.W z = true := by rfl)
    (he : (assignEach [.Name x px, .Name y py, .Name z pz] Γ.env).map (·.2) = [assign (.Name x px) Γ.env, assign (.Name y py) Γ.env, assign (.Name z pz) Γ.env] := by rfl)
    (hw : swappedStores [.Name x px, .Name y py, .Name z pz] e Γ.env = pure none := by rfl) :
    S prog w A Γ (.Assign [.Name x px, .Name y py, .Name z pz] e pos) (Nx (((Γ.set x d).set y d).set z d)) := fun s Q E ok h =>
  wpAny_Assign_three (h1 s _ _ ok fun v s₁ k₁ r₁ => wpAny_assign_Name (wp_store (ok.step k₁) r₁ hx fun s₂ ok₂ kp₂ =>
    wpAny_assign_Name (wp_store (Γ := Γ.set x d) ok₂ (r₁.of_flat hf) hy fun s₃ ok₃ kp₃ => wpAny_assign_Name (wp_store (Γ := (Γ.set x d).set y d) ok₃ (r₁.of_flat hf) hz fun s₄ ok₄ kp₄ =>
      h _ _ (Kp.trans rfl rfl rfl k₁.kp (Kp.trans (Γ' := Γ.set x d) rfl rfl rfl kp₂.kp (Kp.trans (Γ := Γ.set x d) (Γ' := (Γ.set x d).set y d) rfl rfl rfl kp₃.kp kp₄.kp))) ⟨rfl, ok₄⟩)))) he hw

theorem set_fr {s : Shared} {x dx : Addr} {es : List DictEntry} {n : Nat} {attr : Str} {p1 p2 pos : Pos} {e : Expr} {d : PV} {Q : Flow → Shared → Prop} {E : Value → Shared → Prop} (t : TF w.params Γ.B) (ok : Γ.Ok s.heap) (hself : Γ.ρ.lookup ("self" : Str) = some (.ref x)) (he : EvFr prog w A Γ e d)
    (h1 : s.heap.get? x = some (instObj 110 dx)) (h2 : s.heap.get? dx = some (dictOf es n)) (hsim : nsFind es.toArray "is_simple" = none) (hB : Γ.B.get? dx = none) (hdl : dx ≠ Γ.env.locals)
    (ht : takerIn (K39 w.params) 110 attr = some none) (hl : (getL attr es).isSome = true) (hz : ∀ tk v, (putL attr (PyData.keyHash w.params attr) (.str attr tk) v es).length ≤ 1000)
    (h : ∀ v tk s', As s s' → Γ.Ok s'.heap → s'.heap.get? x = some (instObj 110 dx) → s'.heap.get? dx = some (dictOf (putL attr (PyData.keyHash w.params attr) (.str attr tk) v es) (putN attr es n)) →
      (∀ O : List Addr, (∀ b ∈ O, ∃ o, s.heap.get? b = some o) → Rep O s'.heap v d) → (∀ O u d', Rep O s.heap u d' → Rep O s'.heap u d') → Q .next s')
    (hs : swapsWith e (some (.Attribute (.Name "self" p1) attr p2)) pos.line Γ.env = pure false := by rfl) :
    wpAny (model prog w) A (exec (.Assign [.Attribute (.Name "self" p1) attr p2] e pos) Γ.env) Q E s := by
  refine plainObj_wpAny_Assign_Attribute (he s _ _ ok fun v s₁ k₁ r₁ => (Ev.name hself) s₁ _ _ (ok.step k₁) fun ov s₂ k₂ r₂ => ?_) hs
  rw [r₂.ref_inv]
  have ok₂ := (ok.step k₁).step k₂
  have X := t.k.keeps ok₂.base
  have g1 := k₂.get _ _ (k₁.get _ _ h1)
  have g2 := k₂.get _ _ (k₁.get _ _ h2)
  refine set_plain X (objAt (O := []) g1 g2) (k_sa _) (osa_raw (s := { s₂ with toks := s₂.toks + 1 }) X g1 g2 ht hl (hz _ _) fun h' sb hd => ?_)
  have hns := notSeq_dict (n := n) hsim
  have ok' : Γ.Ok h' := ok₂.change fun b o hb e => (sb.2 b (by
    rintro rfl
    rcases hb with hb | ⟨o', hb⟩ | hb | ⟨y, hb⟩
    · rw [g2] at e; cases e; exact hns hb
    · rw [hB] at hb; cases hb
    · exact hdl hb
    · obtain ⟨u, o', e', hc⟩ := ok₂.fr.cl y b hb
      rw [g2] at e'; cases e'; cases hc)).trans e
  have hxd : x ≠ dx := by rintro rfl; rw [g1] at g2; cases g2
  have km : ∀ O u d', Rep O s₂.heap u d' → Rep O h' u d' := fun O u d' r => r.mono (fun _ x => x) fun b o _ hq e => (sb.2 b (by rintro rfl; rw [g2] at e; cases e; exact hns hq)).trans e
  have as : As s { s₂ with heap := h', toks := s₂.toks + 1 + 1 } := As.trans (As.trans k₁.as k₂.as) ⟨_, _, rfl⟩
  exact h v _ _ as ok' ((sb.2 x hxd).trans g1) hd (fun O hO => km _ _ _ ((r₁ O hO).keeps k₂.get)) fun O u d' r => km O u d' ((r.keeps k₁.get).keeps k₂.get)
end Mine

end
section
open PySem PySem.W PyProof.Rows PySem.Calls
set_option autoImplicit false
set_option linter.all false
set_option maxRecDepth 100000
namespace Mine
variable {prog : Program} {w : World} {A : Around} {Γ : Cx}

noncomputable def Ws.pad (q : Ws) : List Int := if q.c.length ≤ q.b then q.c ++ List.replicate (q.b - q.c.length + 1) 0 else q.c
noncomputable def Ws.tab (q : Ws) : Ws := ⟨q.pad.set q.b (q.pad.getD q.b 0 + 1), 0, q.n + 1, q.nt + 1⟩
noncomputable def Ws.spc (q : Ws) : Ws := ⟨q.c, q.b + 1, q.n + 1, q.nt⟩
noncomputable def Ws.step (q : Ws) (ch : Nat) : Ws := if ch = 32 then q.spc else q.tab
noncomputable def Ws.scan (l : List Nat) : Ws := l.foldl Ws.step ⟨[], 0, 0, 0⟩
structure Ws.Fit (q : Ws) (k : Nat) : Prop where
  n : q.n = k
  b : q.b ≤ k
  nt : q.nt ≤ k
  c : q.c.length ≤ k
theorem Ws.pad_len (q : Ws) : q.b < q.pad.length ∧ q.pad.length ≤ max q.c.length (q.b + 1) := by
  unfold Ws.pad
  by_cases h : q.c.length ≤ q.b
  · rw [if_pos h]; simp; omega
  · rw [if_neg h]; omega
theorem Ws.Fit.step {q : Ws} {k ch : Nat} (h : q.Fit k) : (q.step ch).Fit (k + 1) := by
  obtain ⟨h1, h2, h3, h4⟩ := h
  have := q.pad_len
  unfold Ws.step
  split
  · exact ⟨by simp [Ws.spc, h1], by simp [Ws.spc, h2], by simp [Ws.spc]; omega, by simp [Ws.spc]; omega⟩
  · exact ⟨by simp [Ws.tab, h1], by simp [Ws.tab], by simp [Ws.tab, h3], by simp [Ws.tab]; omega⟩
theorem scan_fit (l : List Nat) : (Ws.scan l).Fit l.length := by
  have key : ∀ (l : List Nat) (q : Ws) k, q.Fit k → (l.foldl Ws.step q).Fit (k + l.length) := by
    intro l
    induction l with
    | nil => intro q k h; exact h
    | cons c l ih => intro q k h; rw [List.foldl_cons, List.length_cons, show k + (l.length + 1) = (k + 1) + l.length by omega]; exact ih _ _ h.step
  have := key l ⟨[], 0, 0, 0⟩ 0 ⟨rfl, Nat.le_refl _, Nat.le_refl _, Nat.le_refl _⟩
  rw [Nat.zero_add] at this; exact this
theorem scan_ok {l : List Nat} (h : l.length ≤ 64) : (Ws.scan l).Ok := by
  obtain ⟨h1, h2, h3, h4⟩ := scan_fit l
  exact ⟨by omega, by omega, by omega, by omega⟩
theorem scan_take {l : List Nat} {k c : Nat} (h : l[k]? = some c) : Ws.scan (l.take (k + 1)) = (Ws.scan (l.take k)).step c := by
  unfold Ws.scan
  rw [List.take_add_one, h, List.foldl_append]; rfl

theorem fun_init {P : Params} {h : Heap} (t : TF P h) : ∃ doc pm an cdv ct, Fun h 65 (fdAt (inCls 1 (topAt 6)) "Whitespace.__init__" .none .none doc pm an cdv ct) := by
  have e : fdK P 65 = fdAt (inCls 1 (topAt 6)) "Whitespace.__init__" .none .none (fdK P 65).doc (fdK P 65).pyModule (fdK P 65).annotations (fdK P 65).code (fdK P 65).closureTuple := by kernel_rfl
  exact ⟨_, _, _, _, _, e ▸ t.fn 65 (by kernel_rfl) (by kernel_rfl)⟩

/-- the frame of __init__ while it counts -/
noncomputable abbrev inρ (x : Addr) (row : Str) (a : Addr) (q : Ws) : List (Str × PV) :=
  [("self", .ref x), ("ws", .str row), ("S", .str " "), ("T", .str "\t"), ("count", .ref a), ("b", .int q.b), ("n", .int q.n), ("nt", .int q.nt)]

theorem spc_str : (⟨#[32]⟩ : Str) = " " := by decide
theorem tab_str : (⟨#[9]⟩ : Str) = "\t" := by decide
theorem str_ne_spc {c : Nat} (h : c ≠ 32) : (⟨#[c]⟩ : Str) ≠ " " := fun q => h (by
  have : (⟨#[c]⟩ : Str) = ⟨#[32]⟩ := q.trans spc_str.symm
  injection this with this
  simpa using this)
theorem str_ne_tab {c : Nat} (h : c ≠ 9) : (⟨#[c]⟩ : Str) ≠ "\t" := fun q => h (by
  have : (⟨#[c]⟩ : Str) = ⟨#[9]⟩ := q.trans tab_str.symm
  injection this with this
  simpa using this)


theorem S0_assignNew {x : Str} {p pos : Pos} {e : Expr} {ds : List PV} (h1 : EvN prog w A Γ e ds)
    (hx : storable Γ.env Γ.W x = true := by rfl) (hs : swapsWith e (some (.Name x p)) pos.line Γ.env = pure false := by rfl) : S0 prog w A Γ (.Assign [.Name x p] e pos) (fun f s' => f = .next ∧ ∃ a, ((Γ.own a ds).set x (.ref a)).Ok s'.heap) := fun s Q E ok k =>
  wpAny_Assign_Name (h1 s _ _ ok fun a vs s₁ k₁ ha hl hr => by
    have ok₁ : (Γ.own a ds).Ok s₁.heap := ok.thaw k₁.get ha hl hr
    refine wp_store (Γ := Γ.own a ds) ok₁ (.ref a) hx fun s' ok' kps => ?_
    exact k _ s' (As.trans k₁.as kps.as) ⟨rfl, a, ok'⟩) hs

theorem sub8 {x a : Addr} {row : Str} {q : Ws} {ρ : List (Str × PV)} (h1 : ρ.lookup ("self" : Str) = some (.ref x)) (h2 : ρ.lookup ("ws" : Str) = some (.str row)) (h3 : ρ.lookup ("S" : Str) = some (.str " ")) (h4 : ρ.lookup ("T" : Str) = some (.str "\t"))
    (h5 : ρ.lookup ("count" : Str) = some (.ref a)) (h6 : ρ.lookup ("b" : Str) = some (.int q.b)) (h7 : ρ.lookup ("n" : Str) = some (.int q.n)) (h8 : ρ.lookup ("nt" : Str) = some (.int q.nt)) : Sub (inρ x row a q) ρ :=
  Sub.cons h1 (Sub.cons h2 (Sub.cons h3 (Sub.cons h4 (Sub.cons h5 (Sub.cons h6 (Sub.cons h7 (Sub.cons h8 Sub.nil)))))))

theorem getD_map_int (c : List Int) {i : Nat} (h : i < c.length) : (c.map PV.int)[i]? = some (.int (c.getD i 0)) := by simp [h]

theorem k_makes (P : Params) : makesIn (K39 P) 110 = true := by kernel_rfl
theorem k_init (P : Params) : findIn (K39 P) (.ref 110) "__init__" = some (some (.ref 65)) := by kernel_rfl
theorem k_initT (P : Params) : typeIn (K39 P) (.ref 65) = some (.type "function") := by kernel_rfl

theorem AOk.in1 {n : Nat} (h : AOk (n + 1) A) : AOk n A.in1 := by
  obtain ⟨h1, h2, h3⟩ := h
  exact ⟨h1, by show A.depth + n < _; omega, by show A.units + 1 + 8 * n + 200 < cLine; omega⟩


noncomputable abbrev envI (doc pm : Value) (an : Option Addr) (cdv ct : Value) (L : Addr) : Env := callEnv (fdAt (inCls 1 (topAt 6)) "Whitespace.__init__" Value.none Value.none doc pm an cdv ct) L 65

theorem init_mid {B1 : Heap} {doc pm : Value} {an : Option Addr} {cdv ct : Value} {L x dx : Addr} {row : Str} {es : List DictEntry} {n : Nat} {tr : Tok} {l sg : List Nat} {g : Nat} {rest : List Stmt} {s₁ : Shared} {Q : Flow → Shared → Prop} {E : Value → Shared → Prop} (hAd : AOk 0 A)
    (hrow : row.cps.toList = l ++ g :: sg) (hl : ∀ c ∈ l, c = 32 ∨ c = 9) (hlen : l.length ≤ 60) (hg : g ≠ 32) (hg' : g ≠ 9)
    (t1 : TF w.params B1) (gx : B1.get? x = some (instObj 110 dx)) (gd : B1.get? dx = some (dictOf es n)) (hraw : getL "raw" es = some (some (.str row tr)))
    (ok : (⟨B1, envI doc pm an cdv ct L, [], [("self", .ref x), ("ws", .str row)], []⟩ : Cx).Ok s₁.heap)
    (h : ∀ a s', As s₁ s' → (⟨B1, envI doc pm an cdv ct L, [], inρ x row a (Ws.scan l), [(a, (Ws.scan l).c.map PV.int)]⟩ : Cx).Ok s'.heap → wpAny (model prog w) A (execs rest (envI doc pm an cdv ct L)) Q E s') :
    wpAny (model prog w) A (execs (((bodyOf (inCls 1 (topAt 6))).drop 1).take 4 ++ rest) (envI doc pm an cdv ct L)) Q E s₁ := by
  conv => arg 3; arg 1; whnf
  refine wpAny_execs_cons ((S0.of (Γ := ⟨B1, envI doc pm an cdv ct L, [], [("self", .ref x), ("ws", .str row)], []⟩) (S.unpackSw ["S", "T"] hAd.1 (Ev.tup (Evs.cons (Ev.clsS t1) (Evs.cons (Ev.clsT t1) Evs.nil))))) s₁ _ _ ok fun f s₂ as₂ r₂ => ?_)
  obtain ⟨rfl, ok₂⟩ := r₂
  refine wpAny_execs_cons ((S0_assignNew (Γ := (⟨B1, envI doc pm an cdv ct L, [], [("self", .ref x), ("ws", .str row)], []⟩ : Cx).sets ["T", "S"] [.str "\t", .str " "]) EvN.nil) s₂ _ _ ok₂ fun f s₃ as₃ r₃ => ?_)
  obtain ⟨rfl, a, ok₃⟩ := r₃
  have ok₃ := ok₃.to (ρ' := [("self", .ref x), ("ws", .str row), ("S", .str " "), ("T", .str "\t"), ("count", .ref a)]) (Sub.cons rfl (Sub.cons rfl (Sub.cons rfl (Sub.cons rfl (Sub.cons rfl Sub.nil)))))
  refine wpAny_execs_cons ((S0.of (Γ := ⟨B1, envI doc pm an cdv ct L, [], [("self", .ref x), ("ws", .str row), ("S", .str " "), ("T", .str "\t"), ("count", .ref a)], [(a, [])]⟩) (S_assign3 Ev.int)) s₃ _ _ ok₃ fun f s₄ as₄ r₄ => ?_)
  obtain ⟨rfl, ok₄⟩ := r₄
  have ok₄ := ok₄.to (sub8 (x := x) (a := a) (row := row) (q := ⟨[], 0, 0, 0⟩) rfl rfl rfl rfl rfl rfl rfl rfl)
  have ok₄ : (⟨B1, envI doc pm an cdv ct L, [], inρ x row a ⟨[], 0, 0, 0⟩, [(a, [])]⟩ : Cx).Ok s₄.heap := ok₄
  have hcl : (chrs row).length = l.length + (sg.length + 1) := by simp [chrs, hrow]
  have hch : ∀ (k : Nat) d, (chrs row)[k]? = some d → ∃ c, (l ++ g :: sg)[k]? = some c ∧ d = .str ⟨#[c]⟩ := fun k d hd => by
    unfold chrs at hd
    rw [List.getElem?_map, hrow] at hd
    obtain ⟨c, hc, rfl⟩ := Option.map_eq_some_iff.mp hd
    exact ⟨c, hc, rfl⟩
  refine wpAny_execs_cons ((S0.forG (Γ := ⟨B1, envI doc pm an cdv ct L, [], inρ x row a ⟨[], 0, 0, 0⟩, [(a, [])]⟩) (fun k ρ μ => ∃ a, ρ = inρ x row a (Ws.scan (l.take k)) ∧ μ = [(a, (Ws.scan (l.take k)).c.map PV.int)]) l.length (by rw [hcl]; omega) ⟨a, rfl, rfl⟩
    (ItrW.str hAd.1 (Ev.raw t1 rfl gx gd hraw fun _ _ => .str _ _)) ?_ ?_) s₄ _ _ ok₄ fun f s₅ as₅ r₅ => ?_)
  · rintro B k ρ μ d hsub ⟨a, rfl, rfl⟩ hd hk
    obtain ⟨c, hc, rfl⟩ := hch k d hd
    rw [List.getElem?_append_left hk] at hc
    rw [scan_take hc]
    have hfit := scan_fit (l.take k)
    have hlk : (l.take k).length ≤ 60 := by rw [List.length_take]; omega
    generalize Ws.scan (l.take k) = q at hfit ⊢
    obtain ⟨hf1, hf2, hf3, hf4⟩ := hfit
    have tB : TF w.params B := t1.keeps hsub
    refine X0.one (S0.ifs (Tr.cmp (Ev.name rfl) (Ev.name rfl) COp.eqs) (fun hq => ?_) (fun hq => ?_))
    · have hq : (⟨#[c]⟩ : Str) = " " := by simpa using hq
      have hc32 : c = 32 := by
        by_cases h : c = 32
        · exact h
        · exact absurd hq (str_ne_spc h)
      subst hc32
      refine X0.step (S.assign (d := .int ((q.n : Int) + 1)) (Ev.bin (Ev.name rfl) Ev.int BOp.add)) (X0.step (S.assign (d := .int ((q.b : Int) + 1)) (Ev.bin (Ev.name rfl) Ev.int BOp.add)) (X0.nil fun s' ok' => ⟨rfl, inρ x row a (q.step 32), _, ⟨a, rfl, rfl⟩, ?_⟩))
      exact ok'.to (sub8 rfl rfl rfl rfl rfl rfl rfl rfl)
    · have hq : ¬ (⟨#[c]⟩ : Str) = " " := by simpa using hq
      have hc9 : c = 9 := by
        rcases hl c (List.mem_of_getElem? hc) with rfl | h
        · exact absurd spc_str hq
        · exact h
      subst hc9
      refine X0.one (S0.ifs (Tr.cmp (Ev.name rfl) (Ev.name rfl) COp.eqs) (fun hq2 => ?_) (fun hq2 => ?_))
      · have hpl := q.pad_len
        refine X0.step (S.assign (d := .int ((q.n : Int) + 1)) (Ev.bin (Ev.name rfl) Ev.int BOp.add)) (X0.step (S.assign (d := .int ((q.nt : Int) + 1)) (Ev.bin (Ev.name rfl) Ev.int BOp.add)) ?_)
        refine X0.to (inρ x row a ⟨q.c, q.b, q.n + 1, q.nt + 1⟩) (sub8 rfl rfl rfl rfl rfl rfl rfl rfl) ?_
        have hcm : (q.c.map PV.int).length = q.c.length := by simp
        refine X0.cons (R₁ := fun f s' => f = .next ∧ ∃ a', (⟨B, envI doc pm an cdv ct L, [], inρ x row a' ⟨q.c, q.b, q.n + 1, q.nt + 1⟩, [(a', q.pad.map PV.int)]⟩ : Cx).Ok s'.heap)
          (S0.ifs (Tr.cmp (Ev.name rfl) (Ev.bcall (gl_len tB) (Evs.cons (Ev.name rfl) Evs.nil) (BCall.lenOwn (a := a) (List.mem_singleton.mpr rfl) (by rw [hcm]; omega))) COp.ge) (fun hge => ?_) (fun hge => ?_)) (fun s' r => ?_) (fun f s' hf r => absurd r.1 hf)
        · have hge : q.c.length ≤ q.b := by simpa using hge
          refine X0.one (fun s Q E ok k => (S0_assignNew (EvN.add (LV.own (a := a) (Ev.name rfl) (List.mem_singleton.mpr rfl)) (LV.of (EvN.mulOne (d := .int 0) (k := (q.b : Int) - (q.c.map PV.int).length + 1) (Ev.list (Evs.cons Ev.int Evs.nil)) (Ev.bin (Ev.bin (Ev.name rfl) (Ev.bcall (gl_len tB) (Evs.cons (Ev.name rfl) Evs.nil) (BCall.lenOwn (a := a) (List.mem_singleton.mpr rfl) (by rw [hcm]; omega))) BOp.sub) Ev.int BOp.add) (by rw [hcm]; omega) (by rw [hcm]; omega) rfl).ev) (by simp [sizeLine]; omega))) s Q E ok fun f s' as r => k f s' as ?_)
          obtain ⟨rfl, a', ok'⟩ := r
          refine ⟨rfl, a', ?_⟩
          have hpad : q.c.map PV.int ++ List.replicate ((q.b : Int) - (q.c.map PV.int).length + 1).toNat (PV.int 0) = q.pad.map PV.int := by
            unfold Ws.pad
            rw [if_pos hge, List.map_append, List.map_replicate, hcm]
            congr 2
            omega
          rw [hpad] at ok'
          have ok2 := ok'.freeze (μ₁ := []) (μ₂ := [(a', q.pad.map PV.int)]) (a := a) (ds := q.c.map PV.int) (ρ' := inρ x row a' ⟨q.c, q.b, q.n + 1, q.nt + 1⟩) rfl fun y d e => .inl ((sub8 (a := a') (q := ⟨q.c, q.b, q.n + 1, q.nt + 1⟩) (x := x) (row := row) rfl rfl rfl rfl rfl rfl rfl rfl) _ (PySem.mem_of_lookup e))
          exact ok2
        · have hge : ¬ q.c.length ≤ q.b := by simpa using hge
          refine X0.nil fun s' ok' => ⟨rfl, a, ?_⟩
          have hpad : q.pad = q.c := by unfold Ws.pad; rw [if_neg hge]
          rw [hpad]; exact ok'
        · obtain ⟨_, a', ok'⟩ := r
          refine ⟨⟨B, envI doc pm an cdv ct L, [], inρ x row a' ⟨q.c, q.b, q.n + 1, q.nt + 1⟩, [(a', q.pad.map PV.int)]⟩, rfl, ok', ?_⟩
          have hpm : (q.pad.map PV.int).length = q.pad.length := by simp
          refine X0.step (S.setitem (k := q.b) (d := .int (q.pad.getD q.b 0 + 1)) 0 (Ev.name rfl) (Ev.name rfl) (Ev.bin (Ev.idx (k := (q.b : Int)) (d := .int (q.pad.getD q.b 0)) (LV.own (a := a') (Ev.name rfl) (List.mem_singleton.mpr rfl)) (Ev.name rfl) (by rw [pyIdx_nat]; exact getD_map_int _ hpl.1) (by omega)) Ev.int BOp.add) (by rw [hpm]; exact hpl.1) rfl (by rw [hpm]; omega)) ?_
          refine X0.step (S.assign Ev.int) (X0.nil fun s'' ok'' => ⟨rfl, inρ x row a' (q.step 9), _, ⟨a', rfl, rfl⟩, ?_⟩)
          have ok3 := ok''.to (sub8 (a := a') (q := q.step 9) (x := x) (row := row) rfl rfl rfl rfl rfl rfl rfl rfl)
          have e1 : (q.step 9).c.map PV.int = (q.pad.map PV.int).set q.b (.int (q.pad.getD q.b 0 + 1)) := by
            show (q.pad.set q.b _).map PV.int = _
            rw [List.map_set]
          rw [e1]; exact ok3
      · exact absurd tab_str (by simpa using hq2)
  · rintro B ρ μ d hsub ⟨a, rfl, rfl⟩ hd
    obtain ⟨c, hc, rfl⟩ := hch _ d hd
    have hcg : c = g := by
      rw [List.getElem?_append_right (Nat.le_refl _)] at hc
      simpa using hc.symm
    subst hcg
    refine X0.one (S0.ifs (Tr.cmp (Ev.name rfl) (Ev.name rfl) COp.eqs) (fun hq => ?_) (fun _ => ?_))
    · exact absurd (by simpa using hq) (str_ne_spc hg)
    refine X0.one (S0.ifs (Tr.cmp (Ev.name rfl) (Ev.name rfl) COp.eqs) (fun hq => ?_) (fun _ => ?_))
    · exact absurd (by simpa using hq) (str_ne_tab hg')
    refine X0.of (X.brk fun s' ok' => ⟨rfl, _, _, ⟨a, rfl, rfl⟩, ?_⟩)
    exact ok'.to (sub8 rfl rfl rfl rfl rfl rfl rfl rfl)
  · obtain ⟨rfl, ρ', μ', ⟨a', rfl, rfl⟩, ok₅⟩ := r₅
    rw [List.take_length] at ok₅
    exact h a' s₅ (((as₂.trans as₃).trans as₄).trans as₅) ok₅
end Mine

end
section
open PySem PySem.W PyProof.Rows PySem.Calls
set_option autoImplicit false
set_option linter.all false
set_option maxRecDepth 100000
namespace Mine
variable {prog : Program} {w : World} {A : Around} {Γ : Cx}

noncomputable def ist (k : Nat) : Stmt := (bodyOf (inCls 1 (topAt 6))).getD k (.Pass ⟨0, 0, 0, 0⟩)
theorem init_split : bodyOf (inCls 1 (topAt 6)) = ist 0 :: (((bodyOf (inCls 1 (topAt 6))).drop 1).take 4 ++ [ist 5, ist 6, ist 7, ist 8]) := by kernel_rfl

set_option maxHeartbeats 1000000 in
theorem ws_new {l : List Nat} {g : Nat} {sg : List Nat} {row : Str} (hrow : row.cps.toList = l ++ g :: sg) (hl : ∀ c ∈ l, c = 32 ∨ c = 9) (hlen : l.length ≤ 60) (hg : g ≠ 32) (hg' : g ≠ 9) {s : Shared} {v : Value} {R : Result → Shared → Prop}
    (hA : AOk 2 A) (t : TF w.params s.heap) (r : Rep [] s.heap v (.str row)) (hR : ∀ v' s', Ext s s' → (∀ O : List Addr, (∀ b ∈ O, ∃ o, s.heap.get? b = some o) → Rep O s'.heap v' (.obj (Ws.scan l).fs)) → R (.ok (.ret v')) s') :
    codeAny (model prog w) A (.call (.ref 110) ⟨[v], []⟩) R s := by
  obtain ⟨tk, rfl⟩ := r.str_inv
  obtain ⟨hh, gg, dd, tt, os⟩ := s
  dsimp only at t hR
  refine make_core (C := 110) (makes_of t.k (k_makes _)) (looks_findIn t.k (k_init _)) (fun self => bind_fn t.k self (k_initT _)) (.inl rfl) ?_
  have hw : (Code.builtin "type.__call__" ⟨[.ref 110, .str row tk], []⟩).weight = 1 := by kernel_rfl
  have hu : (Code.builtin "type.__call__" ⟨[.ref 110, .str row tk], []⟩).cUnits = 1 := by kernel_rfl
  have hA1 : AOk 1 (A.under (.builtin "type.__call__" ⟨[.ref 110, .str row tk], []⟩)) := by
    obtain ⟨a1, a2, a3⟩ := hA
    refine ⟨a1, ?_, ?_⟩
    · show A.depth + _ + 1 < _; rw [hw]; omega
    · show A.units + _ + 8 * 1 + 200 < _; rw [hu]; omega
  generalize A.under (.builtin "type.__call__" ⟨[.ref 110, .str row tk], []⟩) = A1 at hA1 ⊢
  generalize hX : hh.objs.size + 1 = x
  generalize hD : hh.objs.size = dx
  have hX : dx + 1 = x := by rw [← hD]; exact hX
  generalize hH : (hh.push emptyDict).push (instObj 110 dx) = H
  have kH : ∀ b o, hh.get? b = some o → H.get? b = some o := fun b o e => hH ▸ Heap.get?_push_of_some _ (Heap.get?_push_of_some _ e)
  have t0 : TF w.params H := t.keeps kH
  have gx : H.get? x = some (instObj 110 dx) := by rw [← hH, ← hX, show dx + 1 = (hh.push emptyDict).objs.size by rw [Heap.size_push, hD]]; exact Heap.get?_push_size _ rfl
  have gd : H.get? dx = some (dictOf [] 0) := by rw [← hH, ← hD]; exact Heap.get?_push_of_some _ (Heap.get?_push_size _ rfl)
  have hHs : H.objs.size = hh.objs.size + 2 := by rw [← hH, Heap.size_push, Heap.size_push]
  have hnx : hh.get? x = none := by
    cases e : hh.get? x with
    | none => rfl
    | some o => exact absurd (Heap.lt_size e) (by rw [hD, ← hX]; exact Nat.not_lt.mpr (Nat.le_succ _))
  have hnd : hh.get? dx = none := by rw [← hD]; exact get?_size _
  obtain ⟨doc, pm, an, cdv, ct, hf⟩ := fun_init t0
  obtain ⟨o, ho, hdat⟩ := hf.at'
  have hcell : ∀ y ∈ (scopeOf (inCls 1 (topAt 6))).names, y.2 ≠ .cell := by decide
  have hloc : ∀ y ∈ [(("self" : Str), Value.ref x), ("ws", .str row tk)], (scopeOf (inCls 1 (topAt 6))).names.lookup y.1 = some .local := by
    intro y hy
    simp only [List.mem_cons, List.not_mem_nil, or_false] at hy
    rcases hy with rfl | rfl <;> rfl
  refine codeAny_call_def (s := ⟨H, gg, dd, tt, os⟩) (binds := [("self", .ref x), ("ws", .str row tk)]) hA1.room ho hdat t0.lim hf.code (body := bodyOf (inCls 1 (topAt 6))) rfl (BindsTo.of_eq rfl) hcell hloc (fun h₀ hns hkp => ?_) rfl rfl rfl
  have hAd : AOk 0 (A1.deeper (callEnv (fdAt (inCls 1 (topAt 6)) "Whitespace.__init__" Value.none Value.none doc pm an cdv ct) H.objs.size 65)) := hA1.deeper _
  have hxL : x ≠ H.objs.size := by rw [hHs, ← hX, hD]; exact Nat.ne_of_lt (Nat.lt_succ_self _)
  have hdL : dx ≠ H.objs.size := by rw [hHs, hD]; exact Nat.ne_of_lt (Nat.lt_succ_of_lt (Nat.lt_succ_self _))
  -- the frame as it opens
  have ok0 : (⟨hh, callEnv (fdAt (inCls 1 (topAt 6)) "Whitespace.__init__" Value.none Value.none doc pm an cdv ct) H.objs.size 65, [], [("self", .ref x), ("ws", .str row)], []⟩ : Cx).Ok h₀ := by
    refine ⟨fun b o e => hkp _ _ (kH b o e), ⟨rfl, rfl, rfl, ⟨_, hns, rfl⟩, (fun y c e => by cases e), (fun y z c e => by cases e)⟩, fun y d e => ?_, fun a ds e => absurd e List.not_mem_nil, List.nodup_nil, fun b o hb e => ?_⟩
    · have := PySem.mem_of_lookup e
      simp only [List.mem_cons, Prod.mk.injEq, List.not_mem_nil, or_false] at this
      rcases this with ⟨rfl, rfl⟩ | ⟨rfl, rfl⟩
      · exact ⟨.ref x, .inl ⟨rfl, _, hns, rfl⟩, .ref x⟩
      · exact ⟨.str row tk, .inl ⟨rfl, _, hns, rfl⟩, .str row tk⟩
    · rcases hb with (hb | ⟨y, hy, _⟩) | hb
      · have hb : b = H.objs.size := hb
        rw [hb] at e; exact absurd (Heap.lt_size (kH _ _ e)) (Nat.lt_irrefl _)
      · exact absurd hy List.not_mem_nil
      · exact absurd hb List.not_mem_nil
  rw [init_split]
  -- self.raw = ws
  refine wpAny_execs_cons ?_
  conv => arg 3; arg 1; whnf
  refine set_fr (Γ := ⟨hh, envI doc pm an cdv ct H.objs.size, [], [("self", .ref x), ("ws", .str row)], []⟩) (s := ⟨h₀, gg, dd, tt + 2, os⟩) (x := x) (dx := dx) (es := []) (n := 0) t ok0 rfl (EvFr.flat (Ev.name rfl) rfl) (hkp _ _ gx) (hkp _ _ gd) rfl hnd hdL (k_tk _).1 rfl (fun _ _ => by show 1 ≤ 1000; omega) (fun vr tkr s₁ as₁ ok₁ gx₁ gd₁ rr₁ km₁ => ?_)
  obtain ⟨tr, rfl⟩ := (rr₁ [] (fun b hb => absurd hb List.not_mem_nil)).str_inv
  have hst : ∀ b, b ≠ H.objs.size → ¬ Stor (envI doc pm an cdv ct H.objs.size) [] b := fun b hb q => by
    rcases q with q | ⟨y, hy, _⟩
    · exact hb q
    · exact absurd hy List.not_mem_nil
  have gx1 := rest_get (Γ := ⟨hh, envI doc pm an cdv ct H.objs.size, [], [("self", .ref x), ("ws", .str row)], []⟩) gx₁ (hst x hxL) List.not_mem_nil
  have gd1 := rest_get (Γ := ⟨hh, envI doc pm an cdv ct H.objs.size, [], [("self", .ref x), ("ws", .str row)], []⟩) gd₁ (hst dx hdL) List.not_mem_nil
  have sub1 := ok₁.rest_sub
  have okB := ok₁.rebase
  generalize rest s₁.heap ⟨hh, envI doc pm an cdv ct H.objs.size, [], [("self", .ref x), ("ws", .str row)], []⟩ = B1 at gx1 gd1 sub1 okB
  have t1 : TF w.params B1 := t.keeps sub1
  refine init_mid (x := x) (dx := dx) hAd hrow hl hlen hg hg' t1 gx1 gd1 (tr := tr) rfl okB fun a s₂ as₂ ok₂ => ?_
  have gx2 := ok₂.base _ _ gx1
  have gd2 := ok₂.base _ _ gd1
  have ok2 : (⟨hh, envI doc pm an cdv ct H.objs.size, [], inρ x row a (Ws.scan l), [(a, (Ws.scan l).c.map PV.int)]⟩ : Cx).Ok s₂.heap := ok₂.unbase sub1
  have hfit := scan_fit l
  have hcm : ((Ws.scan l).c.map PV.int).length = (Ws.scan l).c.length := by simp
  refine wpAny_execs_cons ?_
  conv => arg 3; arg 1; whnf
  refine set_fr (Γ := ⟨hh, envI doc pm an cdv ct H.objs.size, [], inρ x row a (Ws.scan l), [(a, (Ws.scan l).c.map PV.int)]⟩) (s := s₂) (x := x) (dx := dx) t ok2 rfl (EvFr.flat (Ev.name rfl) rfl) gx2 gd2 rfl hnd hdL (k_tk _).2.1 rfl (fun _ _ => by show 2 ≤ 1000; omega) (fun v3 tk3 s3 as3 ok3 gx3 gd3 rr3 km3 => ?_)
  refine wpAny_execs_cons ?_
  conv => arg 3; arg 1; whnf
  refine set_fr (Γ := ⟨hh, envI doc pm an cdv ct H.objs.size, [], inρ x row a (Ws.scan l), [(a, (Ws.scan l).c.map PV.int)]⟩) (s := s3) (x := x) (dx := dx) t ok3 rfl (EvFr.flat (Ev.name rfl) rfl) gx3 gd3 rfl hnd hdL (k_tk _).2.2.1 rfl (fun _ _ => by show 3 ≤ 1000; omega) (fun v4 tk4 s4 as4 ok4 gx4 gd4 rr4 km4 => ?_)
  refine wpAny_execs_cons ?_
  conv => arg 3; arg 1; whnf
  refine set_fr (Γ := ⟨hh, envI doc pm an cdv ct H.objs.size, [], inρ x row a (Ws.scan l), [(a, (Ws.scan l).c.map PV.int)]⟩) (s := s4) (x := x) (dx := dx) t ok4 rfl (EvFr.tup (EvsFr.cons (EvFr.tupleOwn (a := a) (ns := (Ws.scan l).c) (gl_tuple t) rfl (List.mem_singleton.mpr rfl) (by have := hfit.c; simp [sizeLine]; omega)) (EvsFr.cons (EvFr.flat (Ev.name rfl) rfl) EvsFr.nil))) gx4 gd4 rfl hnd hdL (k_tk _).2.2.2.1 rfl (fun _ _ => by show 4 ≤ 1000; omega) (fun v5 tk5 s5 as5 ok5 gx5 gd5 rr5 km5 => ?_)
  refine wpAny_execs_cons ?_
  conv => arg 3; arg 1; whnf
  refine set_fr (Γ := ⟨hh, envI doc pm an cdv ct H.objs.size, [], inρ x row a (Ws.scan l), [(a, (Ws.scan l).c.map PV.int)]⟩) (s := s5) (x := x) (dx := dx) t ok5 rfl (EvFr.flat (Ev.cmp (Ev.bcall (gl_len t) (Evs.cons (Ev.name rfl) Evs.nil) (BCall.lenOwn (a := a) (List.mem_singleton.mpr rfl) (by have := hfit.c; rw [hcm]; omega))) Ev.int COp.le) rfl) gx5 gd5 rfl hnd hdL (k_tk _).2.2.2.2 rfl (fun _ _ => by show 5 ≤ 1000; omega) (fun v6 tk6 s6 as6 ok6 gx6 gd6 rr6 km6 => ?_)
  refine wpAny_execs_nil ⟨rfl, hR (.ref x) s6 ⟨?_, fun b o e => ok6.base b o e⟩ fun O hO => ?_⟩
  · exact As.trans (As.trans (As.trans (As.trans (As.trans (As.trans (As.trans (s := ⟨hh, gg, dd, tt, os⟩) ⟨h₀, tt + 2, rfl⟩ as₁) as₂) as3) as4) as5) as6) ⟨_, _, rfl⟩
  · have o2 : ∀ b ∈ O, ∃ o, s₂.heap.get? b = some o := fun b hb => let ⟨o, e⟩ := hO b hb; ⟨o, ok2.base b o e⟩
    have o3 : ∀ b ∈ O, ∃ o, s3.heap.get? b = some o := fun b hb => let ⟨o, e⟩ := hO b hb; ⟨o, ok3.base b o e⟩
    have o4 : ∀ b ∈ O, ∃ o, s4.heap.get? b = some o := fun b hb => let ⟨o, e⟩ := hO b hb; ⟨o, ok4.base b o e⟩
    have o5 : ∀ b ∈ O, ∃ o, s5.heap.get? b = some o := fun b hb => let ⟨o, e⟩ := hO b hb; ⟨o, ok5.base b o e⟩
    have q3 := km6 _ _ _ (km5 _ _ _ (km4 _ _ _ (rr3 O o2)))
    have q4 := km6 _ _ _ (km5 _ _ _ (rr4 O o3))
    have q5 := km6 _ _ _ (rr5 O o4)
    have q6 := rr6 O o5
    have e6 : decide (((Ws.scan l).c.map PV.int).length ≤ (1 : Int)) = decide ((Ws.scan l).c.length ≤ 1) := by
      rw [hcm]; congr 1; simp; omega
    rw [e6] at q6
    refine Rep.obj (vs := [v3, v4, v5, v6]) (not_old hO hnx) (not_old hO hnd) gx6 gd6 ⟨v3, v4, v5, v6, rfl, rfl, rfl, rfl, rfl, rfl, rfl, rfl, rfl⟩ rfl ?_
    exact (Reps.cons q3 (Reps.cons q4 (Reps.cons q5 (Reps.cons q6 Reps.nil)))).at'
end Mine

end
section
open PySem PySem.W PyProof.Rows PySem.Calls
set_option autoImplicit false
set_option linter.all false
set_option maxRecDepth 100000
namespace Mine
variable {prog : Program} {w : World} {A : Around} {Γ : Cx}

theorem k_keep (P : Params) : keepIn (K39 P) (.ref 110) = true := by kernel_rfl

theorem Ev.newWs {l : List Nat} {g : Nat} {sg : List Nat} {row : Str} {p pos : Pos} {e : Expr} (t : TF w.params Γ.B) (hA : AOk 2 A) (hrow : row.cps.toList = l ++ g :: sg) (hl : ∀ c ∈ l, c = 32 ∨ c = 9) (hlen : l.length ≤ 60) (hg : g ≠ 32) (hg' : g ≠ 9)
    (h1 : Ev prog w A Γ e (.str row)) (hk : Γ.env.kindOf "Whitespace" = some .globalImplicit := by rfl) (he : starEach [e] Γ.env = (false, eval e Γ.env) :: starEach [] Γ.env := by rfl) :
    Ev prog w A Γ (.Call (.Name "Whitespace" p) [e] [] pos) (.obj (Ws.scan l).fs) := fun s Q E ok h => by
  rw [eval_CallName]
  refine wpAny_bind (wp_glob ok hk (gl_ws t) ?_)
  have e0 : backTo pos (starEach [e] Γ.env) = backTo pos ((false, eval e Γ.env) :: starEach [] Γ.env) := by rw [he]
  have ev := (Evs.cons h1 Evs.nil he) s pos
  rw [e0] at ev ⊢
  refine callWith_of (P := fun h => (K39 w.params).In h) (by rfl) (keeps_K (k_keep _)) (evalArgs_plain (ev _ _ ok fun vs s₁ k₁ rs => ?_))
  have ok₁ := ok.step k₁
  obtain ⟨v, rfl, r⟩ := reps1 rs
  refine ⟨t.k.keeps ok₁.base, wpAny_call ?_⟩
  refine ws_new hrow hl hlen hg hg' hA (t.keeps ok₁.base) r.free fun v' s' x hr => h v' s' (k₁.trans x) (hr _ fun b hb => ?_)
  obtain ⟨⟨a, ds⟩, hm, rfl⟩ := List.mem_map.mp hb
  obtain ⟨vs, ⟨n, e⟩, _⟩ := ok₁.mem a ds hm
  exact ⟨_, e⟩
end Mine

end
section
open PySem PySem.W PyProof.Rows PySem.Calls
set_option autoImplicit false
set_option linter.all false
namespace Mine
variable {prog : Program} {w : World} {A : Around} {Γ : Cx}

theorem srcW_range {s s₁ : Shared} {a c : Int} {n : Nat} (hA : A.handled = none) (ok₁ : Γ.Ok s₁.heap) (k₁ : Ext s s₁) :
    SrcW prog w A Γ s { s₁ with heap := s₁.heap.push { cls := .type "range_iterator", data := .fields #[rawInt a, rawInt (n : Int), rawInt c] } } (.ref s₁.heap.objs.size) (rng a c n) := by
  refine ⟨s₁.heap.objs.size, [s₁.heap.objs.size], fun i v => ∃ t, v = .int (a + i * c) t, (fun i h => IsRangeIter h s₁.heap.objs.size (a + (i : Nat) * c) ((n : Int) - (i : Nat)) c), rfl, ?_, ?_, ?_, ?_, ?_, ?_⟩
  · have := Walks.range (prog := prog) (w := w) hA s₁.heap.objs.size a c n
    rw [rng_len]; exact this
  · show (s₁.heap.push _).get? s₁.heap.objs.size = _
    rw [Heap.get?_push_size _ rfl]; simp
  · intro b hb
    have := List.mem_singleton.mp hb; subst this
    exact fun hs => absurd (ok₁.fr.lt hs) (Nat.lt_irrefl _)
  · intro b hb
    have := List.mem_singleton.mp hb; subst this
    cases e : s.heap.get? s₁.heap.objs.size with
    | none => rfl
    | some o => exact absurd (Heap.lt_size (k₁.get _ _ e)) (Nat.lt_irrefl _)
  · rintro i h b o hst hb e hq
    have := List.mem_singleton.mp hb; subst this
    have hst : h.get? _ = some _ := hst
    rw [e] at hst; cases hst; exact notSeq_fields rfl hq
  · rintro i v d ⟨t, rfl⟩ hd O h
    obtain ⟨_, rfl⟩ := rng_get hd
    exact .int _ _
theorem ItrW.range1 {f : Str} {p pos : Pos} {e : Expr} {n : Int} (hA : A.handled = none) (hg : GlobV Γ.B f (.type "range")) (h1 : Ev prog w A Γ e (.int n)) (hn : n < 2 ^ 62) (hn' : -(2 ^ 62) < n := by omega) (hk : Γ.env.kindOf f = some .globalImplicit := by rfl)
    (he : starEach [e] Γ.env = (false, eval e Γ.env) :: starEach [] Γ.env := by rfl) (hd : (f == ("__debug__" : Str)) = false := by decide) : ItrW prog w A Γ (.Call (.Name f p) [e] [] pos) (rng 0 1 n.toNat) := fun s Q E ok k => by
  rw [eval_CallName]
  refine wpAny_bind (wp_glob ok hk hg ?_ hd)
  refine PyProof.Rows.callWith_type1 (wpAny_items_cons (h1 s _ _ ok fun v s₁ k₁ r => wpAny_items_nil ?_) he) he rfl
  obtain ⟨t, rfl⟩ := r.int_inv
  refine call_range_1 ?_
  refine wpAny_pyIter_range (IsRange.new _ _ _ _ _ _ _) (small_one (by omega) (by omega) (by omega) (by omega)) ?_
  have ek : Ext s { s₁ with heap := s₁.heap.push { cls := .type "range", data := .fields #[.int 0 s₁.toks, .int n t, .int 1 (s₁.toks + 1)] }, toks := s₁.toks + 1 + 1 } := k₁.trans (Ext.push _ _)
  have es : Builtin.Range.rangeSize 0 n 1 = ((n.toNat : Nat) : Int) := by rw [rangeSize_nat]; simp
  rw [es]
  exact k _ _ (ek.trans (Ext.push _ _)) (srcW_range hA (ok.step ek) ek)

/-- a lambda without cells of its own is called -/
theorem fn_lam {n : Nat} {s : Shared} {fa : Addr} {fd : FuncData} {body : Expr} {vs : List Value} {binds : List (Str × Value)} {ρ : List (Str × PV)} {d : PV} {R : Result → Shared → Prop}
    (hA : AOk (n + 1) A) (hf : Fun s.heap fa fd) (hlim : s.heap.NoLimit) (hbody : fd.body = .expr body) (hbind : bindArgs fd ⟨vs, []⟩ = pure binds)
    (hρ : ∀ x d, ρ.lookup x = some d → (fd.scope.names.lookup x = some .local ∧ ∃ v, binds.reverse.lookup x = some v ∧ Rep [] s.heap v d) ∨
      ((fd.scope.names.lookup x = some .free) ∧ ∃ c v, fd.closure.lookup x = some c ∧ s.heap.IsCell c (some v) ∧ Rep [] s.heap v d))
    (hcl : ∀ x c, fd.closure.lookup x = some c → ∃ v, s.heap.IsCell c v) (hinj : ∀ x y c, fd.closure.lookup x = some c → fd.closure.lookup y = some c → x = y)
    (h : Ev prog w (A.deeper (callEnv fd s.heap.objs.size fa)) ⟨s.heap, callEnv fd s.heap.objs.size fa, [], ρ, []⟩ body d)
    (hR : ∀ v s', Ext s s' → Rep [] s'.heap v d → R (.ok (.ret v)) s')
    (hloc : ∀ x ∈ binds, fd.scope.names.lookup x.1 = some .local)
    (hcell : ∀ x ∈ fd.scope.names, x.2 ≠ .cell := by decide)
    (hco : fd.scope.isCoroutine = false := by rfl) (hgen : fd.scope.isGenerator = false := by rfl) (hk : fd.scope.kind = .function := by rfl) (hgl : fd.globals = mainGlobals := by rfl) (hbl : fd.builtins = builtinsNs := by rfl)
    (hsim : fd.scope.names.lookup ("is_simple" : Str) = none := by rfl) :
    codeAny (model prog w) A (.call (.ref fa) ⟨vs, []⟩) R s := by
  obtain ⟨o, ho, hd⟩ := hf.at'
  refine kla_callFunE hA.room ho hd hco hgen hbody hf.code ?_
  rw [hbind]
  refine wpAny_pure (wpAny_newFunctionEnv hcell hloc (fun h₁ hns hsb => ⟨hlim.fresh _ hsb, ?_⟩) hk)
  have hkp : ∀ b o, s.heap.get? b = some o → h₁.get? b = some o := fun b o e => hsb.extBut b o (Nat.ne_of_lt (Heap.lt_size e)) (Heap.get?_push_of_some _ e)
  have ok : (⟨s.heap, callEnv fd s.heap.objs.size fa, [], ρ, []⟩ : Cx).Ok h₁ := by
    refine ⟨hkp, ⟨hk, hgl, hbl, ⟨_, hns, no_bind hloc hsim⟩, fun x c e => ?_, hinj⟩, fun x d e => ?_, fun a ds e => absurd e List.not_mem_nil, List.nodup_nil, fun b o hb e => ?_⟩
    · obtain ⟨v, hv⟩ := hcl x c e; exact ⟨v, hv.keeps hkp⟩
    · rcases hρ x d e with ⟨h1, v, h2, h3⟩ | ⟨h1, c, v, h2, h3, h4⟩
      · exact ⟨v, .inl ⟨h1, _, hns, h2⟩, h3.keeps hkp⟩
      · exact ⟨v, .inr ⟨.inr h1, c, h2, h3.keeps hkp⟩, h4.keeps hkp⟩
    · rcases hb with (hb | ⟨x, hx, _⟩) | hb
      · have hb : b = s.heap.objs.size := hb
        rw [hb] at e; exact absurd (Heap.lt_size e) (Nat.lt_irrefl _)
      · exact absurd hx List.not_mem_nil
      · exact absurd hb List.not_mem_nil
  refine kla_codeExpr (h _ _ _ ok fun v s' x r => hR v s' ?_ r)
  obtain ⟨⟨h', tk, rfl⟩, g⟩ := x
  exact ⟨⟨_, _, rfl⟩, fun b o e => g b o (hkp b o e)⟩
end Mine

end
section
open PySem PySem.W PyProof.Rows PySem.Calls
set_option autoImplicit false
set_option linter.all false
namespace Mine
variable {prog : Program} {w : World} {A : Around} {Γ : Cx}

/-- tables and codes -/
noncomputable def Keepable (o : Obj) : Prop := ∃ fs, o.data = .fields fs ∧ (o.cls = .none ∨ ∃ q t, fs[1]? = some (Value.str q t))
noncomputable def Kb (h h' : Heap) : Prop := ∀ b o, Keepable o → h.get? b = some o → h'.get? b = some o
theorem Kb.refl (h : Heap) : Kb h h := fun _ _ _ e => e
theorem Kb.trans {h h' h'' : Heap} (x : Kb h h') (y : Kb h' h'') : Kb h h'' := fun b o k e => y b o k (x b o k e)
theorem Kb.of {h h' : Heap} (k : ∀ b o, h.get? b = some o → h'.get? b = some o) : Kb h h' := fun b o _ e => k b o e
theorem keep_stor {h : Heap} {W : List Str} {b : Addr} {o : Obj} (fr : FrOk Γ.env h) (hb : Stor Γ.env W b) (e : h.get? b = some o) : ¬ Keepable o := by
  rintro ⟨fs, hd, _⟩
  rcases hb with rfl | ⟨x, _, hx⟩
  · obtain ⟨m, ⟨o', es, ep, e', hd', _⟩, _⟩ := fr.ns
    rw [e] at e'; cases e'; rw [hd] at hd'; cases hd'
  · obtain ⟨v, o', e', hd'⟩ := fr.cl x b hx
    rw [e] at e'; cases e'; rw [hd] at hd'; cases hd'
theorem keep_mem {h : Heap} {b : Addr} {o : Obj} (ok : Γ.Ok h) (hb : b ∈ Γ.O) (e : h.get? b = some o) : ¬ Keepable o := by
  rintro ⟨fs, hd, _⟩
  obtain ⟨⟨a, ds⟩, hm, rfl⟩ := List.mem_map.mp hb
  obtain ⟨vs, ⟨n, e'⟩, _⟩ := ok.mem a ds hm
  rw [e] at e'; cases e'; cases hd
theorem Kp.kb {s s' : Shared} (ok : Γ.Ok s.heap) (k : Kp Γ s s') : Kb s.heap s'.heap := fun b o hk e =>
  k.get b o (fun q => keep_stor ok.fr q e hk) (fun q => keep_mem ok q e hk) e
theorem KpS.kb {s s' : Shared} (ok : Γ.Ok s.heap) (k : KpS Γ s s') : Kb s.heap s'.heap := k.kp.kb ok

/-- the statements run, beside a fact of tables and codes -/
noncomputable def XJ (prog : Program) (w : World) (A : Around) (J : Heap → Prop) (Γ : Cx) (ss : List Stmt) (R : Flow → Shared → Prop) : Prop :=
  ∀ (s : Shared) (Q : Flow → Shared → Prop) (E : Value → Shared → Prop), Γ.Ok s.heap → J s.heap → (∀ f s', As s s' → J s'.heap → R f s' → Q f s') → wpAny (model prog w) A (execs ss Γ.env) Q E s
noncomputable def SJ (prog : Program) (w : World) (A : Around) (J : Heap → Prop) (Γ : Cx) (st : Stmt) (R : Flow → Shared → Prop) : Prop :=
  ∀ (s : Shared) (Q : Flow → Shared → Prop) (E : Value → Shared → Prop), Γ.Ok s.heap → J s.heap → (∀ f s', As s s' → J s'.heap → R f s' → Q f s') → wpAny (model prog w) A (exec st Γ.env) Q E s
noncomputable def JOk (J : Heap → Prop) : Prop := ∀ h h', Kb h h' → J h → J h'
variable {J : Heap → Prop}
theorem XJ.of {ss : List Stmt} {R : Flow → Shared → Prop} (hJ : JOk J) (h : X prog w A Γ ss R) : XJ prog w A J Γ ss R := fun s Q E ok j k => h s Q E ok fun f s' kp r => k f s' kp.as (hJ _ _ (kp.kb ok) j) r
theorem SJ.of {st : Stmt} {R : Flow → Shared → Prop} (hJ : JOk J) (h : S prog w A Γ st R) : SJ prog w A J Γ st R := fun s Q E ok j k => h s Q E ok fun f s' kp r => k f s' kp.as (hJ _ _ (kp.kb ok) j) r
theorem XJ.cons {st : Stmt} {rest : List Stmt} {R R₁ : Flow → Shared → Prop} (h1 : SJ prog w A J Γ st R₁)
    (h2 : ∀ s', R₁ .next s' → ∃ Γ', Γ'.env = Γ.env ∧ Γ'.Ok s'.heap ∧ XJ prog w A J Γ' rest R) (h3 : ∀ f s', f ≠ .next → R₁ f s' → R f s') : XJ prog w A J Γ (st :: rest) R := fun s Q E ok j k =>
  wpAny_execs_cons (h1 s _ _ ok j fun f s' kp j' r => by
    cases f with
    | next =>
      obtain ⟨Γ', he, ok', hX⟩ := h2 s' r
      have := hX s' Q E ok' j' fun f s'' kp' j'' r' => k f s'' (kp.trans kp') j'' r'
      rw [he] at this; exact this
    | brk => exact k _ _ kp j' (h3 _ _ (by intro q; cases q) r)
    | cont => exact k _ _ kp j' (h3 _ _ (by intro q; cases q) r)
    | ret v => exact k _ _ kp j' (h3 _ _ (by intro q; cases q) r))
theorem XJ.step {st : Stmt} {rest : List Stmt} {R : Flow → Shared → Prop} {Γ' : Cx} (hJ : JOk J) (h1 : S prog w A Γ st (Nx Γ')) (h2 : XJ prog w A J Γ' rest R) (he : Γ'.env = Γ.env := by rfl) : XJ prog w A J Γ (st :: rest) R :=
  XJ.cons (SJ.of hJ h1) (fun s' r => ⟨Γ', he, r.2, h2⟩) fun f s' hf r => absurd r.1 hf
theorem XJ.nil {R : Flow → Shared → Prop} (h : ∀ s, Γ.Ok s.heap → R .next s) : XJ prog w A J Γ [] R := fun s Q E ok j k => wpAny_execs_nil (k _ _ ⟨_, _, rfl⟩ j (h s ok))
theorem XJ.weak {ss : List Stmt} {R : Flow → Shared → Prop} {Γ' : Cx} (h : XJ prog w A J Γ' ss R) (hok : ∀ hp, Γ.Ok hp → Γ'.Ok hp) (he : Γ'.env = Γ.env := by rfl) : XJ prog w A J Γ ss R := fun s Q E ok j k => by
  have := h s Q E (hok _ ok) j fun f s' kp j' r => k f s' kp j' r
  rw [he] at this; exact this
theorem XJ.to {ss : List Stmt} {R : Flow → Shared → Prop} (ρ' : List (Str × PV)) (hs : Sub ρ' Γ.ρ) (h : XJ prog w A J (Γ.to ρ') ss R) : XJ prog w A J Γ ss R := XJ.weak h fun hp ok => ok.to hs
theorem XJ.ret {e : Expr} {pos : Pos} {rest : List Stmt} {d : PV} {R : Flow → Shared → Prop} (hJ : JOk J) (h1 : Ev prog w A Γ e d) (h2 : ∀ v s', Γ.Ok s'.heap → Rep Γ.O s'.heap v d → R (.ret v) s') : XJ prog w A J Γ (.Return (some e) pos :: rest) R := XJ.of hJ (X.ret h1 h2)
theorem SJ.ifs {t : Expr} {body orelse : List Stmt} {pos : Pos} {b : Bool} {R : Flow → Shared → Prop} (hJ : JOk J) (ht : Tr prog w A Γ t b) (h1 : b = true → XJ prog w A J Γ body R) (h2 : b = false → XJ prog w A J Γ orelse R) :
    SJ prog w A J Γ (.If t body orelse pos) R := fun s Q E ok j h =>
  wpAny_If (ht s _ _ ok fun s' k => by
    have as : As s s' := k.as
    have j' : J s'.heap := hJ _ _ (Kb.of k.get) j
    cases b with
    | true => exact h1 rfl s' _ _ (ok.step k) j' fun f s'' kp j'' r => h f s'' (as.trans kp) j'' r
    | false => exact h2 rfl s' _ _ (ok.step k) j' fun f s'' kp j'' r => h f s'' (as.trans kp) j'' r)
theorem SJ.assignNew {x : Str} {p pos : Pos} {e : Expr} {ds : List PV} (hJ : JOk J) (h1 : EvN prog w A Γ e ds)
    (hx : storable Γ.env Γ.W x = true := by rfl) (hs : swapsWith e (some (.Name x p)) pos.line Γ.env = pure false := by rfl) : SJ prog w A J Γ (.Assign [.Name x p] e pos) (fun f s' => f = .next ∧ ∃ a, ((Γ.own a ds).set x (.ref a)).Ok s'.heap) := fun s Q E ok j k =>
  wpAny_Assign_Name (h1 s _ _ ok fun a vs s₁ k₁ ha hl hr => by
    have ok₁ : (Γ.own a ds).Ok s₁.heap := ok.thaw k₁.get ha hl hr
    refine wp_store (Γ := Γ.own a ds) ok₁ (.ref a) hx fun s' ok' kps => ?_
    exact k _ s' (As.trans k₁.as kps.as) (hJ _ _ ((Kb.of k₁.get).trans (kps.kb ok₁)) j) ⟨rfl, a, ok'⟩) hs


noncomputable def SrcK (prog : Program) (w : World) (A : Around) (Γ : Cx) (s s' : Shared) (it : Value) (ds : List PV) : Prop :=
  ∃ (I : Addr) (wr : List Addr) (P : Nat → Value → Prop) (St : Nat → Heap → Prop), it = .ref I ∧ Walks prog w A I wr wr ds.length P St ∧ St 0 s'.heap ∧
    (∀ b ∈ wr, ¬ Stor Γ.env Γ.W b) ∧ (∀ b ∈ wr, s.heap.get? b = none) ∧ (∀ i h b o, St i h → b ∈ wr → h.get? b = some o → ¬ isSeqObj o ∧ ¬ Keepable o) ∧
    (∀ i v d, P i v → ds[i]? = some d → ∀ O h, Rep O h v d)
noncomputable def ItrK (prog : Program) (w : World) (A : Around) (Γ : Cx) (e : Expr) (ds : List PV) : Prop :=
  ∀ (s : Shared) (Q : Value → Shared → Prop) (E : Value → Shared → Prop), Γ.Ok s.heap → (∀ it s', Ext s s' → SrcK prog w A Γ s s' it ds → Q it s') →
    wpAny (model prog w) A (eval e Γ.env) (fun x s₁ => wpAny (model prog w) A (pyIter x) Q E s₁) E s
theorem srcK_range {s s₁ : Shared} {a c : Int} {n : Nat} (hA : A.handled = none) (ok₁ : Γ.Ok s₁.heap) (k₁ : Ext s s₁) :
    SrcK prog w A Γ s { s₁ with heap := s₁.heap.push { cls := .type "range_iterator", data := .fields #[rawInt a, rawInt (n : Int), rawInt c] } } (.ref s₁.heap.objs.size) (rng a c n) := by
  refine ⟨s₁.heap.objs.size, [s₁.heap.objs.size], fun i v => ∃ t, v = .int (a + i * c) t, (fun i h => IsRangeIter h s₁.heap.objs.size (a + (i : Nat) * c) ((n : Int) - (i : Nat)) c), rfl, ?_, ?_, ?_, ?_, ?_, ?_⟩
  · have := Walks.range (prog := prog) (w := w) hA s₁.heap.objs.size a c n
    rw [rng_len]; exact this
  · show (s₁.heap.push _).get? s₁.heap.objs.size = _
    rw [Heap.get?_push_size _ rfl]; simp
  · intro b hb
    have := List.mem_singleton.mp hb; subst this
    exact fun hs => absurd (ok₁.fr.lt hs) (Nat.lt_irrefl _)
  · intro b hb
    have := List.mem_singleton.mp hb; subst this
    cases e : s.heap.get? s₁.heap.objs.size with
    | none => rfl
    | some o => exact absurd (Heap.lt_size (k₁.get _ _ e)) (Nat.lt_irrefl _)
  · rintro i h b o hst hb e
    have := List.mem_singleton.mp hb; subst this
    have hst : h.get? _ = some _ := hst
    rw [e] at hst; cases hst
    refine ⟨fun hq => notSeq_fields rfl hq, ?_⟩
    rintro ⟨fs, hd, hc | ⟨q, t, hq⟩⟩
    · cases hc
    · cases hd; cases hq
  · rintro i v d ⟨t, rfl⟩ hd O h
    obtain ⟨_, rfl⟩ := rng_get hd
    exact .int _ _
theorem ItrK.range1 {f : Str} {p pos : Pos} {e : Expr} {n : Int} (hA : A.handled = none) (hg : GlobV Γ.B f (.type "range")) (h1 : Ev prog w A Γ e (.int n)) (hn : n < 2 ^ 62) (hn' : -(2 ^ 62) < n := by omega) (hk : Γ.env.kindOf f = some .globalImplicit := by rfl)
    (he : starEach [e] Γ.env = (false, eval e Γ.env) :: starEach [] Γ.env := by rfl) (hd : (f == ("__debug__" : Str)) = false := by decide) : ItrK prog w A Γ (.Call (.Name f p) [e] [] pos) (rng 0 1 n.toNat) := fun s Q E ok k => by
  rw [eval_CallName]
  refine wpAny_bind (wp_glob ok hk hg ?_ hd)
  refine PyProof.Rows.callWith_type1 (wpAny_items_cons (h1 s _ _ ok fun v s₁ k₁ r => wpAny_items_nil ?_) he) he rfl
  obtain ⟨t, rfl⟩ := r.int_inv
  refine call_range_1 ?_
  refine wpAny_pyIter_range (IsRange.new _ _ _ _ _ _ _) (small_one (by omega) (by omega) (by omega) (by omega)) ?_
  have ek : Ext s { s₁ with heap := s₁.heap.push { cls := .type "range", data := .fields #[.int 0 s₁.toks, .int n t, .int 1 (s₁.toks + 1)] }, toks := s₁.toks + 1 + 1 } := k₁.trans (Ext.push _ _)
  have es : Builtin.Range.rangeSize 0 n 1 = ((n.toNat : Nat) : Int) := by rw [rangeSize_nat]; simp
  rw [es]
  exact k _ _ (ek.trans (Ext.push _ _)) (srcK_range hA (ok.step ek) ek)

/-- a for whose turns pass a family of places; T is not of the base -/
theorem SJ.forG (hJ : JOk J) (T : Addr) (P : Nat → List (Str × PV) → List (Addr × List PV) → Prop) {x : Str} {px : Pos} {iter : Expr} {body : List Stmt} {pos : Pos} {ds : List PV} (h0 : P 0 Γ.ρ Γ.μ) (hT : Γ.B.get? T = none)
    (hTJ : ∀ h, J h → ∃ o, Keepable o ∧ h.get? T = some o)
    (hit : ItrK prog w A Γ iter ds)
    (hb : ∀ (B : Heap) (k : Nat) ρ μ d, (∀ b o, Γ.B.get? b = some o → B.get? b = some o) → B.get? T = none → P k ρ μ → ds[k]? = some d →
      XJ prog w A J ⟨B, Γ.env, Γ.W, (x, d) :: ρ, μ⟩ body (fun f s' => f = .next ∧ ∃ ρ' μ', P (k + 1) ρ' μ' ∧ (⟨B, Γ.env, Γ.W, ρ', μ'⟩ : Cx).Ok s'.heap))
    (hx : storable Γ.env Γ.W x = true := by rfl) (hs : ∀ v, foldedSetIterable iter Γ.env v = pure v := by intro _; rfl) :
    SJ prog w A J Γ (.For (.Name x px) iter body [] pos) (fun f s' => f = .next ∧ ∃ ρ' μ', P ds.length ρ' μ' ∧ (⟨Γ.B, Γ.env, Γ.W, ρ', μ'⟩ : Cx).Ok s'.heap) := fun s Q E ok j h => by
  refine wpAny_For (hit s _ _ ok fun it s₂ k₂ hsrc => ?_) hs
  obtain ⟨I, wr, PV', St, rfl, W, hst, hfp, hwr, hns, hitem⟩ := hsrc
  have ok₂ := ok.step k₂
  have as₂ : As s s₂ := k₂.as
  have j₂ : J s₂.heap := hJ _ _ (Kb.of k₂.get) j
  have hTw : ∀ b ∈ wr, b ≠ T := fun b hb q => by
    obtain ⟨o, _, e⟩ := hTJ _ j
    have := hwr b hb
    rw [q, e] at this; cases this
  refine codeAny_forLoop (fun n s' => ∃ k ρ μ, n = ds.length + 1 - k ∧ k ≤ ds.length ∧ As s₂ s' ∧ St k s'.heap ∧ J s'.heap ∧ P k ρ μ ∧ (⟨Γ.B, Γ.env, Γ.W, ρ, μ⟩ : Cx).Ok s'.heap) (fun n s' hI => ?_) (ds.length + 1)
    ⟨0, Γ.ρ, Γ.μ, rfl, Nat.zero_le _, ⟨_, _, rfl⟩, hst, j₂, h0, ok₂⟩
  obtain ⟨k, ρ, μ, rfl, hk, as', hst', j', hP, ok'⟩ := hI
  have hwr2 : ∀ b, b ∈ wr → ∀ o, ¬ (s.heap.get? b = some o) := fun b hb o e => by rw [hwr b hb] at e; cases e
  have turnOk : ∀ h₃, (∀ b o, b ∉ wr → s'.heap.get? b = some o → h₃.get? b = some o) → (⟨Γ.B, Γ.env, Γ.W, ρ, μ⟩ : Cx).Ok h₃ ∧ J h₃ := fun h₃ hk₃ => by
    refine ⟨ok'.change fun b o hb e => ?_, hJ _ _ (fun b o hkb e => hk₃ b o (fun hm => (hns k s'.heap b o hst' hm e).2 hkb) e) j'⟩
    refine hk₃ b o ?_ e
    rcases hb with hb | hb
    · exact fun hm => (hns k s'.heap b o hst' hm e).1 hb
    · intro hm
      obtain ⟨o', e'⟩ := ok.stands (b := b) hb
      exact hwr2 b hm o' e'
  by_cases hlt : k < ds.length
  · refine W.item k _ _ _ hlt hst' fun v h₃ tk₃ hPv hst₃ hk₃ => ?_
    obtain ⟨d, hd⟩ : ∃ d, ds[k]? = some d := ⟨ds[k], by simp [hlt]⟩
    obtain ⟨ok₃, j₃⟩ := turnOk h₃ hk₃
    refine wpAny_assign_Name ?_
    refine wp_store (Γ := ⟨Γ.B, Γ.env, Γ.W, ρ, μ⟩) (s := { s' with heap := h₃, toks := tk₃ }) ok₃ (hitem k v d hPv hd _ _) hx fun s₄ ok₄ kps₄ => ?_
    have j₄ : J s₄.heap := hJ _ _ (kps₄.kb ok₃) j₃
    have hst₄ : St (k + 1) s₄.heap := W.frame _ _ _ hst₃ fun b hb o e => kps₄.get b o (hfp b hb) e
    have as₄ : As s' s₄ := As.trans ⟨h₃, tk₃, rfl⟩ kps₄.as
    have hO₄ : ∀ b ∈ wr, b ∉ μ.map (·.1) := fun b hb hm => by
      obtain ⟨⟨a, es⟩, hm', rfl⟩ := List.mem_map.mp hm
      obtain ⟨vs, ⟨n, e⟩, _⟩ := ok₄.mem a es hm'
      exact (hns (k + 1) s₄.heap a _ hst₄ hb e).1 (.inl ⟨_, _, rfl⟩)
    generalize hBB : hideAll (rest s₄.heap ⟨Γ.B, Γ.env, Γ.W, (x, d) :: ρ, μ⟩) [T] = BB
    have hsub : ∀ b o, Γ.B.get? b = some o → BB.get? b = some o := fun b o e => hBB ▸ hideAll_get _ (ok₄.rest_sub b o e) (fun q => by
      rw [List.mem_singleton.mp q, hT] at e; cases e)
    have okR : (⟨BB, Γ.env, Γ.W, (x, d) :: ρ, μ⟩ : Cx).Ok s₄.heap := ok₄.rebase.unbase fun b o e => of_hideAll _ (hBB ▸ e)
    have hBT : BB.get? T = none := hBB ▸ hideAll_none _ (List.mem_singleton.mpr rfl)
    refine hb BB k ρ μ d hsub hBT hP hd s₄ _ _ okR j₄ fun f s₅ as₅ j₅ r => ?_
    obtain ⟨rfl, ρ', μ', hP', ok₅⟩ := r
    have hst₅ : St (k + 1) s₅.heap := W.frame _ _ _ hst₄ fun b hb o e => ok₅.base b o (hBB ▸ hideAll_get _ (rest_get e (hfp b hb) (hO₄ b hb)) (fun q => hTw b hb (List.mem_singleton.mp q)))
    exact ⟨ds.length + 1 - (k + 1), by omega, k + 1, ρ', μ', rfl, hlt, (as'.trans as₄).trans as₅, hst₅, j₅, hP', ok₅.unbase hsub⟩
  · have hkn : k = ds.length := by omega
    subst hkn
    refine W.done _ _ _ hst' fun h₃ tk₃ hk₃ => ?_
    obtain ⟨ok₃, j₃⟩ := turnOk h₃ hk₃
    exact wpAny_execs_nil (h _ { s' with heap := h₃, toks := tk₃ } (as₂.trans (as'.trans ⟨_, _, rfl⟩)) j₃ ⟨rfl, ρ, μ, hP, ok₃⟩)
end Mine

end
section
open PySem PySem.W PyProof.Rows PySem.Calls
set_option autoImplicit false
set_option linter.all false
namespace Mine
variable {prog : Program} {w : World} {A : Around} {Γ : Cx}

/-- a bound of a slice -/
noncomputable def EvO (prog : Program) (w : World) (A : Around) (Γ : Cx) : Option Expr → Option Int → Prop
  | some e, some i => Ev prog w A Γ e (.int i)
  | none, none => True
  | _, _ => False
theorem wp_part {o : Option Expr} {i : Option Int} {s : Shared} {Q : Value → Shared → Prop} {E : Value → Shared → Prop} (h : EvO prog w A Γ o i) (ok : Γ.Ok s.heap) (k : ∀ v s', Ext s s' → IsPart v i → Q v s') : wpAny (model prog w) A (evalPart o Γ.env) Q E s := by
  cases o with
  | none =>
    cases i with
    | none => exact wpAny_pure (k _ _ (Ext.refl _) .none)
    | some _ => exact h.elim
  | some e =>
    cases i with
    | none => exact h.elim
    | some i =>
      exact h s _ _ ok fun v s' x r => by
        obtain ⟨t, rfl⟩ := r.int_inv
        exact k _ _ x (.int i t)

noncomputable def pickL {α : Type} (l : List α) (lo hi st : Option Int) : List α :=
  (sliceRange (sliceBounds lo hi st l.length).1 (sliceBounds lo hi st l.length).2.1 (sliceBounds lo hi st l.length).2.2).filterMap (l[·]?)
theorem slicePick_eq (vs : List Value) (lo hi st : Option Int) : slicePick vs.toArray lo hi st = (pickL vs lo hi st).toArray := by
  unfold slicePick pickL
  rw [List.size_toArray]
  congr 2
  funext i
  simp
theorem reps_pick {O : List Addr} {h : Heap} {vs : List Value} {ds : List PV} (rs : Reps O h vs ds) : ∀ l : List Nat, Reps O h (l.filterMap (vs[·]?)) (l.filterMap (ds[·]?)) := by
  intro l
  induction l with
  | nil => exact Reps.nil
  | cons i l ih =>
    rw [List.filterMap_cons, List.filterMap_cons]
    have hl := rs.len
    cases hv : vs[i]? with
    | none =>
      have : ds[i]? = none := by rw [List.getElem?_eq_none_iff] at hv ⊢; omega
      rw [this]; exact ih
    | some v =>
      have hi := (List.getElem?_eq_some_iff.mp hv).1
      obtain ⟨d, hd⟩ : ∃ d, ds[i]? = some d := ⟨ds[i]'(by omega), by simp [← hl, hi]⟩
      rw [hd]
      exact Reps.cons (rs.at' i v d hv hd) ih
theorem Reps.pick {O : List Addr} {h : Heap} {vs : List Value} {ds : List PV} (rs : Reps O h vs ds) (lo hi st : Option Int) : Reps O h (pickL vs lo hi st) (pickL ds lo hi st) := by
  unfold pickL; rw [rs.len]; exact reps_pick rs _

/-- x[lo:hi] of any list, as a new list -/
theorem EvN.slice {e : Expr} {lower upper : Option Expr} {p pos : Pos} {ds : List PV} {lo hi : Option Int} (h1 : LV prog w A Γ e ds) (h2 : EvO prog w A Γ lower lo) (h3 : EvO prog w A Γ upper hi) (hz : ds.length ≤ sizeLine) (ht : ∀ o r, letTemporaryGo e o r = pure () := by intro _ _; rfl) :
    EvN prog w A Γ (.Subscript e (.Slice lower upper none p) pos) (pickL ds lo hi none) := fun s Q E ok h =>
  wpAny_Subscript_Slice (T := "list") slot_list_getitem.lookup (h1 s _ _ ok fun a vs s₁ k₁ hl rs => wpAny_Slice (wp_part h2 (ok.step k₁) fun vl s₂ k₂ pl => wp_part h3 ((ok.step k₁).step k₂) fun vu s₃ k₃ pu => by
    rw [evalPart_none]
    refine wpAny_pure ?_
    have k := (k₁.trans k₂).trans k₃
    have hl3 : s₃.heap.PlainList a vs.toArray := (hl.at fun o e => k₂.get _ o e).at fun o e => k₃.get _ o e
    refine ⟨(hl3.isList.push _).typeIs, wpAny_getItem_list_slice (hl3.isList.push _) (Heap.IsSliceOf.new ..) pl pu .none (by simp) ?_ (by rw [List.size_toArray, rs.len]; exact hz)⟩
    have x1 : Ext s₃ { s₃ with heap := s₃.heap.push { cls := .type "slice", data := .fields #[vl, vu, .none] } } := ⟨⟨_, _, rfl⟩, fun b o e => Heap.get?_push_of_some _ e⟩
    have kk := k.trans x1
    generalize s₃.heap.push { cls := .type "slice", data := .fields #[vl, vu, .none] } = H at kk x1
    have hfr : s.heap.get? H.objs.size = none := by
      cases q : s.heap.get? H.objs.size with
      | none => rfl
      | some o => exact absurd (Heap.lt_size (kk.get _ _ q)) (Nat.lt_irrefl _)
    have x2 : Ext { s₃ with heap := H } { s₃ with heap := H.push { cls := .type "list", data := .seq (slicePick vs.toArray lo hi none) } } := ⟨⟨_, _, rfl⟩, fun b o e => Heap.get?_push_of_some _ e⟩
    rw [slicePick_eq] at x2 ⊢
    refine h H.objs.size (pickL vs lo hi none) _ (kk.trans x2) hfr ⟨_, Heap.get?_push_size _ rfl⟩ ?_
    exact ((((rs.keeps k₂.get).keeps k₃.get).keeps x1.get).pick lo hi none).fresh (get?_size _) fun b o _ _ e => Heap.get?_push_of_some _ e)) ht

/-- x[lo:hi:st] of any list, as a new list -/
theorem EvN.slice3 {e st : Expr} {lower upper : Option Expr} {p pos : Pos} {ds : List PV} {lo hi : Option Int} {c : Int} (h1 : LV prog w A Γ e ds) (h2 : EvO prog w A Γ lower lo) (h3 : EvO prog w A Γ upper hi) (h4 : Ev prog w A Γ st (.int c)) (hc : c ≠ 0) (hz : ds.length ≤ sizeLine) (ht : ∀ o r, letTemporaryGo e o r = pure () := by intro _ _; rfl) :
    EvN prog w A Γ (.Subscript e (.Slice lower upper (some st) p) pos) (pickL ds lo hi (some c)) := fun s Q E ok h =>
  wpAny_Subscript_Slice_step (T := "list") slot_list_getitem.lookup (h1 s _ _ ok fun a vs s₁ k₁ hl rs => wpAny_Slice (wp_part h2 (ok.step k₁) fun vl s₂ k₂ pl => wp_part h3 ((ok.step k₁).step k₂) fun vu s₄ k₄ pu => by
    rw [evalPart_some]
    refine h4 s₄ _ _ (((ok.step k₁).step k₂).step k₄) fun vc s₃ k₃ r₃ => ?_
    obtain ⟨tc, rfl⟩ := r₃.int_inv
    have k := ((k₁.trans k₂).trans k₄).trans k₃
    have hl3 : s₃.heap.PlainList a vs.toArray := ((hl.at fun o e => k₂.get _ o e).at fun o e => k₄.get _ o e).at fun o e => k₃.get _ o e
    refine ⟨(hl3.isList.push _).typeIs, wpAny_getItem_list_slice (hl3.isList.push _) (Heap.IsSliceOf.new ..) pl pu (.int c tc) (by simpa using hc) ?_ (by rw [List.size_toArray, rs.len]; exact hz)⟩
    have x1 : Ext s₃ { s₃ with heap := s₃.heap.push { cls := .type "slice", data := .fields #[vl, vu, .int c tc] } } := ⟨⟨_, _, rfl⟩, fun b o e => Heap.get?_push_of_some _ e⟩
    have kk := k.trans x1
    generalize s₃.heap.push { cls := .type "slice", data := .fields #[vl, vu, .int c tc] } = H at kk x1
    have hfr : s.heap.get? H.objs.size = none := by
      cases q : s.heap.get? H.objs.size with
      | none => rfl
      | some o => exact absurd (Heap.lt_size (kk.get _ _ q)) (Nat.lt_irrefl _)
    have x2 : Ext { s₃ with heap := H } { s₃ with heap := H.push { cls := .type "list", data := .seq (slicePick vs.toArray lo hi (some c)) } } := ⟨⟨_, _, rfl⟩, fun b o e => Heap.get?_push_of_some _ e⟩
    rw [slicePick_eq] at x2 ⊢
    refine h H.objs.size (pickL vs lo hi (some c)) _ (kk.trans x2) hfr ⟨_, Heap.get?_push_size _ rfl⟩ ?_
    exact (((((rs.keeps k₂.get).keeps k₄.get).keeps k₃.get).keeps x1.get).pick lo hi (some c)).fresh (get?_size _) fun b o _ _ e => Heap.get?_push_of_some _ e)) ht

theorem pick_run' {α : Type} (l : List α) (a n : Nat) : ((List.range n).map (a + ·)).filterMap (l[·]?) = (l.drop a).take n := by
  induction n with
  | zero => simp
  | succ n ih =>
    rw [List.range_succ, List.map_append, List.filterMap_append, ih, List.take_add_one, List.getElem?_drop]
    congr 1
theorem pickL_one {α : Type} (l : List α) (lo hi : Option Int) : pickL l lo hi none = (l.drop (kms_lo lo l.length)).take (kms_hi hi l.length - kms_lo lo l.length) := by
  unfold pickL
  rw [kms_bounds]
  simp only [sliceRange_one]
  exact pick_run' _ _ _
theorem pickL_take {α : Type} (l : List α) (k : Nat) : pickL l none (some (k : Int)) none = l.take k := by
  rw [pickL_one]
  unfold kms_lo kms_hi
  simp only [if_neg (show ¬ ((k : Int) < 0) by omega)]
  simp
theorem pickL_init {α : Type} (l : List α) : pickL l none (some (-1)) none = l.take (l.length - 1) := by
  rw [pickL_one]
  unfold kms_lo kms_hi
  simp
theorem pickL_last {α : Type} (l : List α) : pickL l (some (-1)) none none = l.drop (l.length - 1) := by
  rw [pickL_one]
  unfold kms_lo kms_hi
  simp
  rw [List.take_of_length_le (by simp)]
theorem pickL_rev {α : Type} (l : List α) : pickL l none none (some (-1)) = l.reverse := by
  unfold pickL
  rw [krv_bounds]
  show ((sliceRange ((l.length : Int) - 1) (-1) (-1)).filterMap (l[·]?)) = _
  rw [krv_sliceRange, krv_range, List.filterMap_reverse]
  congr 1
  have := pick_run' l 0 l.length
  simpa using this
end Mine

end
section
open PySem PySem.W PyProof.Rows PySem.Calls
set_option autoImplicit false
set_option linter.all false
namespace Mine
variable {prog : Program} {w : World} {A : Around} {Γ : Cx} {J : Heap → Prop}

inductive Nils : List Expr → Nat → Prop
  | nil : Nils [] 0
  | cons {p : Pos} {es : List Expr} {n : Nat} : Nils es n → Nils (.List [] p :: es) (n + 1)
noncomputable def Cx.owns (Γ : Cx) (as : List Addr) : Cx := { Γ with μ := Γ.μ ++ as.map fun a => (a, []) }
theorem owns_cons (Γ : Cx) (a : Addr) (as : List Addr) : (Γ.own a []).owns as = Γ.owns (a :: as) := by
  show (⟨Γ.B, Γ.env, Γ.W, Γ.ρ, (Γ.μ ++ [(a, [])]) ++ as.map fun a => (a, [])⟩ : Cx) = ⟨Γ.B, Γ.env, Γ.W, Γ.ρ, Γ.μ ++ (a :: as).map fun a => (a, [])⟩
  rw [List.append_assoc]; rfl
theorem starEach_List (p : Pos) (es : List Expr) (env : Env) : starEach (.List [] p :: es) env = (false, eval (.List [] p) env) :: starEach es env := rfl

theorem wp_nils {es : List Expr} {n : Nat} (hn : Nils es n) : ∀ {Γ : Cx} {s : Shared} {pos : Pos} {Q : List Value → Shared → Prop} {E : Value → Shared → Prop}, Γ.Ok s.heap →
    (∀ as s', as.length = n → Ext s s' → (Γ.owns as).Ok s'.heap → Q (as.map .ref) s') → wpAny (model prog w) A (spliced (backTo pos (starEach es Γ.env))) Q E s := by
  induction hn with
  | nil =>
    intro Γ s pos Q E ok h
    refine wpAny_items_nil (h [] s rfl (Ext.refl _) ?_)
    have : Γ.owns [] = Γ := by show (⟨Γ.B, Γ.env, Γ.W, Γ.ρ, Γ.μ ++ []⟩ : Cx) = Γ; rw [List.append_nil]
    rw [this]; exact ok
  | cons hn ih =>
    rename_i p es n
    intro Γ s pos Q E ok h
    refine wpAny_items_cons (EvN.nil s _ _ ok fun a vs s₁ k₁ ha hl hr => ?_) (starEach_List p es Γ.env)
    have ok₁ : (Γ.own a []).Ok s₁.heap := ok.thaw k₁.get ha hl hr
    refine ih (Γ := Γ.own a []) (s := s₁) ok₁ fun as s' hlen k ok' => ?_
    exact h (a :: as) s' (by simp [hlen]) (k₁.trans k) (owns_cons Γ a as ▸ ok')

theorem refs_rep {O : List Addr} {h : Heap} : ∀ as : List Addr, Reps O h (as.map .ref) (as.map .ref)
  | [] => Reps.nil
  | a :: as => Reps.cons (.ref a) (refs_rep as)

theorem SJ.nilsSw {elts es : List Expr} {n k k' : Nat} {tpos vpos pos : Pos} (hJ : JOk J) (xs : List Str) (hA : A.handled = none) (hn : Nils es n) (hl : xs.length = n := by rfl) (hst : xs.reverse.all (storable Γ.env Γ.W) = true := by rfl) (hz : n ≤ sizeLine := by simp [sizeLine])
    (hs : swapsWithSole [.Tuple elts k tpos] (.Tuple es k' vpos) pos.line Γ.env = pure false := by rfl) (hw : swappedStores [.Tuple elts k tpos] (.Tuple es k' vpos) Γ.env = pure (some xs) := by rfl) :
    SJ prog w A J Γ (.Assign [.Tuple elts k tpos] (.Tuple es k' vpos) pos) (fun f s' => f = .next ∧ ∃ as, as.length = n ∧ ((Γ.owns as).sets xs.reverse (as.map PV.ref).reverse).Ok s'.heap) := fun s Q E ok j h =>
  Assign_Tuple_swapped (wpAny_Tuple (wp_nils hn ok fun as s₁ hlen k₁ ok₁ => ⟨by rw [List.length_map, hlen]; exact hz, by
    have x1 : Ext s₁ { s₁ with heap := s₁.heap.push { cls := .type "tuple", data := .seq (as.map Value.ref).toArray } } := ⟨⟨_, _, rfl⟩, fun b o e => Heap.get?_push_of_some _ e⟩
    have ht := isTuple_push s₁.heap (as.map Value.ref)
    have hsz : xs.length = (as.map Value.ref).toArray.size := by simp [hl, hlen]
    rw [hsz]
    refine wpAny_unpackItems_tuple (s := { s₁ with heap := s₁.heap.push { cls := .type "tuple", data := .seq (as.map Value.ref).toArray } }) hA ht fun h' hs' => ?_
    have x2 := ext_fresh (s := { s₁ with heap := s₁.heap.push { cls := .type "tuple", data := .seq (as.map Value.ref).toArray } }) hs'
    have ok₂ := (ok₁.step x1).step x2
    have rr : Reps (Γ.owns as).O h' (as.map Value.ref).reverse (as.map PV.ref).reverse := by
      rw [← List.map_reverse, ← List.map_reverse]; exact refs_rep _
    refine wp_storesB (Γ := Γ.owns as) (s := { s₁ with heap := h' }) ok₂ rr (by simp [hl, hlen]) hst fun s' ok' kp => h _ _ ?_ ?_ ⟨rfl, as, hlen, ok'⟩
    · exact As.trans k₁.as (As.trans x1.as (As.trans x2.as kp.as))
    · exact hJ _ _ (((Kb.of k₁.get).trans (Kb.of x1.get)).trans ((Kb.of x2.get).trans (kp.kb ok₂))) j⟩)) hs hw
theorem SJ.nils {elts es : List Expr} {n k k' : Nat} {tpos vpos pos : Pos} (hJ : JOk J) (xs : List Str) (hA : A.handled = none) (hN : Nms elts xs) (hn : Nils es n) (hl : xs.length = n := by rfl) (hst : xs.all (storable Γ.env Γ.W) = true := by rfl) (hz : n ≤ sizeLine := by simp [sizeLine])
    (hs : swapsWithSole [.Tuple elts k tpos] (.Tuple es k' vpos) pos.line Γ.env = pure false := by rfl) (hw : swappedStores [.Tuple elts k tpos] (.Tuple es k' vpos) Γ.env = pure none := by rfl) :
    SJ prog w A J Γ (.Assign [.Tuple elts k tpos] (.Tuple es k' vpos) pos) (fun f s' => f = .next ∧ ∃ as, as.length = n ∧ ((Γ.owns as).sets xs (as.map PV.ref)).Ok s'.heap) := fun s Q E ok j h =>
  Assign_Tuple (wpAny_Tuple (wp_nils hn ok fun as s₁ hlen k₁ ok₁ => ⟨by rw [List.length_map, hlen]; exact hz, by
    have x1 : Ext s₁ { s₁ with heap := s₁.heap.push { cls := .type "tuple", data := .seq (as.map Value.ref).toArray } } := ⟨⟨_, _, rfl⟩, fun b o e => Heap.get?_push_of_some _ e⟩
    have ht := isTuple_push s₁.heap (as.map Value.ref)
    refine wpAny_assign_Tuple (s := { s₁ with heap := s₁.heap.push { cls := .type "tuple", data := .seq (as.map Value.ref).toArray } }) hA ht (by rw [(assignEach_len hN _).1, hl]; simp [hlen]) (assignEach_len hN _).2 fun h' hs' => ?_
    have x2 := ext_fresh (s := { s₁ with heap := s₁.heap.push { cls := .type "tuple", data := .seq (as.map Value.ref).toArray } }) hs'
    have ok₂ := (ok₁.step x1).step x2
    refine wp_stores hN (Γ := Γ.owns as) (s := { s₁ with heap := h' }) (vs := as.map Value.ref) ok₂ (refs_rep as) (by simp [hl, hlen]) hst fun s' ok' kp => h _ _ ?_ ?_ ⟨rfl, as, hlen, ok'⟩
    · exact As.trans k₁.as (As.trans x1.as (As.trans x2.as kp.as))
    · exact hJ _ _ (((Kb.of k₁.get).trans (Kb.of x1.get)).trans ((Kb.of x2.get).trans (kp.kb ok₂))) j⟩)) hs hw

/-- a def with cells of its own is called, beside a fact of tables -/
theorem fn_cellsJ {n : Nat} {s : Shared} {fa : Addr} {fd : FuncData} {body : List Stmt} {vs : List Value} {binds : List (Str × Value)} {W : List Str} {ρ : List (Str × PV)} {B : Heap} {R : Result → Shared → Prop} {RV : Value → Shared → Prop}
    (hJ : JOk J) (hj : J s.heap)
    (hA : AOk (n + 1) A) (hf : Fun s.heap fa fd) (hlim : s.heap.NoLimit) (hbody : fd.body = .stmts body) (hbind : bindArgs fd ⟨vs, []⟩ = pure binds) (hclo : fd.closure = [])
    (hB : ∀ b o, B.get? b = some o → s.heap.get? b = some o)
    (hkind : ∀ x ∈ binds, fd.scope.names.lookup x.1 = some .local ∨ (fd.scope.names.lookup x.1 = some .cell ∧ ((cellsFrom (s.heap.objs.size + 1) fd.scope.names []).lookup x.1).isSome = true))
    (hρ : ∀ x d, ρ.lookup x = some d → ∃ v, Rep [] s.heap v d ∧ ((fd.scope.names.lookup x = some .local ∧ bindL (callEnvC fd s.heap.objs.size fa).kindOf binds (fun _ => none) x = some v) ∨
      (fd.scope.names.lookup x = some .cell ∧ ((cellsFrom (s.heap.objs.size + 1) fd.scope.names []).lookup x).isSome = true ∧ bindC (callEnvC fd s.heap.objs.size fa).kindOf binds (fun _ => none) x = some v)))
    (h : XJ prog w (A.deeper (callEnvC fd s.heap.objs.size fa)) J ⟨B, callEnvC fd s.heap.objs.size fa, W, ρ, []⟩ body (fun f s' => (∀ b o, B.get? b = some o → s'.heap.get? b = some o) ∧ RV (retOf f) s'))
    (hR : ∀ v s', As s s' → J s'.heap → (∀ b o, B.get? b = some o → s'.heap.get? b = some o) → RV v s' → R (.ok (.ret v)) s')
    (hco : fd.scope.isCoroutine = false := by rfl) (hgen : fd.scope.isGenerator = false := by rfl) (hk : fd.scope.kind = .function := by rfl) (hgl : fd.globals = mainGlobals := by rfl) (hbl : fd.builtins = builtinsNs := by rfl)
    (hsim : bindL (callEnvC fd s.heap.objs.size fa).kindOf binds (fun _ => none) "is_simple" = none := by rfl) :
    codeAny (model prog w) A (.call (.ref fa) ⟨vs, []⟩) R s := by
  obtain ⟨o, ho, hd⟩ := hf.at'
  refine codeAny_call_cells hA.room ho hd hlim hf.code hbody hbind hclo hkind (fun s₁ IC => ?_) hco hgen hk
  obtain ⟨h₁, tk₁, rfl, hkp⟩ := IC.done
  have hL : (callEnvC fd s.heap.objs.size fa).locals = s.heap.objs.size := rfl
  have hst : ∀ b, Stor (callEnvC fd s.heap.objs.size fa) W b → s.heap.objs.size ≤ b := by
    rintro b (hb | ⟨x, _, hx⟩)
    · rw [hb]; exact Nat.le_refl _
    · exact Nat.le_of_lt (IC.above x b (PySem.mem_of_lookup hx))
  have ok : (⟨B, callEnvC fd s.heap.objs.size fa, W, ρ, []⟩ : Cx).Ok h₁ := by
    refine ⟨fun b o e => hkp _ _ (hB b o e), ⟨hk, hgl, hbl, ⟨_, IC.toInCall.ns, hsim⟩, fun x c e => ⟨_, IC.cell x c e⟩, lookup_pair_inj IC.apart⟩, fun x d e => ?_, fun a ds e => absurd e List.not_mem_nil, List.nodup_nil, fun b o hb e => ?_⟩
    · obtain ⟨v, hr, hv⟩ := hρ x d e
      refine ⟨v, ?_, hr.keeps hkp⟩
      rcases hv with ⟨h1, h2⟩ | ⟨h1, h2, h3⟩
      · exact .inl ⟨h1, _, IC.toInCall.ns, h2⟩
      · obtain ⟨c, hc⟩ := Option.isSome_iff_exists.mp h2
        refine .inr ⟨.inl h1, c, hc, ?_⟩
        have := IC.cell x c hc
        rw [h3] at this; exact this
    · rcases hb with hb | hb
      · exact absurd (Heap.lt_size (hB _ _ e)) (Nat.not_lt.mpr (hst b hb))
      · exact absurd hb List.not_mem_nil
  refine h _ _ _ ok (hJ _ _ (Kb.of hkp) hj) fun f s' as j r => ?_
  have hx : As s s' := by
    obtain ⟨h', tk, rfl⟩ := as
    exact ⟨_, _, rfl⟩
  have := hR _ s' hx j r.1 r.2
  cases f <;> exact this
end Mine

end
section
open PySem PySem.W PyProof.Rows PySem.Calls
set_option autoImplicit false
set_option linter.all false
set_option maxRecDepth 100000
namespace Mine
variable {prog : Program} {w : World} {A : Around} {Γ : Cx}

/-- what the making of a function looks at -/
noncomputable def BMain (h : Heap) : Prop := ∃ mg bm o, h.Ns mainGlobals mg ∧ mg "__builtins__" = some (.ref bm) ∧ bm ≠ builtinsNs ∧ bm ≠ mainGlobals ∧ h.get? bm = some o ∧ o.cls = .type "module" ∧ o.dict = some builtinsNs ∧ o.data = .plain
theorem BMain.keeps {h h' : Heap} (x : BMain h) (k : ∀ b o, h.get? b = some o → h'.get? b = some o) : BMain h' :=
  let ⟨mg, bm, o, a, b, c, d, e, f⟩ := x; ⟨mg, bm, o, a.keeps k, b, c, d, k _ _ e, f⟩

/-- the table of a code: empty, or it holds the lambda at pos -/
noncomputable def TabSt (T : Addr) (pos : Pos) (qual : Str) (h : Heap) : Prop :=
  h.get? T = some (tabObj #[]) ∨ ∃ c', h.get? T = some (tabObj #[rawInt pos.line, rawInt pos.col, .ref c']) ∧ h.CodeRec (.ref c') qual
theorem keep_tab (ps : Array Value) : Keepable (tabObj ps) := ⟨ps, rfl, .inl rfl⟩
theorem TabSt.jok (T : Addr) (pos : Pos) (qual : Str) : JOk (TabSt T pos qual) := fun h h' k j => by
  rcases j with j | ⟨c', j, hr⟩
  · exact .inl (k _ _ (keep_tab _) j)
  · obtain ⟨c₂, oc, vs, t, e2, hoc, hd, hv⟩ := hr
    exact .inr ⟨c', k _ _ (keep_tab _) j, c₂, oc, vs, t, e2, k _ _ ⟨vs, hd, .inr ⟨_, _, hv⟩⟩ hoc, hd, hv⟩
theorem TabSt.at' {T : Addr} {pos : Pos} {qual : Str} {h : Heap} (j : TabSt T pos qual h) : ∃ o, Keepable o ∧ h.get? T = some o := by
  rcases j with j | ⟨c', j, _⟩
  · exact ⟨_, keep_tab _, j⟩
  · exact ⟨_, keep_tab _, j⟩

theorem trip_nil : TriplesOk ([] : List Value) := by unfold TriplesOk; trivial

theorem wp_lambda {s : Shared} {params : Arguments} {body : Expr} {scope : Scope} {pos : Pos} {T c : Addr} {qual : Str} {clos : List (Str × Addr)} {Q : Value → Shared → Prop} {E : Value → Shared → Prop} (ok : Γ.Ok s.heap) (hb : BMain Γ.B) (hC : CodeHd Γ.B c T) (hT : Γ.B.get? T = none)
    (j : TabSt T pos qual s.heap) (hq : Γ.env.qual ++ "<lambda>" = qual) (hcode : Γ.env.code = .ref c) (hcl : closureFor scope Γ.env = pure clos) (hdef : defaultsOf params Γ.env = ([], []))
    (h : ∀ f pm c' ctv s', As s s' → TabSt T pos qual s'.heap → (∀ b o, b ≠ T → s.heap.get? b = some o → s'.heap.get? b = some o) → Fun s'.heap f (kla_fn "<lambda>" qual params body scope clos pm (.ref c') ctv) → Q (.ref f) s') :
    wpAny (model prog w) A (eval (.Lambda params body scope pos) Γ.env) Q E s := by
  refine kla_eval hdef ?_
  rw [hq]
  obtain ⟨mg, bm, ob, hn, b1, b2, b3, b4, b5, b6, b7⟩ := hb
  have hns := hn.keeps ok.base
  have hbT : bm ≠ T := fun q => by rw [q, hT] at b4; cases b4
  have hgT : mainGlobals ≠ T := fun q => by
    obtain ⟨o, es, ep, e, _⟩ := hn
    rw [q, hT] at e; cases e
  have hba : s.heap.BuiltinsAt mg T := ⟨bm, ob, b1, b2, b3, hbT, ok.base _ _ b4, b5, b6, b7⟩
  rcases j with j | ⟨c', j, hr⟩
  · refine kla_makeFunction (mg := mg) hcl ok.fr.gl hns hcode (hC.keeps ok.base) j (trip_nil) rfl hgT hba fun c' ctv h' tk hx hge hlt hrec htb => ?_
    refine h h'.objs.size ((mg "__name__").getD .none) c' ctv _ ⟨_, _, rfl⟩ (.inr ⟨c', Heap.get?_push_of_some _ htb, hrec.keeps fun b o e => Heap.get?_push_of_some _ e⟩) (fun b o hb e => Heap.get?_push_of_some _ (hx b o hb e)) ?_
    exact ⟨⟨_, Heap.get?_push_size _ rfl, rfl⟩, hrec.keeps fun b o e => Heap.get?_push_of_some _ e⟩
  · refine kla_makeFunctionHit (mg := mg) (cv := .ref c') hcl ok.fr.gl hns hcode (hC.keeps ok.base) j ?_ ?_ hba fun ctv h' tk hk hsz => ?_
    · exact TriplesOk_snoc _ _ _ [] trip_nil
    · exact codeAmong_snoc [] trip_nil rfl
    · refine h h'.objs.size ((mg "__name__").getD .none) c' ctv _ ⟨_, _, rfl⟩ (.inr ⟨c', Heap.get?_push_of_some _ (hk _ _ j), (hr.keeps hk).keeps fun b o e => Heap.get?_push_of_some _ e⟩) (fun b o _ e => Heap.get?_push_of_some _ (hk b o e)) ?_
      exact ⟨⟨_, Heap.get?_push_size _ rfl, rfl⟩, (hr.keeps hk).keeps fun b o e => Heap.get?_push_of_some _ e⟩
end Mine

end
section
open PySem PySem.W PyProof.Rows PySem.Calls
set_option autoImplicit false
set_option linter.all false
set_option maxRecDepth 100000
namespace Mine
variable {prog : Program} {w : World} {A : Around} {Γ : Cx}

theorem ok_but {h h' : Heap} {T : Addr} {o : Obj} (ok : Γ.Ok h) (hT : Γ.B.get? T = none) (hk : Keepable o) (e : h.get? T = some o) (k : ∀ b o, b ≠ T → h.get? b = some o → h'.get? b = some o) : Γ.Ok h' :=
  ok.change fun b o' hb e' => k b o' (by
    rintro rfl
    rw [e] at e'; cases e'
    rcases hb with hb | ⟨o'', hb⟩ | hb | ⟨y, hb⟩
    · obtain ⟨fs, hd, _⟩ := hk; exact notSeq_fields hd hb
    · rw [hT] at hb; cases hb
    · exact keep_stor (W := []) ok.fr (.inl hb) e hk
    · exact keep_stor (W := [y]) ok.fr (.inr ⟨y, List.mem_singleton.mpr rfl, hb⟩) e hk) e'

/-- bisect_left(a, True, key=lambda ..) -/
theorem wp_bis {s : Shared} {n : Nat} {p pos kpos : Pos} {e0 e1 : Expr} {params : Arguments} {body : Expr} {scope : Scope} {lpos : Pos} {T c : Addr} {qual : Str} {clos : List (Str × Addr)} {ds : List PV} {q : Nat → Bool} {r : Nat} {Q : Value → Shared → Prop} {E : Value → Shared → Prop}
    (hA : AOk (n + 1) A) (ok : Γ.Ok s.heap) (t : TF w.params Γ.B) (hb : BMain Γ.B) (hC : CodeHd Γ.B c T) (hT : Γ.B.get? T = none) (j : TabSt T lpos qual s.heap)
    (h0 : Ev prog w A Γ e0 (.list ds)) (h1 : Ev prog w A Γ e1 (.bool true))
    (hkey : ∀ (s₃ : Shared) f pm c' ctv, Γ.Ok s₃.heap → Fun s₃.heap f (kla_fn "<lambda>" qual params body scope clos pm (.ref c') ctv) → ∀ i d, ds[i]? = some d → FnOk prog w (fun h => ∀ b o, s₃.heap.get? b = some o → h.get? b = some o) n f [d] (.bool (q i)))
    (hr : r ≤ ds.length) (hlo : ∀ i, i < r → q i = false) (hhi : ∀ i, r ≤ i → i < ds.length → q i = true) (hn : ds.length < 2 ^ 20)
    (hQ : ∀ v s', As s s' → TabSt T lpos qual s'.heap → Γ.Ok s'.heap → (∃ tk, v = .int r tk) → Q v s')
    (hq : Γ.env.qual ++ "<lambda>" = qual) (hcode : Γ.env.code = .ref c) (hcl : closureFor scope Γ.env = pure clos) (hdef : defaultsOf params Γ.env = ([], []) := by rfl)
    (hk : Γ.env.kindOf "bisect_left" = some .globalImplicit := by rfl) (he : starEach [e0, e1] Γ.env = (false, eval e0 Γ.env) :: starEach [e1] Γ.env := by rfl) (he1 : starEach [e1] Γ.env = (false, eval e1 Γ.env) :: starEach [] Γ.env := by rfl) :
    wpAny (model prog w) A (eval (.Call (.Name "bisect_left" p) [e0, e1] [⟨some "key", .Lambda params body scope lpos, kpos⟩] pos) Γ.env) Q E s := by
  rw [eval_CallName]
  refine wpAny_bind (wp_glob ok hk (gl_bl t) ?_)
  obtain ⟨doc, pm', an, cdv, ct, hfb⟩ := fun_bl t
  obtain ⟨o, ho, hdat⟩ := hfb.at'
  have ev := (Evs.cons h0 (Evs.cons h1 Evs.nil he1) he) s pos
  have e0' : backTo pos (starEach [e0, e1] Γ.env) = backTo pos ((false, eval e0 Γ.env) :: starEach [e1] Γ.env) := by rw [he]
  rw [e0'] at ev ⊢
  refine callWith_function_kw (o := o) (fd := fdAt (topAt 4) "bisect_left" (.ref 40) (.ref 41) doc pm' an cdv ct) (evalArgs_kw rfl (ev _ _ ok fun vs s₁ k₁ rs => ?_))
  have ok₁ := ok.step k₁
  obtain ⟨va, vb, rfl, ra, rb⟩ := reps2 rs
  rw [rb.bool_inv]
  have j₁ : TabSt T lpos qual s₁.heap := TabSt.jok _ _ _ _ _ (Kb.of k₁.get) j
  refine wpAny_evalAll_cons (wpAny_bind (wp_lambda ok₁ hb hC hT j₁ hq hcode hcl hdef fun f pm c' ctv s₃ as₃ j₃ k₃ hf₃ => wpAny_bind (wpAny_standAt (wpAny_pure ?_))))
  refine wpAny_evalAll_nil ⟨⟨?_, hdat⟩, ?_⟩
  · exact k₃ _ _ (fun q => by rw [q, hT] at ho; cases ho) (ok₁.base _ _ ho)
  obtain ⟨oT, hkT, eT⟩ := j₁.at'
  have ok₃ : Γ.Ok s₃.heap := ok_but ok₁ hT hkT eT k₃
  refine wpAny_call ?_
  have ra₃ : Rep [] s₃.heap va (.list ds) := (ra.mono (fun _ x => x) fun b o _ hq' e => k₃ b o (fun q => by
    rw [q, eT] at e; cases e
    obtain ⟨fs, hd, _⟩ := hkT; exact notSeq_fields hd hq') e).free
  refine bisect_left_key hA (t.keeps ok₃.base) ra₃ hf₃ (hkey s₃ f pm c' ctv ok₃ hf₃) r hr hlo hhi hn fun v s' x rv => ?_
  obtain ⟨tk, rfl⟩ := rv.int_inv
  exact hQ _ s' (As.trans (As.trans k₁.as as₃) x.as) (TabSt.jok _ _ _ _ _ (Kb.of x.get) j₃) (ok₃.step x) ⟨tk, rfl⟩
end Mine

end
section
open PySem PySem.W PyProof.Rows PySem.Calls
set_option autoImplicit false
set_option linter.all false
set_option maxRecDepth 100000
namespace Mine
variable {prog : Program} {w : World} {A : Around} {Γ : Cx}

theorem EvO.none : EvO prog w A Γ Option.none Option.none := trivial
theorem EvO.some {e : Expr} {i : Int} (h : Ev prog w A Γ e (.int i)) : EvO prog w A Γ (Option.some e) (Option.some i) := h

noncomputable def lamPos : Stmt → Pos
  | .For _ _ (.Assign _ (.Call _ _ [⟨_, .Lambda _ _ _ p, _⟩] _) _ :: _) _ _ => p
  | .Assign _ (.Subscript _ (.BinOp (.Call _ _ [⟨_, .Lambda _ _ _ p, _⟩] _) _ _ _) _) _ => p
  | _ => ⟨0, 0, 0, 0⟩
noncomputable def nlp : Pos := lamPos ((bodyOf (topAt 64)).getD 1 (.Pass ⟨0, 0, 0, 0⟩))
noncomputable abbrev nestJ : Heap → Prop := TabSt 145 nlp "_law_nest.<locals>.<lambda>"

theorem fun_nest {P : Params} {h : Heap} (t : TF P h) : ∃ doc pm an ct, Fun h 150 (fdAt (topAt 64) "_law_nest" .none .none doc pm an (.ref 149) ct) := by
  have e : fdK P 150 = fdAt (topAt 64) "_law_nest" .none .none (fdK P 150).doc (fdK P 150).pyModule (fdK P 150).annotations (.ref 149) (fdK P 150).closureTuple := by kernel_rfl
  exact ⟨_, _, _, _, e ▸ t.fn 150 (by kernel_rfl) (by kernel_rfl)⟩

/-- how the nesting is read -/
structure Nest (xs : List Ws) (op : Nat → List Nat) (kp : Nat → Nat) (ab : List Int) : Prop where
  few : xs.length ≤ 9
  ok : ∀ x ∈ xs, x.Ok
  len : ab.length = xs.length
  zero : op 0 = []
  next : ∀ k, k < xs.length → op (k + 1) = (op k).take (kp k) ++ [k]
  lt : ∀ k, k ≤ xs.length → ∀ i ∈ op k, i < k
  short : ∀ k, k ≤ xs.length → (op k).length ≤ k
  keep : ∀ k, k < xs.length → kp k ≤ (op k).length
  low : ∀ k x, xs[k]? = some x → ∀ j i y, j < kp k → (op k)[j]? = some i → xs[i]? = some y → y.less x = true
  high : ∀ k x, xs[k]? = some x → ∀ j i y, kp k ≤ j → (op k)[j]? = some i → xs[i]? = some y → y.less x = false
  same : ∀ k x, xs[k]? = some x → ∀ i y, (op k)[kp k]? = some i → xs[i]? = some y → y.c = x.c ∧ y.b = x.b
  above : ∀ k, k < xs.length → ab[k]? = some (if 0 < kp k then (((op k).getD (kp k - 1) 0 : Nat) : Int) else -1)

noncomputable def wsPV (xs : List Ws) : List PV := xs.map fun x => .obj x.fs
theorem ItrK.cast {e : Expr} {ds ds' : List PV} (h : ItrK prog w A Γ e ds) (q : ds = ds') : ItrK prog w A Γ e ds' := q ▸ h
theorem wsPV_get {xs : List Ws} {i : Nat} {x : Ws} (h : xs[i]? = some x) : (wsPV xs)[i]? = some (.obj x.fs) := by simp [wsPV, h]
theorem natsPV_get {l : List Nat} {j i : Nat} (h : l[j]? = some i) : (natsPV l)[j]? = some (.int (i : Int)) := by simp [natsPV, h]
theorem natsPV_len (l : List Nat) : (natsPV l).length = l.length := by simp [natsPV]

noncomputable abbrev nestρ (xs : List Ws) (a : Addr) (l : List Nat) : List (Str × PV) := [("spaces", .list (wsPV xs)), ("above", .ref a), ("opened", .list (natsPV l))]
noncomputable abbrev envN (doc pm : Value) (an : Option Addr) (ct : Value) (L : Addr) : Env := callEnvC (fdAt (topAt 64) "_law_nest" Value.none Value.none doc pm an (.ref 149) ct) L 150

theorem nest_ok {xs : List Ws} {op : Nat → List Nat} {kp : Nat → Nat} {ab : List Int} (hN : Nest xs op kp ab) {s : Shared} {v : Value} {B : Heap} {R : Result → Shared → Prop} (hA : AOk 5 A) (j : nestJ s.heap) (hB : ∀ b o, B.get? b = some o → s.heap.get? b = some o) (t : TF w.params B) (hbm : BMain B) (hC : CodeHd B 149 145) (hT : B.get? 145 = none)
    (r : Rep [] s.heap v (.list (wsPV xs))) (hR : ∀ v s', As s s' → nestJ s'.heap → (∀ b o, B.get? b = some o → s'.heap.get? b = some o) → Rep [] s'.heap v (.list (intsPV ab)) → R (.ok (.ret v)) s') :
    codeAny (model prog w) A (.call (.ref 150) ⟨[v], []⟩) R s := by
  have ts := t.keeps hB
  have hJ := TabSt.jok 145 nlp "_law_nest.<locals>.<lambda>"
  obtain ⟨doc, pm, an, ct, hf⟩ := fun_nest ts
  have hf9 := hN.few
  have hwl : (wsPV xs).length = xs.length := by simp [wsPV]
  refine fn_cellsJ (J := nestJ) (n := 4) (B := B) (W := ["spaces", "place"]) (ρ := [("spaces", .list (wsPV xs))]) (binds := [("spaces", v)]) (RV := fun v s' => Rep [] s'.heap v (.list (intsPV ab))) hJ j hA hf ts.lim rfl rfl rfl hB ?_ ?_ ?_ hR
  · intro x hx
    simp only [List.mem_cons, List.not_mem_nil, or_false] at hx
    rcases hx with rfl; exact .inr ⟨rfl, rfl⟩
  · intro x d e
    have := PySem.mem_of_lookup e
    simp only [List.mem_cons, Prod.mk.injEq, List.not_mem_nil, or_false] at this
    rcases this with ⟨rfl, rfl⟩
    exact ⟨v, r, .inr ⟨rfl, rfl, rfl⟩⟩
  conv => arg 6; whnf
  have hA' : AOk 4 (A.deeper (envN doc pm an ct s.heap.objs.size)) := hA.deeper _
  refine XJ.cons (SJ.nilsSw hJ ["above", "opened"] hA'.1 (.cons (.cons .nil))) (fun s₁ r₁ => ?_) (fun f s' hf r => absurd r.1 hf)
  obtain ⟨_, as, hlen, ok₁⟩ := r₁
  match as, hlen with
  | [a, a2], _ =>
  have ok₁ := ok₁.freeze (μ₁ := [(a, [])]) (μ₂ := []) (a := a2) (ds := []) (ρ' := [("spaces", .list (wsPV xs)), ("above", .ref a), ("opened", .list [])]) rfl (fun x d e => by
    have := PySem.mem_of_lookup e
    simp only [List.mem_cons, Prod.mk.injEq, List.not_mem_nil, or_false] at this
    rcases this with ⟨rfl, rfl⟩ | ⟨rfl, rfl⟩ | ⟨rfl, rfl⟩
    · exact .inl rfl
    · exact .inl rfl
    · exact .inr ⟨rfl, rfl⟩)
  refine ⟨⟨B, envN doc pm an ct s.heap.objs.size, ["spaces", "place"], [("spaces", .list (wsPV xs)), ("above", .ref a), ("opened", .list [])], [(a, [])]⟩, rfl, ok₁, ?_⟩
  refine XJ.cons (SJ.forG (ds := rng 0 1 xs.length) hJ 145 (fun k ρ μ => ρ = nestρ xs a (op k) ∧ μ = [(a, intsPV (ab.take k))]) ⟨by rw [hN.zero]; rfl, rfl⟩ hT (fun h j => j.at')
    (ItrK.cast (ItrK.range1 hA'.1 (gl_range t) (Ev.bcall (gl_len t) (Evs.cons (Ev.name rfl) Evs.nil) (BCall.len (by rw [hwl]; omega))) (by rw [hwl]; omega)) (by rw [hwl]; simp)) ?_) (fun s₂ r₂ => ?_) (fun f s' hf r => absurd r.1 hf)
  · rintro B' k ρ μ d hsub hBT ⟨rfl, rfl⟩ hd
    obtain ⟨hk, rfl⟩ := rng_get hd
    have hpk : (0 : Int) + (k : Int) * 1 = (k : Int) := by omega
    rw [hpk]
    obtain ⟨x, hx⟩ : ∃ x, xs[k]? = some x := ⟨xs[k], by simp [hk]⟩
    have hxo := hN.ok x (List.mem_of_getElem? hx)
    have t' : TF w.params B' := t.keeps hsub
    have hbm' := hbm.keeps hsub
    have hC' := hC.keeps hsub
    have hop := hN.lt k (Nat.le_of_lt hk)
    have hol := hN.short k (Nat.le_of_lt hk)
    have hkl := hN.keep k hk
    have hnl := natsPV_len (op k)
    generalize hkk : kp k = kk at hkl
    -- keep = bisect_left(...)
    refine XJ.cons (R₁ := Nx ⟨B', envN doc pm an ct s.heap.objs.size, ["spaces", "place"], ("keep", .int kk) :: ("place", .int k) :: nestρ xs a (op k), [(a, intsPV (ab.take k))]⟩) (fun s₀ Q E ok₀ j₀ hQ => wpAny_Assign_Name (wp_bis (Γ := ⟨B', envN doc pm an ct s.heap.objs.size, ["spaces", "place"], ("place", .int k) :: nestρ xs a (op k), [(a, intsPV (ab.take k))]⟩) (n := 3) (T := 145) (c := 149) (qual := "_law_nest.<locals>.<lambda>") (q := fun i => !(decide (i < kk))) (r := kk) hA' ok₀ t' hbm' hC' hBT j₀ (Ev.name rfl) Ev.bool ?_ (by rw [hnl]; exact hkl) (fun i hi => by simp [hi]) (fun i hi _ => by simp; omega) (by rw [hnl]; omega) (fun v s' as' j' ok' hv => ?_) (by kernel_rfl) rfl rfl)) ?_ (fun f s' hf r => absurd r.1 hf)
    · intro s₃ f pm' c' ctv ok₃ hf₃ i d hd' A₁ s₄ vs R₁ hA₁ hsub₄ rs₄ hR₁
      have t₄ : TF w.params s₄.heap := (t'.keeps ok₃.base).keeps hsub₄
      obtain ⟨v₁, rfl, rv₁⟩ := reps1 rs₄
      obtain ⟨vS, hvS, rS⟩ := ok₃.vars "spaces" _ rfl
      obtain ⟨vP, hvP, rP⟩ := ok₃.vars "place" _ rfl
      obtain ⟨cS, hcS, hvS⟩ : ∃ c, (envN doc pm an ct s.heap.objs.size).cells.lookup ("spaces" : Str) = some c ∧ s₃.heap.IsCell c (some vS) := by
        rcases hvS with ⟨q, _⟩ | ⟨_, c, hc, hv⟩
        · cases q
        · exact ⟨c, hc, hv⟩
      obtain ⟨cP, hcP, hvP⟩ : ∃ c, (envN doc pm an ct s.heap.objs.size).cells.lookup ("place" : Str) = some c ∧ s₃.heap.IsCell c (some vP) := by
        rcases hvP with ⟨q, _⟩ | ⟨_, c, hc, hv⟩
        · cases q
        · exact ⟨c, hc, hv⟩
      obtain ⟨ii, hii, rfl⟩ : ∃ ii, (op k)[i]? = some ii ∧ d = .int (ii : Int) := by
        unfold natsPV at hd'
        rw [List.getElem?_map] at hd'
        obtain ⟨ii, h1, h2⟩ := Option.map_eq_some_iff.mp hd'
        exact ⟨ii, h1, h2.symm⟩
      have hik : ii < k := hop ii (List.mem_of_getElem? hii)
      obtain ⟨y, hy⟩ : ∃ y, xs[ii]? = some y := ⟨xs[ii]'(by omega), by simp [show ii < xs.length by omega]⟩
      have hyo := hN.ok y (List.mem_of_getElem? hy)
      have hless : y.less x = decide (i < kk) := by
        by_cases hik' : i < kk
        · rw [hN.low k x hx i ii y (by rw [hkk]; exact hik') hii hy]; simp [hik']
        · rw [hN.high k x hx i ii y (by rw [hkk]; omega) hii hy]; simp [hik']
      obtain ⟨_, _, _, _, _, hfL⟩ := fun_less t₄
      have hcSe : ((envN doc pm an ct s.heap.objs.size).cells.lookup ("spaces" : Str)) = some (s.heap.objs.size + 1) := rfl
      have hcPe : ((envN doc pm an ct s.heap.objs.size).cells.lookup ("place" : Str)) = some (s.heap.objs.size + 2) := rfl
      rw [hcSe] at hcS; cases hcS
      rw [hcPe] at hcP; cases hcP
      have hf₄ := hf₃.keeps hsub₄
      have cS₄ := hvS.keeps hsub₄
      have cP₄ := hvP.keeps hsub₄
      refine fn_lam (n := 2) (ρ := [("k", .int (ii : Int)), ("place", .int (k : Int)), ("spaces", .list (wsPV xs))]) (binds := [("k", v₁)]) hA₁ hf₄ t₄.lim rfl rfl ?_ ?_ ?_ ?_ hR₁ ?_ ?_
      · intro z d e
        have := PySem.mem_of_lookup e
        simp only [List.mem_cons, Prod.mk.injEq, List.not_mem_nil, or_false] at this
        rcases this with ⟨rfl, rfl⟩ | ⟨rfl, rfl⟩ | ⟨rfl, rfl⟩
        · exact .inl ⟨rfl, v₁, rfl, rv₁⟩
        · exact .inr ⟨rfl, s.heap.objs.size + 2, vP, rfl, cP₄, (rP.keeps hsub₄).free⟩
        · exact .inr ⟨rfl, s.heap.objs.size + 1, vS, rfl, cS₄, (rS.keeps hsub₄).free⟩
      · intro z c e
        have e2 : (z, c) ∈ [(("spaces" : Str), s.heap.objs.size + 1), ("place", s.heap.objs.size + 2)] := PySem.mem_of_lookup e
        simp only [List.mem_cons, Prod.mk.injEq, List.not_mem_nil, or_false] at e2
        rcases e2 with ⟨rfl, rfl⟩ | ⟨rfl, rfl⟩
        · exact ⟨_, cS₄⟩
        · exact ⟨_, cP₄⟩
      · intro z z' c e e'
        have e2 : (z, c) ∈ [(("spaces" : Str), s.heap.objs.size + 1), ("place", s.heap.objs.size + 2)] := PySem.mem_of_lookup e
        have e3 : (z', c) ∈ [(("spaces" : Str), s.heap.objs.size + 1), ("place", s.heap.objs.size + 2)] := PySem.mem_of_lookup e'
        simp only [List.mem_cons, Prod.mk.injEq, List.not_mem_nil, or_false] at e2 e3
        rcases e2 with ⟨rfl, rfl⟩ | ⟨rfl, rfl⟩ <;> rcases e3 with ⟨rfl, q⟩ | ⟨rfl, q⟩
        · rfl
        · exact absurd (Nat.add_left_cancel q) (by decide)
        · exact absurd (Nat.add_left_cancel q) (by decide)
        · rfl
      · refine Ev.cast (Ev.not (b := y.less x) (Ev.meth t₄ .less (Ev.idx (k := (ii : Int)) (d := .obj y.fs) (LV.of (Ev.name rfl)) (Ev.name rfl) (by rw [pyIdx_nat]; exact wsPV_get hy) (by omega)) hfL (fun h k => t₄.keeps k) (hA₁.deeper _) (EvsF.cons (EvF.of (Ev.idx (k := (k : Int)) (d := .obj x.fs) (LV.of (Ev.name rfl)) (Ev.name rfl) (by rw [pyIdx_nat]; exact wsPV_get hx) (by omega))) EvsF.nil) (less_ok hyo hxo) (.inr rfl))) ?_
        rw [hless]
      · intro z hz
        have := List.mem_singleton.mp hz
        subst this; rfl
      · intro z hz
        simp only [List.mem_cons, List.not_mem_nil, or_false] at hz
        rcases hz with rfl | rfl | rfl <;> decide
    · obtain ⟨tk, rfl⟩ := hv
      exact wp_store (Γ := ⟨B', envN doc pm an ct s.heap.objs.size, ["spaces", "place"], ("place", .int k) :: nestρ xs a (op k), [(a, intsPV (ab.take k))]⟩) ok' (.int _ tk) rfl fun s'' ok'' kps => hQ _ _ (As.trans as' kps.as) (hJ _ _ (kps.kb ok') j') ⟨rfl, ok''⟩
    · rintro s₀ ⟨_, ok₀⟩
      refine ⟨⟨B', envN doc pm an ct s.heap.objs.size, ["spaces", "place"], ("keep", .int kk) :: ("place", .int k) :: nestρ xs a (op k), [(a, intsPV (ab.take k))]⟩, rfl, ok₀, ?_⟩
      -- if keep < len(opened) and ...: return []
      have hlenO : (natsPV (op k)).length = (op k).length := hnl
      refine XJ.cons (R₁ := Nx ⟨B', envN doc pm an ct s.heap.objs.size, ["spaces", "place"], ("keep", .int kk) :: ("place", .int k) :: nestρ xs a (op k), [(a, intsPV (ab.take k))]⟩)
        (SJ.ifs (b := false) hJ (Tr.cast (Tr.and (b := decide ((kk : Int) < ((natsPV (op k)).length : Int))) (c := false) (Tr.cmp (Ev.name rfl) (Ev.bcall (gl_len t') (Evs.cons (Ev.name rfl) Evs.nil) (BCall.len (by rw [hnl]; omega))) COp.lt) fun hlt => ?_) (by simp)) (fun q => by cases q) (fun _ => XJ.nil fun s' ok' => ⟨rfl, ok'⟩)) ?_ (fun f s' hf r => absurd r.1 hf)
      · have hlt : kk < (op k).length := by
          have : (kk : Int) < ((natsPV (op k)).length : Int) := by simpa using hlt
          rw [hnl] at this; omega
        obtain ⟨i, hi⟩ : ∃ i, (op k)[kk]? = some i := ⟨(op k)[kk], by simp [hlt]⟩
        have hik : i < k := hop i (List.mem_of_getElem? hi)
        obtain ⟨y, hy⟩ : ∃ y, xs[i]? = some y := ⟨xs[i]'(by omega), by simp [show i < xs.length by omega]⟩
        have hs := hN.same k x hx i y (by rw [hkk]; exact hi) hy
        obtain ⟨_, _, _, _, _, hfE⟩ := fun_equal t'
        have hd1 : decide (y.c = x.c ∧ y.b = x.b) = true := by simpa using hs
        refine Tr.cast (Tr.and (b := false) (c := false) (Tr.cast (Tr.cmp (Ev.meth t' .equal (Ev.idx (k := (i : Int)) (d := .obj y.fs) (LV.of (Ev.name rfl)) (Ev.idx (k := (kk : Int)) (d := .int (i : Int)) (LV.of (Ev.name rfl)) (Ev.name rfl) (by rw [pyIdx_nat]; exact natsPV_get hi) (by omega)) (by rw [pyIdx_nat]; exact wsPV_get hy) (by omega)) hfE (fun h k => t'.keeps k) (hA'.le (by omega)) (EvsF.cons (EvF.of (Ev.idx (k := (k : Int)) (d := .obj x.fs) (LV.of (Ev.name rfl)) (Ev.name rfl) (by rw [pyIdx_nat]; exact wsPV_get hx) (by omega))) EvsF.nil) equal_ok (.inr rfl)) Ev.bool COp.isNotB) (by rw [hd1]; rfl)) fun q => by cases q) rfl
      rintro s₅ ⟨_, ok₅⟩
      refine ⟨⟨B', envN doc pm an ct s.heap.objs.size, ["spaces", "place"], ("keep", .int kk) :: ("place", .int k) :: nestρ xs a (op k), [(a, intsPV (ab.take k))]⟩, rfl, ok₅, ?_⟩
      have hab := hN.above k hk
      rw [hkk] at hab
      refine XJ.step hJ (S.append (d := .int (if 0 < kk then (((op k).getD (kk - 1) 0 : Nat) : Int) else -1)) 0 (Ev.name rfl) ?_ rfl (by simp [intsPV, sizeLine]; omega)) ?_
      · refine Ev.ifexp (c := decide (0 < kk)) (Tr.cast (Tr.cmp (Ev.name rfl) Ev.int COp.gt) (by simp)) (fun hc => ?_) (fun hc => ?_)
        · have hc : 0 < kk := by simpa using hc
          rw [if_pos hc]
          have hlt : kk - 1 < (op k).length := by omega
          refine Ev.idx (k := ((kk - 1 : Nat) : Int)) (LV.of (Ev.name rfl)) (Ev.cast (Ev.bin (Ev.name rfl) Ev.int BOp.sub) (by congr 1; omega)) ?_ (by omega)
          rw [pyIdx_nat]
          exact natsPV_get (by simp [hlt])
        · have hc : ¬ 0 < kk := by simpa using hc
          rw [if_neg hc]
          exact Ev.neg Ev.int
      · refine XJ.step hJ (S.assign (d := .list (natsPV (op (k + 1)))) (Ev.cast (Ev.addList (LV.of (EvN.slice (lo := none) (hi := some (kk : Int)) (LV.of (Ev.name rfl)) EvO.none (EvO.some (Ev.name rfl)) (by rw [hnl]; simp [sizeLine]; omega)).ev) (LV.of (Ev.list (Evs.cons (Ev.name rfl) Evs.nil))) (by rw [pickL_take]; simp [sizeLine, hnl]; omega)) ?_)) ?_
        · rw [pickL_take, hN.next k hk, hkk]
          simp [natsPV]
        · refine XJ.nil fun s' ok' => ⟨rfl, nestρ xs a (op (k + 1)), [(a, intsPV (ab.take (k + 1)))], ⟨rfl, rfl⟩, ?_⟩
          have e1 : intsPV (ab.take (k + 1)) = intsPV (ab.take k) ++ [.int (if 0 < kk then (((op k).getD (kk - 1) 0 : Nat) : Int) else -1)] := by
            rw [List.take_add_one, hab]; simp [intsPV]
          rw [e1]
          exact ok'.to (Sub.cons rfl (Sub.cons rfl (Sub.cons rfl Sub.nil)))
  · obtain ⟨_, ρ', μ', ⟨rfl, rfl⟩, ok₂⟩ := r₂
    rw [rng_len] at ok₂
    have ok₃ := ok₂.freeze (μ₁ := []) (μ₂ := []) (a := a) (ds := intsPV (ab.take xs.length)) (ρ' := [("above", .list (intsPV (ab.take xs.length)))]) rfl (fun x d e => by
      have := PySem.mem_of_lookup e
      simp only [List.mem_cons, Prod.mk.injEq, List.not_mem_nil, or_false] at this
      rcases this with ⟨rfl, rfl⟩
      exact .inr ⟨rfl, rfl⟩)
    refine ⟨⟨B, envN doc pm an ct s.heap.objs.size, ["spaces", "place"], [("above", .list (intsPV (ab.take xs.length)))], []⟩, rfl, ok₃, ?_⟩
    rw [← hN.len, List.take_length]
    exact XJ.ret hJ (Ev.name rfl) fun v s' ok' r' => ⟨ok'.base, r'⟩
end Mine

end
section
open PySem PySem.W PyProof.Rows PySem.Calls
set_option autoImplicit false
set_option linter.all false
set_option maxRecDepth 100000
namespace Mine

noncomputable def pieces : List (List Nat) := [[32], [9], [32, 9], [9, 32], [32, 32, 9], [32, 32]]
noncomputable def leadsAt : Nat → List (List Nat)
  | 0 => [[]]
  | d + 1 => (leadsAt d).flatMap fun l => pieces.map fun p => l ++ p
/-- the runs of a lead, between its tabs -/
noncomputable def runs : List Nat → List (List Nat)
  | [] => [[]]
  | c :: l => if c = 9 then [] :: runs l else match runs l with
    | r :: rs => (c :: r) :: rs
    | [] => [[c]]
noncomputable def tabbed : List (List Nat) → List Nat
  | [] => []
  | [r] => r
  | r :: rs => r ++ 9 :: tabbed rs
noncomputable def turnRuns (rs : List (List Nat)) : List (List Nat) := (rs.take (rs.length - 1)).reverse ++ rs.drop (rs.length - 1)
noncomputable def turned (l : List Nat) : List Nat := tabbed (turnRuns (runs l))
theorem turn_scan : ∀ d < 4, ∀ l ∈ leadsAt d, Ws.scan (turned l) = Ws.scan l ∧ l.length ≤ 9 ∧ (turned l).length ≤ 9 ∧ tabbed (runs l) = l := by decide +kernel
theorem less_up1 : ∀ d < 3, ∀ l ∈ leadsAt d, ∀ p ∈ pieces, (Ws.scan l).less (Ws.scan (l ++ p)) = true ∧ (Ws.scan (l ++ p)).less (Ws.scan l) = false := by decide +kernel
theorem less_up2 : ∀ d < 2, ∀ l ∈ leadsAt d, ∀ p ∈ pieces, ∀ q ∈ pieces, (Ws.scan l).less (Ws.scan (l ++ p ++ q)) = true ∧ (Ws.scan (l ++ p ++ q)).less (Ws.scan l) = false := by decide +kernel
theorem less_up3 : ∀ p ∈ pieces, ∀ q ∈ pieces, ∀ r ∈ pieces, (Ws.scan []).less (Ws.scan (p ++ q ++ r)) = true ∧ (Ws.scan (p ++ q ++ r)).less (Ws.scan []) = false := by decide +kernel
theorem less_self (x : Ws) : x.less x = false := by unfold Ws.less; simp
end Mine

end
section
open PySem PySem.W PyProof.Rows PySem.Calls
set_option autoImplicit false
set_option linter.all false
namespace Mine

/-- recursion down a tree whose kids lie behind -/
noncomputable def trec {α : Type} (kids : List (List Nat)) (z : α) (F : Nat → List α → α) : Nat → Nat → α
  | 0, _ => z
  | f + 1, i => F i ((kids.getD i []).map (trec kids z F f))
noncomputable def trun {α : Type} (kids : List (List Nat)) (z : α) (F : Nat → List α → α) (i : Nat) : α := trec kids z F (kids.length - i) i
theorem trec_stable {α : Type} {kids : List (List Nat)} (z : α) (F : Nat → List α → α) (hd : ∀ (i : Nat) l k, kids[i]? = some l → k ∈ l → i < k ∧ k < kids.length) :
    ∀ f i, i < kids.length → kids.length - i ≤ f → trec kids z F f i = trun kids z F i := by
  intro f
  induction f using Nat.strongRecOn with
  | _ f ih =>
    intro i hi hf
    unfold trun
    cases f with
    | zero => omega
    | succ f =>
      obtain ⟨m, hm⟩ : ∃ m, kids.length - i = m + 1 := ⟨kids.length - i - 1, by omega⟩
      rw [hm, trec, trec]
      congr 1
      apply List.map_congr_left
      intro k hk
      have hl : kids[i]? = some (kids.getD i []) := by simp [hi]
      obtain ⟨h1, h2⟩ := hd i _ k hl hk
      rw [ih f (by omega) k h2 (by omega)]
      by_cases hmf : m = f
      · subst hmf; exact (ih m (by omega) k h2 (by omega)).symm
      · exact (ih m (by omega) k h2 (by omega)).symm
theorem trun_eq {α : Type} {kids : List (List Nat)} (z : α) (F : Nat → List α → α) (hd : ∀ (i : Nat) l k, kids[i]? = some l → k ∈ l → i < k ∧ k < kids.length) {i : Nat} {l : List Nat} (hl : kids[i]? = some l) :
    trun kids z F i = F i (l.map (trun kids z F)) := by
  have hi : i < kids.length := (List.getElem?_eq_some_iff.mp hl).1
  have hg : kids.getD i [] = l := by simp [hl]
  obtain ⟨m, hm⟩ : ∃ m, kids.length - i = m + 1 := ⟨kids.length - i - 1, by omega⟩
  unfold trun
  rw [hm, trec, hg]
  congr 1
  apply List.map_congr_left
  intro k hk
  obtain ⟨h1, h2⟩ := hd i l k hl hk
  exact trec_stable z F hd m k h2 (by omega)
end Mine

end
section
open PySem PySem.W PyProof.Rows PySem.Calls
set_option autoImplicit false
set_option linter.all false
namespace Mine

noncomputable def lmax : List Int → Int
  | [] => 0
  | [x] => x
  | x :: y :: l => max x (lmax (y :: l))
noncomputable def lmin : List Int → Int
  | [] => 0
  | [x] => x
  | x :: y :: l => min x (lmin (y :: l))
theorem le_lmax {b : Int} : ∀ {l : List Int}, l ≠ [] → (b ≤ lmax l ↔ ∃ x ∈ l, b ≤ x)
  | [], h => absurd rfl h
  | [x], _ => by simp [lmax]
  | x :: y :: l, _ => by
    have ih := le_lmax (b := b) (l := y :: l) (by simp)
    have e : (∃ z ∈ x :: y :: l, b ≤ z) ↔ (b ≤ x ∨ ∃ z ∈ y :: l, b ≤ z) := by
      constructor
      · rintro ⟨z, hz, hb⟩
        rcases List.mem_cons.mp hz with rfl | hz
        · exact .inl hb
        · exact .inr ⟨z, hz, hb⟩
      · rintro (hb | ⟨z, hz, hb⟩)
        · exact ⟨x, List.mem_cons_self .., hb⟩
        · exact ⟨z, List.mem_cons_of_mem _ hz, hb⟩
    rw [lmax, e, ← ih]; omega
theorem le_lmin {b : Int} : ∀ {l : List Int}, l ≠ [] → (b ≤ lmin l ↔ ∀ x ∈ l, b ≤ x)
  | [], h => absurd rfl h
  | [x], _ => by simp [lmin]
  | x :: y :: l, _ => by
    rw [lmin, List.forall_mem_cons, ← le_lmin (l := y :: l) (by simp)]; omega

/-- the worth of a place -/
noncomputable def valF (ns : List Int) (i : Nat) (vs : List Int) : Int := if vs = [] then ns.getD i 0 else if ns.getD i 0 % 2 = 0 then lmax vs else lmin vs
noncomputable def val (kids : List (List Nat)) (ns : List Int) (i : Nat) : Int := trun kids 0 (valF ns) i
theorem held_val {kids : List (List Nat)} {ns : List Int} {n : Nat} (ht : TreeOk kids ns n) (bar : Int) : HeldEq kids ns bar fun i => decide (bar ≤ val kids ns i) := by
  intro i l x hl hx
  have e := trun_eq 0 (valF ns) (fun i l k h1 h2 => by have := ht.down i l k h1 h2; rw [ht.klen]; exact this) hl
  have hg : ns.getD i 0 = x := by simp [hx]
  show decide (bar ≤ trun kids 0 (valF ns) i) = _
  rw [e]
  generalize hv : trun kids 0 (valF ns) = V
  have hval : ∀ k, val kids ns k = V k := fun k => by rw [← hv]; rfl
  simp only [hval]
  unfold valF
  rw [hg]
  by_cases h0 : l = []
  · subst h0; simp
  · have hm : l.map V ≠ [] := by simpa using h0
    rw [if_neg hm, if_neg h0]
    by_cases h2 : x % 2 = 0
    · rw [if_pos h2, if_pos h2, Bool.eq_iff_iff]
      simp only [decide_eq_true_eq, List.any_eq_true, le_lmax hm, List.mem_map]
      constructor
      · rintro ⟨v, ⟨k, hk, rfl⟩, hb⟩; exact ⟨k, hk, hb⟩
      · rintro ⟨k, hk, hb⟩; exact ⟨_, ⟨k, hk, rfl⟩, hb⟩
    · rw [if_neg h2, if_neg h2, Bool.eq_iff_iff]
      simp only [decide_eq_true_eq, List.all_eq_true, le_lmin hm, List.mem_map]
      constructor
      · intro h k hk; exact h _ ⟨k, hk, rfl⟩
      · rintro h v ⟨k, hk, rfl⟩; exact h k hk
end Mine

end
section
open PySem PySem.W PyProof.Rows PySem.Calls
set_option autoImplicit false
set_option linter.all false
namespace Mine

noncomputable def Has (Q : Nat → Prop) (ps : List (List Nat)) : Prop := ∃ p ∈ ps, ∀ e ∈ p, Q e
theorem has_cross {Q : Nat → Prop} {J M : List (List Nat)} : Has Q (cross J M) ↔ Has Q J ∧ Has Q M := by
  unfold Has cross
  constructor
  · rintro ⟨p, hp, hq⟩
    obtain ⟨a, ha, hp⟩ := List.mem_flatMap.mp hp
    obtain ⟨m, hm, rfl⟩ := List.mem_map.mp hp
    exact ⟨⟨a, ha, fun e he => hq e (List.mem_append_left _ he)⟩, ⟨m, hm, fun e he => hq e (List.mem_append_right _ he)⟩⟩
  · rintro ⟨⟨a, ha, h1⟩, ⟨m, hm, h2⟩⟩
    refine ⟨a ++ m, List.mem_flatMap.mpr ⟨a, ha, List.mem_map.mpr ⟨m, hm, rfl⟩⟩, fun e he => ?_⟩
    rcases List.mem_append.mp he with he | he
    · exact h1 e he
    · exact h2 e he
theorem has_foldl {Q : Nat → Prop} (pl : Nat → List (List Nat)) : ∀ (l : List Nat) (J : List (List Nat)), Has Q (l.foldl (fun J k => cross J (pl k)) J) ↔ Has Q J ∧ ∀ k ∈ l, Has Q (pl k)
  | [], J => by simp
  | k :: l, J => by
    rw [List.foldl_cons, has_foldl pl l, has_cross, List.forall_mem_cons, and_assoc]
theorem has_joint {Q : Nat → Prop} (pl : Nat → List (List Nat)) (l : List Nat) : Has Q (joint l pl) ↔ ∀ k ∈ l, Has Q (pl k) := by
  unfold joint
  rw [has_foldl]
  have : Has Q [[]] := ⟨[], by simp, by simp⟩
  simp [this]
theorem has_flat {Q : Nat → Prop} (pl : Nat → List (List Nat)) (l : List Nat) : Has Q (l.flatMap pl) ↔ ∃ k ∈ l, Has Q (pl k) := by
  unfold Has
  constructor
  · rintro ⟨p, hp, hq⟩
    obtain ⟨k, hk, hp⟩ := List.mem_flatMap.mp hp
    exact ⟨k, hk, p, hp, hq⟩
  · rintro ⟨k, hk, p, hp, hq⟩
    exact ⟨p, List.mem_flatMap.mpr ⟨k, hk, hp⟩, hq⟩
end Mine

end
section
open PySem PySem.W PyProof.Rows PySem.Calls
set_option autoImplicit false
set_option linter.all false
namespace Mine

theorem tree_ind {kids : List (List Nat)} {ns : List Int} {n : Nat} (ht : TreeOk kids ns n) (P : Nat → Prop) (h : ∀ i l x, kids[i]? = some l → ns[i]? = some x → (∀ k ∈ l, P k) → P i) : ∀ i, i < n → P i := by
  have key : ∀ m i, i < n → n - i ≤ m → P i := by
    intro m
    induction m with
    | zero => intro i hi hm; omega
    | succ m ih =>
      intro i hi hm
      obtain ⟨l, hl⟩ : ∃ l, kids[i]? = some l := ⟨kids[i]'(by rw [ht.klen]; exact hi), by simp [ht.klen, hi]⟩
      obtain ⟨x, hx⟩ : ∃ x, ns[i]? = some x := ⟨ns[i]'(by rw [ht.nlen]; exact hi), by simp [ht.nlen, hi]⟩
      refine h i l x hl hx fun k hk => ?_
      obtain ⟨h1, h2⟩ := ht.down i l k hl hk
      exact ih k h2 (by omega)
  exact fun i hi => key (n - i) i hi (Nat.le_refl _)

theorem held_iff {kids : List (List Nat)} {ns : List Int} {n : Nat} (ht : TreeOk kids ns n) (bar : Int) {i : Nat} {l : List Nat} {x : Int} (hl : kids[i]? = some l) (hx : ns[i]? = some x) :
    bar ≤ val kids ns i ↔ (if l = [] then bar ≤ x else if x % 2 = 0 then ∃ k ∈ l, bar ≤ val kids ns k else ∀ k ∈ l, bar ≤ val kids ns k) := by
  have := held_val ht bar i l x hl hx
  dsimp only at this
  by_cases h0 : l = []
  · rw [if_pos h0] at this ⊢; simpa using this
  · rw [if_neg h0] at this ⊢
    by_cases h2 : x % 2 = 0
    · rw [if_pos h2] at this ⊢
      rw [Bool.eq_iff_iff] at this
      simpa using this
    · rw [if_neg h2] at this ⊢
      rw [Bool.eq_iff_iff] at this
      simpa using this

theorem plan_up {kids : List (List Nat)} {ns : List Int} {n : Nat} {pl : Nat → List (List Nat)} (ht : TreeOk kids ns n) (he : PlanEq kids ns 0 pl) (bar : Int) : ∀ i, i < n → (Has (fun e => bar ≤ ns.getD e 0) (pl i) ↔ bar ≤ val kids ns i) := by
  refine tree_ind ht _ fun i l x hl hx ih => ?_
  rw [held_iff ht bar hl hx, he.eq i l x hl hx]
  by_cases h0 : l = []
  · rw [if_pos h0, if_pos h0]
    simp [Has, hx]
  · rw [if_neg h0, if_neg h0]
    by_cases h2 : x % 2 = 0
    · rw [if_pos h2, if_pos h2, has_flat]
      exact ⟨fun ⟨k, hk, h⟩ => ⟨k, hk, (ih k hk).mp h⟩, fun ⟨k, hk, h⟩ => ⟨k, hk, (ih k hk).mpr h⟩⟩
    · rw [if_neg h2, if_neg h2, has_joint]
      exact ⟨fun h k hk => (ih k hk).mp (h k hk), fun h k hk => (ih k hk).mpr (h k hk)⟩
theorem plan_down {kids : List (List Nat)} {ns : List Int} {n : Nat} {pl : Nat → List (List Nat)} (ht : TreeOk kids ns n) (he : PlanEq kids ns 1 pl) (bar : Int) : ∀ i, i < n → (Has (fun e => ns.getD e 0 < bar) (pl i) ↔ val kids ns i < bar) := by
  refine tree_ind ht _ fun i l x hl hx ih => ?_
  rw [show val kids ns i < bar ↔ ¬ bar ≤ val kids ns i by omega, held_iff ht bar hl hx, he.eq i l x hl hx]
  by_cases h0 : l = []
  · rw [if_pos h0, if_pos h0]
    simp [Has, hx]
  · rw [if_neg h0, if_neg h0]
    by_cases h2 : x % 2 = 0
    · rw [if_neg (by omega), if_pos h2, has_joint]
      constructor
      · rintro h ⟨k, hk, hb⟩
        have := (ih k hk).mp (h k hk); omega
      · intro h k hk
        refine (ih k hk).mpr ?_
        have : ¬ bar ≤ val kids ns k := fun q => h ⟨k, hk, q⟩
        omega
    · rw [if_pos (by omega), if_neg h2, has_flat]
      constructor
      · rintro ⟨k, hk, h⟩ hall
        have := (ih k hk).mp h
        have := hall k hk; omega
      · intro h
        apply Classical.byContradiction
        intro hc
        refine h fun k hk => ?_
        apply Classical.byContradiction
        intro hb
        exact hc ⟨k, hk, (ih k hk).mpr (by omega)⟩
end Mine

end
section
open PySem PySem.W PyProof.Rows PySem.Calls
set_option autoImplicit false
set_option linter.all false
namespace Mine

/-- kids as the law makes them -/
noncomputable def kidsOf (ab : List Int) : List (List Nat) := (List.range ab.length).map fun p : Nat => (List.range ab.length).filter fun k => decide (ab.getD k 0 = (p : Int))
structure Abv (ab : List Int) : Prop where
  lt : ∀ k, k < ab.length → ab.getD k 0 < (k : Int)
  ge : ∀ k, k < ab.length → -1 ≤ ab.getD k 0
theorem kidsOf_len (ab : List Int) : (kidsOf ab).length = ab.length := by simp [kidsOf]
theorem kidsOf_get {ab : List Int} {i : Nat} (hi : i < ab.length) : (kidsOf ab)[i]? = some ((List.range ab.length).filter fun k => decide (ab.getD k 0 = (i : Int))) := by
  simp [kidsOf, hi]
theorem kidsOf_inv {ab : List Int} {i : Nat} {l : List Nat} (h : (kidsOf ab)[i]? = some l) : i < ab.length ∧ l = (List.range ab.length).filter fun k => decide (ab.getD k 0 = (i : Int)) := by
  have hi : i < ab.length := by have := (List.getElem?_eq_some_iff.mp h).1; rwa [kidsOf_len] at this
  rw [kidsOf_get hi] at h; cases h; exact ⟨hi, rfl⟩
theorem kidsOf_down {ab : List Int} (ha : Abv ab) : ∀ (i : Nat) l k, (kidsOf ab)[i]? = some l → k ∈ l → i < k ∧ k < (kidsOf ab).length := by
  intro i l k h hk
  obtain ⟨hi, rfl⟩ := kidsOf_inv h
  rw [List.mem_filter, List.mem_range] at hk
  obtain ⟨h1, h2⟩ := hk
  have h2 : ab.getD k 0 = (i : Int) := by simpa using h2
  have := ha.lt k h1
  rw [kidsOf_len]; omega

noncomputable def sz (ab : List Int) (i : Nat) : Nat := trun (kidsOf ab) 1 (fun _ vs => 1 + vs.sum) i
theorem sz_eq {ab : List Int} (ha : Abv ab) {i : Nat} (hi : i < ab.length) : sz ab i = 1 + (((List.range ab.length).filter fun k => decide (ab.getD k 0 = (i : Int))).map (sz ab)).sum :=
  trun_eq 1 (fun _ vs => 1 + vs.sum) (kidsOf_down ha) (kidsOf_get hi)
/-- the roots behind m -/
noncomputable def rootsSum (ab : List Int) (m : Nat) : Nat := (((List.range ab.length).filter fun k => decide (m ≤ k ∧ ab.getD k 0 < (m : Int))).map (sz ab)).sum
theorem sum_split {α : Type} (f : α → Nat) (p q r : α → Bool) : ∀ l : List α, (∀ x ∈ l, p x = (q x || r x) ∧ (q x && r x) = false) → ((l.filter p).map f).sum = ((l.filter q).map f).sum + ((l.filter r).map f).sum
  | [], _ => rfl
  | x :: l, h => by
    obtain ⟨h1, h2⟩ := h x (List.mem_cons_self ..)
    have ih := sum_split f p q r l fun y hy => h y (List.mem_cons_of_mem _ hy)
    cases hq : q x <;> cases hr : r x <;> simp_all [List.filter_cons] <;> omega
theorem filter_eq_one {n m : Nat} (hm : m < n) : (List.range n).filter (fun k => decide (k = m)) = [m] := by
  induction n with
  | zero => omega
  | succ n ih =>
    rw [List.range_succ, List.filter_append]
    by_cases h : m = n
    · subst h
      have : (List.range m).filter (fun k => decide (k = m)) = [] := by
        rw [List.filter_eq_nil_iff]; intro k hk; have := List.mem_range.mp hk; simp; omega
      rw [this]; simp
    · rw [ih (by omega)]
      simp [show ¬ n = m by omega]
theorem roots_step {ab : List Int} (ha : Abv ab) {m : Nat} (hm : m < ab.length) : rootsSum ab m = rootsSum ab (m + 1) + 1 := by
  unfold rootsSum
  have e1 := sum_split (sz ab) (fun k => decide (m ≤ k ∧ ab.getD k 0 < (m : Int))) (fun k => decide (k = m)) (fun k => decide (m + 1 ≤ k ∧ ab.getD k 0 < (m : Int))) (List.range ab.length) (fun k hk => by
    have hk := List.mem_range.mp hk
    have := ha.lt k hk
    constructor
    · rw [Bool.eq_iff_iff]; simp only [Bool.or_eq_true, decide_eq_true_eq]; omega
    · rw [Bool.eq_false_iff]; simp only [ne_eq, Bool.and_eq_true, decide_eq_true_eq]; omega)
  have e2 := sum_split (sz ab) (fun k => decide (m + 1 ≤ k ∧ ab.getD k 0 < ((m + 1 : Nat) : Int))) (fun k => decide (m + 1 ≤ k ∧ ab.getD k 0 < (m : Int))) (fun k => decide (ab.getD k 0 = (m : Int))) (List.range ab.length) (fun k hk => by
    have hk := List.mem_range.mp hk
    have := ha.lt k hk
    constructor
    · rw [Bool.eq_iff_iff]; simp only [Bool.or_eq_true, decide_eq_true_eq]; omega
    · rw [Bool.eq_false_iff]; simp only [ne_eq, Bool.and_eq_true, decide_eq_true_eq]; omega)
  rw [e1, e2, filter_eq_one hm]
  have := sz_eq ha hm
  simp only [List.map_cons, List.map_nil, List.sum_cons, List.sum_nil]
  omega
theorem roots_eq {ab : List Int} (ha : Abv ab) : ∀ d m, m + d = ab.length → rootsSum ab m = d
  | 0, m, h => by
    unfold rootsSum
    have : (List.range ab.length).filter (fun k => decide (m ≤ k ∧ ab.getD k 0 < (m : Int))) = [] := by
      rw [List.filter_eq_nil_iff]; intro k hk; have := List.mem_range.mp hk; simp; omega
    rw [this]; rfl
  | d + 1, m, h => by rw [roots_step ha (by omega), roots_eq ha d (m + 1) (by omega)]
theorem mem_le_sum {x : Nat} : ∀ {l : List Nat}, x ∈ l → x ≤ l.sum
  | y :: l, h => by
    rw [List.sum_cons]
    rcases List.mem_cons.mp h with rfl | h
    · omega
    · have := mem_le_sum h; omega
theorem sz_le {ab : List Int} (ha : Abv ab) {i : Nat} (hi : i < ab.length) : sz ab i ≤ ab.length := by
  have h1 := roots_eq ha (ab.length - i) i (by omega)
  have : sz ab i ≤ rootsSum ab i := by
    unfold rootsSum
    have hmem : sz ab i ∈ ((List.range ab.length).filter fun k => decide (i ≤ k ∧ ab.getD k 0 < (i : Int))).map (sz ab) :=
      List.mem_map.mpr ⟨i, List.mem_filter.mpr ⟨List.mem_range.mpr hi, by simpa using ha.lt i hi⟩, rfl⟩
    exact mem_le_sum hmem
  omega
end Mine

end
section
open PySem PySem.W PyProof.Rows PySem.Calls
set_option autoImplicit false
set_option linter.all false
namespace Mine
variable {prog : Program} {w : World} {A : Around} {Γ : Cx}

noncomputable abbrev J1 : Heap → Prop := fun _ => True
theorem j1ok : JOk J1 := fun _ _ _ _ => trivial

theorem EvN.disp {es : List Expr} {pos : Pos} {ds : List PV} (h1 : Evs prog w A Γ es ds) (hz : ds.length ≤ sizeLine := by first | decide | simp [sizeLine]) : EvN prog w A Γ (.List es pos) ds := fun s Q E ok h =>
  wpAny_List (h1 s pos _ _ ok fun vs s₁ k₁ rs => ⟨by rw [rs.len]; exact hz, h _ vs _ (k₁.trans (Ext.push _ _)) (by
    cases q : s.heap.get? s₁.heap.objs.size with
    | none => rfl
    | some o => exact absurd (Heap.lt_size (k₁.get _ _ q)) (Nat.lt_irrefl _)) (plainList_push _ _) (rs.fresh (get?_size _) fun b o _ _ e => Heap.get?_push_of_some _ e)⟩)

theorem SJ.forE (P : Nat → List (Str × PV) → List (Addr × List PV) → Prop) {x y : Str} {px py tp p lp pos' pos : Pos} {k0 : Nat} {es : List Expr} {body : List Stmt} {ds : List PV} (hA : A.handled = none) (h0 : P 0 Γ.ρ Γ.μ) (hO : ∀ k ρ μ, P k ρ μ → μ.map (·.1) = Γ.O)
    (hg : GlobV Γ.B "enumerate" (.type "enumerate")) (h1 : Evs prog w A Γ es ds) (hz : ds.length ≤ sizeLine) (hfl : ∀ d ∈ ds, d.flat = true)
    (hb : ∀ (B : Heap) (k : Nat) ρ μ d, (∀ b o, Γ.B.get? b = some o → B.get? b = some o) → P k ρ μ → ds[k]? = some d →
      XJ prog w A J1 ⟨B, Γ.env, Γ.W, (y, d) :: (x, .int k) :: ρ, μ⟩ body (fun f s' => f = .next ∧ ∃ ρ' μ', P (k + 1) ρ' μ' ∧ (⟨B, Γ.env, Γ.W, ρ', μ'⟩ : Cx).Ok s'.heap))
    (hst : [x, y].all (storable Γ.env Γ.W) = true := by rfl) (hk : Γ.env.kindOf "enumerate" = some .globalImplicit := by rfl)
    (hs : ∀ v, foldedSetIterable (.Call (.Name "enumerate" p) [.List es lp] [] pos') Γ.env v = pure v := by intro _; rfl)
    (he : starEach [.List es lp] Γ.env = (false, eval (.List es lp) Γ.env) :: starEach [] Γ.env := by rfl) :
    SJ prog w A J1 Γ (.For (.Tuple [.Name x px, .Name y py] k0 tp) (.Call (.Name "enumerate" p) [.List es lp] [] pos') body [] pos) (fun f s' => f = .next ∧ ∃ ρ' μ', P ds.length ρ' μ' ∧ (⟨Γ.B, Γ.env, Γ.W, ρ', μ'⟩ : Cx).Ok s'.heap) := fun s Q E ok _ h => by
  refine wpAny_For ?_ hs
  rw [eval_CallName]
  refine wpAny_bind (wp_glob ok hk hg ?_)
  refine PyProof.Rows.callWith_type1 (wpAny_items_cons (EvN.disp h1 hz s _ _ ok fun l vs s₁ k₁ hl hpl hr => wpAny_items_nil ?_) he) he rfl
  refine call_enumerate_list (plain_isList hpl) fun h' hE hI hsz hk' => ?_
  have ok₁ := ok.step k₁
  generalize hEa : s₁.heap.objs.size + 1 = ea at *
  generalize hIa : s₁.heap.objs.size = ia at *
  have hei : ea ≠ ia := by omega
  have hll : @LT.lt Nat _ l ia := by obtain ⟨n, e⟩ := hpl; rw [← hIa]; exact Heap.lt_size e
  have hle : l ≠ ea := Nat.ne_of_lt (by omega)
  have hli : l ≠ ia := Nat.ne_of_lt hll
  have hvl : vs.length = ds.length := hr.len
  have W := WalksT.enumerate (prog := prog) (w := w) hA ea ia l hei hle hli vs.toArray
  have x2 : Ext s₁ { s₁ with heap := h' } := ⟨⟨_, _, rfl⟩, hk'⟩
  have k₂ : Ext s { s₁ with heap := h' } := k₁.trans x2
  have ok₂ : Γ.Ok h' := ok.step k₂
  have hfresh : ∀ b ∈ [ea, ia, l], s.heap.get? b = none := fun b hb => by
    simp only [List.mem_cons, List.not_mem_nil, or_false] at hb
    cases q : s.heap.get? b with
    | none => rfl
    | some o =>
      have hq : @LT.lt Nat _ b ia := by rw [← hIa]; exact Heap.lt_size (k₁.get _ _ q)
      rcases hb with rfl | rfl | rfl
      · exact absurd hq (by omega)
      · exact absurd hq (Nat.lt_irrefl _)
      · rw [hl] at q; cases q
  have hnst : ∀ b ∈ [ea, ia, l], ¬ Stor Γ.env Γ.W b := fun b hb hs => by
    have h3 := ok.fr.lt hs
    obtain ⟨o, e⟩ : ∃ o, s.heap.get? b = some o := by
      rcases hs with hs | ⟨z, _, hz⟩
      · exact ok.stands (.inr (.inl hs))
      · exact ok.stands (.inr (.inr ⟨z, hz⟩))
    rw [hfresh b hb] at e; cases e
  have hnO : ∀ b ∈ [ea, ia, l], b ∉ Γ.O := fun b hb hm => by
    obtain ⟨⟨a, es⟩, hm', rfl⟩ := List.mem_map.mp hm
    obtain ⟨us, ⟨n, e⟩, _⟩ := ok.mem a es hm'
    rw [hfresh _ hb] at e; cases e
  refine W.self 0 _ _ _ ⟨⟨_, hE⟩, hI, (plain_isList hpl).at fun o e => hk' _ o e⟩ ?_
  have as₂ : As s { s₁ with heap := h' } := k₂.as
  refine codeAny_forLoop_any (fun n s' => ∃ k ρ μ, n = ds.length + 1 - k ∧ k ≤ ds.length ∧ As s s' ∧ ((∃ old, IsEnum s'.heap ea ia k old) ∧ s'.heap.IsListIter ia l k ∧ s'.heap.IsList l vs.toArray) ∧ P k ρ μ ∧ (⟨Γ.B, Γ.env, Γ.W, ρ, μ⟩ : Cx).Ok s'.heap) (fun n s' hI => ?_) (ds.length + 1)
    ⟨0, Γ.ρ, Γ.μ, rfl, Nat.zero_le _, as₂, ⟨⟨_, hE⟩, hI, (plain_isList hpl).at fun o e => hk' _ o e⟩, h0, ok₂⟩
  obtain ⟨k, ρ, μ, rfl, hk, as', hst', hP, ok'⟩ := hI
  have turnOk : ∀ (h₂ h₃ : Heap), (∀ b ∈ [ea, ia], ∀ o, h₂.get? b = some o → ¬ isSeqObj o) → (⟨Γ.B, Γ.env, Γ.W, ρ, μ⟩ : Cx).Ok h₂ → (∀ b o, b ∉ [ea, ia] → h₂.get? b = some o → h₃.get? b = some o) → (⟨Γ.B, Γ.env, Γ.W, ρ, μ⟩ : Cx).Ok h₃ := fun h₂ h₃ hns ok2 hk₃ => by
    refine ok2.change fun b o hb e => hk₃ b o ?_ e
    intro hm
    rcases hb with hb | hb
    · exact hns b hm o e hb
    · obtain ⟨o', e'⟩ := ok.stands (b := b) hb
      rw [hfresh b (by simp only [List.mem_cons, List.not_mem_nil, or_false] at hm ⊢; rcases hm with rfl | rfl <;> simp)] at e'; cases e'
  have nsq : ∀ (h₂ : Heap), ((∃ i old, IsEnum h₂ ea ia i old) ∨ ∃ i x T, IsEnumOut h₂ ea ia i x T) → (∃ i, h₂.IsListIter ia l i) → ∀ b ∈ [ea, ia], ∀ o, h₂.get? b = some o → ¬ isSeqObj o := by
    rintro h₂ hh ⟨i, o2, e2, _, hd2⟩ b hb o e
    simp only [List.mem_cons, List.not_mem_nil, or_false] at hb
    rcases hb with rfl | rfl
    · rcases hh with ⟨i, old, q⟩ | ⟨i, x, T, q⟩
      · rw [q] at e; cases e; exact notSeq_fields rfl
      · rw [q] at e; cases e; exact notSeq_fields rfl
    · rw [e2] at e; cases e; exact notSeq_fields hd2
  by_cases hlt : k < ds.length
  · obtain ⟨⟨old, q1⟩, q2, q3⟩ := hst'
    refine W.item k _ _ _ (by simpa [hvl] using hlt) ⟨⟨old, q1⟩, q2, q3⟩ fun T vals h₃ tk₃ hPt hT hIT hMid hk₃ => ?_
    obtain ⟨d, hd⟩ : ∃ d, ds[k]? = some d := ⟨ds[k], by simp [hlt]⟩
    obtain ⟨t, xv, hxv, rfl⟩ := hPt
    have hxv : vs[k]? = some xv := by simpa using hxv
    have ok₃ := turnOk _ h₃ (nsq _ (.inl ⟨_, _, q1⟩) ⟨_, q2⟩) ok' hk₃
    refine W.go _ _ _ k T { s' with heap := h₃, toks := tk₃ } _ _ hMid fun h₄ hst₄ hk₄ => ?_
    have hMid' := hMid
    obtain ⟨⟨xm, m1⟩, m2, m3, m4, m5⟩ := hMid'
    have ok₄ := turnOk h₃ h₄ (nsq _ (.inr ⟨_, _, _, m1⟩) ⟨_, m2⟩) ok₃ hk₄
    have hIT₄ : h₄.IsTuple T #[.int k t, xv] := by
      obtain ⟨o, e, r⟩ := hIT
      exact ⟨o, hk₄ _ o (by simp; exact ⟨m4, m5⟩) e, r⟩
    have hμ := hO k ρ μ hP
    have hTO : T ∉ (⟨Γ.B, Γ.env, Γ.W, ρ, μ⟩ : Cx).O := fun hm => by
      exact absurd (ok'.lt hm) (Nat.not_lt.mpr hT)
    have hflat : d.flat = true := hfl d (List.mem_of_getElem? hd)
    have rT : Rep (⟨Γ.B, Γ.env, Γ.W, ρ, μ⟩ : Cx).O h₄ (.ref T) (.tup [.int k, d]) := Rep.mkTup (vs := [.int k t, xv]) hTO hIT₄ (Reps.cons (.int _ _) (Reps.cons ((hr.at' k xv d hxv hd).of_flat hflat) Reps.nil))
    refine wp_unpack (Γ := ⟨Γ.B, Γ.env, Γ.W, ρ, μ⟩) (s := { s' with heap := h₄, toks := tk₃ }) (xs := [x, y]) hA (.cons (.cons .nil)) ok₄ rT rfl hst fun s₅ ok₅ kps₅ => ?_
    have ok₅ : (⟨Γ.B, Γ.env, Γ.W, (y, d) :: (x, .int k) :: ρ, μ⟩ : Cx).Ok s₅.heap := ok₅
    have hst₅ := W.frame _ _ s₅.heap hst₄ fun b hb o e => kps₅.get b o (hnst b hb) e
    have as₅ : As s s₅ := as'.trans (As.trans ⟨h₄, tk₃, rfl⟩ kps₅.as)
    generalize hBB : rest s₅.heap ⟨Γ.B, Γ.env, Γ.W, (y, d) :: (x, .int k) :: ρ, μ⟩ = BB
    have hsub : ∀ b o, Γ.B.get? b = some o → BB.get? b = some o := fun b o e => hBB ▸ ok₅.rest_sub b o e
    have okR : (⟨BB, Γ.env, Γ.W, (y, d) :: (x, .int k) :: ρ, μ⟩ : Cx).Ok s₅.heap := hBB ▸ ok₅.rebase
    refine hb BB k ρ μ d hsub hP hd s₅ _ _ okR trivial fun f s₆ as₆ _ r => ?_
    obtain ⟨rfl, ρ', μ', hP', ok₆⟩ := r
    have hst₆ := W.frame _ _ s₆.heap hst₅ fun b hb o e => ok₆.base b o (hBB ▸ rest_get e (hnst b hb) (by show b ∉ μ.map (·.1); rw [hμ]; exact hnO b hb))
    exact ⟨ds.length + 1 - (k + 1), by omega, k + 1, ρ', μ', rfl, hlt, as₅.trans as₆, hst₆, hP', ok₆.unbase hsub⟩
  · have hkn : k = ds.length := by omega
    subst hkn
    obtain ⟨⟨old, q1⟩, q2, q3⟩ := hst'
    refine W.done _ _ _ (by simpa [hvl] using And.intro (Exists.intro old q1) (And.intro q2 q3)) fun h₃ tk₃ hk₃ => ?_
    have ok₃ := turnOk _ h₃ (nsq _ (.inl ⟨_, _, q1⟩) ⟨_, q2⟩) ok' hk₃
    exact wpAny_execs_nil (h _ { s' with heap := h₃, toks := tk₃ } (as'.trans ⟨_, _, rfl⟩) trivial ⟨rfl, ρ, μ, hP, ok₃⟩)
end Mine

end
section
open PySem PySem.W PyProof.Rows PySem.Calls
open Builtin Builtin.Str
set_option autoImplicit false
set_option linter.all false
namespace Mine
variable {prog : Program} {w : World} {A : Around} {Γ : Cx}

theorem strs_rep {O : List Addr} {h : Heap} : ∀ l : List (Str × Tok), Reps O h (strValues l) ((l.map (·.1)).map .str)
  | [] => Reps.nil
  | (x, t) :: l => Reps.cons (.str x t) (strs_rep l)

/-- x.split(y) -/
theorem Ev.split {o e : Expr} {apos pos : Pos} {x y : Str} {ds : List Str} (h0 : Ev prog w A Γ o (.str x)) (h1 : Ev prog w A Γ e (.str y)) (hy : (y.length == 0) = false) (hds : Txt.split x y = ds) (hx : x.length ≤ sizeLine) (hn : ds.length ≤ sizeLine)
    (hbase : attributeBase o "split" Γ.env (eval o Γ.env) = eval o Γ.env := by rfl) (hs : starEach [e] Γ.env = [(false, eval e Γ.env)] := by rfl) (hline : (apos.endLine == pos.line) = true := by rfl) :
    Ev prog w A Γ (.Call (.Attribute o "split" apos) [e] [] pos) (.list (ds.map .str)) := fun s Q E ok h => by
  subst hds
  refine Call_method1 hbase hs hline (h0 s _ _ ok fun v s₁ k₁ r₁ => ?_)
  obtain ⟨t, rfl⟩ := r₁.str_inv
  have ok₁ := ok.step k₁
  refine ⟨"str", _, F.plainAttrs_str, F.slot_str_split, F.type_str_split, typeIs_str _ _ _, (fun _ e => nomatch e), method1_meets F.slot_str_split F.entry_str_split (h1 s₁ _ _ ok₁ fun v s₂ k₂ r₂ => ?_)⟩
  obtain ⟨u, rfl⟩ := r₂.str_inv
  have ok₂ := ok₁.step k₂
  refine ⟨typeIs_str _ _ _, F.args_str_split_2 _ _, ?_⟩
  have fin : ∀ (l : List (Str × Tok)) (tk : Nat), l.map (·.1) = Txt.split x y → Q (.ref s₂.heap.objs.size) { s₂ with toks := tk, heap := s₂.heap.push { cls := .type "list", data := .seq (strValues l).toArray } } := fun l tk e => by
    refine h _ _ ((k₁.trans k₂).trans (Ext.push _ _)) ?_
    rw [← e]
    exact Rep.newList ok₂ rfl (strs_rep l)
  cases c1 : (decide (x.length < y.length) || decide (strKind x < strKind y))
  · cases c2 : (occurrences x y 0 x.length (x.length + 1)).isEmpty
    · have e2 : Txt.split x y = partsBetween x (occurrences x y 0 x.length (x.length + 1)) y.length := by
        unfold Txt.split; rw [c1, c2]; rfl
      refine ⟨_, meets_str_split_sep x y t u c1 hy c2 hx (by rw [← e2]; exact hn), ?_⟩
      show wants Q E _ { s₂ with toks := _, heap := s₂.heap.push { cls := .type "list", data := .seq (strsFrom s₂.toks (partsBetween x (occurrences x y 0 x.length (x.length + 1)) y.length)).toArray } }
      rw [strsFrom_eq]
      exact fin (numbered s₂.toks _) _ ((numbered_texts _ _).trans e2.symm)
    · exact ⟨_, meets_str_split_not_found x y t u c1 hy c2, fin [(x, t)] s₂.toks (by unfold Txt.split; rw [c1, c2]; rfl)⟩
  · exact ⟨_, meets_str_split_cannot_occur x y t u c1, fin [(x, t)] s₂.toks (by unfold Txt.split; rw [c1]; rfl)⟩

theorem strs_of {O : List Addr} {h : Heap} : ∀ {vs : List Value} {xs : List Str}, Reps O h vs (xs.map .str) → ∃ l : List (Str × Tok), vs = strValues l ∧ l.map (·.1) = xs := by
  intro vs
  induction vs with
  | nil =>
    intro xs r
    have := r.len
    cases xs with
    | nil => exact ⟨[], rfl, rfl⟩
    | cons => cases this
  | cons v vs ih =>
    intro xs r
    cases xs with
    | nil => have := r.len; cases this
    | cons x xs =>
      obtain ⟨t, rfl⟩ := Rep.str_inv r.head
      obtain ⟨l, rfl, rfl⟩ := ih r.tail
      exact ⟨(x, t) :: l, rfl, rfl⟩

/-- x.join(e) -/
theorem Ev.join {o e : Expr} {apos pos : Pos} {x z : Str} {xs : List Str} (h0 : Ev prog w A Γ o (.str x)) (h1 : Ev prog w A Γ e (.list (xs.map .str))) (hok : JoinOk x xs = true) (hz : Txt.join x xs = z)
    (hbase : attributeBase o "join" Γ.env (eval o Γ.env) = eval o Γ.env := by rfl) (hs : starEach [e] Γ.env = [(false, eval e Γ.env)] := by rfl) (hline : (apos.endLine == pos.line) = true := by rfl) :
    Ev prog w A Γ (.Call (.Attribute o "join" apos) [e] [] pos) (.str z) := fun s Q E ok h => by
  subst hz
  refine Call_method1 hbase hs hline (h0 s _ _ ok fun v s₁ k₁ r₁ => ?_)
  obtain ⟨t, rfl⟩ := r₁.str_inv
  have ok₁ := ok.step k₁
  refine SB.join (h1 s₁ _ _ ok₁ fun v s₂ k₂ r₂ => ?_)
  obtain ⟨a, vs, rfl, _, hl, hr⟩ := r₂.list_inv
  obtain ⟨l, rfl, rfl⟩ := strs_of hr
  exact ⟨a, l, rfl, plain_isList hl, _, rfl, hok, fun t' k => h _ _ ((k₁.trans k₂).trans (Ext.toks _)) (.str _ _)⟩

/-- x[lo:hi:st] of a list that others gave -/
theorem EvN.sliceI {e st : Expr} {lower upper : Option Expr} {p pos : Pos} {a : Addr} {vs : List Value} {ns : List Int} {lo hi : Option Int} {c : Int} (h1 : Ev prog w A Γ e (.ref a)) (hB : Γ.B.IsList a vs.toArray) (hns : IntsAre vs ns) (h2 : EvO prog w A Γ lower lo) (h3 : EvO prog w A Γ upper hi) (h4 : Ev prog w A Γ st (.int c)) (hc : c ≠ 0) (hz : vs.length ≤ sizeLine) (ht : ∀ o r, letTemporaryGo e o r = pure () := by intro _ _; rfl) :
    EvN prog w A Γ (.Subscript e (.Slice lower upper (some st) p) pos) (pickL (ns.map .int) lo hi (some c)) := fun s Q E ok h =>
  wpAny_Subscript_Slice_step (T := "list") slot_list_getitem.lookup (h1 s _ _ ok fun v s₁ k₁ r₁ => wpAny_Slice (wp_part h2 (ok.step k₁) fun vl s₂ k₂ pl => wp_part h3 ((ok.step k₁).step k₂) fun vu s₄ k₄ pu => by
    have r₁ := r₁.ref_inv
    subst r₁
    rw [evalPart_some]
    refine h4 s₄ _ _ (((ok.step k₁).step k₂).step k₄) fun vc s₃ k₃ r₃ => ?_
    obtain ⟨tc, rfl⟩ := r₃.int_inv
    have k := ((k₁.trans k₂).trans k₄).trans k₃
    have ok₃ := ok.step k
    have hl3 : s₃.heap.IsList a vs.toArray := hB.at fun o e => ok₃.base _ o e
    refine ⟨(hl3.push _).typeIs, wpAny_getItem_list_slice (hl3.push _) (Heap.IsSliceOf.new ..) pl pu (.int c tc) (by simpa using hc) ?_ (by rw [List.size_toArray]; exact hz)⟩
    have x1 : Ext s₃ { s₃ with heap := s₃.heap.push { cls := .type "slice", data := .fields #[vl, vu, .int c tc] } } := ⟨⟨_, _, rfl⟩, fun b o e => Heap.get?_push_of_some _ e⟩
    have kk := k.trans x1
    generalize s₃.heap.push { cls := .type "slice", data := .fields #[vl, vu, .int c tc] } = H at kk x1
    have hfr : s.heap.get? H.objs.size = none := by
      cases q : s.heap.get? H.objs.size with
      | none => rfl
      | some o => exact absurd (Heap.lt_size (kk.get _ _ q)) (Nat.lt_irrefl _)
    have x2 : Ext { s₃ with heap := H } { s₃ with heap := H.push { cls := .type "list", data := .seq (slicePick vs.toArray lo hi (some c)) } } := ⟨⟨_, _, rfl⟩, fun b o e => Heap.get?_push_of_some _ e⟩
    rw [slicePick_eq] at x2 ⊢
    refine h H.objs.size (pickL vs lo hi (some c)) _ (kk.trans x2) hfr ⟨_, Heap.get?_push_size _ rfl⟩ ?_
    exact (of_ints hns : Reps (Γ.O ++ [H.objs.size]) (H.push { cls := .type "list", data := .seq (pickL vs lo hi (some c)).toArray }) vs (ns.map .int)).pick lo hi (some c))) ht
end Mine

end
section
open PySem PySem.W PyProof.Rows PySem.Calls
set_option autoImplicit false
set_option linter.all false
set_option maxRecDepth 100000
namespace Mine

noncomputable def strOf (l : List Nat) : Str := ⟨l.toArray⟩
noncomputable def signLit : Str := "( ) [ ] : , ; + - * / | & < > = . % { } == != <= >= ~ ^ << >> ** += -= *= /= %= &= |= ^= <<= >>= **= // //= @ @= -> ... := !"
noncomputable def cutAt (c : Nat) : List Nat → List (List Nat)
  | [] => [[]]
  | x :: l => if x = c then [] :: cutAt c l else match cutAt c l with
    | r :: rs => (x :: r) :: rs
    | [] => [[x]]
noncomputable def signs : List (List Nat) := cutAt 32 signLit.cps.toList
theorem signs_len : signs.length = 48 := by decide +kernel
theorem signs_split : Txt.split signLit " " = signs.map strOf := by decide +kernel
theorem signs_ok : ∀ g ∈ signs, g ≠ [] ∧ g.length ≤ 3 ∧ ∀ c ∈ g.head?, c ≠ 32 ∧ c ≠ 9 := by decide +kernel
theorem lead_split : ∀ d < 4, ∀ l ∈ leadsAt d, Txt.split (strOf l) "\t" = (runs l).map strOf ∧ (runs l).length ≤ 10 ∧ JoinOk "\t" ((runs l).map strOf) = true ∧ JoinOk "\t" ((turnRuns (runs l)).map strOf) = true ∧
    Txt.join "\t" ((runs l).map strOf) = strOf l ∧ Txt.join "\t" ((turnRuns (runs l)).map strOf) = strOf (turned l) := by decide +kernel
theorem lead_ws : ∀ d < 4, ∀ l ∈ leadsAt d, (∀ c ∈ l, c = 32 ∨ c = 9) ∧ (∀ c ∈ turned l, c = 32 ∨ c = 9) := by decide +kernel
theorem pieces_len : pieces.length = 6 := rfl
theorem pieces_str : pieces.map strOf = [(" " : Str), ("\t" : Str), (" \t" : Str), ("\t " : Str), ("  \t" : Str), ("  " : Str)] := by decide +kernel
theorem pieces_short : ∀ p ∈ pieces, p.length ≤ 3 := by decide +kernel
end Mine

end
section
open PySem PySem.W PyProof.Rows PySem.Calls
set_option autoImplicit false
set_option linter.all false
set_option maxRecDepth 100000
namespace Mine

/-! the page, from the nine cells -/
noncomputable def pgDp (cn : Nat → Nat) : Nat → Nat
  | 0 => 0
  | k + 1 => 1 + cn (k + 1) % min 3 (1 + pgDp cn k)
noncomputable def pgCand (cn : Nat → Nat) (k : Nat) : List Nat := (List.range k).filter fun j => decide (pgDp cn j + 1 = pgDp cn k)
noncomputable def pgUp (cn : Nat → Nat) (k : Nat) : Nat := (pgCand cn k).getLastD 0
noncomputable def pgAb (cn : Nat → Nat) (k : Nat) : Int := if k = 0 then -1 else (pgUp cn k : Nat)
noncomputable def pgSt (cn : Nat → Nat) (k : Nat) : List Nat := pieces.getD (cn k / 144 % 6) []
noncomputable def pgLdD (cn : Nat → Nat) : Nat → Nat → List Nat
  | 0, _ => []
  | d + 1, k => pgLdD cn d (pgUp cn k) ++ pgSt cn (pgUp cn k)
noncomputable def pgLd (cn : Nat → Nat) (k : Nat) : List Nat := pgLdD cn (pgDp cn k) k
noncomputable def pgMk (cn : Nat → Nat) (k : Nat) : Int := ((7 + cn k / 3 % 48 : Nat) : Int)
noncomputable def pgSg (cn : Nat → Nat) (k : Nat) : List Nat := signs.getD (cn k / 3 % 48) []
noncomputable def pgIn (cn : Nat → Nat) (k : Nat) : List Nat := if cn k / 864 % 2 = 1 then turned (pgLd cn k) else pgLd cn k
noncomputable def pgRow (cn : Nat → Nat) (k : Nat) : Str := strOf (pgIn cn k) ++ strOf (pgSg cn k)

theorem pgDp_le (cn : Nat → Nat) : ∀ k, pgDp cn k ≤ 3
  | 0 => Nat.zero_le _
  | k + 1 => by
    have : cn (k + 1) % min 3 (1 + pgDp cn k) < min 3 (1 + pgDp cn k) := Nat.mod_lt _ (by omega)
    rw [pgDp]; omega
theorem pgDp_step (cn : Nat → Nat) (k : Nat) : 1 ≤ pgDp cn (k + 1) ∧ pgDp cn (k + 1) ≤ pgDp cn k + 1 := by
  have : cn (k + 1) % min 3 (1 + pgDp cn k) < min 3 (1 + pgDp cn k) := Nat.mod_lt _ (by omega)
  rw [pgDp]; omega
theorem pgDp_all (cn : Nat → Nat) : ∀ k d, d ≤ pgDp cn k → ∃ j, j ≤ k ∧ pgDp cn j = d
  | 0, d, h => ⟨0, Nat.le_refl _, by rw [pgDp] at h ⊢; omega⟩
  | k + 1, d, h => by
    by_cases hd : d = pgDp cn (k + 1)
    · exact ⟨k + 1, Nat.le_refl _, hd.symm⟩
    · obtain ⟨j, h1, h2⟩ := pgDp_all cn k d (by have := pgDp_step cn k; omega)
      exact ⟨j, by omega, h2⟩
theorem pgCand_ne (cn : Nat → Nat) {k : Nat} (hk : 0 < k) : pgCand cn k ≠ [] := by
  obtain ⟨m, rfl⟩ : ∃ m, k = m + 1 := ⟨k - 1, by omega⟩
  have h := pgDp_step cn m
  obtain ⟨j, h1, h2⟩ := pgDp_all cn m (pgDp cn (m + 1) - 1) (by omega)
  have : j ∈ pgCand cn (m + 1) := List.mem_filter.mpr ⟨List.mem_range.mpr (by omega), by simp; omega⟩
  exact List.ne_nil_of_mem this
theorem pgUp_mem (cn : Nat → Nat) {k : Nat} (hk : 0 < k) : pgUp cn k ∈ pgCand cn k := by
  have h := pgCand_ne cn hk
  unfold pgUp
  cases hc : pgCand cn k with
  | nil => exact absurd hc h
  | cons x l => rw [← List.getLast_eq_getLastD (by simp)]; exact List.getLast_mem _
theorem pgUp_lt (cn : Nat → Nat) {k : Nat} (hk : 0 < k) : pgUp cn k < k ∧ pgDp cn (pgUp cn k) + 1 = pgDp cn k := by
  have := List.mem_filter.mp (pgUp_mem cn hk)
  exact ⟨List.mem_range.mp this.1, by simpa using this.2⟩
theorem pgLd_step (cn : Nat → Nat) {k : Nat} (hk : 0 < k) : pgLd cn k = pgLd cn (pgUp cn k) ++ pgSt cn (pgUp cn k) := by
  have := (pgUp_lt cn hk).2
  unfold pgLd
  rw [← this, pgLdD]
theorem pgSt_mem (cn : Nat → Nat) (k : Nat) : pgSt cn k ∈ pieces := by
  have h : cn k / 144 % 6 < pieces.length := by rw [pieces_len]; exact Nat.mod_lt _ (by omega)
  unfold pgSt
  rw [List.getD_eq_getElem?_getD, List.getElem?_eq_getElem h]
  exact List.getElem_mem h
theorem pgSg_mem (cn : Nat → Nat) (k : Nat) : pgSg cn k ∈ signs := by
  have h : cn k / 3 % 48 < signs.length := by rw [signs_len]; exact Nat.mod_lt _ (by omega)
  unfold pgSg
  rw [List.getD_eq_getElem?_getD, List.getElem?_eq_getElem h]
  exact List.getElem_mem h
theorem pgLdD_mem (cn : Nat → Nat) : ∀ d k, pgLdD cn d k ∈ leadsAt d
  | 0, k => by simp [pgLdD, leadsAt]
  | d + 1, k => List.mem_flatMap.mpr ⟨_, pgLdD_mem cn d _, List.mem_map.mpr ⟨_, pgSt_mem cn _, rfl⟩⟩
theorem pgLd_mem (cn : Nat → Nat) (k : Nat) : pgLd cn k ∈ leadsAt (pgDp cn k) := pgLdD_mem cn _ k
end Mine

end
section
open PySem PySem.W PyProof.Rows PySem.Calls
set_option autoImplicit false
set_option linter.all false
namespace Mine
variable {prog : Program} {w : World} {A : Around} {Γ : Cx}

/-- x[lo:hi:st] of any list, whatever the base is -/
theorem EvN.slice3T {e st : Expr} {lower upper : Option Expr} {p pos : Pos} {ds : List PV} {lo hi : Option Int} {c : Int} (h1 : LV prog w A Γ e ds) (h2 : EvO prog w A Γ lower lo) (h3 : EvO prog w A Γ upper hi) (h4 : Ev prog w A Γ st (.int c)) (hc : c ≠ 0) (hz : ds.length ≤ sizeLine) :
    EvN prog w A Γ (.Subscript e (.Slice lower upper (some st) p) pos) (pickL ds lo hi (some c)) := fun s Q E ok h =>
  Subscript_ (h1 s _ _ ok fun a vs s₁ k₁ hl rs => wpAny_Slice (wp_part h2 (ok.step k₁) fun vl s₂ k₂ pl => wp_part h3 ((ok.step k₁).step k₂) fun vu s₄ k₄ pu => by
    rw [evalPart_some]
    refine h4 s₄ _ _ (((ok.step k₁).step k₂).step k₄) fun vc s₃ k₃ r₃ => ?_
    obtain ⟨tc, rfl⟩ := r₃.int_inv
    have k := ((k₁.trans k₂).trans k₄).trans k₃
    have hl3 : s₃.heap.PlainList a vs.toArray := ((hl.at fun o e => k₂.get _ o e).at fun o e => k₄.get _ o e).at fun o e => k₃.get _ o e
    obtain ⟨ops, ho⟩ := sub_ops (.Slice lower upper (some st) p) (.ref a) (.ref s₃.heap.objs.size)
    refine tail_any (hl3.isList.push _).typeIs slot_list_getitem.lookup (wpAny_getItem_list_slice (hl3.isList.push _) (Heap.IsSliceOf.new ..) pl pu (.int c tc) (by simpa using hc) ?_ (by rw [List.size_toArray, rs.len]; exact hz)) ho
    have x1 : Ext s₃ { s₃ with heap := s₃.heap.push { cls := .type "slice", data := .fields #[vl, vu, .int c tc] } } := ⟨⟨_, _, rfl⟩, fun b o e => Heap.get?_push_of_some _ e⟩
    have kk := k.trans x1
    generalize s₃.heap.push { cls := .type "slice", data := .fields #[vl, vu, .int c tc] } = H at kk x1
    have hfr : s.heap.get? H.objs.size = none := by
      cases q : s.heap.get? H.objs.size with
      | none => rfl
      | some o => exact absurd (Heap.lt_size (kk.get _ _ q)) (Nat.lt_irrefl _)
    have x2 : Ext { s₃ with heap := H } { s₃ with heap := H.push { cls := .type "list", data := .seq (slicePick vs.toArray lo hi (some c)) } } := ⟨⟨_, _, rfl⟩, fun b o e => Heap.get?_push_of_some _ e⟩
    rw [slicePick_eq] at x2 ⊢
    refine h H.objs.size (pickL vs lo hi (some c)) _ (kk.trans x2) hfr ⟨_, Heap.get?_push_size _ rfl⟩ ?_
    exact (((((rs.keeps k₂.get).keeps k₄.get).keeps k₃.get).keeps x1.get).pick lo hi (some c)).fresh (get?_size _) fun b o _ _ e => Heap.get?_push_of_some _ e))
theorem pickL_map {α β : Type} (f : α → β) (l : List α) (lo hi st : Option Int) : pickL (l.map f) lo hi st = (pickL l lo hi st).map f := by
  unfold pickL
  rw [List.length_map, List.map_filterMap]
  congr 1
  funext i
  rw [List.getElem?_map]
end Mine

end
section
open PySem PySem.W PyProof.Rows PySem.Calls
set_option autoImplicit false
set_option linter.all false
namespace Mine
variable {prog : Program} {w : World} {A : Around} {Γ : Cx} {J : Heap → Prop}

/-- the statements run; sealed, so that no elaborator unfolds it -/
structure YX (prog : Program) (w : World) (A : Around) (J : Heap → Prop) (Γ : Cx) (ss : List Stmt) (R : Flow → Shared → Prop) : Prop where
  out : JOk J → XJ prog w A J Γ ss R

theorem YX.assign {x : Str} {p pos : Pos} {e : Expr} {d : PV} {rest : List Stmt} {R : Flow → Shared → Prop} (h1 : Ev prog w A Γ e d) (h2 : YX prog w A J (Γ.set x d) rest R)
    (hx : storable Γ.env Γ.W x = true := by rfl) (hs : swapsWith e (some (.Name x p)) pos.line Γ.env = pure false := by rfl) : YX prog w A J Γ (.Assign [.Name x p] e pos :: rest) R :=
  ⟨fun hJ => XJ.step hJ (S.assign h1 hx hs) (h2.out hJ)⟩
theorem YX.append {x : Str} {p apos pos epos : Pos} {e : Expr} {a : Addr} {ds : List PV} {d : PV} {pl : Sem Bool} {rest : List Stmt} {R : Flow → Shared → Prop} (i : Nat) (hx : Ev prog w A Γ (.Name x p) (.ref a)) (he : Ev prog w A Γ e d) (hz : ds.length ≤ sizeLine) (h2 : YX prog w A J (Γ.put i a (ds ++ [d])) rest R)
    (hi : Γ.μ[i]? = some (a, ds) := by rfl)
    (hc : eval (.Call (.Attribute (.Name x p) "append" apos) [e] [] pos) Γ.env = (do
      let ov ← eval (.Name x p) Γ.env
      standAt apos.atName
      let (f, first) ← holding [ov] (getMethod ov "append" pl)
      callWith pos f first (backTo pos (starEach [e] Γ.env)) []) := by rfl)
    (hst : starEach [e] Γ.env = (false, eval e Γ.env) :: starEach [] Γ.env := by rfl)
    (hs : swapsWith (.Call (.Attribute (.Name x p) "append" apos) [e] [] pos) none epos.line Γ.env = pure false := by rfl) :
    YX prog w A J Γ (.Expr (.Call (.Attribute (.Name x p) "append" apos) [e] [] pos) epos :: rest) R :=
  ⟨fun hJ => XJ.step hJ (S.append i hx he hi hz hc hst hs) (h2.out hJ)⟩
theorem YX.unpack {elts : List Expr} {k : Nat} {tpos pos : Pos} {value : Expr} {ds : List PV} {rest : List Stmt} {R : Flow → Shared → Prop} (xs : List Str) (hA : A.handled = none) (hn : Nms elts xs) (h1 : Ev prog w A Γ value (.tup ds)) (h2 : YX prog w A J (Γ.sets xs ds) rest R)
    (hl : xs.length = ds.length := by rfl) (hst : xs.all (storable Γ.env Γ.W) = true := by rfl)
    (hs : swapsWithSole [.Tuple elts k tpos] value pos.line Γ.env = pure false := by rfl) (hw : swappedStores [.Tuple elts k tpos] value Γ.env = pure none := by rfl) :
    YX prog w A J Γ (.Assign [.Tuple elts k tpos] value pos :: rest) R :=
  ⟨fun hJ => XJ.step hJ (S.unpack xs hA hn h1 hl hst hs hw) (h2.out hJ) (sets_env xs Γ ds).1⟩
theorem YX.unpackSw {elts : List Expr} {k : Nat} {tpos pos : Pos} {value : Expr} {ds : List PV} {rest : List Stmt} {R : Flow → Shared → Prop} (xs : List Str) (hA : A.handled = none) (h1 : Ev prog w A Γ value (.tup ds)) (h2 : YX prog w A J (Γ.sets xs.reverse ds.reverse) rest R)
    (hl : xs.length = ds.length := by rfl) (hst : xs.reverse.all (storable Γ.env Γ.W) = true := by rfl)
    (hs : swapsWithSole [.Tuple elts k tpos] value pos.line Γ.env = pure false := by rfl) (hw : swappedStores [.Tuple elts k tpos] value Γ.env = pure (some xs) := by rfl) :
    YX prog w A J Γ (.Assign [.Tuple elts k tpos] value pos :: rest) R :=
  ⟨fun hJ => XJ.step hJ (S.unpackSw xs hA h1 hl hst hs hw) (h2.out hJ) (sets_env _ Γ _).1⟩
theorem YX.nils {elts es : List Expr} {n k k' : Nat} {tpos vpos pos : Pos} {rest : List Stmt} {R : Flow → Shared → Prop} (xs : List Str) (hA : A.handled = none) (hN : Nms elts xs) (hn : Nils es n)
    (h2 : ∀ as : List Addr, as.length = n → YX prog w A J ((Γ.owns as).sets xs (as.map PV.ref)) rest R)
    (hl : xs.length = n := by rfl) (hst : xs.all (storable Γ.env Γ.W) = true := by rfl) (hz : n ≤ sizeLine := by simp [sizeLine])
    (hs : swapsWithSole [.Tuple elts k tpos] (.Tuple es k' vpos) pos.line Γ.env = pure false := by rfl) (hw : swappedStores [.Tuple elts k tpos] (.Tuple es k' vpos) Γ.env = pure none := by rfl) :
    YX prog w A J Γ (.Assign [.Tuple elts k tpos] (.Tuple es k' vpos) pos :: rest) R :=
  ⟨fun hJ => XJ.cons (SJ.nils hJ xs hA hN hn hl hst hz hs hw) (fun s' r => by
    obtain ⟨_, as, hlen, ok⟩ := r
    exact ⟨_, (sets_env xs (Γ.owns as) (as.map PV.ref)).1, ok, (h2 as hlen).out hJ⟩) (fun f s' hf r => absurd r.1 hf)⟩
theorem YX.to {ss : List Stmt} {R : Flow → Shared → Prop} (ρ' : List (Str × PV)) (hs : Sub ρ' Γ.ρ) (h : YX prog w A J (Γ.to ρ') ss R) : YX prog w A J Γ ss R := ⟨fun hJ => XJ.to ρ' hs (h.out hJ)⟩
theorem YX.weak {Γ' : Cx} {ss : List Stmt} {R : Flow → Shared → Prop} (h : YX prog w A J Γ' ss R) (hok : ∀ hp, Γ.Ok hp → Γ'.Ok hp) (he : Γ'.env = Γ.env := by rfl) : YX prog w A J Γ ss R := ⟨fun hJ => XJ.weak (h.out hJ) hok he⟩
theorem YX.nil {R : Flow → Shared → Prop} (h : ∀ s, Γ.Ok s.heap → R .next s) : YX prog w A J Γ [] R := ⟨fun _ => XJ.nil h⟩
theorem YX.ret {e : Expr} {pos : Pos} {rest : List Stmt} {d : PV} {R : Flow → Shared → Prop} (h1 : Ev prog w A Γ e d) (h2 : ∀ v s', Γ.Ok s'.heap → Rep Γ.O s'.heap v d → R (.ret v) s') : YX prog w A J Γ (.Return (some e) pos :: rest) R := ⟨fun hJ => XJ.ret hJ h1 h2⟩
theorem YX.ifJ {t : Expr} {body orelse rest : List Stmt} {pos : Pos} {R : Flow → Shared → Prop} (b : Bool) (ρ' : List (Str × PV)) (ht : Tr prog w A Γ t b) (h1 : b = true → YX prog w A J Γ body (Nx (Γ.to ρ'))) (h2 : b = false → YX prog w A J Γ orelse (Nx (Γ.to ρ')))
    (h3 : YX prog w A J (Γ.to ρ') rest R) : YX prog w A J Γ (.If t body orelse pos :: rest) R :=
  ⟨fun hJ => XJ.cons (SJ.ifs hJ ht (fun hb => (h1 hb).out hJ) (fun hb => (h2 hb).out hJ)) (fun s' r => ⟨Γ.to ρ', rfl, r.2, h3.out hJ⟩) (fun f s' hf r => absurd r.1 hf)⟩
theorem YX.fin {ρ' : List (Str × PV)} (hs : Sub ρ' Γ.ρ) : YX prog w A J Γ [] (Nx (Γ.to ρ')) := YX.nil fun s ok => ⟨rfl, ok.to hs⟩
theorem YX.ifF {t : Expr} {body rest : List Stmt} {pos : Pos} {R : Flow → Shared → Prop} (ht : Tr prog w A Γ t false) (h3 : YX prog w A J Γ rest R) : YX prog w A J Γ (.If t body [] pos :: rest) R :=
  ⟨fun hJ => XJ.cons (R₁ := Nx Γ) (SJ.ifs hJ ht (fun hb => by cases hb) (fun hb => XJ.nil fun s ok => ⟨rfl, ok⟩)) (fun s' r => ⟨_, rfl, r.2, h3.out hJ⟩) (fun f s' hf r => absurd r.1 hf)⟩

theorem YX.forE {rest : List Stmt} {R : Flow → Shared → Prop} (P : Nat → List (Str × PV) → List (Addr × List PV) → Prop) {x y : Str} {px py tp p lp pos' pos : Pos} {k0 : Nat} {es : List Expr} {body : List Stmt} {ds : List PV} (hA : A.handled = none) (h0 : P 0 Γ.ρ Γ.μ) (hO : ∀ k ρ μ, P k ρ μ → μ.map (·.1) = Γ.O)
    (hg : GlobV Γ.B "enumerate" (.type "enumerate")) (h1 : Evs prog w A Γ es ds) (hz : ds.length ≤ sizeLine) (hfl : ∀ d ∈ ds, d.flat = true)
    (hb : ∀ (B : Heap) (k : Nat) ρ μ d, (∀ b o, Γ.B.get? b = some o → B.get? b = some o) → P k ρ μ → ds[k]? = some d →
      YX prog w A J1 ⟨B, Γ.env, Γ.W, (y, d) :: (x, .int k) :: ρ, μ⟩ body (fun f s' => f = .next ∧ ∃ ρ' μ', P (k + 1) ρ' μ' ∧ (⟨B, Γ.env, Γ.W, ρ', μ'⟩ : Cx).Ok s'.heap))
    (h2 : ∀ ρ' μ', P ds.length ρ' μ' → YX prog w A J1 ⟨Γ.B, Γ.env, Γ.W, ρ', μ'⟩ rest R)
    (hst : [x, y].all (storable Γ.env Γ.W) = true := by rfl) (hk : Γ.env.kindOf "enumerate" = some .globalImplicit := by rfl)
    (hs : ∀ v, foldedSetIterable (.Call (.Name "enumerate" p) [.List es lp] [] pos') Γ.env v = pure v := by intro _; rfl)
    (he : starEach [.List es lp] Γ.env = (false, eval (.List es lp) Γ.env) :: starEach [] Γ.env := by rfl) :
    YX prog w A J1 Γ (.For (.Tuple [.Name x px, .Name y py] k0 tp) (.Call (.Name "enumerate" p) [.List es lp] [] pos') body [] pos :: rest) R :=
  ⟨fun hJ => XJ.cons (SJ.forE P hA h0 hO hg h1 hz hfl (fun B k ρ μ d a b c => (hb B k ρ μ d a b c).out hJ) hst hk hs he) (fun s' r => by
    obtain ⟨_, ρ', μ', hP, ok⟩ := r
    exact ⟨⟨Γ.B, Γ.env, Γ.W, ρ', μ'⟩, rfl, ok, (h2 ρ' μ' hP).out hJ⟩) (fun f s' hf r => absurd r.1 hf)⟩
end Mine

end
section
open PySem PySem.W PyProof.Rows PySem.Calls
set_option autoImplicit false
set_option linter.all false
set_option maxRecDepth 100000
namespace Mine
variable {prog : Program} {w : World} {A : Around} {Γ : Cx}

theorem fun_page {P : Params} {h : Heap} (t : TF P h) : ∃ doc pm an cdv ct, Fun h 143 (fdAt (topAt 63) "_law_page" .none .none doc pm an cdv ct) := by
  have e : fdK P 143 = fdAt (topAt 63) "_law_page" .none .none (fdK P 143).doc (fdK P 143).pyModule (fdK P 143).annotations (fdK P 143).code (fdK P 143).closureTuple := by kernel_rfl
  exact ⟨_, _, _, _, _, e ▸ t.fn 143 (by kernel_rfl) (by kernel_rfl)⟩

noncomputable def starts : List Int := [309, 612, 937, 184, 980, 62, 858, 55, 136]
noncomputable def cellOf (ns : List Int) (k : Nat) : Int := starts.getD k 0 + ((pickL ns (some (k : Int)) (some 63) (some 9)).map fun x => x.fmod 1000000).sum
theorem sum_nonneg : ∀ l : List Int, (∀ x ∈ l, 0 ≤ x) → 0 ≤ l.sum
  | [], _ => Int.le_refl _
  | x :: l, h => by
    rw [List.sum_cons]
    have := sum_nonneg l fun y hy => h y (List.mem_cons_of_mem _ hy)
    have := h x (List.mem_cons_self ..)
    omega
theorem starts_nonneg (k : Nat) : 0 ≤ starts.getD k 0 := by
  have : ∀ x ∈ starts, (0 : Int) ≤ x := by decide
  by_cases h : k < starts.length
  · rw [List.getD_eq_getElem?_getD, List.getElem?_eq_getElem h]; exact this _ (List.getElem_mem h)
  · rw [List.getD_eq_getElem?_getD, List.getElem?_eq_none (by omega)]; exact Int.le_refl _
theorem cellOf_nonneg (ns : List Int) (k : Nat) : 0 ≤ cellOf ns k := by
  have h1 := starts_nonneg k
  have h2 := sum_nonneg ((pickL ns (some (k : Int)) (some 63) (some 9)).map fun x => x.fmod 1000000) fun x hx => by
    obtain ⟨y, _, rfl⟩ := List.mem_map.mp hx
    exact Int.fmod_nonneg_of_pos y (by decide)
  unfold cellOf; omega
noncomputable def cells (ns : List Int) (k : Nat) : Nat := (cellOf ns k).toNat
theorem cells_eq (ns : List Int) (k : Nat) : (cells ns k : Int) = cellOf ns k := Int.toNat_of_nonneg (cellOf_nonneg ns k)

noncomputable def strsPV (xs : List Str) : List PV := xs.map .str
noncomputable abbrev envP (doc pm : Value) (an : Option Addr) (cdv ct : Value) (L : Addr) : Env := callEnvC (fdAt (topAt 63) "_law_page" Value.none Value.none doc pm an cdv ct) L 143
noncomputable abbrev pgρ (s a0 a1 a2 a3 a4 a5 : Addr) : List (Str × PV) :=
  [("script", .ref s), ("signs", .list (strsPV (signs.map strOf))), ("pieces", .list (strsPV (pieces.map strOf))), ("depths", .ref a0), ("leads", .ref a1), ("steps", .ref a2), ("above", .ref a3), ("marks", .ref a4), ("rows", .ref a5)]
noncomputable def upto {α : Type} (f : Nat → α) (k : Nat) : List α := (List.range k).map f
theorem upto_len {α : Type} (f : Nat → α) (k : Nat) : (upto f k).length = k := by simp [upto]
theorem upto_succ {α : Type} (f : Nat → α) (k : Nat) : upto f (k + 1) = upto f k ++ [f k] := by simp [upto, List.range_succ]
theorem upto_get {α : Type} (f : Nat → α) {k j : Nat} (h : j < k) : (upto f k)[j]? = some (f j) := by simp [upto, h]
noncomputable abbrev pgμ (cn : Nat → Nat) (a0 a1 a2 a3 a4 a5 : Addr) (k : Nat) : List (Addr × List PV) :=
  [(a0, upto (fun j => .int (pgDp cn j : Nat)) k), (a1, upto (fun j => .str (strOf (pgLd cn j))) k), (a2, upto (fun j => .str (strOf (pgSt cn j))) k), (a3, upto (fun j => .int (pgAb cn j)) k), (a4, upto (fun j => .int (pgMk cn j)) k), (a5, upto (fun j => .str (pgRow cn j)) k)]
noncomputable def pageOut (cn : Nat → Nat) : PV := .tup [.list (upto (fun j => .str (pgRow cn j)) 9), .list (upto (fun j => .int (pgAb cn j)) 9), .list (upto (fun j => .int (pgMk cn j)) 9)]

theorem strOf_app (a b : List Nat) : strOf a ++ strOf b = strOf (a ++ b) := by
  show (⟨a.toArray ++ b.toArray⟩ : Str) = ⟨(a ++ b).toArray⟩
  rw [List.append_toArray]
theorem strOf_len (a : List Nat) : (strOf a).length = a.length := by
  show a.toArray.size = _
  simp

theorem YX.freeze {J : Heap → Prop} {ss : List Stmt} {R : Flow → Shared → Prop} (μ₁ μ₂ : List (Addr × List PV)) (a : Addr) (ds : List PV) (ρ' : List (Str × PV)) (hμ : Γ.μ = μ₁ ++ (a, ds) :: μ₂)
    (hρ : ∀ x d, ρ'.lookup x = some d → Γ.ρ.lookup x = some d ∨ (Γ.ρ.lookup x = some (.ref a) ∧ d = .list ds)) (h : YX prog w A J { Γ with ρ := ρ', μ := μ₁ ++ μ₂ } ss R) : YX prog w A J Γ ss R :=
  YX.weak h fun hp ok => ok.freeze hμ hρ
theorem fdm (n a b : Nat) : ((n : Int).fdiv (a : Int)).fmod (b : Int) = ((n / a % b : Nat) : Int) := by
  rw [Int.fdiv_eq_ediv_of_nonneg _ (by omega), Int.fmod_eq_emod_of_nonneg _ (by omega)]; simp
theorem pick_len (l : List Int) (k : Nat) : (pickL l (some (k : Int)) (some 63) (some 9)).length ≤ l.length := by
  unfold pickL
  refine Nat.le_trans (List.length_filterMap_le _ _) (Nat.le_trans (sliceRange_len_le _ _ _ (by simp [sliceBounds])) ?_)
  have h9 : (9 : Int) > 0 := by decide
  simp only [sliceBounds, Option.getD_some, if_pos h9]
  omega
theorem rng_nats (k : Nat) : rng 0 1 k = natsPV (List.range k) := by
  unfold rng natsPV
  apply List.map_congr_left
  intro i _
  congr 1; omega
theorem last_get {l : List Nat} (h : l ≠ []) : l[l.length - 1]? = some (l.getLastD 0) := by
  cases l with
  | nil => exact absurd rfl h
  | cons x l => rw [← List.getLast_eq_getLastD (by simp), List.getLast_eq_getElem]; exact List.getElem?_eq_getElem _
theorem cand_pv (cn : Nat → Nat) (k : Nat) : List.map (fun d : PV => d) (List.filter (fun d : PV => match d with | .int i => decide ((pgDp cn i.toNat : Int) = (pgDp cn k : Int) - 1) | _ => false) (rng 0 1 k)) = natsPV (pgCand cn k) := by
  rw [List.map_id', rng_nats]
  unfold natsPV pgCand
  rw [List.filter_map]
  congr 1
  apply List.filter_congr
  intro j _
  simp only [Function.comp, Int.toNat_natCast]
  by_cases h : pgDp cn j + 1 = pgDp cn k
  · rw [decide_eq_true h, decide_eq_true (by omega)]
  · rw [decide_eq_false h, decide_eq_false (by omega)]

noncomputable def forBody : Stmt → List Stmt
  | .For _ _ b _ _ => b
  | _ => []
noncomputable def pgBody : List Stmt := forBody ((bodyOf (topAt 63)).getD 3 (.Pass ⟨0, 0, 0, 0⟩))

noncomputable abbrev pgC (doc pm : Value) (an : Option Addr) (cdv ct : Value) (L : Addr) (B : Heap) (ρ : List (Str × PV)) (μ : List (Addr × List PV)) : Cx := ⟨B, envP doc pm an cdv ct L, ["depths", "depth"], ρ, μ⟩
set_option maxHeartbeats 1000000 in
theorem page_turn {ns : List Int} {a : Addr} {us : List Value} (hns : IntsAre us ns) (hlen : us.length ≤ 63) {cn : Nat → Nat} (hce : ∀ k, cellOf ns k = (cn k : Int)) {doc pm : Value} {an : Option Addr} {cdv ct : Value} {L : Addr} {B' : Heap} (hA' : AOk 1 A) (t' : TF w.params B') (hscr : B'.IsList a us.toArray)
    {a0 a1 a2 a3 a4 a5 : Addr} {k : Nat} (hk : k < 9) :
    YX prog w A J1 (pgC doc pm an cdv ct L B' (("start", .int (starts.getD k 0)) :: ("place", .int (k : Int)) :: pgρ a a0 a1 a2 a3 a4 a5) (pgμ cn a0 a1 a2 a3 a4 a5 k)) pgBody
      (fun f s' => f = .next ∧ ∃ ρ' μ', (ρ' = pgρ a a0 a1 a2 a3 a4 a5 ∧ μ' = pgμ cn a0 a1 a2 a3 a4 a5 (k + 1)) ∧ (pgC doc pm an cdv ct L B' ρ' μ').Ok s'.heap) := by
  conv => arg 6; whnf
  have hnl : ns.length = us.length := by
    have := (of_ints hns : Reps [] B' us (ns.map .int)).len
    simpa using this.symm
  have hxl := pick_len ns k
  generalize hxs : pickL ns (some (k : Int)) (some 63) (some 9) = xs at hxl
  have hpk : pickL (ns.map PV.int) (some (k : Int)) (some 63) (some 9) = xs.map .int := by rw [pickL_map, hxs]
  have hcell : starts.getD k 0 + (xs.map fun x => x.fmod 1000000).sum = (cn k : Int) := by rw [← hce, cellOf, hxs]
  have hmp : List.map (fun d : PV => match d with | .int i => PV.int (i.fmod 1000000) | _ => .none) (List.filter (fun _ => true) (xs.map .int)) = (xs.map fun x => x.fmod 1000000).map .int := by
    rw [List.filter_eq_self.mpr (fun _ _ => rfl)]; simp
  refine YX.assign (d := .int (cn k : Int)) (Ev.cast (Ev.bin (Ev.name rfl) (Ev.bcall (gl_sum t') (Evs.cons (Ev.cast (EvN.ev (EvN.comp [] (fun _ => true) (fun d => match d with | .int i => .int (i.fmod 1000000) | _ => .none) rfl ClSub.nil Caps.nil
    (Itr.cast (Itr.list hA'.1 (EvN.ev (EvN.sliceI (lo := some (k : Int)) (hi := some 63) (c := 9) (Ev.name rfl) hscr hns (EvO.some (Ev.name rfl)) (EvO.some Ev.int) Ev.int (by decide) (by simp [sizeLine]; omega)))) hpk) (by simp; omega) (fun C D ys j d hd => Trs.nil) (fun C D ys j d hd _ => ?_))) (congrArg PV.list hmp)) Evs.nil) (BCall.sumL hA'.1)) BOp.add) (by rw [hcell])) ?_
  · obtain ⟨x, _, rfl⟩ := List.mem_map.mp (List.mem_of_getElem? hd)
    exact Ev.bin (Ev.name rfl) Ev.int (BOp.mod (by decide))
  have hld := pgLd_mem cn k
  have hdp := pgDp_le cn k
  have hll := (turn_scan _ (by omega : pgDp cn k < 4) _ hld).2.1
  refine YX.unpack (ds := [.int 0, .int (-1), .str ""]) ["depth", "upper", "lead"] hA'.1 (.cons (.cons (.cons .nil))) (Ev.tup (Evs.cons Ev.int (Evs.cons (Ev.neg Ev.int) (Evs.cons Ev.str Evs.nil)))) ?_
  refine YX.ifJ (decide ((0 : Int) < (k : Int))) (("lead", .str (strOf (pgLd cn k))) :: ("upper", .int (pgAb cn k)) :: ("depth", .int (pgDp cn k : Nat)) :: ("cell", .int (cn k : Int)) :: pgρ a a0 a1 a2 a3 a4 a5) (Tr.cmp (Ev.name rfl) Ev.int COp.gt) (fun hb => ?_) (fun hb => ?_) ?_
  · have hk0 : 0 < k := by have := of_decide_eq_true hb; omega
    obtain ⟨hu1, hu2⟩ := pgUp_lt cn hk0
    have hpg : pgAb cn k = (pgUp cn k : Nat) := by unfold pgAb; rw [if_neg (by omega)]
    have hup : (PV.int (pgAb cn k)) = .int (pgUp cn k : Nat) := by rw [hpg]
    have hlu := (turn_scan _ (by have := pgDp_le cn (pgUp cn k); omega) _ (pgLd_mem cn (pgUp cn k))).2.1
    have hsu := pieces_short _ (pgSt_mem cn (pgUp cn k))
    refine YX.assign (d := .int (pgDp cn k : Nat)) (Ev.cast (Ev.bin Ev.int (Ev.bin (Ev.name rfl) (Ev.bcall (gl_min t') (Evs.cons Ev.int (Evs.cons (Ev.bin Ev.int (Ev.idx (k := -1) (d := .int (pgDp cn (k - 1) : Nat)) (LV.own (Ev.name rfl) (.head _)) (Ev.neg Ev.int) (by rw [pyIdx_last, upto_len]; exact upto_get _ (by omega)) (by rw [upto_len]; omega)) BOp.add) Evs.nil)) (BCall.min2 hA'.1)) (BOp.mod (by omega))) BOp.add) ?_) ?_
    · obtain ⟨m, rfl⟩ : ∃ m, k = m + 1 := ⟨k - 1, by omega⟩
      rw [Int.fmod_eq_emod_of_nonneg _ (by omega), pgDp]
      simp only [Nat.add_sub_cancel]
      congr 1
      simp
      congr 1
      omega
    refine YX.assign (d := .int (pgAb cn k)) (Ev.cast (Ev.idx (k := -1) (d := .int (pgUp cn k : Nat)) (LV.of (EvN.ev (EvN.comp [("depth", .int (pgDp cn k : Nat)), ("depths", .ref a0)] (fun d => match d with | .int i => decide ((pgDp cn i.toNat : Int) = (pgDp cn k : Int) - 1) | _ => false) (fun d => d) rfl (ClSub.cons rfl (ClSub.cons rfl ClSub.nil)) (Caps.cons rfl (Caps.cons rfl Caps.nil))
      (Itr.cast (Itr.range1 hA'.1 (gl_range t') (Ev.name rfl) (by omega)) (ds' := rng 0 1 k) rfl) (by rw [rng_len]; omega) (fun C D ys j d hd => ?_) (fun C D ys j d hd _ => Ev.name rfl)))) (Ev.neg Ev.int) ?_ ?_) hup.symm) ?_
    · obtain ⟨hj, rfl⟩ := rng_get hd
      have e1 : ((0 : Int) + (j : Int) * 1) = (j : Int) := by omega
      rw [e1]
      exact Trs.one (Tr.cmp (Ev.idx (k := (j : Int)) (d := .int (pgDp cn j : Nat)) (LV.own (Ev.name rfl) (.head _)) (Ev.name rfl) (by rw [pyIdx_nat]; exact upto_get _ hj) (by omega)) (Ev.bin (Ev.name rfl) Ev.int BOp.sub) COp.eq)
    · rw [cand_pv, pyIdx_last, natsPV_len]
      exact natsPV_get (last_get (pgCand_ne cn hk0))
    · rw [cand_pv, natsPV_len]
      have := List.length_pos_iff.mpr (pgCand_ne cn hk0)
      omega
    refine YX.assign (d := .str (strOf (pgLd cn k))) (Ev.cast (Ev.bin (Ev.idx (k := (pgUp cn k : Nat)) (d := .str (strOf (pgLd cn (pgUp cn k)))) (LV.own (Ev.name rfl) (.tail _ (.head _))) (Ev.cast (Ev.name rfl) hup) (by rw [pyIdx_nat]; exact upto_get _ hu1) (by omega))
      (Ev.idx (k := (pgUp cn k : Nat)) (d := .str (strOf (pgSt cn (pgUp cn k)))) (LV.own (Ev.name rfl) (.tail _ (.tail _ (.head _)))) (Ev.cast (Ev.name rfl) hup) (by rw [pyIdx_nat]; exact upto_get _ hu1) (by omega)) (BOp.addStr (by rw [strOf_len, strOf_len]; simp [sizeLine]; omega))) (by rw [strOf_app, ← pgLd_step cn hk0])) ?_
    exact YX.fin (Sub.cons rfl (Sub.cons rfl (Sub.cons rfl (Sub.cons rfl (Sub.cons rfl (Sub.cons rfl (Sub.cons rfl (Sub.cons rfl (Sub.cons rfl (Sub.cons rfl (Sub.cons rfl (Sub.cons rfl (Sub.cons rfl Sub.nil)))))))))))))
  · have hk0 : k = 0 := by have := of_decide_eq_false hb; omega
    subst hk0
    exact YX.fin (Sub.cons rfl (Sub.cons rfl (Sub.cons rfl (Sub.cons rfl (Sub.cons rfl (Sub.cons rfl (Sub.cons rfl (Sub.cons rfl (Sub.cons rfl (Sub.cons rfl (Sub.cons rfl (Sub.cons rfl (Sub.cons rfl Sub.nil)))))))))))))
  have hq144 : ((cn k : Int).fdiv 144).fmod 6 = ((cn k / 144 % 6 : Nat) : Int) := fdm (cn k) 144 6
  have hq3 : ((cn k : Int).fdiv 3).fmod 48 = ((cn k / 3 % 48 : Nat) : Int) := fdm (cn k) 3 48
  have hq864 : ((cn k : Int).fdiv 864).fmod 2 = ((cn k / 864 % 2 : Nat) : Int) := fdm (cn k) 864 2
  obtain ⟨hsp, hrl, hj1, hj2, hk1, hk2⟩ := lead_split _ (by omega : pgDp cn k < 4) _ hld
  have hsg := (signs_ok _ (pgSg_mem cn k)).2.1
  have htl := (turn_scan _ (by omega : pgDp cn k < 4) _ hld).2.2.1
  have hul : ∀ {α : Type} (f : Nat → α), (upto f k).length ≤ sizeLine := fun f => by rw [upto_len]; simp [sizeLine]; omega
  refine YX.append 0 (Ev.name rfl) (Ev.name rfl) (hul _) ?_
  refine YX.append 1 (Ev.name rfl) (Ev.name rfl) (hul _) ?_
  refine YX.append (d := .str (strOf (pgSt cn k))) 2 (Ev.name rfl) (Ev.idx (k := ((cn k / 144 % 6 : Nat) : Int)) (LV.of (Ev.name rfl)) (Ev.cast (Ev.bin (Ev.bin (Ev.name rfl) Ev.int (BOp.fdiv (by decide) (PyProof.noPylong_small (by decide)))) Ev.int (BOp.mod (by decide))) (congrArg PV.int hq144)) ?_ (by omega)) (hul _) ?_
  · rw [pyIdx_nat]
    have h6 : cn k / 144 % 6 < pieces.length := by rw [pieces_len]; exact Nat.mod_lt _ (by omega)
    unfold strsPV pgSt
    rw [List.getElem?_map, List.getElem?_map, List.getElem?_eq_getElem h6, List.getD_eq_getElem?_getD, List.getElem?_eq_getElem h6]; rfl
  refine YX.append 3 (Ev.name rfl) (Ev.name rfl) (hul _) ?_
  refine YX.append (d := .int (pgMk cn k)) 4 (Ev.name rfl) (Ev.cast (Ev.bin Ev.int (Ev.cast (Ev.bin (Ev.bin (Ev.name rfl) Ev.int (BOp.fdiv (by decide) (PyProof.noPylong_small (by decide)))) Ev.int (BOp.mod (by decide))) (congrArg PV.int hq3)) BOp.add) (by unfold pgMk; congr 1)) (hul _) ?_
  have hrl2 : (turnRuns (runs (pgLd cn k))).length = (runs (pgLd cn k)).length := by
    unfold turnRuns; rw [List.length_append, List.length_reverse, List.length_take, List.length_drop]; omega
  have hSl : ∀ l : List (List Nat), (strsPV (l.map strOf)).length = l.length := fun l => by simp [strsPV]
  refine YX.assign (d := .list (strsPV ((runs (pgLd cn k)).map strOf))) (Ev.cast (Ev.split (x := strOf (pgLd cn k)) (y := "\t") (Ev.name rfl) Ev.str (by decide) hsp (by rw [strOf_len]; simp [sizeLine]; omega) (by rw [List.length_map]; simp [sizeLine]; omega)) rfl) ?_
  refine YX.ifJ (decide (cn k / 864 % 2 = 1)) (("runs", .list (strsPV ((if cn k / 864 % 2 = 1 then turnRuns (runs (pgLd cn k)) else runs (pgLd cn k)).map strOf))) :: ("cell", .int (cn k : Int)) :: pgρ a a0 a1 a2 a3 a4 a5)
    (Tr.cast (Tr.cmp (Ev.cast (Ev.bin (Ev.bin (Ev.name rfl) Ev.int (BOp.fdiv (by decide) (PyProof.noPylong_small (by decide)))) Ev.int (BOp.mod (by decide))) (congrArg PV.int hq864)) Ev.int COp.eq) (by
      by_cases h : cn k / 864 % 2 = 1
      · rw [decide_eq_true h, decide_eq_true (by omega)]
      · rw [decide_eq_false h, decide_eq_false (by omega)])) (fun hb => ?_) (fun hb => ?_) ?_
  · have hb : cn k / 864 % 2 = 1 := of_decide_eq_true hb
    rw [if_pos hb]
    refine YX.assign (d := .list (strsPV ((turnRuns (runs (pgLd cn k))).map strOf))) (Ev.cast (Ev.addList (LV.of (EvN.ev (EvN.slice3T (lo := none) (hi := none) (c := -1) (LV.of (EvN.ev (EvN.slice (lo := none) (hi := some (-1)) (LV.of (Ev.name rfl)) EvO.none (EvO.some (Ev.neg Ev.int)) ?_))) EvO.none EvO.none (Ev.neg Ev.int) (by decide) ?_)))
      (LV.of (EvN.ev (EvN.slice (lo := some (-1)) (hi := none) (LV.of (Ev.name rfl)) (EvO.some (Ev.neg Ev.int)) EvO.none ?_))) ?_) ?_) ?_
    · rw [hSl]; simp [sizeLine]; omega
    · rw [pickL_init, List.length_take, hSl]; simp [sizeLine]; omega
    · rw [hSl]; simp [sizeLine]; omega
    · rw [pickL_init, pickL_last, pickL_rev, List.length_reverse, List.length_take, List.length_drop, hSl]; simp [sizeLine]; omega
    · rw [pickL_init, pickL_last, pickL_rev, hSl]
      unfold turnRuns strsPV
      simp [List.map_take, List.map_drop, List.map_reverse]
    exact YX.fin (Sub.cons rfl (Sub.cons rfl (Sub.cons rfl (Sub.cons rfl (Sub.cons rfl (Sub.cons rfl (Sub.cons rfl (Sub.cons rfl (Sub.cons rfl (Sub.cons rfl (Sub.cons rfl Sub.nil)))))))))))
  · have hb : ¬ cn k / 864 % 2 = 1 := of_decide_eq_false hb
    rw [if_neg hb]
    exact YX.fin (Sub.cons rfl (Sub.cons rfl (Sub.cons rfl (Sub.cons rfl (Sub.cons rfl (Sub.cons rfl (Sub.cons rfl (Sub.cons rfl (Sub.cons rfl (Sub.cons rfl (Sub.cons rfl Sub.nil)))))))))))
  have hjoin : JoinOk "\t" ((if cn k / 864 % 2 = 1 then turnRuns (runs (pgLd cn k)) else runs (pgLd cn k)).map strOf) = true ∧ Txt.join "\t" ((if cn k / 864 % 2 = 1 then turnRuns (runs (pgLd cn k)) else runs (pgLd cn k)).map strOf) = strOf (pgIn cn k) ∧ (pgIn cn k).length ≤ 9 := by
    unfold pgIn
    by_cases hb : cn k / 864 % 2 = 1
    · rw [if_pos hb, if_pos hb]; exact ⟨hj2, hk2, htl⟩
    · rw [if_neg hb, if_neg hb]; exact ⟨hj1, hk1, hll⟩
  refine YX.append (d := .str (pgRow cn k)) 5 (Ev.name rfl) (Ev.bin (Ev.join Ev.str (Ev.name rfl) hjoin.1 hjoin.2.1) (Ev.idx (k := ((cn k / 3 % 48 : Nat) : Int)) (d := .str (strOf (pgSg cn k))) (LV.of (Ev.name rfl)) (Ev.cast (Ev.bin (Ev.bin (Ev.name rfl) Ev.int (BOp.fdiv (by decide) (PyProof.noPylong_small (by decide)))) Ev.int (BOp.mod (by decide))) (congrArg PV.int hq3)) ?_ (by omega)) (BOp.addStr (by rw [strOf_len, strOf_len]; have := hjoin.2.2; simp [sizeLine]; omega))) (hul _) ?_
  · rw [pyIdx_nat]
    have h6 : cn k / 3 % 48 < signs.length := by rw [signs_len]; exact Nat.mod_lt _ (by omega)
    unfold strsPV pgSg
    rw [List.getElem?_map, List.getElem?_map, List.getElem?_eq_getElem h6, List.getD_eq_getElem?_getD, List.getElem?_eq_getElem h6]; rfl
  refine YX.nil fun s' ok => ⟨rfl, _, _, ⟨rfl, rfl⟩, ?_⟩
  have e : pgμ cn a0 a1 a2 a3 a4 a5 (k + 1) = [(a0, upto (fun j => .int (pgDp cn j : Nat)) k ++ [.int (pgDp cn k : Nat)]), (a1, upto (fun j => .str (strOf (pgLd cn j))) k ++ [.str (strOf (pgLd cn k))]), (a2, upto (fun j => .str (strOf (pgSt cn j))) k ++ [.str (strOf (pgSt cn k))]), (a3, upto (fun j => .int (pgAb cn j)) k ++ [.int (pgAb cn k)]), (a4, upto (fun j => .int (pgMk cn j)) k ++ [.int (pgMk cn k)]), (a5, upto (fun j => .str (pgRow cn j)) k ++ [.str (pgRow cn k)])] := by
    simp only [pgμ, upto_succ]
  rw [e]
  exact ok.to (Sub.cons rfl (Sub.cons rfl (Sub.cons rfl (Sub.cons rfl (Sub.cons rfl (Sub.cons rfl (Sub.cons rfl (Sub.cons rfl (Sub.cons rfl Sub.nil)))))))))
theorem page_ok {ns : List Int} {a : Addr} {us : List Value} (hns : IntsAre us ns) (hlen : us.length ≤ 63) :
    FnOk prog w (fun h => TF w.params h ∧ h.IsList a us.toArray) 2 143 [.ref a] (pageOut (cells ns)) := by
  intro A s vs R hA ⟨t, hscr⟩ rs hR
  obtain ⟨doc, pm, an, cdv, ct, hf⟩ := fun_page t
  obtain ⟨v, rfl, r⟩ := reps1 rs
  generalize hcn : cells ns = cn
  have hce : ∀ k, cellOf ns k = (cn k : Int) := fun k => by rw [← hcn, cells_eq]
  refine fn_cellsJ (J := J1) (n := 1) (B := s.heap) (W := ["depths", "depth"]) (ρ := [("script", .ref a)]) (binds := [("script", v)]) (RV := fun v s' => Rep [] s'.heap v (pageOut cn)) j1ok trivial hA hf t.lim rfl rfl rfl (fun _ _ e => e) ?_ ?_ ?_ (fun v s' as _ hk r => hR v s' ⟨as, hk⟩ (by rw [hcn]; exact r))
  · intro x hx
    have := List.mem_singleton.mp hx; subst this
    exact .inl rfl
  · intro x d e
    have := PySem.mem_of_lookup e
    simp only [List.mem_cons, Prod.mk.injEq, List.not_mem_nil, or_false] at this
    rcases this with ⟨rfl, rfl⟩
    exact ⟨v, r, .inl ⟨rfl, rfl⟩⟩
  conv => arg 6; whnf
  have hA' : AOk 1 (A.deeper (envP doc pm an cdv ct s.heap.objs.size)) := hA.deeper _
  refine YX.out ?_ j1ok
  refine YX.assign (Ev.cast (Ev.split (x := signLit) (y := " ") Ev.str Ev.str (by decide) signs_split (by decide +kernel) (by rw [List.length_map, signs_len]; decide)) rfl) ?_
  refine YX.assign (d := .list (strsPV (pieces.map strOf))) (Ev.list (ds := strsPV (pieces.map strOf)) (by
    rw [pieces_str]
    exact Evs.cons Ev.str (Evs.cons Ev.str (Evs.cons Ev.str (Evs.cons Ev.str (Evs.cons Ev.str (Evs.cons Ev.str Evs.nil))))))  (by rw [strsPV, List.length_map, List.length_map, pieces_len]; decide)) ?_
  refine YX.nils (n := 6) ["depths", "leads", "steps", "above", "marks", "rows"] hA'.1 (.cons (.cons (.cons (.cons (.cons (.cons .nil)))))) (.cons (.cons (.cons (.cons (.cons (.cons .nil)))))) fun as hlenA => ?_
  match as, hlenA with
  | [a0, a1, a2, a3, a4, a5], _ =>
  refine YX.to (pgρ a a0 a1 a2 a3 a4 a5) (Sub.cons rfl (Sub.cons rfl (Sub.cons rfl (Sub.cons rfl (Sub.cons rfl (Sub.cons rfl (Sub.cons rfl (Sub.cons rfl (Sub.cons rfl Sub.nil))))))))) ?_
  refine YX.forE (fun k ρ μ => ρ = pgρ a a0 a1 a2 a3 a4 a5 ∧ μ = pgμ cn a0 a1 a2 a3 a4 a5 k) (ds := starts.map .int) hA'.1 ⟨rfl, rfl⟩ ?_ (gl_enum t) ?_ ?_ ?_ ?_ ?_
  · rintro k ρ μ ⟨rfl, rfl⟩; rfl
  · exact Evs.cons Ev.int (Evs.cons Ev.int (Evs.cons Ev.int (Evs.cons Ev.int (Evs.cons Ev.int (Evs.cons Ev.int (Evs.cons Ev.int (Evs.cons Ev.int (Evs.cons Ev.int Evs.nil))))))))
  · simp [starts, sizeLine]
  · intro d hd
    obtain ⟨x, _, rfl⟩ := List.mem_map.mp hd
    rfl
  · rintro B' k ρ μ d hsub ⟨rfl, rfl⟩ hd
    have hk : k < 9 := by
      have := (List.getElem?_eq_some_iff.mp hd).1
      simpa [starts] using this
    have hd' : d = .int (starts.getD k 0) := by
      have hks : k < starts.length := hk
      rw [List.getElem?_map, List.getElem?_eq_getElem hks] at hd
      cases hd
      rw [List.getD_eq_getElem?_getD, List.getElem?_eq_getElem hks]; rfl
    subst hd'
    exact page_turn hns hlen hce hA' (t.keeps hsub) (hscr.at fun o e => hsub _ o e) hk
  · rintro ρ' μ' ⟨rfl, rfl⟩
    rw [show (starts.map PV.int).length = 9 from rfl]
    refine YX.freeze (pgμ cn a0 a1 a2 a3 a4 a5 9 |>.take 5) [] a5 _ [("rows", .list (upto (fun j => .str (pgRow cn j)) 9)), ("above", .ref a3), ("marks", .ref a4)] rfl (fun x d e => ?_) ?_
    · have := PySem.mem_of_lookup e
      simp only [List.mem_cons, Prod.mk.injEq, List.not_mem_nil, or_false] at this
      rcases this with ⟨rfl, rfl⟩ | ⟨rfl, rfl⟩ | ⟨rfl, rfl⟩
      · exact .inr ⟨rfl, rfl⟩
      · exact .inl rfl
      · exact .inl rfl
    refine YX.freeze (pgμ cn a0 a1 a2 a3 a4 a5 9 |>.take 4) [] a4 _ [("rows", .list (upto (fun j => .str (pgRow cn j)) 9)), ("above", .ref a3), ("marks", .list (upto (fun j => .int (pgMk cn j)) 9))] rfl (fun x d e => ?_) ?_
    · have := PySem.mem_of_lookup e
      simp only [List.mem_cons, Prod.mk.injEq, List.not_mem_nil, or_false] at this
      rcases this with ⟨rfl, rfl⟩ | ⟨rfl, rfl⟩ | ⟨rfl, rfl⟩
      · exact .inl rfl
      · exact .inl rfl
      · exact .inr ⟨rfl, rfl⟩
    refine YX.freeze (pgμ cn a0 a1 a2 a3 a4 a5 9 |>.take 3) [] a3 _ [("rows", .list (upto (fun j => .str (pgRow cn j)) 9)), ("above", .list (upto (fun j => .int (pgAb cn j)) 9)), ("marks", .list (upto (fun j => .int (pgMk cn j)) 9))] rfl (fun x d e => ?_) ?_
    · have := PySem.mem_of_lookup e
      simp only [List.mem_cons, Prod.mk.injEq, List.not_mem_nil, or_false] at this
      rcases this with ⟨rfl, rfl⟩ | ⟨rfl, rfl⟩ | ⟨rfl, rfl⟩
      · exact .inl rfl
      · exact .inr ⟨rfl, rfl⟩
      · exact .inl rfl
    exact YX.ret (d := pageOut cn) (Ev.tup (Evs.cons (Ev.name rfl) (Evs.cons (Ev.name rfl) (Evs.cons (Ev.name rfl) Evs.nil)))) fun v s' ok r => ⟨ok.base, r.free⟩
end Mine

end
section
open PySem PySem.W PyProof.Rows PySem.Calls
set_option autoImplicit false
set_option linter.all false
namespace Mine
variable {prog : Program} {w : World} {A : Around} {Γ : Cx}

/-- a comprehension that fills a new list with out -/
structure CompSem (prog : Program) (w : World) (A : Around) (Γ : Cx) (whole : Expr) (scope : Scope) (first : Sem Value) (out : List PV) : Prop where
  run : ∀ (s : Shared) (use : Option (Value → Sem Unit)) (Q : Value → Shared → Prop) (E : Value → Shared → Prop) (pos' : Pos), Γ.Ok s.heap →
    (∀ D C h' tk m us, s.heap.get? D = none → s.heap.get? C = none → D ≠ C → h'.Ns C m → m "is_simple" = none → h'.PlainList D us.toArray → Reps (Γ.O ++ [D]) h' us out → (∀ b o, s.heap.get? b = some o → h'.get? b = some o) →
      compPost (model prog w) A E use Q (.ref D) C (.ok .next) { s with heap := h', toks := tk }) →
    wpAny (model prog w) A (comprehension whole scope Γ.env pos' (newList []) false first use) Q E s

theorem EvN.ofComp {elt : Expr} {target iter : Expr} {ifs : List Expr} {scope : Scope} {pos : Pos} {out : List PV} (h : CompSem prog w A Γ (.ListComp elt [⟨target, iter, ifs, 0⟩] scope pos) scope (eval iter Γ.env) out) :
    EvN prog w A Γ (.ListComp elt [⟨target, iter, ifs, 0⟩] scope pos) out := fun s Q E ok k => by
  rw [eval_ListComp]
  refine h.run s none Q E _ ok fun D C h' tk m us hD hC hDC hn hsm hl hr hkp => ?_
  refine ⟨m, hn, fun h'' hs'' => k D us _ (Ext.mk' h'' tk fun b o e => ?_) hD (hl.extBut hs''.extBut hDC) (hr.mono (fun _ x => x) fun b o hb hq e => ?_)⟩
  · exact (hs''.2 b (by rintro rfl; rw [hC] at e; cases e)).trans (hkp b o e)
  · exact (hs''.2 b (by
      rintro rfl
      exact ns_notSeq hn e hsm hq)).trans e

theorem X.assignOfComp {y : Str} {py spos : Pos} {elt : Expr} {target iter : Expr} {ifs : List Expr} {scope : Scope} {pos : Pos} {out : List PV} {rest : List Stmt} {R : Flow → Shared → Prop} (h : CompSem prog w A Γ (.ListComp elt [⟨target, iter, ifs, 0⟩] scope pos) scope (eval iter Γ.env) out)
    (h2 : X prog w A (Γ.set y (.list out)) rest R)
    (hsw : swapsWith (.ListComp elt [⟨target, iter, ifs, 0⟩] scope pos) (some (.Name y py)) spos.line Γ.env = pure true := by rfl)
    (hy : storable Γ.env Γ.W y = true := by rfl) :
    X prog w A Γ (.Assign [.Name y py] (.ListComp elt [⟨target, iter, ifs, 0⟩] scope pos) spos :: rest) R := fun s Q E ok k => wpAny_execs_cons (by
  rw [exec_Assign_Name_used _ _ _ _ hsw]
  refine wpAny_bind (wpAny_standAt (wpAny_bind ?_))
  show wpAny _ A (do let _ ← comprehension (.ListComp elt [⟨target, iter, ifs, 0⟩] scope pos) scope Γ.env _ (newList []) false (eval iter Γ.env) (some (assign (.Name y py) Γ.env))) _ _ s
  refine wpAny_bind (wpAny_mono (h.run s (some (assign (.Name y py) Γ.env)) (fun _ s' => wpAny (model prog w) A (execs rest Γ.env) Q E s') _ _ ok fun D C h' tk m us hD hC hDC hn hsm hl hr hkp => ?_) (fun _ s' hq => wpAny_pure (wpAny_pure hq)) fun _ _ e => e)
  show wpAny _ A (assign (.Name y py) Γ.env (.ref D)) _ _ _
  refine wpAny_assign_Name ?_
  have ok₁ : (Γ.own D out).Ok h' := ok.thaw hkp hD hl hr
  refine wp_store (Γ := Γ.own D out) (s := { s with heap := h', toks := tk }) ok₁ (.ref D) hy fun s₂ ok₂ kps => ?_
  obtain ⟨h₂, tk₂, rfl⟩ := kps.as
  have hCst : ¬ Stor (Γ.own D out).env (Γ.own D out).W C := fun q => by
    rcases q with q | ⟨z, _, q⟩
    · obtain ⟨o, e⟩ := ok.stands (b := C) (.inr (.inl q)); rw [hC] at e; cases e
    · obtain ⟨o, e⟩ := ok.stands (b := C) (.inr (.inr ⟨z, q⟩)); rw [hC] at e; cases e
  refine ⟨m, hn.at' fun o e => kps.get _ o hCst e, fun h₃ hs₃ => ?_⟩
  have ok₃ : ((Γ.own D out).set y (.ref D)).Ok h₃ := ok₂.change fun b o hb e => (hs₃.2 b (by
    rintro rfl
    rcases hb with hb | hb
    · exact ns_notSeq (hn.at' fun o e => kps.get _ o hCst e) e hsm hb
    · obtain ⟨o', e'⟩ := ok.stands (b := b) hb
      rw [hC] at e'; cases e')).trans e
  refine X.thawed h2 { s with heap := h₃, toks := tk₂ } _ _ ok₃ fun f' s'' kp' r => k f' s'' ?_ r
  refine Kp.own (ds := out) hD ?_
  have k1 : Kp (Γ.own D out) s { s with heap := h₃, toks := tk₂ } := ⟨⟨_, _, rfl⟩, fun b o h1 h2 e => (hs₃.2 b (by rintro rfl; rw [hC] at e; cases e)).trans (kps.get b o h1 (hkp b o e))⟩
  exact Kp.trans (Γ := Γ.own D out) (Γ' := (Γ.own D out).set y (.ref D)) rfl rfl rfl k1 kp')

theorem CompSem.one {elt iter : Expr} {x : Str} {px : Pos} {ifs : List Expr} {scope : Scope} {pos : Pos} {cl : List (Str × Addr)} {ds : List PV} (ρc : List (Str × PV)) (p : PV → Bool) (f : PV → PV)
    (hclos : closureFor scope Γ.env = pure cl) (hcs : ClSub Γ.env cl) (hcap : Caps Γ scope cl ρc)
    (hit : Itr prog w A Γ iter ds) (hz : ds.length ≤ 2 ^ 20)
    (htest : ∀ C D ys (k : Nat) d, ds[k]? = some d → Trs prog w A ((compCx Γ scope cl ρc C D ys).set x d) ifs (p d))
    (helt : ∀ C D ys (k : Nat) d, ds[k]? = some d → p d = true → Ev prog w A ((compCx Γ scope cl ρc C D ys).set x d) elt (f d))
    (hcell : ∀ y ∈ scope.names, y.2 ≠ .cell := by decide) (hkind : scope.kind = .function := by rfl) (hnames : ∀ y ∈ scope.names, y.2 = .local → scope.names.lookup y.1 = some .local := by decide) (hx : scope.names.lookup x = some .local := by rfl)
    (hs : ∀ v, foldedSetIterable iter Γ.env v = pure v := by intro _; rfl) (hxs : (x != ("is_simple" : Str)) = true := by rfl) :
    CompSem prog w A Γ (.ListComp elt [⟨.Name x px, iter, ifs, 0⟩] scope pos) scope (eval iter Γ.env) ((ds.filter p).map f) :=
  ⟨fun s use Q E pos' ok hfin => comp_core ok hclos hcell hkind hnames hx hxs hs hcap hcs hit hz htest helt hfin⟩

theorem lt_of_get {h : Heap} {b : Addr} {o : Obj} (e : h.get? b = some o) : @LT.lt Nat _ b h.objs.size := Heap.lt_size e

theorem CompSem.zip {elt e1 e2 : Expr} {x y : Str} {px py tp zp zpos : Pos} {k0 : Nat} {scope : Scope} {pos : Pos} {cl : List (Str × Addr)} {ds1 ds2 : List PV} (ρc : List (Str × PV)) (f : PV → PV → PV) (hA : A.handled = none)
    (hclos : closureFor scope Γ.env = pure cl) (hcs : ClSub Γ.env cl) (hcap : Caps Γ scope cl ρc)
    (hg : GlobV Γ.B "zip" (.type "zip")) (h1 : Evs prog w A Γ [e1, e2] [.list ds1, .list ds2]) (hl : ds1.length = ds2.length) (hz : ds1.length ≤ 2 ^ 20)
    (helt : ∀ C D ys (k : Nat) d d', ds1[k]? = some d → ds2[k]? = some d' → Ev prog w A (((compCx Γ scope cl ρc C D ys).set x d).set y d') elt (f d d')) (hff : ∀ d d', (f d d').flat = true)
    (hcell : ∀ y ∈ scope.names, y.2 ≠ .cell := by decide) (hkind : scope.kind = .function := by rfl) (hnames : ∀ y ∈ scope.names, y.2 = .local → scope.names.lookup y.1 = some .local := by decide) (hx : scope.names.lookup x = some .local := by rfl) (hy : scope.names.lookup y = some .local := by rfl)
    (hs : ∀ v, foldedSetIterable (.Call (.Name "zip" zp) [e1, e2] [] zpos) Γ.env v = pure v := by intro _; rfl) (hk : Γ.env.kindOf "zip" = some .globalImplicit := by rfl)
    (he : starEach [e1, e2] Γ.env = (false, eval e1 Γ.env) :: starEach [e2] Γ.env := by rfl) (hp : (backTo zpos (starEach [e2] Γ.env)).any (·.1) = false := by rfl)
    (hxs : (x != ("is_simple" : Str)) = true := by rfl) (hys : (y != ("is_simple" : Str)) = true := by rfl) :
    CompSem prog w A Γ (.ListComp elt [⟨.Tuple [.Name x px, .Name y py] k0 tp, .Call (.Name "zip" zp) [e1, e2] [] zpos, [], 0⟩] scope pos) scope (eval (.Call (.Name "zip" zp) [e1, e2] [] zpos) Γ.env) (List.zipWith f ds1 ds2) := ⟨fun s use Q E pos' ok hfin => by
  refine wpAny_comprehension_free rfl hs hclos hkind hnames ?_
  rw [eval_CallName]
  refine wpAny_bind (wp_glob ok hk hg ?_)
  refine PyProof.Rows.callWith_type1 (h1 s zpos _ _ ok fun vs s₁ k₁ rs => ?_) he hp
  obtain ⟨va, vb, rfl, ra, rb⟩ := reps2 rs
  obtain ⟨l1, us1, rfl, hl1O, hl1, hr1⟩ := ra.list_inv
  obtain ⟨l2, us2, rfl, hl2O, hl2, hr2⟩ := rb.list_inv
  refine call_zip_2 (plain_isList hl1) (plain_isList hl2) fun h' hZ hTI hTO hI1 hI2 hsz hk' => ?_
  have ok₁ := ok.step k₁
  have hn1 : us1.length = ds1.length := hr1.len
  have hn2 : us2.length = ds1.length := by rw [hl]; exact hr2.len
  have hlt1 : @LT.lt Nat _ l1 s₁.heap.objs.size := by obtain ⟨n, e⟩ := hl1; exact Heap.lt_size e
  have hlt2 : @LT.lt Nat _ l2 s₁.heap.objs.size := by obtain ⟨n, e⟩ := hl2; exact Heap.lt_size e
  generalize hn : s₁.heap.objs.size = n at *
  have hfr : ∀ b : Nat, n ≤ b → s₁.heap.get? b = none := fun b hb => by
    cases q : s₁.heap.get? b with
    | none => rfl
    | some o => exact absurd (lt_of_get q) (by rw [hn]; exact Nat.not_lt.mpr hb)
  have Dz : ZipApart (n + 4) (n + 2) (n + 3) n (n + 1) l1 l2 := by constructor <;> first | exact Nat.ne_of_lt (by omega) | exact Nat.ne_of_gt (by omega)
  have W := WalksT.zip2 (prog := prog) (w := w) hA (n + 4) (n + 2) (n + 3) n (n + 1) l1 l2 Dz us1.toArray us2.toArray
  have hN : min us1.toArray.size us2.toArray.size = ds1.length := by simp [hn1, hn2]
  rw [hN] at W
  obtain ⟨fp, wr, St, Mid, W, hst, hwr, hfp⟩ : ∃ (fp wr : List Addr) (St : Nat → Heap → Prop) (Mid : Nat → Addr → Heap → Prop), WalksT prog w A (n + 4) fp wr ds1.length (fun i vals => ∃ x y, us1.toArray[i]? = some x ∧ us2.toArray[i]? = some y ∧ vals = #[x, y]) St Mid ∧ St 0 h' ∧ (∀ b ∈ wr, @LE.le Nat _ n b) ∧ (∀ b ∈ fp, @LT.lt Nat _ b h'.objs.size) :=
    ⟨_, _, _, _, W, ⟨hZ, hTI, ⟨_, _, hTO⟩, hI1, hI2, (plain_isList hl1).at fun o e => hk' _ o e, (plain_isList hl2).at fun o e => hk' _ o e⟩, fun b hb => by simp at hb; rcases hb with rfl | rfl | rfl | rfl <;> omega, fun b hb => by
      rw [hsz]; simp at hb
      rcases hb with rfl | rfl | rfl | rfl | rfl | rfl | rfl <;> omega⟩
  have hwn : ∀ b ∈ wr, s₁.heap.get? b = none := fun b hb => hfr b (hwr b hb)
  refine W.self 0 _ _ _ hst ?_
  refine wpAny_newObj_type (wpAny_newFunctionEnv hcell (by intro y hy; simp at hy) (fun h₁ hns₁ hsb₁ => ?_) hkind)
  dsimp only at hns₁ hsb₁ ⊢
  generalize hH2 : h'.push { cls := .type "list", dict := none, data := .seq ([] : List Value).toArray } = H2 at hns₁ hsb₁ ⊢
  have hCs : H2.objs.size = h'.objs.size + 1 := by rw [← hH2, Heap.size_push]
  generalize hCC : H2.objs.size = C at *
  generalize hDD : h'.objs.size = D at *
  have hDC : D ≠ C := by rw [hCs]; exact Nat.ne_of_lt (Nat.lt_succ_self _)
  have hD2 : h'.get? D = none := by rw [← hDD]; exact get?_size _
  have hC2 : h'.get? C = none := by
    cases e : h'.get? C with
    | none => rfl
    | some o => exact absurd (Heap.lt_size e) (by rw [hDD, hCs]; exact Nat.not_lt.mpr (Nat.le_succ _))
  have hD1 : s₁.heap.get? D = none := by
    cases e : s₁.heap.get? D with
    | none => rfl
    | some o => rw [hk' _ _ e] at hD2; cases hD2
  have hC1 : s₁.heap.get? C = none := by
    cases e : s₁.heap.get? C with
    | none => rfl
    | some o => rw [hk' _ _ e] at hC2; cases hC2
  have old : ∀ b o, h'.get? b = some o → h₁.get? b = some o := fun b o e => hsb₁.extBut b o (by rintro rfl; rw [hC2] at e; cases e) (Heap.get?_push_of_some _ (hH2 ▸ Heap.get?_push_of_some _ e))
  have hacc : h₁.PlainList D #[] := ⟨_, hsb₁.extBut _ _ hDC (Heap.get?_push_of_some _ (by rw [← hH2, ← hDD]; exact Heap.get?_push_size _ rfl))⟩
  have hst₁ : St 0 h₁ := W.frame _ _ _ hst fun b _ o e => old b o e
  have hDf : D ∉ fp := fun hm => Nat.lt_irrefl _ (hfp _ hm)
  have hCf : C ∉ fp := fun hm => by have := hfp _ hm; rw [hCs] at this; exact absurd this (Nat.not_lt.mpr (Nat.le_succ _))
  have hCw : C ∉ wr := fun hm => hCf (W.sub _ hm)
  have hDw : D ∉ wr := fun hm => hDf (W.sub _ hm)
  have okIn : ∀ (h : Heap) (m : Str → Option Value) (us : List Value) (ys : List PV), (∀ b o, s₁.heap.get? b = some o → h.get? b = some o) → (h.Ns C m ∧ m "is_simple" = none) → h.PlainList D us.toArray → Reps (Γ.O ++ [D]) h us ys → (compCx Γ scope cl ρc C D ys).Ok h := fun h m us ys kk hn hl hr =>
    compCx_ok ok₁ (ok₁.keeps kk) hkind hcap hcs hD1 hC1 (fun b o _ _ e => kk b o e) (fun b o _ e => kk b o e) hn hl hr (fun y d _ v hv => hv.keeps kk)
  have hstx : ∀ ys, storable (compCx Γ scope cl ρc C D ys).env (compCx Γ scope cl ρc C D ys).W x = true := fun ys => by
    unfold storable
    rw [show (compCx Γ scope cl ρc C D ys).env.kindOf x = some .local from lookup_relabel_local hx]; exact hxs
  have hsty : ∀ ys, storable (compCx Γ scope cl ρc C D ys).env (compCx Γ scope cl ρc C D ys).W y = true := fun ys => by
    unfold storable
    rw [show (compCx Γ scope cl ρc C D ys).env.kindOf y = some .local from lookup_relabel_local hy]; exact hys
  have nst : ∀ ys b, b ≠ C → ¬ Stor (compCx Γ scope cl ρc C D ys).env (compCx Γ scope cl ρc C D ys).W b := fun ys b hb hs => by
    rcases hs with hs | ⟨y, hy, _⟩
    · exact hb hs
    · exact absurd hy List.not_mem_nil
  have loop : codeAny (model prog w) A (.compLoop (.ListComp elt [⟨.Tuple [.Name x px, .Name y py] k0 tp, .Call (.Name "zip" zp) [e1, e2] [] zpos, [], 0⟩] scope pos) 0 (.ref (n + 4)) (.ref D) (compEnvC scope cl C Γ.env)) (compPost (model prog w) A E use Q (.ref D) C) { s₁ with heap := h₁, toks := s₁.toks + ([] : List (Str × Value)).length } := by
    refine LCp.codeAny_compLoop_pair
      (fun n' s' => ∃ i h' tk m us, n' = ds1.length + 1 - i ∧ i ≤ ds1.length ∧ s' = { s₁ with heap := h', toks := tk } ∧ St i h' ∧ (h'.Ns C m ∧ m "is_simple" = none) ∧ h'.PlainList D us.toArray ∧ (∀ O h, Reps O h us ((List.zipWith f ds1 ds2).take i)) ∧
        (∀ b o, s₁.heap.get? b = some o → h'.get? b = some o)) ?_ (ds1.length + 1)
      ⟨0, h₁, s₁.toks + ([] : List (Str × Value)).length, _, [], rfl, Nat.zero_le _, rfl, hst₁, ⟨hns₁, rfl⟩, hacc, fun O h => by simpa using Reps.nil, fun b o e => old b o (hk' b o e)⟩
    rintro n' s' ⟨i, h₂, tk, m, us, rfl, hi, rfl, hst', ⟨hn', hsm⟩, hlD, hr', kk⟩
    have hlen' : us.length = i := by
      have := (hr' [] h₂).len
      rw [List.length_take, List.length_zipWith] at this; omega
    by_cases hlt : i < ds1.length
    · refine W.item i _ _ _ hlt hst' fun T vals h₃ tk₃ hPt hT hIT hMid hk₃ => ?_
      obtain ⟨xv, yv, hxv, hyv, rfl⟩ := hPt
      have hxv : us1[i]? = some xv := by simpa using hxv
      have hyv : us2[i]? = some yv := by simpa using hyv
      obtain ⟨d, hd⟩ : ∃ d, ds1[i]? = some d := ⟨ds1[i], by simp [hlt]⟩
      obtain ⟨d', hd'⟩ : ∃ d', ds2[i]? = some d' := ⟨ds2[i]'(by omega), by simp [show i < ds2.length by omega]⟩
      have kk₃ : ∀ b o, s₁.heap.get? b = some o → h₃.get? b = some o := fun b o e => hk₃ b o (fun hm => by rw [hwn b hm] at e; cases e) (kk b o e)
      refine W.go _ _ _ i T { s₁ with heap := h₃, toks := tk₃ } _ _ hMid fun h₄ hst₄ hk₄ => ?_
      have kk₄ : ∀ b o, s₁.heap.get? b = some o → h₄.get? b = some o := fun b o e => hk₄ b o (fun hm => by rw [hwn b hm] at e; cases e) (kk₃ b o e)
      have hn₄ : h₄.Ns C m := (hn'.at' fun o e => hk₃ _ o hCw e).at' fun o e => hk₄ _ o hCw e
      have hl₄ : h₄.PlainList D us.toArray := (hlD.at fun o e => hk₃ _ o hDw e).at fun o e => hk₄ _ o hDw e
      have ok₄ := okIn h₄ m us _ kk₄ ⟨hn₄, hsm⟩ hl₄ (hr' _ _)
      have hTw : T ∉ wr := W.apart _ _ _ hMid
      have hIT₄ : h₄.IsTuple T #[xv, yv] := by
        obtain ⟨o, e, r⟩ := hIT
        exact ⟨o, hk₄ _ o hTw e, r⟩
      have hTO' : T ∉ Γ.O ++ [D] := fun hm => by
        have hlt2 : @LT.lt Nat _ T h₂.objs.size := by
          rcases List.mem_append.mp hm with hm | hm
          · obtain ⟨⟨a, es⟩, hm', rfl⟩ := List.mem_map.mp hm
            obtain ⟨vs, ⟨n2, e⟩, _⟩ := ok₁.mem a es hm'
            exact Heap.lt_size (kk _ _ e)
          · rw [List.mem_singleton.mp hm]
            obtain ⟨n2, e⟩ := hlD
            exact Heap.lt_size e
        exact absurd hlt2 (Nat.not_lt.mpr hT)
      have r1 : Rep (Γ.O ++ [D]) h₄ xv d := (hr1.at' i xv d hxv hd).fresh hD1 fun b o _ _ e => kk₄ b o e
      have r2 : Rep (Γ.O ++ [D]) h₄ yv d' := (hr2.at' i yv d' hyv hd').fresh hD1 fun b o _ _ e => kk₄ b o e
      refine wp_unpack (Γ := compCx Γ scope cl ρc C D ((List.zipWith f ds1 ds2).take i)) (s := { s₁ with heap := h₄, toks := tk₃ }) (ds := [d, d']) (xs := [x, y]) hA (.cons (.cons .nil)) ok₄ (by
        rw [compCx_O]; exact Rep.mkTup hTO' hIT₄ (Reps.cons r1 (Reps.cons r2 Reps.nil))) rfl (by rw [List.all_cons, hstx, List.all_cons, hsty]; rfl) fun s₅ ok₅ kps₅ => ?_
      refine helt C D _ i d d' hd hd' s₅ _ _ ok₅ fun v s₆ k₆ r₆ => ?_
      have up₅ : ∀ b o, b ≠ C → h₄.get? b = some o → s₆.heap.get? b = some o := fun b o hb e => k₆.get _ _ (kps₅.get b o (nst _ b hb) e)
      have hst₆ : St (i + 1) s₆.heap := W.frame _ _ _ hst₄ fun b hb o e => up₅ b o (fun q => hCf (q ▸ hb)) e
      obtain ⟨m₆, hn₆, hsm₆⟩ := (ok₅.step k₆).fr.ns
      have hn₆ : s₆.heap.Ns C m₆ := hn₆
      have hl₆ : s₆.heap.PlainList D us.toArray := hl₄.at fun o e => up₅ D o hDC e
      refine wpAny_list_append_plain hl₆ (fun h₇ hl₇ hs₇ => ?_) (by simp [sizeLine]; omega)
      obtain ⟨h₅', t₅', e₅⟩ := kps₅.as
      obtain ⟨⟨h₆', t₆', e₆⟩, _⟩ := id k₆
      refine ⟨ds1.length + 1 - (i + 1), by omega, i + 1, h₇, s₆.toks, m₆, us ++ [v], rfl, hlt, by rw [e₆, e₅], ?_, ⟨hn₆.sameBut hs₇ (Ne.symm hDC), hsm₆⟩, by simpa using hl₇, fun O h => ?_, fun b o e => ?_⟩
      · exact W.frame _ _ _ hst₆ fun b hb o e => (hs₇.2 b fun q => hDf (q ▸ hb)).trans e
      · have e1 : (List.zipWith f ds1 ds2).take (i + 1) = (List.zipWith f ds1 ds2).take i ++ [f d d'] := by
          rw [List.take_add_one, List.getElem?_zipWith, hd, hd']; rfl
        rw [e1]
        exact (hr' O h).snoc (r₆.of_flat (hff d d'))
      · exact (hs₇.2 b (by rintro rfl; rw [hD1] at e; cases e)).trans (up₅ b o (by rintro rfl; rw [hC1] at e; cases e) (kk₄ b o e))
    · have hin : i = ds1.length := by omega
      subst hin
      refine W.done _ _ _ hst' fun h₃ tk₃ hk₃ => ?_
      have hr₃ : Reps (Γ.O ++ [D]) h₃ us (List.zipWith f ds1 ds2) := by
        have := hr' (Γ.O ++ [D]) h₃
        rw [List.take_of_length_le (by rw [List.length_zipWith]; omega)] at this; exact this
      have hDs : s.heap.get? D = none := by
        cases e : s.heap.get? D with
        | none => rfl
        | some o => rw [k₁.get _ _ e] at hD1; cases hD1
      have hCs' : s.heap.get? C = none := by
        cases e : s.heap.get? C with
        | none => rfl
        | some o => rw [k₁.get _ _ e] at hC1; cases hC1
      have hlast := hfin D C h₃ tk₃ m us hDs hCs' hDC (hn'.at' fun o e => hk₃ _ o hCw e) hsm (hlD.at fun o e => hk₃ _ o hDw e) hr₃ fun b o e => hk₃ b o (fun hm => by have := k₁.get _ _ e; rw [hwn b hm] at this; cases this) (kk b o (k₁.get _ _ e))
      obtain ⟨⟨h₂', t₂', e₂⟩, _⟩ := id k₁
      have : ({ s₁ with heap := h₃, toks := tk₃ } : Shared) = { s with heap := h₃, toks := tk₃ } := by rw [e₂]
      rw [this]; exact hlast
  exact codeAny_compStart_list loop (W.self 0 _ _ _ hst₁ loop)⟩
end Mine

end
section
open PySem PySem.W PyProof.Rows PySem.Calls
set_option autoImplicit false
set_option linter.all false
namespace Mine
variable {prog : Program} {w : World} {A : Around} {Γ : Cx}

noncomputable abbrev cellObj : Obj := { cls := .type "cell", data := .cell none }
noncomputable abbrev envCl (scope : Scope) (cl : List (Str × Addr)) (C : Addr) (env : Env) : Env :=
  { scope := scope, locals := C, globals := env.globals, cells := cl, qual := env.qual, func := none, code := env.code, frame := env.frame, builtins := env.builtins }
theorem wp_newEnvC {M : Model} {scope : Scope} {cl cl' : List (Str × Addr)} {outer : Env} {s : Shared} {Q : Env → Shared → Prop} {E : Value → Shared → Prop} (hcf : cellsFrom (s.heap.objs.size + 1) scope.names cl = cl') (hpc : ∀ h, pushCells h scope.names = h.push cellObj)
    (hQ : ∀ h', h'.Ns s.heap.objs.size (fun _ => none) → h'.IsCell (s.heap.objs.size + 1) none → (∀ b o, s.heap.get? b = some o → h'.get? b = some o) → Q (envCl scope cl' s.heap.objs.size outer) { s with heap := h' }) :
    wpAny M A (newFunctionEnv scope outer.globals cl [] outer.qual none .none (some outer)) Q E s := by
  simp only [newFunctionEnv, Option.isSome_some, if_true]
  refine wpAny_bind (wpAny_alloc ?_)
  refine wpAny_bind (wpAny_layCells _ (fun name kind cells => by cases hkc : kind == NameKind.cell <;> simp [hkc]) _ _ _ _ ?_)
  have e1 : ({ s with heap := s.heap.push { cls := .type "dict", data := .dict #[] } } : Shared).heap.objs.size = s.heap.objs.size + 1 := Heap.size_push ..
  rw [e1, hcf, hpc]
  have hns : ((s.heap.push { cls := .type "dict", data := .dict #[] }).push cellObj).Ns s.heap.objs.size (fun _ => none) := (Heap.Ns.new s.heap (.type "dict")).keeps fun b o e => Heap.get?_push_of_some _ e
  have hcl : ((s.heap.push { cls := .type "dict", data := .dict #[] }).push cellObj).IsCell (s.heap.objs.size + 1) none := ⟨cellObj, by
    have := Heap.get?_push_size (s.heap.push { cls := .type "dict", data := .dict #[] }) (rfl : cellObj.isFreed = false)
    rw [Heap.size_push] at this; exact this, rfl⟩
  refine wpAny_bind ?_
  rw [List.forIn_nil]
  exact wpAny_pure (wpAny_pure (hQ _ hns hcl fun b o e => Heap.get?_push_of_some _ (Heap.get?_push_of_some _ e)))

/-- the place inside a comprehension whose name is a cell -/
noncomputable def compCxC (Γ : Cx) (scope : Scope) (cl : List (Str × Addr)) (x : Str) (ρc : List (Str × PV)) (C c D : Addr) (ys : List PV) : Cx :=
  ⟨Γ.B, envCl (relabel scope Γ.env) ((x, c) :: cl) C Γ.env, [x], ρc, Γ.μ ++ [(D, ys)]⟩
theorem compCxC_O (Γ : Cx) (scope : Scope) (cl : List (Str × Addr)) (x : Str) (ρc : List (Str × PV)) (C c D : Addr) (ys : List PV) : (compCxC Γ scope cl x ρc C c D ys).O = Γ.O ++ [D] := by
  show (Γ.μ ++ [(D, ys)]).map _ = _; rw [List.map_append]; rfl

theorem compCxC_ok {scope : Scope} {cl : List (Str × Addr)} {x : Str} {ρc : List (Str × PV)} {C c D : Addr} {ys : List PV} {us : List Value} {h₂ h : Heap} {m : Str → Option Value} {cv : Option Value} (ok : Γ.Ok h₂) (okh : Γ.Ok h) (hkind : scope.kind = .function) (hcap : Caps Γ scope cl ρc) (hxρ : ∀ p ∈ ρc, (p.1 == x) = false) (hcl : ClSub Γ.env cl)
    (hD : h₂.get? D = none) (hC : h₂.get? C = none) (hc : h₂.get? c = none) (hk : ∀ b o, b ∉ Γ.O → isSeqObj o → h₂.get? b = some o → h.get? b = some o) (hkm : ∀ b o, b ∈ Γ.O → h₂.get? b = some o → h.get? b = some o) (hn : h.Ns C m ∧ m "is_simple" = none) (hcc : h.IsCell c cv) (hl : h.PlainList D us.toArray) (hr : Reps (Γ.O ++ [D]) h us ys)
    (hvars : ∀ x d, Γ.ρ.lookup x = some d → ∀ v, Var Γ.env h₂ x v → Var Γ.env h x v) : (compCxC Γ scope cl x ρc C c D ys).Ok h := by
  have hO := compCxC_O Γ scope cl x ρc C c D ys
  have hDn : D ∉ Γ.O := fun q => by
    obtain ⟨⟨b, es⟩, hm, rfl⟩ := List.mem_map.mp q
    obtain ⟨us, ⟨n, e⟩, _⟩ := ok.mem b es hm
    rw [hD] at e; cases e
  have hold : ∀ y c', cl.lookup y = some c' → c' ≠ c := fun y c' e q => by
    obtain ⟨v, o, e', _⟩ := ok.fr.cl y c' (hcl _ (PySem.mem_of_lookup e))
    rw [q, hc] at e'; cases e'
  have hlk : ∀ y c', ((x, c) :: cl).lookup y = some c' → (y = x ∧ c' = c) ∨ (cl.lookup y = some c' ∧ c' ≠ c) := fun y c' e => by
    rw [List.lookup_cons] at e
    cases hyx : y == x with
    | true => rw [hyx] at e; cases e; exact .inl ⟨eq_of_beq hyx, rfl⟩
    | false => rw [hyx] at e; exact .inr ⟨e, hold y c' e⟩
  refine ⟨okh.base, ⟨hkind, ok.fr.gl, ok.fr.bl, ⟨m, hn⟩, fun y c' e => ?_, fun y z c' e e' => ?_⟩, fun y d e => ?_, fun b es e => ?_, ?_, fun b o hb e => ?_⟩
  · rcases hlk y c' e with ⟨_, rfl⟩ | ⟨e, _⟩
    · exact ⟨_, hcc⟩
    · exact okh.fr.cl y c' (hcl _ (PySem.mem_of_lookup e))
  · rcases hlk y c' e with ⟨rfl, hq⟩ | ⟨e, hq⟩ <;> rcases hlk z c' e' with ⟨rfl, hq'⟩ | ⟨e', hq'⟩
    · rfl
    · exact absurd hq hq'
    · exact absurd hq' hq
    · exact ok.fr.inj y z c' (hcl _ (PySem.mem_of_lookup e)) (hcl _ (PySem.mem_of_lookup e'))
  · have e : ρc.lookup y = some d := e
    obtain ⟨h1, h2, h3, h4⟩ := hcap _ (PySem.mem_of_lookup e)
    have hyx : (y == x) = false := hxρ _ (PySem.mem_of_lookup e)
    obtain ⟨v, hv, hr'⟩ := ok.vars y d h1
    refine ⟨v, ?_, by rw [hO]; exact hr'.fresh hD hk⟩
    rcases hvars y d h1 v hv with ⟨q, _⟩ | ⟨_, c', hc', hcell⟩
    · rcases h2 with h2 | h2 <;> · simp only at h2; rw [h2] at q; cases q
    · refine .inr ⟨h3, c', ?_, hcell⟩
      show ((x, c) :: cl).lookup y = some c'
      rw [List.lookup_cons, hyx]
      show cl.lookup y = some c'
      rw [h4]; exact hc'
  · rw [hO]
    rcases List.mem_append.mp e with e | e
    · obtain ⟨vs, ⟨n, e1⟩, hr'⟩ := ok.mem b es e
      exact ⟨vs, ⟨n, hkm b _ (List.mem_map.mpr ⟨_, e, rfl⟩) e1⟩, hr'.fresh hD hk⟩
    · have := List.mem_singleton.mp e
      cases this
      exact ⟨us, hl, hr⟩
  · rw [hO]
    exact List.nodup_append.mpr ⟨ok.nd, by simp, fun x hx y hy => by
      have := List.mem_singleton.mp hy; subst this
      rintro rfl; exact hDn hx⟩
  · rw [hO] at hb
    rcases hb with (hb | ⟨y, hy, hyl⟩) | hb
    · have hb : b = C := hb
      rw [ok.base _ _ (hb ▸ e)] at hC; cases hC
    · have := List.mem_singleton.mp hy
      rcases hlk y b hyl with ⟨_, rfl⟩ | ⟨_, hq⟩
      · rw [ok.base _ _ e] at hc; cases hc
      · rcases hlk x c (by rw [List.lookup_cons]; simp) with ⟨_, q⟩ | ⟨_, q⟩
        · subst this
          have hyl : ((y, c) :: cl).lookup y = some b := hyl
          rw [List.lookup_cons, beq_self_eq_true] at hyl
          cases hyl; exact absurd rfl hq
        · exact absurd rfl q
    · rcases List.mem_append.mp hb with hb | hb
      · exact ok.out b o (.inr hb) e
      · have := List.mem_singleton.mp hb; subst this
        rw [ok.base _ _ e] at hD; cases hD
theorem cell_core {elt iter : Expr} {x : Str} {px : Pos} {ifs : List Expr} {scope : Scope} {pos pos' : Pos} {cl : List (Str × Addr)} {ρc : List (Str × PV)} {ds : List PV} {p : PV → Bool} {f : PV → PV} {use : Option (Value → Sem Unit)} {Q : Value → Shared → Prop} {E : Value → Shared → Prop} {s : Shared} (ok : Γ.Ok s.heap)
    (hclos : closureFor scope Γ.env = pure cl) (hcf : ∀ n, cellsFrom n scope.names cl = (x, n) :: cl) (hpc : ∀ h, pushCells h scope.names = h.push cellObj) (hkind : scope.kind = .function) (hnames : ∀ y ∈ scope.names, y.2 = .local → scope.names.lookup y.1 = some .local) (hx : (relabel scope Γ.env).names.lookup x = some .cell)
    (hs : ∀ v, foldedSetIterable iter Γ.env v = pure v) (hcap : Caps Γ scope cl ρc) (hxρ : ∀ p ∈ ρc, (p.1 == x) = false) (hcs : ClSub Γ.env cl)
    (hit : Itr prog w A Γ iter ds) (hz : ds.length ≤ 2 ^ 20)
    (htest : ∀ C c D ys (k : Nat) d, ds[k]? = some d → Trs prog w A ((compCxC Γ scope cl x ρc C c D ys).set x d) ifs (p d))
    (helt : ∀ C c D ys (k : Nat) d, ds[k]? = some d → p d = true → Ev prog w A ((compCxC Γ scope cl x ρc C c D ys).set x d) elt (f d))
    (hfin : ∀ D C h' tk m us, s.heap.get? D = none → s.heap.get? C = none → D ≠ C → h'.Ns C m → m "is_simple" = none → h'.PlainList D us.toArray → Reps (Γ.O ++ [D]) h' us ((ds.filter p).map f) → (∀ b o, s.heap.get? b = some o → h'.get? b = some o) →
      compPost (model prog w) A E use Q (.ref D) C (.ok .next) { s with heap := h', toks := tk }) :
    wpAny (model prog w) A (comprehension (.ListComp elt [⟨.Name x px, iter, ifs, 0⟩] scope pos) scope Γ.env pos' (newList []) false (eval iter Γ.env) use) Q E s := by
  refine wpAny_comprehension_free rfl hs hclos hkind hnames (hit s _ _ ok fun it s₂ k₂ hsrc => ?_)
  obtain ⟨I, fp, wr, P, St, rfl, W, hst, hfp, hwr, hns, hitem⟩ := hsrc
  have ok₂ := ok.step k₂
  refine wpAny_newObj_type (wp_newEnvC (hcf _) hpc (fun h₁ hns₁ hcel₁ hup₁ => ?_))
  dsimp only at hns₁ hcel₁ hup₁ ⊢
  generalize hH2 : s₂.heap.push { cls := .type "list", dict := none, data := .seq ([] : List Value).toArray } = H2 at hns₁ hcel₁ hup₁ ⊢
  have hCs : H2.objs.size = s₂.heap.objs.size + 1 := by rw [← hH2, Heap.size_push]
  generalize hCC : H2.objs.size = C at *
  generalize hDD : s₂.heap.objs.size = D at *
  generalize hcc0 : C + 1 = c at *
  have hCc : c ≠ C := by rw [← hcc0]; exact Nat.succ_ne_self _
  have hDc : D ≠ c := by rw [← hcc0, hCs]; exact Nat.ne_of_lt (Nat.lt_succ_of_lt (Nat.lt_succ_self _))
  have hc2 : s₂.heap.get? c = none := by
    cases e : s₂.heap.get? c with
    | none => rfl
    | some o => exact absurd (Heap.lt_size e) (by rw [hDD, ← hcc0, hCs]; exact Nat.not_lt.mpr (Nat.le_succ_of_le (Nat.le_succ _)))
  have hDC : D ≠ C := by rw [hCs]; exact Nat.ne_of_lt (Nat.lt_succ_self _)
  have hD2 : s₂.heap.get? D = none := by rw [← hDD]; exact get?_size _
  have hC2 : s₂.heap.get? C = none := by
    cases e : s₂.heap.get? C with
    | none => rfl
    | some o => exact absurd (Heap.lt_size e) (by rw [hDD, hCs]; exact Nat.not_lt.mpr (Nat.le_succ _))
  have hDs : s.heap.get? D = none := by
    cases e : s.heap.get? D with
    | none => rfl
    | some o => rw [k₂.get _ _ e] at hD2; cases hD2
  have hCs' : s.heap.get? C = none := by
    cases e : s.heap.get? C with
    | none => rfl
    | some o => rw [k₂.get _ _ e] at hC2; cases hC2
  have old : ∀ b o, s₂.heap.get? b = some o → h₁.get? b = some o := fun b o e => hup₁ b o (hH2 ▸ Heap.get?_push_of_some _ e)
  have hacc : h₁.PlainList D #[] := ⟨_, hup₁ _ _ (by rw [← hH2, ← hDD]; exact Heap.get?_push_size _ rfl)⟩
  have hst₁ : St 0 h₁ := W.frame _ _ _ hst fun b _ o e => old b o e
  have hDf : D ∉ fp := fun hm => Nat.lt_irrefl _ (hfp _ hm).1
  have hCf : C ∉ fp := fun hm => by have := (hfp _ hm).1; rw [hCs] at this; exact absurd this (Nat.not_lt.mpr (Nat.le_succ _))
  have hcf' : c ∉ fp := fun hm => by have := (hfp _ hm).1; rw [← hcc0, hCs] at this; exact absurd this (Nat.not_lt.mpr (Nat.le_succ_of_le (Nat.le_succ _)))
  have hwr2 : ∀ b, b ∈ wr → ∀ o, ¬ (s.heap.get? b = some o) := fun b hb o e => by rw [hwr b hb] at e; cases e
  have hnotwr : ∀ b, ((∃ o', Γ.B.get? b = some o') ∨ b = Γ.env.locals ∨ (∃ x, Γ.env.cells.lookup x = some b)) → b ∉ wr := fun b hb hm => by
    obtain ⟨o, e⟩ := ok.stands hb
    exact hwr2 b hm o e
  have hseqwr : ∀ b o, isSeqObj o → s₂.heap.get? b = some o → b ∉ wr := fun b o hq e hm => hns 0 s₂.heap b o hst hm e hq
  -- what is known of a heap inside the loop
  have okIn : ∀ (h : Heap) (m : Str → Option Value) (us : List Value) (ys : List PV), (∀ b o, b ∉ wr → s₂.heap.get? b = some o → h.get? b = some o) → (h.Ns C m ∧ m "is_simple" = none) → (∃ cv, h.IsCell c cv) → h.PlainList D us.toArray → Reps (Γ.O ++ [D]) h us ys → (compCxC Γ scope cl x ρc C c D ys).Ok h := fun h m us ys kk hn ⟨cv, hcv⟩ hl hr => by
    have okh : Γ.Ok h := ok₂.change fun b o hb e => kk b o (by
      rcases hb with hb | hb
      · exact hseqwr b o hb e
      · exact hnotwr b hb) e
    refine compCxC_ok ok₂ okh hkind hcap hxρ hcs hD2 hC2 hc2 (fun b o _ hq e => kk b o (hseqwr b o hq e) e) (fun b o hb e => ?_) hn hcv hl hr (fun y d _ v hv => ?_)
    · obtain ⟨⟨b', es⟩, hm, rfl⟩ := List.mem_map.mp hb
      obtain ⟨vs, ⟨n, e1⟩, _⟩ := ok₂.mem b' es hm
      rw [e1] at e; cases e
      exact kk _ _ (hseqwr _ _ (.inl ⟨_, _, rfl⟩) e1) e1
    · rcases hv with ⟨q1, mm, ⟨o, es, ep, e, r⟩, q3⟩ | ⟨q1, c', q2, o, e, q3⟩
      · exact .inl ⟨q1, mm, ⟨o, es, ep, kk _ _ (hnotwr _ (.inr (.inl rfl))) e, r⟩, q3⟩
      · exact .inr ⟨q1, c', q2, o, kk _ _ (hnotwr _ (.inr (.inr ⟨y, q2⟩))) e, q3⟩
  have loop : codeAny (model prog w) A (.compLoop (.ListComp elt [⟨.Name x px, iter, ifs, 0⟩] scope pos) 0 (.ref I) (.ref D) (envCl (relabel scope Γ.env) ((x, c) :: cl) C Γ.env)) (compPost (model prog w) A E use Q (.ref D) C) { s₂ with heap := h₁, toks := s₂.toks } := by
    refine codeAny_compLoop_tests
      (fun n s' => ∃ i h' tk m us, n = ds.length + 1 - i ∧ i ≤ ds.length ∧ s' = { s₂ with heap := h', toks := tk } ∧ St i h' ∧ (h'.Ns C m ∧ m "is_simple" = none) ∧ (∃ cv, h'.IsCell c cv) ∧ h'.PlainList D us.toArray ∧ Reps (Γ.O ++ [D]) h' us (((ds.take i).filter p).map f) ∧ us.length ≤ i ∧
        (∀ b o, b ∉ wr → s₂.heap.get? b = some o → h'.get? b = some o)) ?_ (ds.length + 1)
      ⟨0, h₁, s₂.toks, _, [], rfl, Nat.zero_le _, rfl, hst₁, ⟨hns₁, rfl⟩, ⟨_, hcel₁⟩, hacc, by simpa using Reps.nil, Nat.le_refl _, fun b o _ e => old b o e⟩
    rintro n s' ⟨i, h', tk, m, us, rfl, hi, rfl, hst', ⟨hn', hsm⟩, ⟨cv', hcv'⟩, hl', hr', hul, hk'⟩
    have hCw : C ∉ wr := fun hm => hCf (W.sub _ hm)
    have hDw : D ∉ wr := fun hm => hDf (W.sub _ hm)
    have hcw : c ∉ wr := fun hm => hcf' (W.sub _ hm)
    by_cases hlt : i < ds.length
    · refine W.item i _ _ _ hlt hst' fun v h₃ tk₃ hP hst₃ hk₃ => ?_
      obtain ⟨d, hd⟩ : ∃ d, ds[i]? = some d := ⟨ds[i], by simp [hlt]⟩
      have htake : ds.take (i + 1) = ds.take i ++ [d] := by rw [List.take_add_one, hd]; rfl
      have hn₃ : h₃.Ns C m := hn'.at' fun o e => hk₃ _ o hCw e
      have hl₃ : h₃.PlainList D us.toArray := hl'.at fun o e => hk₃ _ o hDw e
      have hk₃' : ∀ b o, b ∉ wr → s₂.heap.get? b = some o → h₃.get? b = some o := fun b o hb e => hk₃ b o hb (hk' b o hb e)
      have hr₃ : Reps (Γ.O ++ [D]) h₃ us (((ds.take i).filter p).map f) := hr'.mono (fun _ x => x) fun b o hb hq e => hk₃ b o (fun hm => hns i h' b o hst' hm e hq) e
      have hcv₃ : h₃.IsCell c cv' := by obtain ⟨o, e, q⟩ := hcv'; exact ⟨o, hk₃ _ o hcw e, q⟩
      have ok₃ := okIn h₃ m us _ hk₃' ⟨hn₃, hsm⟩ ⟨_, hcv₃⟩ hl₃ hr₃
      have hrep : Rep (Γ.O ++ [D]) h₃ v d := by
        have r0 : Rep Γ.O s₂.heap v d := hitem i v d s₂.heap hP hd fun _ _ _ _ e => e
        exact r0.fresh hD2 fun b o _ hq e => hk₃' b o (hseqwr b o hq e) e
      refine wpAny_assign_Name ?_
      refine wp_store (Γ := compCxC Γ scope cl x ρc C c D (((ds.take i).filter p).map f)) (s := { s₂ with heap := h₃, toks := tk₃ }) ok₃ (by rw [compCxC_O]; exact hrep) (by
        unfold storable
        have : (compCxC Γ scope cl x ρc C c D (((ds.take i).filter p).map f)).env.kindOf x = some .cell := hx
        rw [this]
        show ((List.lookup x ((x, c) :: cl)).isSome && [x].contains x) = true
        rw [List.lookup_cons, beq_self_eq_true]; simp) fun s₄ ok₄ kp₄ => ?_
      have nst : ∀ b, b ≠ C → b ≠ c → ¬ Stor (compCxC Γ scope cl x ρc C c D (((ds.take i).filter p).map f)).env (compCxC Γ scope cl x ρc C c D (((ds.take i).filter p).map f)).W b := fun b hb hb' hs => by
        rcases hs with hs | ⟨y, hy, hyl⟩
        · exact hb hs
        · have hyx := List.mem_singleton.mp hy
          subst hyx
          have hyl : ((y, c) :: cl).lookup y = some b := hyl
          rw [List.lookup_cons, beq_self_eq_true] at hyl
          cases hyl; exact hb' rfl
      refine htest C c D _ i d hd s₄ _ _ ok₄ fun s₅ k₅ => ?_
      have ok₅ := ok₄.step k₅
      have hst₅ : St (i + 1) s₅.heap := W.frame _ _ _ hst₃ fun b hb o e => k₅.get _ _ (kp₄.get b o (nst b (fun q => hCf (q ▸ hb)) (fun q => hcf' (q ▸ hb))) e)
      have up₅ : ∀ b o, b ≠ C → b ≠ c → h₃.get? b = some o → s₅.heap.get? b = some o := fun b o hb hb' e => k₅.get _ _ (kp₄.get b o (nst b hb hb') e)
      have hk₅ : ∀ b o, b ∉ wr → s₂.heap.get? b = some o → s₅.heap.get? b = some o := fun b o hb e => up₅ b o (by rintro rfl; rw [hC2] at e; cases e) (by rintro rfl; rw [hc2] at e; cases e) (hk₃' b o hb e)
      obtain ⟨m₅, hn₅, hsm₅⟩ := ok₅.fr.ns
      have hn₅ : s₅.heap.Ns C m₅ := hn₅
      obtain ⟨cv₅, hcv₅⟩ := ok₅.fr.cl x c (by show ((x, c) :: cl).lookup x = some c; rw [List.lookup_cons, beq_self_eq_true])
      obtain ⟨us₅, hl₅, hr₅⟩ := ok₅.mem D _ (List.mem_append_right _ (List.mem_singleton.mpr rfl))
      have hus : us₅ = us := by
        obtain ⟨n1, e1⟩ := hl₅
        obtain ⟨n2, e2⟩ := hl₃
        have := up₅ D _ hDC hDc e2
        rw [e1] at this; cases this; rfl
      subst hus
      have hr₅ : Reps (Γ.O ++ [D]) s₅.heap us₅ (((ds.take i).filter p).map f) := by rw [← compCxC_O Γ scope cl x ρc C c D (((ds.take i).filter p).map f)]; exact hr₅
      obtain ⟨h₄', t₄', e₄⟩ := kp₄.as
      obtain ⟨⟨h₅', t₅', e₅⟩, _⟩ := id k₅
      have as₅ : s₅ = { s₂ with heap := s₅.heap, toks := s₅.toks } := by rw [e₅, e₄]
      cases hp : p d with
      | false =>
        simp only [Bool.false_eq_true, if_false]
        refine ⟨ds.length + 1 - (i + 1), by omega, i + 1, s₅.heap, s₅.toks, m₅, us₅, rfl, hlt, as₅, hst₅, ⟨hn₅, hsm₅⟩, ⟨_, hcv₅⟩, hl₅, ?_, by omega, hk₅⟩
        rw [htake, List.filter_append]; simpa [hp] using hr₅
      | true =>
        simp only [if_true]
        refine helt C c D _ i d hd hp s₅ _ _ ok₅ fun y s₆ k₆ r₆ => ?_
        have r₆ : Rep (Γ.O ++ [D]) s₆.heap y (f d) := by rw [← compCxC_O Γ scope cl x ρc C c D (((ds.take i).filter p).map f)]; exact r₆
        refine wpAny_list_append_plain (hl₅.at fun o e => k₆.get _ o e) (fun h₇ hl₇ hs₇ => ?_) (by simp [sizeLine]; omega)
        obtain ⟨⟨h₆', t₆', e₆⟩, _⟩ := id k₆
        have kR : ∀ b o, b ∉ Γ.O ++ [D] → isSeqObj o → s₆.heap.get? b = some o → h₇.get? b = some o := fun b o hb _ e => (hs₇.2 b fun q => hb (q ▸ List.mem_append_right _ (List.mem_singleton.mpr rfl))).trans e
        refine ⟨ds.length + 1 - (i + 1), by omega, i + 1, h₇, s₆.toks, m₅, us₅ ++ [y], rfl, hlt, by rw [e₆, as₅], ?_, ⟨(hn₅.keeps k₆.get).sameBut hs₇ (Ne.symm hDC), hsm₅⟩, (by obtain ⟨o, e, q⟩ := hcv₅; exact ⟨cv₅, o, (hs₇.2 _ (Ne.symm hDc)).trans (k₆.get _ _ e), q⟩), by simpa using hl₇, ?_, by simp; omega, ?_⟩
        · exact W.frame _ _ _ hst₅ fun b hb o e => (hs₇.2 b fun q => hDf (q ▸ hb)).trans (k₆.get _ _ e)
        · rw [htake, List.filter_append]
          have := ((hr₅.keeps k₆.get).snoc r₆).mono (fun _ x => x) kR
          simpa [hp] using this
        · exact fun b o hb e => (hs₇.2 b (by rintro rfl; rw [hD2] at e; cases e)).trans (k₆.get _ _ (hk₅ b o hb e))
    · have hin : i = ds.length := by omega
      subst hin
      refine W.done _ _ _ hst' fun h₃ tk₃ hk₃ => ?_
      have hr₃ : Reps (Γ.O ++ [D]) h₃ us ((ds.filter p).map f) := by
        have := hr'.mono (fun _ x => x) fun b o hb hq e => hk₃ b o (fun hm => hns _ h' b o hst' hm e hq) e
        rw [List.take_length] at this; exact this
      have hlast := hfin D C h₃ tk₃ m us hDs hCs' hDC (hn'.at' fun o e => hk₃ _ o hCw e) hsm (hl'.at fun o e => hk₃ _ o hDw e) hr₃ fun b o e => hk₃ b o (fun hm => hwr2 b hm o e) (hk' b o (fun hm => hwr2 b hm o e) (k₂.get _ _ e))
      obtain ⟨⟨h₂', t₂', e₂⟩, _⟩ := id k₂
      have : ({ s₂ with heap := h₃, toks := tk₃ } : Shared) = { s with heap := h₃, toks := tk₃ } := by rw [e₂]
      rw [this]; exact hlast
  exact codeAny_compStart_list loop (W.self 0 _ _ _ hst₁ loop)


theorem CompSem.cell {elt iter : Expr} {x : Str} {px : Pos} {ifs : List Expr} {scope : Scope} {pos : Pos} {cl : List (Str × Addr)} {ds : List PV} (ρc : List (Str × PV)) (p : PV → Bool) (f : PV → PV)
    (hclos : closureFor scope Γ.env = pure cl) (hcs : ClSub Γ.env cl) (hcap : Caps Γ scope cl ρc)
    (hit : Itr prog w A Γ iter ds) (hz : ds.length ≤ 2 ^ 20)
    (htest : ∀ C c D ys (k : Nat) d, ds[k]? = some d → Trs prog w A ((compCxC Γ scope cl x ρc C c D ys).set x d) ifs (p d))
    (helt : ∀ C c D ys (k : Nat) d, ds[k]? = some d → p d = true → Ev prog w A ((compCxC Γ scope cl x ρc C c D ys).set x d) elt (f d))
    (hxρ : ∀ p ∈ ρc, (p.1 == x) = false)
    (hcf : ∀ n, cellsFrom n scope.names cl = (x, n) :: cl := by intro _; rfl) (hpc : ∀ h, pushCells h scope.names = h.push cellObj := by intro _; rfl)
    (hkind : scope.kind = .function := by rfl) (hnames : ∀ y ∈ scope.names, y.2 = .local → scope.names.lookup y.1 = some .local := by decide) (hx : (relabel scope Γ.env).names.lookup x = some .cell := by rfl)
    (hs : ∀ v, foldedSetIterable iter Γ.env v = pure v := by intro _; rfl) :
    CompSem prog w A Γ (.ListComp elt [⟨.Name x px, iter, ifs, 0⟩] scope pos) scope (eval iter Γ.env) ((ds.filter p).map f) :=
  ⟨fun s use Q E pos' ok hfin => cell_core ok hclos hcf hpc hkind hnames hx hs hcap hxρ hcs hit hz htest helt hfin⟩
end Mine

end
section
open PySem PySem.W PyProof.Rows PySem.Calls
set_option autoImplicit false
set_option linter.all false
set_option maxRecDepth 100000
namespace Mine
variable {prog : Program} {w : World} {A : Around} {Γ : Cx}

noncomputable def te (s : Str) (i : Int) : Str × PyData := (s, .int i)
noncomputable def ttD : List (Str × PyData) := [te "!" 54, te "!=" 28, te "%" 24, te "%=" 40, te "&" 19, te "&=" 41, te "(" 7, te ")" 8, te "*" 16, te "**" 35, te "**=" 46, te "*=" 38, te "+" 14, te "+=" 36, te "," 12, te "-" 15, te "-=" 37, te "->" 51, te "." 23, te "..." 52, te "/" 17, te "//" 47, te "//=" 48, te "/=" 39, te ":" 11, te ":=" 53, te ";" 13, te "<" 20, te "<<" 33, te "<<=" 44, te "<=" 29, te "=" 22, te "==" 27, te ">" 21, te ">=" 30, te ">>" 34, te ">>=" 45, te "@" 49, te "@=" 50, te "[" 9, te "]" 10, te "^" 32, te "^=" 43, te "{" 25, te "|" 18, te "|=" 42, te "}" 26, te "~" 31]
theorem tt_tab {h : Heap} (t : TF w.params h) : StrTab prog w h 115 (ttD.map fun p => (PyData.str p.1, p.2)) :=
  KTD.strTab_of_look prog w (get := fun a => (Kf w.params).lookup a) (fun a o e => t.k a o e) (by kernel_rfl) (by decide +kernel) (by kernel_rfl)
end Mine

end
section
open PySem PySem.W PyProof.Rows PySem.Calls
open Builtin Builtin.Str
set_option autoImplicit false
set_option linter.all false
namespace Mine
variable {prog : Program} {w : World} {A : Around} {Γ : Cx} {J : Heap → Prop}

theorem sliced_from (x : Str) {k : Nat} (hk : k ≤ x.length) : (strSliceIndices (some (k : Int)) Option.none 1 x.length).filterMap (x.cps[·]?) = x.cps.toList.drop k := by
  have e : strSliceIndices (some (k : Int)) Option.none 1 x.length = strSliceIndices (some (k : Int)) (some (x.length : Int)) 1 x.length := by
    simp only [strSliceIndices]
    congr 1
    have h1 : ¬ ((x.length : Int) < 0) := by omega
    simp only [h1, if_false, show ((1 : Int) > 0) = True from by simp, if_true]
    omega
  rw [e, StrLaws.sliced_plain x hk (Nat.le_refl _)]
  apply List.take_of_length_le
  rw [List.length_drop]; exact Nat.le_refl _

/-- row[k:] -/
theorem Ev.strFrom {e lo : Expr} {p pos : Pos} {x y : Str} {k : Nat} (h1 : Ev prog w A Γ e (.str x)) (h2 : Ev prog w A Γ lo (.int (k : Int))) (hk : k ≤ x.length) (hy : (⟨(x.cps.toList.drop k).toArray⟩ : Str) = y) (hz : x.length ≤ sizeLine)
    (ht : ∀ o r, letTemporaryGo e o r = pure () := by intro _ _; rfl) : Ev prog w A Γ (.Subscript e (.Slice (some lo) Option.none Option.none p) pos) (.str y) := fun s Q E ok h =>
  wpAny_Subscript_str_slice (h1 s _ _ ok fun v s₁ k₁ r₁ => by
    obtain ⟨t, rfl⟩ := r₁.str_inv
    rw [evalPart_some]
    refine h2 s₁ _ _ (ok.step k₁) fun u s₂ k₂ r₂ => ?_
    obtain ⟨tu, rfl⟩ := r₂.int_inv
    rw [evalPart_none]
    refine wpAny_pure ⟨x, t, some ((k : Int), tu), Option.none, rfl, rfl, rfl, ?_⟩
    have ks : Ext s { s₂ with heap := s₂.heap.push { cls := .type "slice", data := .fields #[.int (k : Int) tu, .none, .none] } } := (k₁.trans k₂).trans ⟨⟨_, _, rfl⟩, fun b o e => Heap.get?_push_of_some _ e⟩
    have hp : (strSliceIndices (some (k : Int)) Option.none 1 x.length).filterMap (x.cps[·]?) = x.cps.toList.drop k := sliced_from x hk
    unfold sliceMade slicePicked
    dsimp only [Option.map_some, Option.map_none, Option.getD_none]
    split
    · rename_i hc
      have hq : k = 0 := by
        have h3 : (strSliceIndices (some (k : Int)) Option.none 1 x.length).length = x.length := by simpa using hc
        have h4 : strSliceIndices (some (k : Int)) Option.none 1 x.length = strSliceIndices (some (k : Int)) (some (x.length : Int)) 1 x.length := by
          simp only [strSliceIndices]
          congr 1
          have h1 : ¬ ((x.length : Int) < 0) := by omega
          simp only [h1, if_false, show ((1 : Int) > 0) = True from by simp, if_true]
          omega
        rw [h4, StrLaws.strSliceIndices_plain hk (Nat.le_refl _), List.length_map, List.length_range] at h3
        by_cases h0 : k = 0
        · exact h0
        · exfalso
          rw [h4, StrLaws.strSliceIndices_plain hk (Nat.le_refl _)] at hc
          have : x.length - k = x.length := h3
          have hx : x.length = 0 := by omega
          omega
      subst hq
      have : y = x := by rw [← hy]; simp
      subst this
      exact h _ _ ks (.str _ _)
    · show _ ∧ _
      rw [hp]
      refine ⟨?_, ?_⟩
      · show (x.cps.toList.drop k).toArray.size ≤ sizeLine
        rw [List.size_toArray, List.length_drop]
        have : x.cps.toList.length = x.length := by simp [Str.length]
        omega
      · rw [hy]; exact h _ _ (ks.trans (Ext.toks _)) (.str _ _)) ht

/-- TABLE.get(key), the key stands there with a number -/
theorem Ev.dget {f : Str} {np apos pos : Pos} {e : Expr} {x : Str} {i : Int} {a : Addr} {D : List (PyData × PyData)} {pl : Sem Bool} (hg : GlobV Γ.B f (.ref a)) (T : ∀ h, (∀ b o, Γ.B.get? b = some o → h.get? b = some o) → StrTab prog w h a D) (he : Ev prog w A Γ e (.str x)) (hl : PySem.Spec.lookup (.str x) D = some (.int i))
    (hk : Γ.env.kindOf f = some .globalImplicit := by rfl)
    (hc : eval (.Call (.Attribute (.Name f np) "get" apos) [e] [] pos) Γ.env = (do
      let ov ← eval (.Name f np) Γ.env
      standAt apos.atName
      let (f, first) ← holding [ov] (getMethod ov "get" pl)
      callWith pos f first (backTo pos (starEach [e] Γ.env)) []) := by rfl)
    (hst : starEach [e] Γ.env = (false, eval e Γ.env) :: starEach [] Γ.env := by rfl) (hd : (f == ("__debug__" : Str)) = false := by decide) :
    Ev prog w A Γ (.Call (.Attribute (.Name f np) "get" apos) [e] [] pos) (.int i) := fun s Q E ok h => by
  refine MethodCall_ (wp_glob ok hk hg ?_ hd) hc
  have T0 := T _ ok.base
  obtain ⟨_, kvs, hdo, _⟩ := T0
  refine getMethod_builtin hdo.typeIs PySem.F.plainAttrs_dict PySem.F.slot_dict_get PySem.F.type_dict_get hdo.mapOf.noDict ?_
  refine callWith_method1 (wpAny_items_cons (he s _ _ ok fun v s₁ k₁ r₁ => wpAny_items_nil ?_) hst) hst rfl
  obtain ⟨t, rfl⟩ := r₁.str_inv
  refine kt_get1_thereS (T _ (ok.step k₁).base) hl fun v hv => ?_
  obtain ⟨t', rfl⟩ : ∃ t', v = .int i t' := by cases hv s₁.heap; exact ⟨_, rfl⟩
  exact h _ _ (k₁.trans (Ext.toks _)) (.int _ _)
end Mine

end
section
open PySem PySem.W PyProof.Rows PySem.Calls
set_option autoImplicit false
set_option linter.all false
set_option maxRecDepth 100000
namespace Mine
variable {prog : Program} {w : World} {A : Around} {Γ : Cx} {J : Heap → Prop}

theorem Cx.Ok.putK {h h' : Heap} {i : Nat} {a : Addr} {ds ds' : List PV} {vs' : List Value} (ok : Γ.Ok h) (hi : Γ.μ[i]? = some (a, ds)) (hl : h'.PlainList a vs'.toArray) (hr : Reps Γ.O h vs' ds') (hs : ∀ b o, b ≠ a → h.get? b = some o → h'.get? b = some o) : (Γ.put i a ds').Ok h' := by
  have hO := put_O hi ds'
  have hm : (a, ds) ∈ Γ.μ := List.mem_of_getElem? hi
  have haO : a ∈ Γ.O := List.mem_map.mpr ⟨_, hm, rfl⟩
  obtain ⟨vs, ⟨n, ea⟩, _⟩ := ok.mem a ds hm
  have hne : ∀ b o, h.get? b = some o → ¬ (∃ its n, o.data = .seq its n) → b ≠ a := fun b o e hq q => by
    subst q; rw [ea] at e; cases e; exact hq ⟨_, _, rfl⟩
  have kR : ∀ b o, b ∉ Γ.O → isSeqObj o → h.get? b = some o → h'.get? b = some o := fun b o hb _ e => hs b o (fun q => hb (q ▸ haO)) e
  refine ⟨fun b o e => hs b o (fun q => by subst q; exact ok.out _ _ (.inr haO) e) (ok.base b o e), ?_, fun x d e => ?_, fun b es e => ?_, by rw [hO]; exact ok.nd, fun b o hb e => ok.out b o (by rw [hO] at hb; exact hb) e⟩
  · refine ⟨ok.fr.fn, ok.fr.gl, ok.fr.bl, ?_, fun x c e => ?_, ok.fr.inj⟩
    · obtain ⟨m, ⟨o, es, ep, e, hd, r⟩, hsim⟩ := ok.fr.ns
      exact ⟨m, ⟨o, es, ep, hs _ _ (hne _ o e (by rintro ⟨_, _, q⟩; rw [hd] at q; cases q)) e, hd, r⟩, hsim⟩
    · obtain ⟨v, o, e', hd⟩ := ok.fr.cl x c e
      exact ⟨v, o, hs _ _ (hne _ o e' (by rintro ⟨_, _, q⟩; rw [hd] at q; cases q)) e', hd⟩
  · obtain ⟨v, hv, hr'⟩ := ok.vars x d e
    refine ⟨v, ?_, by rw [hO]; exact hr'.mono (fun _ x => x) kR⟩
    rcases hv with ⟨h1, m, ⟨o, es, ep, e', hd, r⟩, h3⟩ | ⟨h1, c, h2, o, e', hd⟩
    · exact .inl ⟨h1, m, ⟨o, es, ep, hs _ _ (hne _ o e' (by rintro ⟨_, _, q⟩; rw [hd] at q; cases q)) e', hd, r⟩, h3⟩
    · exact .inr ⟨h1, c, h2, o, hs _ _ (hne _ o e' (by rintro ⟨_, _, q⟩; rw [hd] at q; cases q)) e', hd⟩
  · obtain ⟨j, hj, e2⟩ := List.mem_iff_getElem.mp e
    have e3 : (Γ.μ.set i (a, ds'))[j]? = some (b, es) := by show (Γ.put i a ds').μ[j]? = _; rw [List.getElem?_eq_getElem hj, e2]
    rw [List.getElem?_set] at e3
    rw [hO]
    by_cases hij : i = j
    · rw [if_pos hij] at e3
      split at e3
      · cases e3; exact ⟨vs', hl, hr.mono (fun _ x => x) kR⟩
      · cases e3
    · rw [if_neg hij] at e3
      have hba : b ≠ a := by
        rintro rfl
        have h1 : Γ.O[i]? = some b := by show (Γ.μ.map _)[i]? = _; rw [List.getElem?_map, hi]; rfl
        have h2 : Γ.O[j]? = some b := by show (Γ.μ.map _)[j]? = _; rw [List.getElem?_map, e3]; rfl
        obtain ⟨p1, q1⟩ := List.getElem?_eq_some_iff.mp h1
        obtain ⟨p2, q2⟩ := List.getElem?_eq_some_iff.mp h2
        have hp := List.pairwise_iff_getElem.mp ok.nd
        rcases Nat.lt_trichotomy i j with hh | hh | hh
        · exact hp i j p1 p2 hh (by rw [q1, q2])
        · exact hij hh
        · exact hp j i p2 p1 hh (by rw [q1, q2])
      obtain ⟨us, ⟨n', e4⟩, hr4⟩ := ok.mem b es (List.mem_of_getElem? e3)
      exact ⟨us, ⟨n', hs b _ hba e4⟩, hr4.mono (fun _ x => x) kR⟩

/-- insort_right(a, e), a list of the frame's own -/
theorem S.insort {x : Str} {p p1 pos epos : Pos} {e : Expr} {a : Addr} {xs : List Int} {y : Int} (i : Nat) (t : TF w.params Γ.B) (hA : AOk 2 A) (h1 : Evs prog w A Γ [.Name x p1, e] [.ref a, .int y]) (hs : Sorted xs) (hn : xs.length < 2 ^ 20) (hi : Γ.μ[i]? = some (a, intsPV xs) := by rfl)
    (hk : Γ.env.kindOf "insort_right" = some .globalImplicit := by rfl)
    (he : starEach [.Name x p1, e] Γ.env = (false, eval (.Name x p1) Γ.env) :: starEach [e] Γ.env := by rfl)
    (hsw : swapsWith (.Call (.Name "insort_right" p) [.Name x p1, e] [] pos) none epos.line Γ.env = pure false := by rfl) :
    S prog w A Γ (.Expr (.Call (.Name "insort_right" p) [.Name x p1, e] [] pos) epos) (Nx (Γ.put i a (intsPV (ins xs y)))) := fun s Q E ok h => by
  have hm : (a, intsPV xs) ∈ Γ.μ := List.mem_of_getElem? hi
  have haO : a ∈ Γ.O := List.mem_map.mpr ⟨_, hm, rfl⟩
  refine wpAny_Expr ?_ (interactive_fn ok.fr.fn) hsw
  rw [eval_CallName]
  refine wpAny_bind (wp_glob ok hk (gl_ir t) ?_)
  obtain ⟨doc, pm, an, cdv, ct, hf⟩ := fun_ir t
  obtain ⟨o, ho, hdat⟩ := hf.at'
  refine callWith_def_at (ok.base _ _ ho) hdat (h1 s pos _ _ ok fun vs s₁ k₁ rs => ⟨k₁.get _ _ (ok.base _ _ ho), wpAny_call ?_⟩) he
  have ok₁ := ok.step k₁
  obtain ⟨v1, v2, rfl, r1, r2⟩ := reps2 rs
  rw [r1.ref_inv]
  obtain ⟨us, hl, hr⟩ := ok₁.mem a _ hm
  have hBa : Γ.B.get? a = none := by
    cases q : Γ.B.get? a with
    | none => rfl
    | some o => exact (ok.out _ _ (.inr haO) q).elim
  refine insort_ok hA t ok₁.base hBa hl (of_ints (ints_of hr)) (r2.of_flat rfl) hs hn fun s' vs' as hkp hl' hr' => ?_
  have ok' : (Γ.put i a (intsPV (ins xs y))).Ok s'.heap := ok₁.putK hi hl' (of_ints (ints_of hr')) hkp
  refine h _ _ (Kp.trans rfl rfl rfl k₁.kp ⟨as, fun b o _ hb e => hkp b o (fun q => hb (q ▸ haO)) e⟩) ⟨rfl, ok'⟩

/-- one table's state while another one is turned -/
theorem tab_other {T1 T2 : Addr} {p1 p2 : Pos} {q1 q2 : Str} {h h' : Heap} (hne : T1 ≠ T2) (j1 : TabSt T1 p1 q1 h) (j2 : TabSt T2 p2 q2 h) (k : ∀ b o, Keepable o → b ≠ T2 → h.get? b = some o → h'.get? b = some o) : TabSt T1 p1 q1 h' := by
  rcases j1 with j1 | ⟨c', j1, hr⟩
  · exact .inl (k _ _ (keep_tab _) hne j1)
  · obtain ⟨c₂, oc, vs, t, e2, hoc, hd, hv⟩ := hr
    refine .inr ⟨c', k _ _ (keep_tab _) hne j1, c₂, oc, vs, t, e2, k _ _ ⟨vs, hd, .inr ⟨_, _, hv⟩⟩ ?_ hoc, hd, hv⟩
    rintro rfl
    rcases j2 with j2 | ⟨c3, j2, _⟩
    · rw [hoc] at j2; cases j2; cases hd; cases hv
    · rw [hoc] at j2; cases j2; cases hd; cases hv

/-- a test that may turn a table -/
noncomputable def TrJ (prog : Program) (w : World) (A : Around) (J : Heap → Prop) (Γ : Cx) (e : Expr) (b : Bool) : Prop :=
  ∀ (s : Shared) (Q : Bool → Shared → Prop) (E : Value → Shared → Prop), Γ.Ok s.heap → J s.heap → (∀ s', As s s' → J s'.heap → Γ.Ok s'.heap → Q b s') → wpAny (model prog w) A (isTrue e Γ.env (eval e Γ.env)) Q E s
theorem TrJ.or2 {e1 e2 : Expr} {pos : Pos} (hJ : JOk J) (h1 : Tr prog w A Γ e1 false) (h2 : TrJ prog w A J Γ e2 false) : TrJ prog w A J Γ (.BoolOp .Or [e1, e2] pos) false := fun s Q E ok j h =>
  isTrue_or (h1 s _ _ ok fun s' k => by
    simp only [Bool.false_eq_true, if_false]
    rw [isTrue_boolop_whole _ _ _ _ _ (eval (.BoolOp .Or [e2] pos) Γ.env)]
    refine isTrue_or (h2 s' _ _ (ok.step k) (hJ _ _ (Kb.of k.get) j) fun s'' as'' j'' ok'' => ?_)
    simp only [Bool.false_eq_true, if_false]
    exact isTrue_or_nil (h s'' (As.trans k.as as'') j'' ok''))
theorem YX.ifFJ {t : Expr} {body rest : List Stmt} {pos : Pos} {R : Flow → Shared → Prop} (ht : JOk J → TrJ prog w A J Γ t false) (h3 : YX prog w A J Γ rest R) : YX prog w A J Γ (.If t body [] pos :: rest) R :=
  ⟨fun hJ => XJ.cons (R₁ := Nx Γ) (fun s Q E ok j h => wpAny_If (ht hJ s _ _ ok j fun s' as j' ok' => by
    simp only [Bool.false_eq_true, if_false]
    exact wpAny_execs_nil (h _ _ as j' ⟨rfl, ok'⟩))) (fun s' r => ⟨Γ, rfl, r.2, h3.out hJ⟩) (fun f s' hf r => absurd r.1 hf)⟩
end Mine

end
section
open PySem PySem.W PyProof.Rows PySem.Calls
set_option autoImplicit false
set_option linter.all false
set_option maxRecDepth 100000
namespace Mine
variable {prog : Program} {w : World} {A : Around} {Γ : Cx}

theorem fun_law {P : Params} {h : Heap} (t : TF P h) : ∃ doc pm an ct, Fun h 165 (fdAt (topAt 67) "law" .none .none doc pm an (.ref 164) ct) := by
  have e : fdK P 165 = fdAt (topAt 67) "law" .none .none (fdK P 165).doc (fdK P 165).pyModule (fdK P 165).annotations (.ref 164) (fdK P 165).closureTuple := by kernel_rfl
  exact ⟨_, _, _, _, e ▸ t.fn 165 (by kernel_rfl) (by kernel_rfl)⟩
noncomputable def llp : Pos := lamPos ((bodyOf (topAt 67)).getD 9 (.Pass ⟨0, 0, 0, 0⟩))
noncomputable abbrev lamQ : Str := "law.<locals>.<lambda>"
noncomputable abbrev lawT : Heap → Prop := TabSt 162 llp lamQ
noncomputable def lawJ (h : Heap) : Prop := nestJ h ∧ lawT h
theorem lawJ_ok : JOk lawJ := fun h h' k j => ⟨TabSt.jok _ _ _ _ _ k j.1, TabSt.jok _ _ _ _ _ k j.2⟩

theorem nest_test {xs : List Ws} {op : Nat → List Nat} {kp : Nat → Nat} {ab : List Int} {p pos pos2 : Pos} {e e2 : Expr} (hN : Nest xs op kp ab) (t : TF w.params Γ.B) (hbm : BMain Γ.B) (hC : CodeHd Γ.B 149 145) (hT : Γ.B.get? 145 = none) (hA : AOk 5 A)
    (h1 : Ev prog w A Γ e (.list (wsPV xs))) (h2 : Ev prog w A Γ e2 (.list (intsPV ab))) (hO : Γ.O = [])
    (hk : Γ.env.kindOf "_law_nest" = some .globalImplicit := by rfl) (he : starEach [e] Γ.env = (false, eval e Γ.env) :: starEach [] Γ.env := by rfl)
    (hm : behindInMarks .NotEq e2 = false := by with_unfolding_all rfl) :
    TrJ prog w A lawJ Γ (.Compare (.Call (.Name "_law_nest" p) [e] [] pos) [.NotEq] [e2] pos2) false := fun s Q E ok j h =>
  wpAny_isTrue_Compare1 (by
    rw [eval_CallName]
    refine wpAny_bind (wp_glob ok hk (gl_nest t) ?_)
    obtain ⟨doc, pm, an, ct, hf⟩ := fun_nest t
    obtain ⟨o, ho, hdat⟩ := hf.at'
    refine callWith_def_at (ok.base _ _ ho) hdat ((Evs.cons h1 Evs.nil he) s pos _ _ ok fun vs s₁ k₁ rs => ⟨k₁.get _ _ (ok.base _ _ ho), wpAny_call ?_⟩) he
    obtain ⟨v, rfl, r⟩ := reps1 rs
    have ok₁ := ok.step k₁
    have j₁ : lawJ s₁.heap := lawJ_ok _ _ (Kb.of k₁.get) j
    have hsub : ∀ b o, Γ.B.get? b = some o → (hideAll s₁.heap [145]).get? b = some o := fun b o e => hideAll_get _ (ok₁.base _ _ e) (fun q => by
      rw [List.mem_singleton.mp q, hT] at e; cases e)
    refine nest_ok hN hA j₁.1 (B := hideAll s₁.heap [145]) (fun b o e => of_hideAll _ e) (t.keeps hsub) (hbm.keeps hsub) (hC.keeps hsub) (hideAll_none _ (List.mem_singleton.mpr rfl)) r.free fun v' s₂ as₂ j₂ hk₂ r₂ => ?_
    have keep : ∀ b o, b ≠ 145 → s₁.heap.get? b = some o → s₂.heap.get? b = some o := fun b o hb e => hk₂ b o (hideAll_get _ e (fun q => hb (List.mem_singleton.mp q)))
    obtain ⟨oT, hkT, eT⟩ := j₁.1.at'
    have ok₂ : Γ.Ok s₂.heap := ok_but ok₁ hT hkT eT keep
    have j₂' : lawJ s₂.heap := ⟨j₂, tab_other (by decide) j₁.2 j₁.1 fun b o _ hb e => keep b o hb e⟩
    refine h2 s₂ _ _ ok₂ fun v2 s₃ k₃ r3 => ?_
    refine (COp.neE (k := 1) hA (Enc.ints ab) (Enc.ints ab) (Small.ints ab) (Small.ints ab) (by omega)) s₃ v' v2 _ _ (ok₂.step k₃) ((r₂.lift (.inl hO)).keeps k₃.get) r3 fun s₄ k₄ => ?_
    refine wpAny_truthy_bool ?_
    have e0 : (!PyData.eqv (encInts ab) (encInts ab)) = false := by
      have : PyData.eqv (encInts ab) (encInts ab) = true := by unfold encInts; rw [eqv_ints]; simp
      rw [this]; rfl
    rw [e0]
    exact h s₄ (As.trans (As.trans k₁.as as₂) (As.trans k₃.as k₄.as)) (lawJ_ok _ _ ((Kb.of k₃.get).trans (Kb.of k₄.get)) j₂') ((ok₂.step k₃).step k₄)) hm

noncomputable abbrev envL (doc pm : Value) (an : Option Addr) (ct : Value) (L : Addr) : Env := callEnvC (fdAt (topAt 67) "law" Value.none Value.none doc pm an (.ref 164) ct) L 165
noncomputable abbrev lawC (doc pm : Value) (an : Option Addr) (ct : Value) (L : Addr) (B : Heap) (ρ : List (Str × PV)) (μ : List (Addr × List PV)) : Cx := ⟨B, envL doc pm an ct L, ["rows", "above", "worth", "granted", "bar", "kids", "numbers"], ρ, μ⟩
noncomputable def lawSt (k : Nat) : Stmt := (bodyOf (topAt 67)).getD k (.Pass ⟨0, 0, 0, 0⟩)

set_option maxHeartbeats 1000000 in
theorem worth_st {kids : List (List Nat)} {ns bs : List Int} {n r : Nat} {W : Int} {doc pm : Value} {an : Option Addr} {ct : Value} {L : Addr} {B : Heap} {ρ : List (Str × PV)} (ht : TreeOk kids ns n) (hA : AOk 4 A) (t : TF w.params B) (hbm : BMain B) (hC : CodeHd B 164 162) (hT : B.get? 162 = none)
    (hkids : ρ.lookup ("kids" : Str) = some (PV.list (kidsPV kids))) (hnum : ρ.lookup ("numbers" : Str) = some (PV.list (intsPV ns))) (hbars : ρ.lookup ("bars" : Str) = some (PV.list (intsPV bs)))
    (hr : r ≤ bs.length) (hr0 : 0 < r) (hlo : ∀ (i : Nat) x, i < r → bs[i]? = some x → x ≤ val kids ns 0) (hhi : ∀ (i : Nat) x, r ≤ i → bs[i]? = some x → val kids ns 0 < x) (hn : bs.length < 2 ^ 20) (hW : bs[r - 1]? = some W) :
    SJ prog w A lawJ (lawC doc pm an ct L B ρ []) (lawSt 9) (Nx ((lawC doc pm an ct L B ρ []).set "worth" (.int W))) := by
  conv => arg 6; whnf
  intro s Q E ok j h
  refine wpAny_Assign_Name (Subscript_ ((Ev.name hbars) s _ _ ok fun v s₁ k₁ r₁ => wpAny_BinOp ?_))
  have ok₁ := ok.step k₁
  have j₁ : lawJ s₁.heap := lawJ_ok _ _ (Kb.of k₁.get) j
  obtain ⟨oT, hkT, eT⟩ := j₁.2.at'
  -- the base is taken as all that may not be turned, the law's own table left out
  generalize hBB : hideAll (rest s₁.heap (lawC doc pm an ct L B ρ [])) [162] = BB
  have hsub : ∀ b o, B.get? b = some o → BB.get? b = some o := fun b o e => hBB ▸ hideAll_get _ (ok₁.rest_sub b o e) (fun q => by
    rw [List.mem_singleton.mp q, hT] at e; cases e)
  have okR : (lawC doc pm an ct L BB ρ []).Ok s₁.heap := ok₁.rebase.unbase fun b o e => of_hideAll _ (hBB ▸ e)
  have hBT : BB.get? 162 = none := hBB ▸ hideAll_none _ (List.mem_singleton.mpr rfl)
  have hBk : ∀ b o, ¬ Stor (lawC doc pm an ct L B ρ []).env (lawC doc pm an ct L B ρ []).W b → b ≠ 162 → s₁.heap.get? b = some o → BB.get? b = some o := fun b o h1 h2 e => hBB ▸ hideAll_get _ (rest_get e h1 List.not_mem_nil) (fun q => h2 (List.mem_singleton.mp q))
  have hhold := held_val ht
  refine wp_bis (Γ := lawC doc pm an ct L BB ρ []) (n := 3) (T := 162) (c := 164) (qual := lamQ) (lpos := llp) (ds := intsPV bs) (q := fun i => !(decide (i < r))) (r := r) hA okR (t.keeps hsub) (hbm.keeps hsub) (hC.keeps hsub) hBT j₁.2 (Ev.name hbars) Ev.bool ?_ (by rw [intsPV_len]; exact hr) (fun i hi => by simp [hi]) (fun i hi _ => by simp; omega) (by rw [intsPV_len]; exact hn) (fun v' s₂ as₂ j₂ ok₂ hv => ?_) (by kernel_rfl) rfl rfl
  · intro s₃ f pm' c' ctv ok₃ hf₃ i d hd' A₁ s₄ vs R₁ hA₁ hsub₄ rs₄ hR₁
    have t₄ : TF w.params s₄.heap := ((t.keeps hsub).keeps ok₃.base).keeps hsub₄
    obtain ⟨v₁, rfl, rv₁⟩ := reps1 rs₄
    obtain ⟨vK, hvK, rK⟩ := ok₃.vars "kids" _ hkids
    obtain ⟨vN, hvN, rN⟩ := ok₃.vars "numbers" _ hnum
    obtain ⟨cK, hcK, hvK⟩ : ∃ c, (envL doc pm an ct L).cells.lookup ("kids" : Str) = some c ∧ s₃.heap.IsCell c (some vK) := by
      rcases hvK with ⟨q, _⟩ | ⟨_, c, hc, hv⟩
      · cases q
      · exact ⟨c, hc, hv⟩
    obtain ⟨cN, hcN, hvN⟩ : ∃ c, (envL doc pm an ct L).cells.lookup ("numbers" : Str) = some c ∧ s₃.heap.IsCell c (some vN) := by
      rcases hvN with ⟨q, _⟩ | ⟨_, c, hc, hv⟩
      · cases q
      · exact ⟨c, hc, hv⟩
    obtain ⟨x, hx, rfl⟩ : ∃ x, bs[i]? = some x ∧ d = .int x := by
      unfold intsPV at hd'
      rw [List.getElem?_map] at hd'
      obtain ⟨ii, h1, h2⟩ := Option.map_eq_some_iff.mp hd'
      exact ⟨ii, h1, h2.symm⟩
    have hheld : decide (x ≤ val kids ns 0) = decide (i < r) := by
      by_cases hi : i < r
      · rw [decide_eq_true hi, decide_eq_true (hlo i x hi hx)]
      · have := hhi i x (by omega) hx
        rw [decide_eq_false hi, decide_eq_false (by omega)]
    obtain ⟨_, _, _, _, _, hfH⟩ := fun_held t₄
    have hcKe : (envL doc pm an ct L).cells.lookup ("kids" : Str) = some (L + 6) := rfl
    have hcNe : (envL doc pm an ct L).cells.lookup ("numbers" : Str) = some (L + 7) := rfl
    rw [hcKe] at hcK; cases hcK
    rw [hcNe] at hcN; cases hcN
    have hf₄ := hf₃.keeps hsub₄
    have cK₄ := hvK.keeps hsub₄
    have cN₄ := hvN.keeps hsub₄
    refine fn_lam (n := 2) (ρ := [("bar", .int x), ("kids", .list (kidsPV kids)), ("numbers", .list (intsPV ns))]) (binds := [("bar", v₁)]) hA₁ hf₄ t₄.lim rfl rfl ?_ ?_ ?_ ?_ hR₁ ?_ ?_
    · intro z d e
      have := PySem.mem_of_lookup e
      simp only [List.mem_cons, Prod.mk.injEq, List.not_mem_nil, or_false] at this
      rcases this with ⟨rfl, rfl⟩ | ⟨rfl, rfl⟩ | ⟨rfl, rfl⟩
      · exact .inl ⟨rfl, v₁, rfl, rv₁⟩
      · exact .inr ⟨rfl, L + 6, vK, rfl, cK₄, (rK.keeps hsub₄).free⟩
      · exact .inr ⟨rfl, L + 7, vN, rfl, cN₄, (rN.keeps hsub₄).free⟩
    · intro z c e
      have e2 : (z, c) ∈ [(("numbers" : Str), L + 7), ("kids", L + 6)] := PySem.mem_of_lookup e
      simp only [List.mem_cons, Prod.mk.injEq, List.not_mem_nil, or_false] at e2
      rcases e2 with ⟨rfl, rfl⟩ | ⟨rfl, rfl⟩
      · exact ⟨_, cN₄⟩
      · exact ⟨_, cK₄⟩
    · intro z z' c e e'
      have e2 : (z, c) ∈ [(("numbers" : Str), L + 7), ("kids", L + 6)] := PySem.mem_of_lookup e
      have e3 : (z', c) ∈ [(("numbers" : Str), L + 7), ("kids", L + 6)] := PySem.mem_of_lookup e'
      simp only [List.mem_cons, Prod.mk.injEq, List.not_mem_nil, or_false] at e2 e3
      rcases e2 with ⟨rfl, rfl⟩ | ⟨rfl, rfl⟩ <;> rcases e3 with ⟨rfl, q⟩ | ⟨rfl, q⟩
      · rfl
      · exact absurd (Nat.add_left_cancel q) (by decide)
      · exact absurd (Nat.add_left_cancel q) (by decide)
      · rfl
    · refine Ev.cast (Ev.not (b := decide (x ≤ val kids ns 0)) (Ev.call (gl_held t₄) hfH (fun h k => t₄.keeps k) (hA₁.deeper _) (EvsF.cons (EvF.of (Ev.name rfl)) (EvsF.cons (EvF.of (Ev.name rfl)) (EvsF.cons (EvF.of (Ev.name rfl)) EvsF.nil))) (held_ok ht (hhold x)) (.inr rfl))) ?_
      rw [hheld]
    · intro z hz
      have := List.mem_singleton.mp hz
      subst this; rfl
    · intro z hz
      simp only [List.mem_cons, List.not_mem_nil, or_false] at hz
      rcases hz with rfl | rfl | rfl | rfl <;> decide
  · obtain ⟨tk, rfl⟩ := hv
    have k₂ : ∀ b o, ¬ Stor (lawC doc pm an ct L B ρ []).env (lawC doc pm an ct L B ρ []).W b → b ≠ 162 → s₁.heap.get? b = some o → s₂.heap.get? b = some o := fun b o h1 h2 e => ok₂.base b o (hBk b o h1 h2 e)
    have j₂' : lawJ s₂.heap := ⟨tab_other (by decide) j₁.1 j₁.2 fun b o hkb hb e => k₂ b o (fun q => keep_stor ok₁.fr q e hkb) hb e, j₂⟩
    have ok₂' : (lawC doc pm an ct L B ρ []).Ok s₂.heap := ok₂.unbase hsub
    have r₂ : Rep [] s₂.heap v (.list (intsPV bs)) := r₁.mono (fun _ x => x) fun b o _ hq e => k₂ b o (fun q => ok₁.fr.notSeq q e hq) (fun q => by
      subst q
      rw [eT] at e; cases e
      obtain ⟨fs, hd, _⟩ := hkT; exact notSeq_fields hd hq) e
    refine (Ev.int (i := 1)) s₂ _ _ ok₂' fun u s₃ k₃ r₃ => ?_
    obtain ⟨tu, rfl⟩ := r₃.int_inv
    refine PyProof.Rows.sub_int ?_
    obtain ⟨l, us, rfl, _, hl, hrs⟩ := (r₂.keeps k₃.get).list_inv
    have hlen := hrs.len
    rw [intsPV_len] at hlen
    obtain ⟨w1, hw1⟩ : ∃ w1, us[r - 1]? = some w1 := ⟨us[r - 1]'(by omega), by simp [show r - 1 < us.length by omega]⟩
    have e1 : ((r : Int) - 1) = ((r - 1 : Nat) : Int) := by omega
    refine wp_idx (s := { s₃ with toks := s₃.toks + 1 }) (plain_isList hl) (by rw [e1, pyIdx_nat]; exact hw1) (by omega) (by omega) (by omega) ?_
    have rW := hrs.at' _ _ _ hw1 (intsPV_get hW)
    have ok₃ : (lawC doc pm an ct L B ρ []).Ok s₃.heap := ok₂'.step k₃
    refine wp_store (s := { s₃ with toks := s₃.toks + 1 }) ok₃ rW rfl fun s' ok' kps => h _ _ ?_ ?_ ⟨rfl, ok'⟩
    · exact As.trans (As.trans k₁.as as₂) (As.trans k₃.as (As.trans ⟨_, _, rfl⟩ kps.as))
    · exact lawJ_ok _ _ ((Kb.of k₃.get).trans (kps.kb (s := { s₃ with toks := s₃.toks + 1 }) ok₃)) j₂'
end Mine

end
section
open PySem PySem.W PyProof.Rows PySem.Calls
set_option autoImplicit false
set_option linter.all false
set_option maxRecDepth 100000
namespace Mine

theorem last_max {l : List Nat} (hp : l.Pairwise (· < ·)) {x : Nat} (hx : x ∈ l) : x ≤ l.getLastD 0 := by
  have hne : l ≠ [] := List.ne_nil_of_mem hx
  have e : l.getLastD 0 = l.getLast hne := by
    cases l with
    | nil => exact absurd rfl hne
    | cons a l => exact (List.getLast_eq_getLastD (by simp)).symm
  rw [e]
  have e2 := List.dropLast_concat_getLast hne
  generalize l.getLast hne = z at e2 ⊢
  rw [← e2] at hx hp
  rcases List.mem_append.mp hx with hx | hx
  · exact Nat.le_of_lt ((List.pairwise_append.mp hp).2.2 x hx _ (List.mem_singleton.mpr rfl))
  · rw [List.mem_singleton.mp hx]; exact Nat.le_refl _
theorem up_unique (cn : Nat → Nat) {k i : Nat} (hi : i < k) (hd : pgDp cn i + 1 = pgDp cn k) (hm : ∀ m, i < m → m < k → pgDp cn i < pgDp cn m) : pgUp cn k = i := by
  obtain ⟨h1, h2⟩ := pgUp_lt cn (k := k) (by omega)
  have h3 : i ≤ pgUp cn k := last_max (List.pairwise_lt_range.filter _) (List.mem_filter.mpr ⟨List.mem_range.mpr hi, by simpa using hd⟩)
  rcases Nat.lt_or_ge i (pgUp cn k) with h | h
  · have := hm _ h h1; omega
  · omega

noncomputable def pgOp (cn : Nat → Nat) : Nat → List Nat
  | 0 => []
  | k + 1 => (pgOp cn k).take (pgDp cn k) ++ [k]
structure OpInv (cn : Nat → Nat) (k : Nat) (l : List Nat) : Prop where
  len : l.length = pgDp cn (k - 1) + 1
  at' : ∀ (j i : Nat), l[j]? = some i → i < k ∧ pgDp cn i = j ∧ (∀ m, i < m → m < k → j < pgDp cn m) ∧ (0 < j → l[j - 1]? = some (pgUp cn i))
theorem op_inv (cn : Nat → Nat) : ∀ k, OpInv cn (k + 1) (pgOp cn (k + 1))
  | 0 => by
    have e : pgOp cn 1 = [0] := rfl
    rw [e]
    refine ⟨rfl, fun j i h => ?_⟩
    cases j with
    | zero => simp at h; subst h; exact ⟨by omega, rfl, fun m h1 h2 => by omega, fun h => by omega⟩
    | succ j => simp at h
  | k + 1 => by
    have ih := op_inv cn k
    have hs := pgDp_step cn k
    have hl := ih.len
    rw [Nat.add_sub_cancel] at hl
    have e : pgOp cn (k + 1 + 1) = (pgOp cn (k + 1)).take (pgDp cn (k + 1)) ++ [k + 1] := rfl
    rw [e]
    generalize hL : pgOp cn (k + 1) = l at ih hl
    generalize hd : pgDp cn (k + 1) = d at hs
    have htl : (l.take d).length = d := by rw [List.length_take]; omega
    have hlow : ∀ j, j < d → (l.take d ++ [k + 1])[j]? = l[j]? := fun j hj => by
      rw [List.getElem?_append_left (by omega), List.getElem?_take, if_pos hj]
    refine ⟨by rw [List.length_append, htl]; show d + 1 = pgDp cn (k + 1) + 1; rw [hd], fun j i h => ?_⟩
    by_cases hj : j < d
    · rw [hlow j hj] at h
      obtain ⟨h1, h2, h3, h4⟩ := ih.at' j i h
      refine ⟨by omega, h2, fun m hm1 hm2 => ?_, fun hj0 => ?_⟩
      · by_cases hm : m = k + 1
        · subst hm; omega
        · exact h3 m hm1 (by omega)
      · rw [hlow _ (by omega)]; exact h4 hj0
    · rw [List.getElem?_append_right (by omega), htl] at h
      have hjd : j = d := by
        by_cases h0 : j - d = 0
        · omega
        · rw [List.getElem?_eq_none (by simp; omega)] at h; cases h
      subst hjd
      simp at h; subst h
      refine ⟨by omega, hd, fun m hm1 hm2 => by omega, fun hj0 => ?_⟩
      rw [hlow _ (by omega)]
      obtain ⟨i0, hi0⟩ : ∃ i0, l[j - 1]? = some i0 := ⟨l[j - 1]'(by omega), by simp [show j - 1 < l.length by omega]⟩
      obtain ⟨h1, h2, h3, h4⟩ := ih.at' _ _ hi0
      rw [hi0, up_unique cn h1 (by omega) (fun m a b => by rw [h2]; exact h3 m a b)]

theorem op_next {cn : Nat → Nat} {k j i i' : Nat} {l : List Nat} (hI : OpInv cn k l) (h : l[j]? = some i) (h' : l[j + 1]? = some i') : pgLd cn i' = pgLd cn i ++ pgSt cn i := by
  obtain ⟨h1, h2, h3, h4⟩ := hI.at' _ _ h'
  have h5 := h4 (by omega)
  rw [Nat.add_sub_cancel, h] at h5
  have hi0 : 0 < i' := by
    rcases Nat.eq_zero_or_pos i' with h0 | h0
    · subst h0; rw [pgDp] at h2; omega
    · exact h0
  rw [pgLd_step cn hi0, ← Option.some.inj h5]
noncomputable def pgWs (cn : Nat → Nat) (k : Nat) : Ws := Ws.scan (pgLd cn k)
theorem op_less {cn : Nat → Nat} {k j j' i i' : Nat} {l : List Nat} (hI : OpInv cn k l) (hj : j < j') (h : l[j]? = some i) (h' : l[j']? = some i') : (pgWs cn i).less (pgWs cn i') = true ∧ (pgWs cn i').less (pgWs cn i) = false := by
  obtain ⟨a1, a2, _⟩ := hI.at' _ _ h
  obtain ⟨b1, b2, _⟩ := hI.at' _ _ h'
  have hd := pgDp_le cn i'
  have hlen : j' < l.length := (List.getElem?_eq_some_iff.mp h').1
  have hm := pgLd_mem cn i
  have hsi := pgSt_mem cn i
  rw [a2] at hm
  obtain ⟨q, hq⟩ : ∃ q, j' = j + q + 1 := ⟨j' - j - 1, by omega⟩
  have hq3 : q = 0 ∨ q = 1 ∨ q = 2 := by omega
  unfold pgWs
  rcases hq3 with rfl | rfl | rfl
  · subst hq
    rw [op_next hI h h']
    exact less_up1 j (by omega) _ hm _ hsi
  · subst hq
    obtain ⟨i1, h1⟩ : ∃ i1, l[j + 1]? = some i1 := ⟨l[j + 1]'(by omega), by simp [show j + 1 < l.length by omega]⟩
    rw [op_next hI h1 h', op_next hI h h1]
    exact less_up2 j (by omega) _ hm _ hsi _ (pgSt_mem cn i1)
  · have hj0 : j = 0 := by omega
    subst hj0 hq
    obtain ⟨i1, h1⟩ : ∃ i1, l[1]? = some i1 := ⟨l[1]'(by omega), by simp [show 1 < l.length by omega]⟩
    obtain ⟨i2, h2⟩ : ∃ i2, l[2]? = some i2 := ⟨l[2]'(by omega), by simp [show 2 < l.length by omega]⟩
    have e0 : pgLd cn i = [] := by simpa [leadsAt] using hm
    rw [op_next hI h2 h', op_next hI h1 h2, op_next hI h h1, e0, List.nil_append]
    exact less_up3 _ hsi _ (pgSt_mem cn i1) _ (pgSt_mem cn i2)

noncomputable def ups {α : Type} (f : Nat → α) : List α := (List.range 9).map f
theorem ups_len {α : Type} (f : Nat → α) : (ups f).length = 9 := by simp [ups]
theorem ups_get {α : Type} (f : Nat → α) {j : Nat} (h : j < 9) : (ups f)[j]? = some (f j) := by simp [ups, h]
theorem ups_inv {α : Type} {f : Nat → α} {j : Nat} {x : α} (h : (ups f)[j]? = some x) : j < 9 ∧ x = f j := by
  have hj : j < 9 := by have := (List.getElem?_eq_some_iff.mp h).1; rwa [ups_len] at this
  rw [ups_get f hj] at h; cases h; exact ⟨hj, rfl⟩

theorem pg_nest (cn : Nat → Nat) : Nest (ups (pgWs cn)) (pgOp cn) (pgDp cn) (ups (pgAb cn)) := by
  have hlt : ∀ k, ∀ i ∈ pgOp cn k, i < k := fun k i hi => by
    cases k with
    | zero => simp [pgOp] at hi
    | succ k =>
      obtain ⟨j, hj, e⟩ := List.mem_iff_getElem.mp hi
      exact ((op_inv cn k).at' j i (by rw [List.getElem?_eq_getElem hj, e])).1
  have hshort : ∀ k, (pgOp cn k).length ≤ k := by
    intro k
    induction k with
    | zero => exact Nat.le_refl _
    | succ k ih =>
      show ((pgOp cn k).take (pgDp cn k) ++ [k]).length ≤ k + 1
      rw [List.length_append, List.length_take]
      simp; omega
  have hkeep : ∀ k, pgDp cn k ≤ (pgOp cn k).length := by
    intro k
    cases k with
    | zero => exact Nat.zero_le _
    | succ k =>
      rw [(op_inv cn k).len, Nat.add_sub_cancel]; exact (pgDp_step cn k).2
  -- the kid and the first that is left out have one lead
  have hsame : ∀ k i, (pgOp cn k)[pgDp cn k]? = some i → pgLd cn i = pgLd cn k := by
    intro k i h
    cases k with
    | zero => simp [pgOp] at h
    | succ k =>
      obtain ⟨h1, h2, h3, h4⟩ := (op_inv cn k).at' _ _ h
      have hs := pgDp_step cn k
      have h5 := h4 (by omega)
      obtain ⟨h6, h7, h8, h9⟩ := (op_inv cn (k + 1)).at' (pgDp cn (k + 1)) (k + 1) (by
        show ((pgOp cn (k + 1)).take (pgDp cn (k + 1)) ++ [k + 1])[_]? = _
        rw [List.getElem?_append_right (by rw [List.length_take]; omega), List.length_take, Nat.min_eq_left (hkeep (k + 1))]
        simp)
      have h10 := h9 (by omega)
      have e : (pgOp cn (k + 1 + 1))[pgDp cn (k + 1) - 1]? = (pgOp cn (k + 1))[pgDp cn (k + 1) - 1]? := by
        show ((pgOp cn (k + 1)).take (pgDp cn (k + 1)) ++ [k + 1])[_]? = _
        have := hkeep (k + 1)
        rw [List.getElem?_append_left (by rw [List.length_take]; omega), List.getElem?_take, if_pos (by omega)]
      rw [e, h5] at h10
      have hi0 : 0 < i := by
        rcases Nat.eq_zero_or_pos i with h0 | h0
        · subst h0; rw [pgDp] at h2; omega
        · exact h0
      rw [pgLd_step cn hi0, pgLd_step cn (Nat.succ_pos k), Option.some.inj h10]
  refine ⟨by rw [ups_len]; omega, ?_, by rw [ups_len, ups_len], rfl, fun k _ => rfl, fun k _ => hlt k, fun k _ => hshort k, fun k _ => hkeep k, ?_, ?_, ?_, ?_⟩
  · intro x hx
    obtain ⟨k, _, rfl⟩ := List.mem_map.mp hx
    have := (turn_scan _ (by have := pgDp_le cn k; omega) _ (pgLd_mem cn k)).2.1
    exact scan_ok (by omega)
  · -- low
    intro k x hx j i y hj hi hy
    obtain ⟨hk, rfl⟩ := ups_inv hx
    obtain ⟨_, rfl⟩ := ups_inv hy
    cases k with
    | zero => simp [pgOp] at hi
    | succ k =>
      have hkk := hkeep (k + 1)
      refine (op_less (op_inv cn (k + 1)) hj (i := i) (i' := k + 1) ?_ ?_).1
      · show ((pgOp cn (k + 1)).take (pgDp cn (k + 1)) ++ [k + 1])[_]? = _
        rw [List.getElem?_append_left (by rw [List.length_take]; omega), List.getElem?_take, if_pos hj]; exact hi
      · show ((pgOp cn (k + 1)).take (pgDp cn (k + 1)) ++ [k + 1])[_]? = _
        rw [List.getElem?_append_right (by rw [List.length_take]; omega), List.length_take, Nat.min_eq_left hkk]
        simp
  · -- high
    intro k x hx j i y hj hi hy
    obtain ⟨hk, rfl⟩ := ups_inv hx
    obtain ⟨_, rfl⟩ := ups_inv hy
    cases k with
    | zero => simp [pgOp] at hi
    | succ k =>
      have hjl : j < (pgOp cn (k + 1)).length := (List.getElem?_eq_some_iff.mp hi).1
      obtain ⟨z, hz⟩ : ∃ z, (pgOp cn (k + 1))[pgDp cn (k + 1)]? = some z := ⟨(pgOp cn (k + 1))[pgDp cn (k + 1)]'(by omega), by simp [show pgDp cn (k + 1) < (pgOp cn (k + 1)).length by omega]⟩
      have hs := hsame _ _ hz
      have e : pgWs cn (k + 1) = pgWs cn z := by unfold pgWs; rw [hs]
      rw [e]
      by_cases hjd : j = pgDp cn (k + 1)
      · subst hjd
        rw [hi] at hz; cases hz
        exact less_self _
      · exact (op_less (op_inv cn k) (by omega : pgDp cn (k + 1) < j) hz hi).2
  · -- same
    intro k x hx i y hi hy
    obtain ⟨hk, rfl⟩ := ups_inv hx
    obtain ⟨_, rfl⟩ := ups_inv hy
    have hs := hsame _ _ hi
    unfold pgWs
    rw [hs]; exact ⟨rfl, rfl⟩
  · -- above
    intro k hk
    rw [ups_len] at hk
    rw [ups_get _ hk]
    unfold pgAb
    cases k with
    | zero => rfl
    | succ k =>
      have hs := pgDp_step cn k
      rw [if_neg (by omega), if_pos (by omega)]
      obtain ⟨h6, h7, h8, h9⟩ := (op_inv cn (k + 1)).at' (pgDp cn (k + 1)) (k + 1) (by
        show ((pgOp cn (k + 1)).take (pgDp cn (k + 1)) ++ [k + 1])[_]? = _
        rw [List.getElem?_append_right (by rw [List.length_take]; omega), List.length_take, Nat.min_eq_left (hkeep (k + 1))]
        simp)
      have h10 := h9 (by omega)
      have e : (pgOp cn (k + 1 + 1))[pgDp cn (k + 1) - 1]? = (pgOp cn (k + 1))[pgDp cn (k + 1) - 1]? := by
        show ((pgOp cn (k + 1)).take (pgDp cn (k + 1)) ++ [k + 1])[_]? = _
        have := hkeep (k + 1)
        rw [List.getElem?_append_left (by rw [List.length_take]; omega), List.getElem?_take, if_pos (by omega)]
      rw [e] at h10
      rw [List.getD_eq_getElem?_getD, h10]; rfl
end Mine

end
section
open PySem PySem.W PyProof.Rows PySem.Calls
set_option autoImplicit false
set_option linter.all false
namespace Mine

theorem pg_abv (cn : Nat → Nat) : Abv (ups (pgAb cn)) := by
  have hg : ∀ k, k < (ups (pgAb cn)).length → (ups (pgAb cn)).getD k 0 = pgAb cn k := fun k hk => by
    rw [ups_len] at hk
    rw [List.getD_eq_getElem?_getD, ups_get _ hk]; rfl
  refine ⟨fun k hk => ?_, fun k hk => ?_⟩ <;> rw [hg k hk] <;> unfold pgAb <;> split
  · omega
  · have := (pgUp_lt cn (k := k) (by omega)).1; omega
  · omega
  · omega
theorem tree_ok {ab ns : List Int} (ha : Abv ab) (hl : ab.length = 9) (hn : ns.length = 9) : TreeOk (kidsOf ab) ns 9 := by
  refine ⟨by rw [kidsOf_len, hl], hn, by omega, by omega, fun i l k h hk => ?_, fun i l h => ?_⟩
  · have := kidsOf_down ha i l k h hk; rw [kidsOf_len, hl] at this; exact this
  · obtain ⟨_, rfl⟩ := kidsOf_inv h
    refine Nat.le_trans (List.length_filter_le _ _) ?_
    rw [List.length_range, hl]; exact Nat.le_refl _

/-! plans -/
noncomputable def plF (ns : List Int) (side : Int) (i : Nat) (vs : List (List (List Nat))) : List (List Nat) := if vs = [] then [[i]] else if ns.getD i 0 % 2 = side then vs.flatten else vs.foldl cross [[]]
noncomputable def plOf (ab ns : List Int) (side : Int) (i : Nat) : List (List Nat) := trun (kidsOf ab) [[]] (plF ns side) i
theorem plOf_eq {ab ns : List Int} (ha : Abv ab) (side : Int) {i : Nat} {l : List Nat} {x : Int} (hl : (kidsOf ab)[i]? = some l) (hx : ns[i]? = some x) :
    plOf ab ns side i = if l = [] then [[i]] else if x % 2 = side then l.flatMap (plOf ab ns side) else joint l (plOf ab ns side) := by
  have e := trun_eq [[]] (plF ns side) (kidsOf_down ha) hl
  show trun (kidsOf ab) [[]] (plF ns side) i = _
  rw [e]
  show plF ns side i (l.map (plOf ab ns side)) = _
  unfold plF joint
  have hg : ns.getD i 0 = x := by simp [hx]
  rw [hg, List.foldl_map, List.flatMap_def]
  by_cases h0 : l = []
  · subst h0; simp
  · rw [if_neg h0, if_neg (by simpa using h0)]

theorem cross_len (J M : List (List Nat)) : (cross J M).length = J.length * M.length := by
  unfold cross
  induction J with
  | nil => simp
  | cons p J ih => rw [List.flatMap_cons, List.length_append, ih, List.length_map, List.length_cons, Nat.succ_mul]; omega
theorem fold_len (pl : Nat → List (List Nat)) (sz : Nat → Nat) : ∀ (l : List Nat) (J : List (List Nat)), (∀ k ∈ l, (pl k).length ≤ 2 ^ sz k) → (l.foldl (fun J k => cross J (pl k)) J).length ≤ J.length * 2 ^ (l.map sz).sum
  | [], J, _ => by simp
  | k :: l, J, h => by
    rw [List.foldl_cons]
    refine Nat.le_trans (fold_len pl sz l _ fun k hk => h k (List.mem_cons_of_mem _ hk)) ?_
    rw [cross_len, List.map_cons, List.sum_cons, Nat.pow_add, ← Nat.mul_assoc]
    exact Nat.mul_le_mul_right _ (Nat.mul_le_mul_left _ (h k (List.mem_cons_self ..)))
theorem joint_len (pl : Nat → List (List Nat)) (sz : Nat → Nat) (l : List Nat) (h : ∀ k ∈ l, (pl k).length ≤ 2 ^ sz k) : (joint l pl).length ≤ 2 ^ (l.map sz).sum := by
  have := fold_len pl sz l [[]] h
  simpa [joint] using this
theorem flat_len (pl : Nat → List (List Nat)) (sz : Nat → Nat) : ∀ (l : List Nat), (∀ k ∈ l, (pl k).length ≤ 2 ^ sz k ∧ 1 ≤ sz k) → (l.flatMap pl).length ≤ 2 ^ (1 + (l.map sz).sum)
  | [], _ => by simp
  | k :: l, h => by
    have ih := flat_len pl sz l fun k hk => h k (List.mem_cons_of_mem _ hk)
    obtain ⟨h1, h2⟩ := h k (List.mem_cons_self ..)
    rw [List.flatMap_cons, List.length_append, List.map_cons, List.sum_cons]
    have e1 : 2 ^ (1 + (sz k + (l.map sz).sum)) = 2 * (2 ^ sz k * 2 ^ (l.map sz).sum) := by rw [Nat.pow_add, Nat.pow_add]
    have e2 : 2 ^ (1 + (l.map sz).sum) = 2 * 2 ^ (l.map sz).sum := by rw [Nat.pow_add]
    rw [e2] at ih
    rw [e1]
    have hA : 2 ≤ 2 ^ sz k := by
      calc 2 = 2 ^ 1 := rfl
        _ ≤ 2 ^ sz k := Nat.pow_le_pow_right (by omega) h2
    have hB : 1 ≤ 2 ^ (l.map sz).sum := Nat.one_le_two_pow
    generalize 2 ^ sz k = A at *
    generalize 2 ^ (l.map sz).sum = B at *
    have m1 : A * 1 ≤ A * B := Nat.mul_le_mul_left _ hB
    have m2 : 2 * B ≤ A * B := Nat.mul_le_mul_right _ hA
    omega
/-- what holds of the plans' members -/
theorem fold_mem (pl : Nat → List (List Nat)) (sz : Nat → Nat) (Q : Nat → Prop) : ∀ (l : List Nat) (J : List (List Nat)) (a c : Nat), (∀ p ∈ J, p.length ≤ a ∧ c ≤ p.length ∧ ∀ e ∈ p, Q e) → (∀ k ∈ l, ∀ p ∈ pl k, p.length ≤ sz k ∧ 1 ≤ p.length ∧ ∀ e ∈ p, Q e) →
    ∀ p ∈ l.foldl (fun J k => cross J (pl k)) J, p.length ≤ a + (l.map sz).sum ∧ c + l.length ≤ p.length ∧ ∀ e ∈ p, Q e
  | [], J, a, c, h, _ => fun p hp => by
    have := h p hp
    simpa using this
  | k :: l, J, a, c, h, hk => fun p hp => by
    rw [List.foldl_cons] at hp
    have := fold_mem pl sz Q l (cross J (pl k)) (a + sz k) (c + 1) (fun q hq => by
      unfold cross at hq
      obtain ⟨q1, h1, hq⟩ := List.mem_flatMap.mp hq
      obtain ⟨q2, h2, rfl⟩ := List.mem_map.mp hq
      obtain ⟨a1, a2, a3⟩ := h q1 h1
      obtain ⟨b1, b2, b3⟩ := hk k (List.mem_cons_self ..) q2 h2
      refine ⟨by rw [List.length_append]; omega, by rw [List.length_append]; omega, fun e he => ?_⟩
      rcases List.mem_append.mp he with he | he
      · exact a3 e he
      · exact b3 e he) (fun k' hk' => hk k' (List.mem_cons_of_mem _ hk')) p hp
    rw [List.map_cons, List.sum_cons, List.length_cons]
    exact ⟨by omega, by omega, this.2.2⟩
theorem joint_mem (pl : Nat → List (List Nat)) (sz : Nat → Nat) (Q : Nat → Prop) (l : List Nat) (h : ∀ k ∈ l, ∀ p ∈ pl k, p.length ≤ sz k ∧ 1 ≤ p.length ∧ ∀ e ∈ p, Q e) : ∀ p ∈ joint l pl, p.length ≤ (l.map sz).sum ∧ l.length ≤ p.length ∧ ∀ e ∈ p, Q e := fun p hp => by
  have := fold_mem pl sz Q l [[]] 0 0 (fun p hp => by rw [List.mem_singleton.mp hp]; simp) h p hp
  simpa using this

structure PlGood (ab ns : List Int) (side : Int) (i : Nat) : Prop where
  few : (plOf ab ns side i).length ≤ 2 ^ sz ab i
  mem : ∀ p ∈ plOf ab ns side i, p.length ≤ sz ab i ∧ 1 ≤ p.length ∧ ∀ e ∈ p, (kidsOf ab)[e]? = some []
theorem sz_pos {ab : List Int} (ha : Abv ab) {i : Nat} (hi : i < ab.length) : 1 ≤ sz ab i := by rw [sz_eq ha hi]; omega
theorem sum_take_le (f : Nat → Nat) : ∀ (l : List Nat) (j : Nat), ((l.take j).map f).sum ≤ (l.map f).sum
  | [], j => by simp
  | x :: l, 0 => by simp
  | x :: l, j + 1 => by
    have := sum_take_le f l j
    simp only [List.take_succ_cons, List.map_cons, List.sum_cons]; omega
theorem pl_good {ab ns : List Int} (ha : Abv ab) (hl : ab.length = 9) (hn : ns.length = 9) (side : Int) : ∀ i, i < 9 → PlGood ab ns side i := by
  refine tree_ind (tree_ok ha hl hn) _ fun i l x hli hx ih => ?_
  obtain ⟨hi, hle⟩ := kidsOf_inv hli
  have hs := sz_eq ha hi
  rw [← hle] at hs
  have hkl : ∀ k ∈ l, k < ab.length := fun k hk => by have := (kidsOf_down ha i l k hli hk).2; rwa [kidsOf_len] at this
  have hm : ∀ k ∈ l, ∀ p ∈ plOf ab ns side k, p.length ≤ sz ab k ∧ 1 ≤ p.length ∧ ∀ e ∈ p, (kidsOf ab)[e]? = some [] := fun k hk => (ih k hk).mem
  have e := plOf_eq (ns := ns) ha side hli hx
  by_cases h0 : l = []
  · rw [if_pos h0] at e
    refine ⟨?_, ?_⟩
    · rw [e]; exact Nat.one_le_two_pow
    · rw [e]; intro p hp
      rw [List.mem_singleton.mp hp]
      refine ⟨sz_pos ha hi, Nat.le_refl _, fun q hq => ?_⟩
      rw [List.mem_singleton.mp hq, hli, h0]
  · rw [if_neg h0] at e
    by_cases h2 : x % 2 = side
    · rw [if_pos h2] at e
      refine ⟨?_, ?_⟩
      · rw [e, hs]; exact flat_len _ _ l fun k hk => ⟨(ih k hk).few, sz_pos ha (hkl k hk)⟩
      · rw [e]; intro p hp
        obtain ⟨k, hk, hp⟩ := List.mem_flatMap.mp hp
        obtain ⟨a1, a2, a3⟩ := hm k hk p hp
        have := mem_le_sum (List.mem_map.mpr ⟨k, hk, rfl⟩ : sz ab k ∈ l.map (sz ab))
        exact ⟨by omega, a2, a3⟩
    · rw [if_neg h2] at e
      refine ⟨?_, ?_⟩
      · rw [e, hs]
        refine Nat.le_trans (joint_len _ (sz ab) l fun k hk => (ih k hk).few) (Nat.pow_le_pow_right (by omega) (by omega))
      · rw [e]; intro p hp
        obtain ⟨a1, a2, a3⟩ := joint_mem _ (sz ab) _ l hm p hp
        have := List.length_pos_iff.mpr h0
        exact ⟨by omega, by omega, a3⟩
theorem plan_eq {ab ns : List Int} (ha : Abv ab) (hl : ab.length = 9) (hn : ns.length = 9) (side : Int) : PlanEq (kidsOf ab) ns side (fun i => if i < 9 then plOf ab ns side i else []) := by
  have hg := pl_good (ns := ns) ha hl hn side
  have hfl : ∀ l : List Nat, (∀ k ∈ l, k < 9) → l.map (fun i => if i < 9 then plOf ab ns side i else []) = l.map (plOf ab ns side) := fun l h => List.map_congr_left fun k hk => by rw [if_pos (h k hk)]
  have hkl : ∀ (i : Nat) l, (kidsOf ab)[i]? = some l → ∀ k ∈ l, k < 9 := fun i l h k hk => by have := (kidsOf_down ha i l k h hk).2; rwa [kidsOf_len, hl] at this
  have hfm : ∀ l : List Nat, (∀ k ∈ l, k < 9) → l.flatMap (fun i => if i < 9 then plOf ab ns side i else []) = l.flatMap (plOf ab ns side) := fun l h => by rw [List.flatMap_def, List.flatMap_def, hfl l h]
  have hjt : ∀ l : List Nat, (∀ k ∈ l, k < 9) → joint l (fun i => if i < 9 then plOf ab ns side i else []) = joint l (plOf ab ns side) := fun l h => by
    unfold joint
    rw [← List.foldl_map (f := fun i => if i < 9 then plOf ab ns side i else []) (g := cross), hfl l h, List.foldl_map]
  have hsum : ∀ (i : Nat) l, (kidsOf ab)[i]? = some l → (l.map (sz ab)).sum ≤ 8 := fun i l h => by
    obtain ⟨hi, hle⟩ := kidsOf_inv h
    have h1 := sz_eq ha hi
    rw [← hle] at h1
    have := sz_le ha hi; omega
  have hp9 : ∀ m, m ≤ 9 → 2 ^ m ≤ 2 ^ 20 := fun m hm => Nat.pow_le_pow_right (by omega) (by omega)
  refine ⟨fun i l x hli hx => ?_, fun i l hli => ⟨?_, fun j => ?_⟩, fun i l j hli p hp => ?_, fun i p hp => ?_⟩
  · have hi : i < 9 := by have := (kidsOf_inv hli).1; omega
    rw [if_pos hi, hfm l (hkl i l hli), hjt l (hkl i l hli)]
    exact plOf_eq ha side hli hx
  · rw [hfm l (hkl i l hli)]
    refine Nat.le_trans (flat_len _ (sz ab) l fun k hk => ⟨(hg k (hkl i l hli k hk)).few, sz_pos ha (by rw [hl]; exact hkl i l hli k hk)⟩) (hp9 _ ?_)
    have := hsum i l hli; omega
  · have hkj : ∀ k ∈ l.take j, k < 9 := fun k hk => hkl i l hli k (List.mem_of_mem_take hk)
    rw [hjt _ hkj]
    refine Nat.le_trans (joint_len _ (sz ab) _ fun k hk => (hg k (hkj k hk)).few) (hp9 _ ?_)
    have h1 := hsum i l hli
    have h2 := sum_take_le (sz ab) l j
    omega
  · have hkj : ∀ k ∈ l.take j, k < 9 := fun k hk => hkl i l hli k (List.mem_of_mem_take hk)
    rw [hjt _ hkj] at hp
    have h1 := (joint_mem _ (sz ab) _ _ (fun k hk => (hg k (hkj k hk)).mem) p hp).1
    have h2 := hsum i l hli
    have h3 := sum_take_le (sz ab) l j
    omega
  · by_cases hi : i < 9
    · rw [if_pos hi] at hp
      have h1 := ((hg i hi).mem p hp).1
      have h2 := sz_le ha (i := i) (by omega)
      omega
    · rw [if_neg hi] at hp; cases hp
end Mine

end
section
open PySem PySem.W PyProof.Rows PySem.Calls
set_option autoImplicit false
set_option linter.all false
namespace Mine

theorem lmax_mem : ∀ {l : List Int}, l ≠ [] → lmax l ∈ l
  | [], h => absurd rfl h
  | [x], _ => by simp [lmax]
  | x :: y :: l, _ => by
    have ih := lmax_mem (l := y :: l) (by simp)
    rw [lmax]
    rcases (show max x (lmax (y :: l)) = x ∨ max x (lmax (y :: l)) = lmax (y :: l) by omega) with h | h
    · rw [h]; exact List.mem_cons_self ..
    · rw [h]; exact List.mem_cons_of_mem _ ih
theorem lmin_mem : ∀ {l : List Int}, l ≠ [] → lmin l ∈ l
  | [], h => absurd rfl h
  | [x], _ => by simp [lmin]
  | x :: y :: l, _ => by
    have ih := lmin_mem (l := y :: l) (by simp)
    rw [lmin]
    rcases (show min x (lmin (y :: l)) = x ∨ min x (lmin (y :: l)) = lmin (y :: l) by omega) with h | h
    · rw [h]; exact List.mem_cons_self ..
    · rw [h]; exact List.mem_cons_of_mem _ ih
theorem lmin_le {l : List Int} {x : Int} (h : x ∈ l) : lmin l ≤ x := (le_lmin (List.ne_nil_of_mem h)).mp (Int.le_refl _) x h
theorem le_lmax_of {l : List Int} {x : Int} (h : x ∈ l) : x ≤ lmax l := (le_lmax (List.ne_nil_of_mem h)).mpr ⟨x, h, Int.le_refl _⟩

theorem val_mem {kids : List (List Nat)} {ns : List Int} {n : Nat} (ht : TreeOk kids ns n) : ∀ i, i < n → ∃ e, e < n ∧ kids[e]? = some [] ∧ ns.getD e 0 = val kids ns i := by
  refine tree_ind ht _ fun i l x hl hx ih => ?_
  have e := trun_eq 0 (valF ns) (fun i l k h1 h2 => by have := ht.down i l k h1 h2; rw [ht.klen]; exact this) hl
  have hi : i < n := by have := (List.getElem?_eq_some_iff.mp hl).1; rwa [ht.klen] at this
  have hv : val kids ns i = valF ns i (l.map (val kids ns)) := e
  rw [hv]
  unfold valF
  by_cases h0 : l = []
  · subst h0
    exact ⟨i, hi, hl, by simp⟩
  · have hm : l.map (val kids ns) ≠ [] := by simpa using h0
    rw [if_neg hm]
    by_cases h2 : ns.getD i 0 % 2 = 0
    · rw [if_pos h2]
      obtain ⟨k, hk, e⟩ := List.mem_map.mp (lmax_mem hm)
      obtain ⟨q, a, b, c⟩ := ih k hk
      exact ⟨q, a, b, by rw [c, e]⟩
    · rw [if_neg h2]
      obtain ⟨k, hk, e⟩ := List.mem_map.mp (lmin_mem hm)
      obtain ⟨q, a, b, c⟩ := ih k hk
      exact ⟨q, a, b, by rw [c, e]⟩

/-! laid in order -/
theorem cnt_take {x : Int} : ∀ {xs : List Int}, xs.Pairwise (· ≤ ·) → (∀ z ∈ xs.take (cntLe xs x), z ≤ x) ∧ (∀ z ∈ xs.drop (cntLe xs x), x < z)
  | [], _ => by simp
  | y :: xs, h => by
    obtain ⟨h1, h2⟩ := List.pairwise_cons.mp h
    obtain ⟨i1, i2⟩ := cnt_take (x := x) h2
    by_cases hy : y ≤ x
    · have e : cntLe (y :: xs) x = cntLe xs x + 1 := by unfold cntLe; rw [List.countP_cons]; simp [hy]
      rw [e]
      refine ⟨fun z hz => ?_, fun z hz => i2 z (by simpa using hz)⟩
      rw [List.take_succ_cons] at hz
      rcases List.mem_cons.mp hz with rfl | hz
      · exact hy
      · exact i1 z hz
    · have e : cntLe (y :: xs) x = 0 := by
        unfold cntLe
        rw [List.countP_eq_zero]
        intro z hz
        rcases List.mem_cons.mp hz with rfl | hz
        · simpa using hy
        · have := h1 z hz; simp; omega
      rw [e]
      refine ⟨fun z hz => by simp at hz, fun z hz => ?_⟩
      simp only [List.drop_zero] at hz
      rcases List.mem_cons.mp hz with rfl | hz
      · omega
      · have := h1 z hz; omega
theorem sorted_of {xs : List Int} (h : xs.Pairwise (· ≤ ·)) : Sorted xs := fun i j y z hij hy hz => by
  obtain ⟨h1, e1⟩ := List.getElem?_eq_some_iff.mp hy
  obtain ⟨h2, e2⟩ := List.getElem?_eq_some_iff.mp hz
  rcases Nat.lt_or_ge i j with hlt | hge
  · have := List.pairwise_iff_getElem.mp h i j h1 h2 hlt
    rw [e1, e2] at this; exact this
  · have : i = j := by omega
    subst this
    rw [e1] at e2; subst e2; exact Int.le_refl _
theorem ins_pw {xs : List Int} (h : xs.Pairwise (· ≤ ·)) (y : Int) : (ins xs y).Pairwise (· ≤ ·) := by
  obtain ⟨h1, h2⟩ := cnt_take (x := y) h
  unfold ins
  have h3 := h
  rw [← List.take_append_drop (cntLe xs y) xs] at h3
  obtain ⟨a, b, c⟩ := List.pairwise_append.mp h3
  refine List.pairwise_append.mpr ⟨List.pairwise_append.mpr ⟨a, by simp, fun u hu v hv => by rw [List.mem_singleton.mp hv]; exact h1 u hu⟩, b, fun u hu v hv => ?_⟩
  rcases List.mem_append.mp hu with hu | hu
  · exact c u hu v hv
  · rw [List.mem_singleton.mp hu]; exact Int.le_of_lt (h2 v hv)
theorem ins_perm (xs : List Int) (y : Int) : (ins xs y).Perm (xs ++ [y]) := by
  unfold ins
  have : (xs.take (cntLe xs y) ++ [y] ++ xs.drop (cntLe xs y)).Perm (xs.take (cntLe xs y) ++ xs.drop (cntLe xs y) ++ [y]) := by
    rw [List.append_assoc, List.append_assoc]
    exact List.Perm.append_left _ List.perm_append_comm
  rwa [List.take_append_drop] at this
noncomputable def lay (l : List Int) : List Int := l.foldl ins []
theorem lay_snoc (l : List Int) (y : Int) : lay (l ++ [y]) = ins (lay l) y := by unfold lay; rw [List.foldl_append]; rfl
theorem fold_pw : ∀ (l xs : List Int), xs.Pairwise (· ≤ ·) → (l.foldl ins xs).Pairwise (· ≤ ·) ∧ (l.foldl ins xs).Perm (xs ++ l)
  | [], xs, h => ⟨h, by simp⟩
  | y :: l, xs, h => by
    obtain ⟨h1, h2⟩ := fold_pw l (ins xs y) (ins_pw h y)
    refine ⟨h1, h2.trans ?_⟩
    have := List.Perm.append_right l (ins_perm xs y)
    simpa using this
theorem lay_pw (l : List Int) : (lay l).Pairwise (· ≤ ·) := (fold_pw l [] List.Pairwise.nil).1
theorem lay_perm (l : List Int) : (lay l).Perm l := by simpa [lay] using (fold_pw l [] List.Pairwise.nil).2
theorem lay_len (l : List Int) : (lay l).length = l.length := (lay_perm l).length_eq

/-- the last of those that are not greater, where W is one of them -/
theorem worth_at {bs : List Int} {W : Int} (hp : bs.Pairwise (· ≤ ·)) (hW : W ∈ bs) : 0 < cntLe bs W ∧ bs[cntLe bs W - 1]? = some W ∧ (∀ (i : Nat) x, i < cntLe bs W → bs[i]? = some x → x ≤ W) ∧ (∀ (i : Nat) x, cntLe bs W ≤ i → bs[i]? = some x → W < x) := by
  obtain ⟨h1, h2⟩ := cnt_take (x := W) hp
  have hle := cntLe_le bs W
  have lo : ∀ (i : Nat) x, i < cntLe bs W → bs[i]? = some x → x ≤ W := fun i x hi e => h1 x (by
    refine List.mem_of_getElem? (i := i) ?_
    rw [List.getElem?_take, if_pos hi]; exact e)
  have hi : ∀ (i : Nat) x, cntLe bs W ≤ i → bs[i]? = some x → W < x := fun i x hi e => h2 x (by
    refine List.mem_of_getElem? (i := i - cntLe bs W) ?_
    rw [List.getElem?_drop, show cntLe bs W + (i - cntLe bs W) = i by omega]; exact e)
  obtain ⟨j, hj, e⟩ := List.mem_iff_getElem.mp hW
  have e' : bs[j]? = some W := by rw [List.getElem?_eq_getElem hj, e]
  have hjr : j < cntLe bs W := by
    rcases Nat.lt_or_ge j (cntLe bs W) with h | h
    · exact h
    · have := hi j W h e'; omega
  refine ⟨by omega, ?_, lo, hi⟩
  obtain ⟨x, hx⟩ : ∃ x, bs[cntLe bs W - 1]? = some x := ⟨bs[cntLe bs W - 1]'(by omega), by simp [show cntLe bs W - 1 < bs.length by omega]⟩
  have a := lo _ x (by omega) hx
  have b := sorted_of hp j (cntLe bs W - 1) W x (by omega) e' hx
  rw [hx]; congr 1; omega

/-! the plans' worth -/
noncomputable def num (ns : List Int) (e : Nat) : Int := ns.getD e 0
theorem sure_eq {kids : List (List Nat)} {ns : List Int} {n : Nat} {pl : Nat → List (List Nat)} (ht : TreeOk kids ns n) (he : PlanEq kids ns 0 pl) (hne : ∀ p ∈ pl 0, p ≠ []) :
    val kids ns 0 ∈ (pl 0).map (fun p => lmin (p.map (num ns))) ∧ ∀ a ∈ (pl 0).map (fun p => lmin (p.map (num ns))), a ≤ val kids ns 0 := by
  have hup : ∀ bar, (Has (fun e => bar ≤ ns.getD e 0) (pl 0) ↔ bar ≤ val kids ns 0) := fun bar => plan_up ht he bar 0 ht.pos
  have hle : ∀ p ∈ pl 0, lmin (p.map (num ns)) ≤ val kids ns 0 := fun p hp => (hup _).mp ⟨p, hp, fun e he' => lmin_le (List.mem_map.mpr ⟨e, he', rfl⟩)⟩
  refine ⟨?_, fun a ha => ?_⟩
  · obtain ⟨p, hp, h⟩ := (hup (val kids ns 0)).mpr (Int.le_refl _)
    have h1 := hle p hp
    have h2 : val kids ns 0 ≤ lmin (p.map (num ns)) := (le_lmin (by simpa using hne p hp)).mpr fun x hx => by
      obtain ⟨e, he', rfl⟩ := List.mem_map.mp hx
      exact h e he'
    exact List.mem_map.mpr ⟨p, hp, by omega⟩
  · obtain ⟨p, hp, rfl⟩ := List.mem_map.mp ha
    exact hle p hp
theorem grant_eq {kids : List (List Nat)} {ns : List Int} {n : Nat} {pl : Nat → List (List Nat)} (ht : TreeOk kids ns n) (he : PlanEq kids ns 1 pl) (hne : ∀ p ∈ pl 0, p ≠ []) :
    val kids ns 0 ∈ (pl 0).map (fun p => lmax (p.map (num ns))) ∧ ∀ a ∈ (pl 0).map (fun p => lmax (p.map (num ns))), val kids ns 0 ≤ a := by
  have hdn : ∀ bar, (Has (fun e => ns.getD e 0 < bar) (pl 0) ↔ val kids ns 0 < bar) := fun bar => plan_down ht he bar 0 ht.pos
  have hle : ∀ p ∈ pl 0, val kids ns 0 ≤ lmax (p.map (num ns)) := fun p hp => by
    have := (hdn (lmax (p.map (num ns)) + 1)).mp ⟨p, hp, fun e he' => by
      have := le_lmax_of (List.mem_map.mpr ⟨e, he', rfl⟩ : num ns e ∈ p.map (num ns))
      unfold num at this ⊢; omega⟩
    omega
  refine ⟨?_, fun a ha => ?_⟩
  · obtain ⟨p, hp, h⟩ := (hdn (val kids ns 0 + 1)).mpr (by omega)
    have h1 := hle p hp
    have hm := lmax_mem (l := p.map (num ns)) (by simpa using hne p hp)
    obtain ⟨e, he', e2⟩ := List.mem_map.mp hm
    have h2 := h e he'
    unfold num at e2
    refine List.mem_map.mpr ⟨p, hp, ?_⟩
    show lmax (p.map (num ns)) = _
    unfold num at h1 ⊢
    omega
  · obtain ⟨p, hp, rfl⟩ := List.mem_map.mp ha
    exact hle p hp
end Mine

end
section
open PySem PySem.W PyProof.Rows PySem.Calls
set_option autoImplicit false
set_option linter.all false
namespace Mine
variable {prog : Program} {w : World} {A : Around} {Γ : Cx} {J : Heap → Prop}

theorem S.assignOfComp {y : Str} {py spos : Pos} {elt : Expr} {target iter : Expr} {ifs : List Expr} {scope : Scope} {pos : Pos} {out : List PV} (h : CompSem prog w A Γ (.ListComp elt [⟨target, iter, ifs, 0⟩] scope pos) scope (eval iter Γ.env) out)
    (hsw : swapsWith (.ListComp elt [⟨target, iter, ifs, 0⟩] scope pos) (some (.Name y py)) spos.line Γ.env = pure true := by rfl)
    (hy : storable Γ.env Γ.W y = true := by rfl) :
    S prog w A Γ (.Assign [.Name y py] (.ListComp elt [⟨target, iter, ifs, 0⟩] scope pos) spos) (Nx (Γ.set y (.list out))) := fun s Q E ok k => by
  rw [exec_Assign_Name_used _ _ _ _ hsw]
  refine wpAny_bind (wpAny_standAt (wpAny_bind ?_))
  show wpAny _ A (do let _ ← comprehension (.ListComp elt [⟨target, iter, ifs, 0⟩] scope pos) scope Γ.env _ (newList []) false (eval iter Γ.env) (some (PySem.assign (.Name y py) Γ.env))) _ _ s
  refine wpAny_bind (wpAny_mono (h.run s (some (PySem.assign (.Name y py) Γ.env)) (fun _ s' => Q .next s') _ _ ok fun D C h' tk m us hD hC hDC hn hsm hl hr hkp => ?_) (fun _ s' hq => wpAny_pure (wpAny_pure hq)) fun _ _ e => e)
  show wpAny _ A (PySem.assign (.Name y py) Γ.env (.ref D)) _ _ _
  refine wpAny_assign_Name ?_
  have ok₁ : (Γ.own D out).Ok h' := ok.thaw hkp hD hl hr
  refine wp_store (Γ := Γ.own D out) (s := { s with heap := h', toks := tk }) ok₁ (.ref D) hy fun s₂ ok₂ kps => ?_
  obtain ⟨h₂, tk₂, rfl⟩ := kps.as
  have hCst : ¬ Stor (Γ.own D out).env (Γ.own D out).W C := fun q => by
    rcases q with q | ⟨z, _, q⟩
    · obtain ⟨o, e⟩ := ok.stands (b := C) (.inr (.inl q)); rw [hC] at e; cases e
    · obtain ⟨o, e⟩ := ok.stands (b := C) (.inr (.inr ⟨z, q⟩)); rw [hC] at e; cases e
  refine ⟨m, hn.at' fun o e => kps.get _ o hCst e, fun h₃ hs₃ => ?_⟩
  have ok₃ : ((Γ.own D out).set y (.ref D)).Ok h₃ := ok₂.change fun b o hb e => (hs₃.2 b (by
    rintro rfl
    rcases hb with hb | hb
    · exact ns_notSeq (hn.at' fun o e => kps.get _ o hCst e) e hsm hb
    · obtain ⟨o', e'⟩ := ok.stands (b := b) hb
      rw [hC] at e'; cases e')).trans e
  have ok₄ := ok₃.freeze (μ₁ := Γ.μ) (μ₂ := []) (a := D) (ds := out) (ρ' := (y, .list out) :: Γ.ρ) rfl (fun x d e => by
    rw [List.lookup_cons] at e
    show List.lookup x ((y, PV.ref D) :: Γ.ρ) = _ ∨ List.lookup x ((y, PV.ref D) :: Γ.ρ) = _ ∧ _
    rw [List.lookup_cons]
    cases hxy : x == y with
    | true => rw [hxy] at e; cases e; exact .inr ⟨rfl, rfl⟩
    | false => rw [hxy] at e; exact .inl e)
  have e4 : ({ (Γ.own D out).set y (.ref D) with ρ := (y, .list out) :: Γ.ρ, μ := Γ.μ ++ [] } : Cx) = Γ.set y (.list out) := by
    show (⟨Γ.B, Γ.env, Γ.W, _, Γ.μ ++ []⟩ : Cx) = ⟨Γ.B, Γ.env, Γ.W, _, Γ.μ⟩
    rw [List.append_nil]
  rw [e4] at ok₄
  refine k .next { s with heap := h₃, toks := tk₂ } ?_ ⟨rfl, ok₄⟩
  exact Kp.own (ds := out) hD ⟨⟨_, _, rfl⟩, fun b o h1 h2 e => (hs₃.2 b (by rintro rfl; rw [hC] at e; cases e)).trans (kps.get b o h1 (hkp b o e))⟩

theorem YX.step {Γ' : Cx} {st : Stmt} {rest : List Stmt} {R : Flow → Shared → Prop} (h1 : S prog w A Γ st (Nx Γ')) (h2 : YX prog w A J Γ' rest R) (he : Γ'.env = Γ.env := by rfl) : YX prog w A J Γ (st :: rest) R := ⟨fun hJ => XJ.step hJ h1 (h2.out hJ) he⟩
theorem YX.stepJ {Γ' : Cx} {st : Stmt} {rest : List Stmt} {R : Flow → Shared → Prop} (h1 : SJ prog w A J Γ st (Nx Γ')) (h2 : YX prog w A J Γ' rest R) (he : Γ'.env = Γ.env := by rfl) : YX prog w A J Γ (st :: rest) R :=
  ⟨fun hJ => XJ.cons h1 (fun s' r => ⟨Γ', he, r.2, h2.out hJ⟩) (fun f s' hf r => absurd r.1 hf)⟩
theorem YX.assignOfComp {y : Str} {py spos : Pos} {elt : Expr} {target iter : Expr} {ifs : List Expr} {scope : Scope} {pos : Pos} {out : List PV} {rest : List Stmt} {R : Flow → Shared → Prop} (h : CompSem prog w A Γ (.ListComp elt [⟨target, iter, ifs, 0⟩] scope pos) scope (eval iter Γ.env) out)
    (h2 : YX prog w A J (Γ.set y (.list out)) rest R)
    (hsw : swapsWith (.ListComp elt [⟨target, iter, ifs, 0⟩] scope pos) (some (.Name y py)) spos.line Γ.env = pure true := by rfl)
    (hy : storable Γ.env Γ.W y = true := by rfl) : YX prog w A J Γ (.Assign [.Name y py] (.ListComp elt [⟨target, iter, ifs, 0⟩] scope pos) spos :: rest) R :=
  YX.step (S.assignOfComp h hsw hy) h2
theorem YX.assignNew {x : Str} {p pos : Pos} {e : Expr} {ds : List PV} {rest : List Stmt} {R : Flow → Shared → Prop} (h1 : EvN prog w A Γ e ds) (h2 : ∀ a, YX prog w A J ((Γ.own a ds).set x (.ref a)) rest R)
    (hx : storable Γ.env Γ.W x = true := by rfl) (hs : swapsWith e (some (.Name x p)) pos.line Γ.env = pure false := by rfl) : YX prog w A J Γ (.Assign [.Name x p] e pos :: rest) R :=
  ⟨fun hJ => XJ.cons (SJ.assignNew hJ h1 hx hs) (fun s' r => by
    obtain ⟨_, a, ok⟩ := r
    exact ⟨(Γ.own a ds).set x (.ref a), rfl, ok, (h2 a).out hJ⟩) (fun f s' hf r => absurd r.1 hf)⟩

/-- a for whose turns all go on -/
theorem S.forN (G : Nat → Cx) {x : Str} {px : Pos} {iter : Expr} {body : List Stmt} {pos : Pos} {ds : List PV}
    (hit : Itr prog w A (G 0) iter ds) (he : ∀ i, (G i).env = (G 0).env) (hW : ∀ i, (G i).W = (G 0).W) (hO : ∀ i, (G i).O = (G 0).O) (hB : ∀ i, (G i).B = (G 0).B)
    (hb : ∀ (k : Nat) d, ds[k]? = some d → X prog w A ((G k).set x d) body (Nx (G (k + 1))))
    (hx : storable (G 0).env (G 0).W x = true := by rfl) (hs : ∀ v, foldedSetIterable iter (G 0).env v = pure v := by intro _; rfl) :
    S prog w A (G 0) (.For (.Name x px) iter body [] pos) (Nx (G ds.length)) :=
  (S.for G (RB := fun _ => False) (RR := fun _ _ => False) hit he hW hO hB (fun k d hd => X.fin (hb k d hd) fun s ok => ok) hx hs).mono fun f s r => by
    rcases r with ⟨rfl, r | r⟩ | ⟨v, _, r⟩
    · exact ⟨rfl, r⟩
    · exact r.elim
    · exact r.elim
theorem X.single {st : Stmt} {Γ' : Cx} (h : S prog w A Γ st (Nx Γ')) : X prog w A Γ [st] (Nx Γ') := X.one h
end Mine

end
section
open PySem PySem.W PyProof.Rows PySem.Calls
set_option autoImplicit false
set_option linter.all false
set_option maxRecDepth 100000
namespace Mine
variable {prog : Program} {w : World} {A : Around} {Γ : Cx}

theorem CompSem.cast {whole : Expr} {scope : Scope} {first : Sem Value} {out out' : List PV} (h : CompSem prog w A Γ whole scope first out) (e : out = out') : CompSem prog w A Γ whole scope first out' := e ▸ h
noncomputable def lawBody (k : Nat) : List Stmt := (bodyOf (topAt 67)).drop k
theorem intsPV_ups (f : Nat → Int) : upto (fun j => PV.int (f j)) 9 = intsPV (ups f) := by simp [upto, intsPV, ups]
theorem strsPV_ups (f : Nat → Str) : upto (fun j => PV.str (f j)) 9 = strsPV (ups f) := by simp [upto, strsPV, ups]

/-! what stands in a row -/
noncomputable def wsCh (c : Nat) : Bool := c == 32 || c == 9
noncomputable def leadIn (x : Str) : List Nat := x.cps.toList.takeWhile wsCh
theorem takeWhile_app {p : Nat → Bool} {g : Nat} {r : List Nat} (hg : p g = false) : ∀ {l : List Nat}, (∀ c ∈ l, p c = true) → (l ++ g :: r).takeWhile p = l
  | [], _ => by simp [hg]
  | c :: l, h => by
    rw [List.cons_append, List.takeWhile_cons, if_pos (h c (List.mem_cons_self ..)), takeWhile_app hg fun d hd => h d (List.mem_cons_of_mem _ hd)]
structure RowAt (cn : Nat → Nat) (j : Nat) (g : Nat) (sg : List Nat) : Prop where
  sign : pgSg cn j = g :: sg
  row : (pgRow cn j).cps.toList = pgIn cn j ++ g :: sg
  ws : ∀ c ∈ pgIn cn j, c = 32 ∨ c = 9
  g1 : g ≠ 32
  g2 : g ≠ 9
  len : (pgIn cn j).length ≤ 9
  short : (pgRow cn j).length ≤ 20
  lead : leadIn (pgRow cn j) = pgIn cn j
  scan : Ws.scan (pgIn cn j) = pgWs cn j
theorem row_at (cn : Nat → Nat) (j : Nat) : ∃ g sg, RowAt cn j g sg := by
  obtain ⟨h1, h2, h3⟩ := signs_ok _ (pgSg_mem cn j)
  obtain ⟨g, sg, hs⟩ : ∃ g sg, pgSg cn j = g :: sg := by
    cases h : pgSg cn j with
    | nil => exact absurd h h1
    | cons g sg => exact ⟨g, sg, rfl⟩
  rw [hs] at h2 h3
  obtain ⟨hg1, hg2⟩ := h3 g rfl
  have hdp : pgDp cn j < 4 := by have := pgDp_le cn j; omega
  obtain ⟨t1, t2, t3, t4⟩ := turn_scan _ hdp _ (pgLd_mem cn j)
  obtain ⟨w1, w2⟩ := lead_ws _ hdp _ (pgLd_mem cn j)
  have hws : ∀ c ∈ pgIn cn j, c = 32 ∨ c = 9 := by unfold pgIn; split <;> assumption
  have hlen : (pgIn cn j).length ≤ 9 := by unfold pgIn; split <;> assumption
  have hsc : Ws.scan (pgIn cn j) = pgWs cn j := by
    unfold pgIn pgWs
    split
    · exact t1
    · rfl
  have hrow : (pgRow cn j).cps.toList = pgIn cn j ++ g :: sg := by
    unfold pgRow
    rw [strOf_app, hs]
    show ((pgIn cn j ++ g :: sg).toArray).toList = _
    simp
  refine ⟨g, sg, hs, hrow, hws, hg1, hg2, hlen, ?_, ?_, hsc⟩
  · have : (pgRow cn j).length = (pgRow cn j).cps.toList.length := by simp [Str.length]
    rw [this, hrow, List.length_append]; omega
  · unfold leadIn
    rw [hrow]
    refine takeWhile_app ?_ fun c hc => ?_
    · unfold wsCh; simp [hg1, hg2]
    · unfold wsCh; rcases hws c hc with rfl | rfl <;> rfl
noncomputable def fW : PV → PV
  | .str x => .obj (Ws.scan (leadIn x)).fs
  | _ => .none
theorem fW_row (cn : Nat → Nat) (j : Nat) : fW (.str (pgRow cn j)) = .obj (pgWs cn j).fs := by
  obtain ⟨g, sg, h⟩ := row_at cn j
  show PV.obj (Ws.scan (leadIn (pgRow cn j))).fs = _
  rw [h.lead, h.scan]

/-! the number of a sign -/
noncomputable abbrev ttT : List (PyData × PyData) := ttD.map fun p => (PyData.str p.1, p.2)
noncomputable def tokB (i : Nat) : Bool := match PySem.Spec.lookup (.str (strOf (signs.getD i []))) ttT with
  | some (.int v) => v == ((7 + i : Nat) : Int)
  | _ => false
theorem tok_all : ∀ i < 48, tokB i = true := by decide +kernel
theorem tok_at {i : Nat} (h : i < 48) : PySem.Spec.lookup (.str (strOf (signs.getD i []))) ttT = some (.int ((7 + i : Nat) : Int)) := by
  have := tok_all i h
  unfold tokB at this
  split at this
  · rename_i v hv
    rw [hv, show v = ((7 + i : Nat) : Int) by simpa using this]
  · cases this
theorem tok_row (cn : Nat → Nat) (j : Nat) : PySem.Spec.lookup (.str (strOf (pgSg cn j))) ttT = some (.int (pgMk cn j)) := tok_at (Nat.mod_lt _ (by omega))
noncomputable def tokOf (x : Str) : Int := match PySem.Spec.lookup (.str (strOf (x.cps.toList.drop (leadIn x).length))) ttT with
  | some (.int v) => v
  | _ => 0
noncomputable def fN (d _d' : PV) : PV := match d with
  | .str x => .int (tokOf x)
  | _ => .none
theorem fN_row (cn : Nat → Nat) (j : Nat) (d' : PV) : fN (.str (pgRow cn j)) d' = .int (pgMk cn j) := by
  obtain ⟨g, sg, h⟩ := row_at cn j
  show PV.int (tokOf (pgRow cn j)) = _
  unfold tokOf
  rw [h.lead, h.row, List.drop_left, ← h.sign, tok_row]

noncomputable def lawρ (cn : Nat → Nat) : List (Str × PV) := [("rows", .list (strsPV (ups (pgRow cn)))), ("above", .list (intsPV (ups (pgAb cn)))), ("numbers", .list (intsPV (ups (pgMk cn))))]

set_option maxHeartbeats 1000000 in
theorem law_a {ns : List Int} {a : Addr} {us : List Value} {cn : Nat → Nat} (hns : IntsAre us ns) (hlen : us.length ≤ 63) (hcn : cells ns = cn) {doc pm : Value} {an : Option Addr} {ct : Value} {L : Addr} {B : Heap} {R : Flow → Shared → Prop} (hA : AOk 5 A) (t : TF w.params B) (hscr : B.IsList a us.toArray)
    (hbm : BMain B) (hC : CodeHd B 149 145) (hT : B.get? 145 = none)
    (h : YX prog w A lawJ (lawC doc pm an ct L B (lawρ cn) []) (lawBody 4) R) : YX prog w A lawJ (lawC doc pm an ct L B [("script", .ref a)] []) (lawBody 0) R := by
  conv => arg 6; whnf
  obtain ⟨_, _, _, _, _, hfP⟩ := fun_page t
  have hpg := page_ok (prog := prog) (w := w) (a := a) hns hlen
  rw [hcn] at hpg
  refine YX.unpack (ds := [.list (strsPV (ups (pgRow cn))), .list (intsPV (ups (pgAb cn))), .list (intsPV (ups (pgMk cn)))]) ["rows", "above", "marks"] hA.1 (.cons (.cons (.cons .nil))) (Ev.cast (Ev.call (gl_page t) hfP (fun h k => ⟨t.keeps k, hscr.at fun o e => k _ o e⟩) (hA.le (by omega)) (EvsF.cons (EvF.of (Ev.name rfl)) EvsF.nil) hpg (.inl rfl)) ?_) ?_
  · unfold pageOut; rw [strsPV_ups, intsPV_ups, intsPV_ups]
  have hr9 : (strsPV (ups (pgRow cn))).length = 9 := by rw [strsPV, List.length_map, ups_len]
  have hrg : ∀ (k : Nat) d, (strsPV (ups (pgRow cn)))[k]? = some d → k < 9 ∧ d = .str (pgRow cn k) := fun k d hd => by
    unfold strsPV at hd
    rw [List.getElem?_map] at hd
    obtain ⟨x, h1, h2⟩ := Option.map_eq_some_iff.mp hd
    obtain ⟨h3, rfl⟩ := ups_inv h1
    exact ⟨h3, h2.symm⟩
  have espaces : List.map fW (List.filter (fun _ => true) (strsPV (ups (pgRow cn)))) = wsPV (ups (pgWs cn)) := by
    rw [List.filter_eq_self.mpr (fun _ _ => rfl)]
    unfold strsPV wsPV ups
    simp only [List.map_map]
    apply List.map_congr_left
    intro j _
    exact fW_row cn j
  refine YX.assignOfComp (CompSem.one [] (fun _ => true) fW rfl ClSub.nil Caps.nil (Itr.list hA.1 (Ev.name rfl)) (by rw [hr9]; omega) (fun C D ys k d hd => Trs.nil) (fun C D ys k d hd _ => ?_)) ?_
  · obtain ⟨_, rfl⟩ := hrg k d hd
    obtain ⟨g, sg, hr⟩ := row_at cn k
    rw [fW_row]
    rw [← hr.scan]
    exact Ev.newWs t (hA.le (by omega)) hr.row hr.ws (by have := hr.len; omega) hr.g1 hr.g2 (Ev.name rfl)
  rw [espaces]
  have hw9 : (wsPV (ups (pgWs cn))).length = 9 := by rw [wsPV, List.length_map, ups_len]
  have hwg : ∀ (k : Nat) d, (wsPV (ups (pgWs cn)))[k]? = some d → k < 9 ∧ d = .obj (pgWs cn k).fs := fun k d hd => by
    unfold wsPV at hd
    rw [List.getElem?_map] at hd
    obtain ⟨x, h1, h2⟩ := Option.map_eq_some_iff.mp hd
    obtain ⟨h3, rfl⟩ := ups_inv h1
    exact ⟨h3, h2.symm⟩
  have enums : List.zipWith fN (strsPV (ups (pgRow cn))) (wsPV (ups (pgWs cn))) = intsPV (ups (pgMk cn)) := by
    apply List.ext_getElem?
    intro j
    rw [List.getElem?_zipWith]
    by_cases hj : j < 9
    · have e1 : (strsPV (ups (pgRow cn)))[j]? = some (.str (pgRow cn j)) := by unfold strsPV; rw [List.getElem?_map, ups_get _ hj]; rfl
      have e2 : (wsPV (ups (pgWs cn)))[j]? = some (.obj (pgWs cn j).fs) := wsPV_get (ups_get _ hj)
      rw [e1, e2, intsPV_get (ups_get _ hj)]
      exact congrArg some (fN_row cn j _)
    · rw [List.getElem?_eq_none (by rw [hr9]; omega), List.getElem?_eq_none (l := intsPV (ups (pgMk cn))) (by rw [intsPV_len, ups_len]; omega)]
  refine YX.assign (EvN.ev (EvN.ofComp (CompSem.cast (CompSem.zip [] fN hA.1 rfl ClSub.nil Caps.nil (gl_zip t) (Evs.cons (Ev.name rfl) (Evs.cons (Ev.name rfl) Evs.nil)) (by rw [hr9, hw9]) (by rw [hr9]; omega) (fun C D ys k d d' hd hd' => ?_) (fun d d' => by cases d <;> rfl)) enums))) ?_
  · obtain ⟨hk, rfl⟩ := hrg k d hd
    obtain ⟨_, rfl⟩ := hwg k d' hd'
    obtain ⟨g, sg, hr⟩ := row_at cn k
    rw [fN_row]
    have hn : (pgWs cn k).n = (pgIn cn k).length := by rw [← hr.scan]; exact (scan_fit _).n
    have hlr : (pgRow cn k).length = (pgRow cn k).cps.toList.length := by simp [Str.length]
    refine Ev.dget (gl_tt t) (fun h k => tt_tab (t.keeps k)) (Ev.strFrom (x := pgRow cn k) (y := strOf (pgSg cn k)) (k := (pgIn cn k).length) (Ev.name rfl) (Ev.cast (Ev.attrN t (Ev.name rfl) .n rfl) (congrArg (fun n : Nat => PV.int (n : Int)) hn)) ?_ ?_ ?_) (tok_row cn k)
    · rw [hlr, hr.row, List.length_append]; omega
    · rw [hr.row, List.drop_left, hr.sign]; rfl
    · have := hr.short; simp [sizeLine]; omega
  refine YX.ifFJ (fun hJ => TrJ.or2 hJ (Tr.cast (Tr.cmp (Ev.name rfl) (Ev.name rfl) (COp.neE (k := 1) hA (Enc.ints (ups (pgMk cn))) (Enc.ints (ups (pgMk cn))) (Small.ints _) (Small.ints _) (by omega))) ?_) (nest_test (pg_nest cn) t hbm hC hT hA (Ev.name rfl) (Ev.name rfl) rfl)) ?_
  · have : PyData.eqv (encInts (ups (pgMk cn))) (encInts (ups (pgMk cn))) = true := by unfold encInts; rw [eqv_ints]; simp
    rw [this]; rfl
  exact YX.to (lawρ cn) (Sub.cons rfl (Sub.cons rfl (Sub.cons rfl Sub.nil))) h
end Mine

end
section
open PySem PySem.W PyProof.Rows PySem.Calls
set_option autoImplicit false
set_option linter.all false
set_option maxRecDepth 100000
namespace Mine
variable {prog : Program} {w : World} {A : Around} {Γ : Cx}

noncomputable def qPV (q : Nat → Bool) : PV → Bool
  | .int i => q i.toNat
  | _ => false
theorem filt_pv (q : Nat → Bool) (n : Nat) : List.map (fun d : PV => d) (List.filter (qPV q) (rng 0 1 n)) = natsPV ((List.range n).filter q) := by
  rw [List.map_id', rng_nats]
  unfold natsPV
  rw [List.filter_map]
  rfl
theorem filt_nats (q : Nat → Bool) (l : List Nat) : List.map (fun d : PV => d) (List.filter (qPV q) (natsPV l)) = natsPV (l.filter q) := by
  rw [List.map_id']
  unfold natsPV
  rw [List.filter_map]
  rfl
theorem rng01 {n j : Nat} {d : PV} (h : (rng 0 1 n)[j]? = some d) : j < n ∧ d = .int (j : Int) := by
  obtain ⟨h1, rfl⟩ := rng_get h
  exact ⟨h1, by congr 1; omega⟩
theorem nats_get {l : List Nat} {j : Nat} {d : PV} (h : (natsPV l)[j]? = some d) : ∃ k, l[j]? = some k ∧ d = .int (k : Int) := by
  unfold natsPV at h
  rw [List.getElem?_map] at h
  obtain ⟨k, h1, h2⟩ := Option.map_eq_some_iff.mp h
  exact ⟨k, h1, h2.symm⟩
noncomputable def endsOf (kids : List (List Nat)) : List Nat := (List.range 9).filter fun p => (kids.getD p []).isEmpty
noncomputable def fKid (ab : List Int) : PV → PV
  | .int i => .list (natsPV ((List.range 9).filter fun k => decide (ab.getD k 0 = i)))
  | _ => .none
noncomputable def fNum (ns : List Int) : PV → PV
  | .int i => .int (num ns i.toNat)
  | _ => .none
theorem map_num (ns : List Int) (l : List Nat) : List.map (fNum ns) (List.filter (fun _ => true) (natsPV l)) = intsPV (l.map (num ns)) := by
  rw [List.filter_eq_self.mpr (fun _ _ => rfl)]
  unfold natsPV intsPV
  rw [List.map_map, List.map_map]
  rfl
theorem ends_iff {kids : List (List Nat)} {e : Nat} : e ∈ endsOf kids ↔ e < 9 ∧ kids.getD e [] = [] := by
  unfold endsOf
  rw [List.mem_filter, List.mem_range, List.isEmpty_iff]
noncomputable def barsOf (ab ns : List Int) : List Int := lay ((endsOf (kidsOf ab)).map (num ns))
theorem bars_len (ab ns : List Int) : (barsOf ab ns).length ≤ 9 := by
  unfold barsOf
  rw [lay_len, List.length_map]
  refine Nat.le_trans (List.length_filter_le _ _) ?_
  rw [List.length_range]; exact Nat.le_refl _
theorem ends_len (kids : List (List Nat)) : (endsOf kids).length ≤ 9 := by
  refine Nat.le_trans (List.length_filter_le _ _) ?_
  rw [List.length_range]; exact Nat.le_refl _

noncomputable def ρ4 (rl : List PV) (ab ns : List Int) : List (Str × PV) := [("rows", .list rl), ("above", .list (intsPV ab)), ("numbers", .list (intsPV ns))]
noncomputable def ρ9 (ab ns : List Int) : List (Str × PV) := [("bars", .list (intsPV (barsOf ab ns))), ("kids", .list (kidsPV (kidsOf ab))), ("ends", .list (natsPV (endsOf (kidsOf ab)))), ("numbers", .list (intsPV ns))]

set_option maxHeartbeats 1000000 in
theorem law_b {rl : List PV} {ab ns : List Int} (hrl : rl.length = 9) (ha : Abv ab) (hal : ab.length = 9) (hnl : ns.length = 9) {doc pm : Value} {an : Option Addr} {ct : Value} {L : Addr} {B : Heap} {R : Flow → Shared → Prop} (hA : AOk 5 A) (t : TF w.params B)
    (h : YX prog w A lawJ (lawC doc pm an ct L B (ρ9 ab ns) []) (lawBody 9) R) : YX prog w A lawJ (lawC doc pm an ct L B (ρ4 rl ab ns) []) (lawBody 4) R := by
  conv => arg 6; whnf
  have hlenE : ∀ (A : Around) (Γ : Cx) (p q r), TF w.params Γ.B → Γ.ρ.lookup ("rows" : Str) = some (.list rl) → Γ.env.kindOf "len" = some .globalImplicit → (starEach [.Name "rows" q] Γ.env = (false, eval (.Name "rows" q) Γ.env) :: starEach [] Γ.env) → (backTo r (starEach [] Γ.env)).any (·.1) = false → Ev prog w A Γ (.Call (.Name "len" p) [.Name "rows" q] [] r) (.int 9) := fun A Γ p q r t hr hk he hp =>
    Ev.cast (Ev.bcall (gl_len t) (Evs.cons (Ev.name hr) Evs.nil he) (BCall.len (by rw [hrl]; decide)) hk he hp) (by rw [hrl]; rfl)
  have hkey : ∀ j, j < 9 → (intsPV ab)[j]? = some (.int (ab.getD j 0)) := fun j hj => intsPV_get (by rw [List.getD_eq_getElem?_getD, List.getElem?_eq_getElem (by omega)]; rfl)
  have hnum : ∀ j, j < 9 → (intsPV ns)[j]? = some (.int (num ns j)) := fun j hj => intsPV_get (by unfold num; rw [List.getD_eq_getElem?_getD, List.getElem?_eq_getElem (by omega)]; rfl)
  have ekids : List.map (fKid ab) (List.filter (fun _ => true) (rng 0 1 9)) = kidsPV (kidsOf ab) := by
    rw [List.filter_eq_self.mpr (fun _ _ => rfl), rng_nats]
    unfold kidsPV kidsOf natsPV
    rw [hal, List.map_map, List.map_map]
    apply List.map_congr_left
    intro j _
    rfl
  refine YX.assign (EvN.ev (EvN.ofComp (CompSem.cast (CompSem.cell [("above", .list (intsPV ab)), ("rows", .list rl)] (fun _ => true) (fKid ab) rfl (ClSub.cons rfl (ClSub.cons rfl ClSub.nil)) (Caps.cons rfl (Caps.cons rfl Caps.nil))
    (Itr.cast (Itr.range1 hA.1 (gl_range t) (hlenE _ _ _ _ _ t rfl rfl rfl rfl) (by omega)) (ds' := rng 0 1 9) rfl) (by rw [rng_len]; omega) (fun C c D ys k d hd => Trs.nil) (fun C c D ys k d hd _ => ?_) (by intro p hp; simp only [List.mem_cons, List.not_mem_nil, or_false] at hp; rcases hp with rfl | rfl <;> rfl)) ekids))) ?_
  · obtain ⟨hk, rfl⟩ := rng01 hd
    refine Ev.cast (EvN.ev (EvN.comp [("above", .list (intsPV ab)), ("place", .int (k : Int))] (qPV fun j => decide (ab.getD j 0 = (k : Int))) (fun d => d) rfl (ClSub.cons rfl (ClSub.cons rfl ClSub.nil)) (Caps.cons rfl (Caps.cons rfl Caps.nil))
      (Itr.cast (Itr.range1 hA.1 (gl_range t) (hlenE _ _ _ _ _ t rfl rfl rfl rfl) (by omega)) (ds' := rng 0 1 9) rfl) (by rw [rng_len]; omega) (fun C D ys j d hd => ?_) (fun C D ys j d hd _ => Ev.name rfl))) (congrArg PV.list (filt_pv _ 9))
    obtain ⟨hj, rfl⟩ := rng01 hd
    exact Trs.one (Tr.cmp (Ev.idx (k := (j : Int)) (LV.of (Ev.name rfl)) (Ev.name rfl) (by rw [pyIdx_nat]; exact hkey j hj) (by omega)) (Ev.name rfl) COp.eq)
  -- ends
  have hkv : ∀ j, j < 9 → (kidsPV (kidsOf ab))[j]? = some (.list (natsPV ((kidsOf ab).getD j []))) := fun j hj => by
    unfold kidsPV
    rw [List.getElem?_map, List.getD_eq_getElem?_getD, List.getElem?_eq_getElem (by rw [kidsOf_len]; omega)]; rfl
  refine YX.assignOfComp (CompSem.cast (CompSem.one [("kids", .list (kidsPV (kidsOf ab)))] (qPV fun p => ((kidsOf ab).getD p []).isEmpty) (fun d => d) rfl (ClSub.cons rfl ClSub.nil) (Caps.cons rfl Caps.nil)
    (Itr.cast (Itr.range1 hA.1 (gl_range t) (hlenE _ _ _ _ _ t rfl rfl rfl rfl) (by omega)) (ds' := rng 0 1 9) rfl) (by rw [rng_len]; omega) (fun C D ys j d hd => ?_) (fun C D ys j d hd _ => Ev.name rfl)) (filt_pv _ 9)) ?_
  · obtain ⟨hj, rfl⟩ := rng01 hd
    refine Trs.one (Tr.cast (Tr.cmp (Ev.idx (k := (j : Int)) (LV.of (Ev.name rfl)) (Ev.name rfl) (by rw [pyIdx_nat]; exact hkv j hj) (by omega)) (Ev.list Evs.nil) (COp.eqE hA (Enc.map (fun k : Nat => Enc.int (k : Int)) _) (Enc.list (ds := []) (ps := []) rfl (fun i d p h1 h2 => by simp at h1)) (Small.list (k := 0) fun p hp => by obtain ⟨b, _, rfl⟩ := List.mem_map.mp hp; exact Small.int b) (Small.list (k := 0) fun p hp => absurd hp List.not_mem_nil) (by omega))) ?_)
    rw [eqv_nil]
    show _ = ((kidsOf ab).getD j []).isEmpty
    cases (kidsOf ab).getD j [] <;> rfl
  -- bars
  generalize hE : endsOf (kidsOf ab) = ends
  have hel : ends.length ≤ 9 := hE ▸ ends_len _
  have hem : ∀ e ∈ ends, e < 9 := fun e he => (ends_iff.mp (hE ▸ he)).1
  have hend : endsOf (kidsOf ab) = (List.range 9).filter fun p => ((kidsOf ab).getD p []).isEmpty := rfl
  rw [← hend, hE]
  refine YX.assignNew EvN.nil fun a6 => ?_
  refine YX.weak (Γ' := lawC doc pm an ct L B [("ends", .list (natsPV ends)), ("kids", .list (kidsPV (kidsOf ab))), ("numbers", .list (intsPV ns)), ("bars", .ref a6)] [(a6, intsPV (lay ((ends.take 0).map (num ns))))]) ?_ (fun hp ok => ok.to (Sub.cons rfl (Sub.cons rfl (Sub.cons rfl (Sub.cons rfl Sub.nil)))))
  refine YX.step (S.forN (fun k => lawC doc pm an ct L B [("ends", .list (natsPV ends)), ("kids", .list (kidsPV (kidsOf ab))), ("numbers", .list (intsPV ns)), ("bars", .ref a6)] [(a6, intsPV (lay ((ends.take k).map (num ns))))]) (ds := natsPV ends) (Itr.list hA.1 (Ev.name rfl)) (fun _ => rfl) (fun _ => rfl) (fun _ => rfl) (fun _ => rfl) (fun k d hd => ?_)) ?_
  · obtain ⟨e, he, rfl⟩ := nats_get hd
    have he9 := hem e (List.mem_of_getElem? he)
    have e1 : lay ((ends.take (k + 1)).map (num ns)) = ins (lay ((ends.take k).map (num ns))) (num ns e) := by
      rw [List.take_add_one, he, List.map_append]; exact lay_snoc _ _
    rw [e1]
    refine X.stepL (S.insort 0 t (hA.le (by omega)) (Evs.cons (Ev.name rfl) (Evs.cons (Ev.idx (k := (e : Int)) (LV.of (Ev.name rfl)) (Ev.name rfl) (by rw [pyIdx_nat]; exact hnum e he9) (by omega)) Evs.nil)) (sorted_of (lay_pw _)) ?_) fun s' ok => ⟨rfl, ok.to (Sub.cons rfl (Sub.cons rfl (Sub.cons rfl (Sub.cons rfl Sub.nil))))⟩
    rw [lay_len, List.length_map, List.length_take]; omega
  have hbars : lay ((ends.take (natsPV ends).length).map (num ns)) = barsOf ab ns := by
    rw [natsPV_len, List.take_length, ← hE]; rfl
  rw [hbars]
  refine YX.freeze [] [] a6 _ [("bars", .list (intsPV (barsOf ab ns))), ("ends", .list (natsPV ends)), ("kids", .list (kidsPV (kidsOf ab))), ("numbers", .list (intsPV ns))] rfl (fun x d e => ?_) ?_
  · have := PySem.mem_of_lookup e
    simp only [List.mem_cons, Prod.mk.injEq, List.not_mem_nil, or_false] at this
    rcases this with ⟨rfl, rfl⟩ | ⟨rfl, rfl⟩ | ⟨rfl, rfl⟩ | ⟨rfl, rfl⟩
    · exact .inr ⟨rfl, rfl⟩
    · exact .inl rfl
    · exact .inl rfl
    · exact .inl rfl
  refine YX.ifF (Tr.cast (Tr.cmp (Ev.name rfl) (Ev.bcall (gl_sorted t) (Evs.cons (Ev.cast (EvN.ev (EvN.comp [("numbers", .list (intsPV ns))] (fun _ => true) (fNum ns) rfl (ClSub.cons rfl ClSub.nil) (Caps.cons rfl Caps.nil) (Itr.list hA.1 (Ev.name rfl)) (by rw [natsPV_len]; omega) (fun C D ys k d hd => Trs.nil) (fun C D ys k d hd _ => ?_))) (congrArg PV.list (map_num ns ends))) Evs.nil) (BCall.sorted (ns' := barsOf ab ns) ?_ (lay_pw _) ?_)) (COp.neE (k := 1) hA (Enc.ints _) (Enc.ints _) (Small.ints _) (Small.ints _) (by omega))) ?_) ?_
  · obtain ⟨e, he, rfl⟩ := nats_get hd
    have he9 := hem e (List.mem_of_getElem? he)
    exact Ev.idx (k := (e : Int)) (LV.of (Ev.name rfl)) (Ev.name rfl) (by rw [pyIdx_nat]; exact hnum e he9) (by omega)
  · rw [← hE]; exact lay_perm _
  · rw [List.length_map]; omega
  · have : PyData.eqv (encInts (barsOf ab ns)) (encInts (barsOf ab ns)) = true := by unfold encInts; rw [eqv_ints]; simp
    rw [this]; rfl
  refine YX.to (ρ9 ab ns) (Sub.cons rfl (Sub.cons rfl (Sub.cons (by rw [hE]; rfl) (Sub.cons rfl Sub.nil)))) h
end Mine

end
section
open PySem PySem.W PyProof.Rows PySem.Calls
set_option autoImplicit false
set_option linter.all false
set_option maxRecDepth 100000
namespace Mine
variable {prog : Program} {w : World} {A : Around} {Γ : Cx}

noncomputable def iOf : PV → Int
  | .int i => i
  | _ => 0
noncomputable def fMin (ns : List Int) : PV → PV
  | .list l => .int (lmin (l.map fun d => num ns (iOf d).toNat))
  | _ => .none
noncomputable def fMax (ns : List Int) : PV → PV
  | .list l => .int (lmax (l.map fun d => num ns (iOf d).toNat))
  | _ => .none
theorem nums_of (ns : List Int) (p : List Nat) : (natsPV p).map (fun d => num ns (iOf d).toNat) = p.map (num ns) := by
  unfold natsPV
  rw [List.map_map]
  rfl
theorem fMin_at (ns : List Int) (p : List Nat) : fMin ns (.list (natsPV p)) = .int (lmin (p.map (num ns))) := by
  show PV.int _ = _
  rw [nums_of]
theorem fMax_at (ns : List Int) (p : List Nat) : fMax ns (.list (natsPV p)) = .int (lmax (p.map (num ns))) := by
  show PV.int _ = _
  rw [nums_of]
theorem map_min (ns : List Int) (ps : List (List Nat)) : List.map (fMin ns) (List.filter (fun _ => true) (plansPV ps)) = (ps.map fun p => lmin (p.map (num ns))).map .int := by
  rw [List.filter_eq_self.mpr (fun _ _ => rfl)]
  unfold plansPV
  rw [List.map_map, List.map_map]
  apply List.map_congr_left
  intro p _
  exact fMin_at ns p
theorem map_max (ns : List Int) (ps : List (List Nat)) : List.map (fMax ns) (List.filter (fun _ => true) (plansPV ps)) = (ps.map fun p => lmax (p.map (num ns))).map .int := by
  rw [List.filter_eq_self.mpr (fun _ _ => rfl)]
  unfold plansPV
  rw [List.map_map, List.map_map]
  apply List.map_congr_left
  intro p _
  exact fMax_at ns p
theorem plans_get {ps : List (List Nat)} {j : Nat} {d : PV} (h : (plansPV ps)[j]? = some d) : ∃ p, p ∈ ps ∧ d = .list (natsPV p) := by
  obtain ⟨p, h1, h2⟩ := List.mem_map.mp (List.mem_of_getElem? h)
  exact ⟨p, h1, h2.symm⟩
/-- what the law keeps of the plans -/
structure Plans (ns : List Int) (ps : List (List Nat)) : Prop where
  few : ps.length ≤ 2 ^ 20
  len : ∀ p ∈ ps, p.length ≤ 9
  ne : ∀ p ∈ ps, p ≠ []
  lt : ∀ p ∈ ps, ∀ e ∈ p, e < 9

/-- max and min of the plans -/
theorem law_sure {ps : List (List Nat)} {ns : List Int} {doc pm : Value} {an : Option Addr} {ct : Value} {L : Addr} {B : Heap} {ρ : List (Str × PV)} {W : Int} (hp : Plans ns ps) (hA : A.handled = none) (t : TF w.params B) (hnl : ns.length = 9)
    (h1 : ρ.lookup ("numbers" : Str) = some (.list (intsPV ns))) (h2 : ρ.lookup ("much" : Str) = some (.list (plansPV ps))) (hW : W ∈ ps.map fun p => lmin (p.map (num ns))) (hle : ∀ a ∈ ps.map fun p => lmin (p.map (num ns)), a ≤ W) {R : Flow → Shared → Prop}
    (h : YX prog w A lawJ ((lawC doc pm an ct L B ρ []).set "sure" (.int W)) (lawBody 13) R) : YX prog w A lawJ (lawC doc pm an ct L B ρ []) (lawBody 12) R := by
  conv => arg 6; whnf
  have hnum : ∀ j, j < 9 → (intsPV ns)[j]? = some (.int (num ns j)) := fun j hj => intsPV_get (by unfold num; rw [List.getD_eq_getElem?_getD, List.getElem?_eq_getElem (by omega)]; rfl)
  refine YX.assign (Ev.bcall (gl_max t) (Evs.cons (Ev.cast (EvN.ev (EvN.comp [("numbers", .list (intsPV ns))] (fun _ => true) (fMin ns) rfl (ClSub.cons rfl ClSub.nil) (Caps.cons h1 Caps.nil) (Itr.list hA (Ev.name h2)) (by rw [plansPV, List.length_map]; exact hp.few) (fun C D ys k d hd => Trs.nil) (fun C D ys k d hd _ => ?_))) (congrArg PV.list (map_min ns ps))) Evs.nil) (BCall.maxL hA hW hle)) h
  obtain ⟨p, hpm, rfl⟩ := plans_get hd
  rw [fMin_at]
  have hne : p.map (num ns) ≠ [] := by simpa using hp.ne p hpm
  refine Ev.bcall (gl_min t) (Evs.cons (Ev.cast (EvN.ev (EvN.comp [("numbers", .list (intsPV ns))] (fun _ => true) (fNum ns) rfl (ClSub.cons rfl ClSub.nil) (Caps.cons rfl Caps.nil) (Itr.list hA (Ev.name rfl)) (by rw [natsPV_len]; have := hp.len p hpm; omega) (fun C D ys k d hd => Trs.nil) (fun C D ys k d hd _ => ?_))) (congrArg PV.list (map_num ns p))) Evs.nil) (BCall.minL hA (lmin_mem hne) fun a ha => lmin_le ha)
  obtain ⟨e, he, rfl⟩ := nats_get hd
  have he9 := hp.lt p hpm e (List.mem_of_getElem? he)
  exact Ev.idx (k := (e : Int)) (LV.of (Ev.name rfl)) (Ev.name rfl) (by rw [pyIdx_nat]; exact hnum e he9) (by omega)
theorem law_granted {ps : List (List Nat)} {ns : List Int} {doc pm : Value} {an : Option Addr} {ct : Value} {L : Addr} {B : Heap} {ρ : List (Str × PV)} {W : Int} (hp : Plans ns ps) (hA : A.handled = none) (t : TF w.params B) (hnl : ns.length = 9)
    (h1 : ρ.lookup ("numbers" : Str) = some (.list (intsPV ns))) (h2 : ρ.lookup ("little" : Str) = some (.list (plansPV ps))) (hW : W ∈ ps.map fun p => lmax (p.map (num ns))) (hle : ∀ a ∈ ps.map fun p => lmax (p.map (num ns)), W ≤ a) {R : Flow → Shared → Prop}
    (h : YX prog w A lawJ ((lawC doc pm an ct L B ρ []).set "granted" (.int W)) (lawBody 14) R) : YX prog w A lawJ (lawC doc pm an ct L B ρ []) (lawBody 13) R := by
  conv => arg 6; whnf
  have hnum : ∀ j, j < 9 → (intsPV ns)[j]? = some (.int (num ns j)) := fun j hj => intsPV_get (by unfold num; rw [List.getD_eq_getElem?_getD, List.getElem?_eq_getElem (by omega)]; rfl)
  refine YX.assign (Ev.bcall (gl_min t) (Evs.cons (Ev.cast (EvN.ev (EvN.comp [("numbers", .list (intsPV ns))] (fun _ => true) (fMax ns) rfl (ClSub.cons rfl ClSub.nil) (Caps.cons h1 Caps.nil) (Itr.list hA (Ev.name h2)) (by rw [plansPV, List.length_map]; exact hp.few) (fun C D ys k d hd => Trs.nil) (fun C D ys k d hd _ => ?_))) (congrArg PV.list (map_max ns ps))) Evs.nil) (BCall.minL hA hW hle)) h
  obtain ⟨p, hpm, rfl⟩ := plans_get hd
  rw [fMax_at]
  have hne : p.map (num ns) ≠ [] := by simpa using hp.ne p hpm
  refine Ev.bcall (gl_max t) (Evs.cons (Ev.cast (EvN.ev (EvN.comp [("numbers", .list (intsPV ns))] (fun _ => true) (fNum ns) rfl (ClSub.cons rfl ClSub.nil) (Caps.cons rfl Caps.nil) (Itr.list hA (Ev.name rfl)) (by rw [natsPV_len]; have := hp.len p hpm; omega) (fun C D ys k d hd => Trs.nil) (fun C D ys k d hd _ => ?_))) (congrArg PV.list (map_num ns p))) Evs.nil) (BCall.maxL hA (lmax_mem hne) fun a ha => le_lmax_of ha)
  obtain ⟨e, he, rfl⟩ := nats_get hd
  have he9 := hp.lt p hpm e (List.mem_of_getElem? he)
  exact Ev.idx (k := (e : Int)) (LV.of (Ev.name rfl)) (Ev.name rfl) (by rw [pyIdx_nat]; exact hnum e he9) (by omega)
end Mine

end
section
open PySem PySem.W PyProof.Rows PySem.Calls
set_option autoImplicit false
set_option linter.all false
set_option maxRecDepth 100000
namespace Mine
variable {prog : Program} {w : World} {A : Around} {Γ : Cx}

noncomputable def bUp (ns : List Int) (bar : Int) (e : Nat) : Bool := !(decide (256 ≤ 256 + num ns e - bar) == true)
noncomputable def bDn (ns : List Int) (bar : Int) (e : Nat) : Bool := !(decide (256 + num ns e - bar < 256) == true)
noncomputable def pAll (q : Nat → Bool) : PV → Bool
  | .list l => (l.filter (qPV q)).isEmpty
  | _ => false
theorem pAll_at (q : Nat → Bool) (p : List Nat) : pAll q (.list (natsPV p)) = (p.filter q).isEmpty := by
  have h := filt_nats q p
  rw [List.map_id'] at h
  show ((natsPV p).filter (qPV q)).isEmpty = _
  rw [h]
  cases p.filter q <;> rfl
theorem filt_plans (q : Nat → Bool) (ps : List (List Nat)) : List.map (fun d : PV => d) (List.filter (pAll q) (plansPV ps)) = plansPV (ps.filter fun p => (p.filter q).isEmpty) := by
  rw [List.map_id']
  unfold plansPV
  rw [List.filter_map]
  congr 1
  apply List.filter_congr
  intro p _
  exact pAll_at q p
theorem some_plan {q : Nat → Bool} {Q : Nat → Prop} {ps : List (List Nat)} {b : Prop} [Decidable b] (hq : ∀ e, q e = false ↔ Q e) (hb : Has Q ps ↔ b) : (!(ps.filter fun p => (p.filter q).isEmpty).isEmpty) = decide b := by
  rw [Bool.eq_iff_iff, decide_eq_true_iff, ← hb]
  unfold Has
  rw [Bool.not_eq_true', List.isEmpty_eq_false_iff_exists_mem]
  constructor
  · rintro ⟨p, hp⟩
    obtain ⟨h1, h2⟩ := List.mem_filter.mp hp
    refine ⟨p, h1, fun e he => (hq e).mp ?_⟩
    rw [List.isEmpty_iff, List.filter_eq_nil_iff] at h2
    have := h2 e he
    simpa using this
  · rintro ⟨p, h1, h2⟩
    refine ⟨p, List.mem_filter.mpr ⟨h1, ?_⟩⟩
    rw [List.isEmpty_iff, List.filter_eq_nil_iff]
    intro e he
    have := (hq e).mpr (h2 e he)
    simp [this]
theorem bUp_iff {ns : List Int} {bar : Int} (e : Nat) : bUp ns bar e = false ↔ bar ≤ ns.getD e 0 := by
  unfold bUp num
  generalize ns.getD e 0 = x
  by_cases h : bar ≤ x
  · rw [decide_eq_true (by omega)]; simp [h]
  · rw [decide_eq_false (by omega)]; simp; omega
theorem bDn_iff {ns : List Int} {bar : Int} (e : Nat) : bDn ns bar e = false ↔ ns.getD e 0 < bar := by
  unfold bDn num
  generalize ns.getD e 0 = x
  by_cases h : x < bar
  · rw [decide_eq_true (by omega)]; simp [h]
  · rw [decide_eq_false (by omega)]; simp; omega

theorem enc_nats (l : List Nat) : Enc (.list (natsPV l)) (encInts (l.map fun k : Nat => (k : Int))) := by
  have := Enc.ints (l.map fun k : Nat => (k : Int))
  rw [List.map_map] at this; exact this
theorem enc_plans (ps : List (List Nat)) : Enc (.list (plansPV ps)) (.list (ps.map fun p => encInts (p.map fun k : Nat => (k : Int)))) := Enc.map enc_nats ps
theorem small_plans (ps : List (List Nat)) : Small 2 (.list (ps.map fun p => encInts (p.map fun k : Nat => (k : Int)))) := Small.list (k := 1) fun p hp => by
  obtain ⟨q, _, rfl⟩ := List.mem_map.mp hp; exact Small.ints _
theorem enc_nil : Enc (.list []) (.list []) := Enc.list (ds := []) (ps := []) rfl fun i d p h1 h2 => by simp at h1
theorem small_nil (k : Nat) : Small (k + 1) (.list []) := Small.list (k := k) fun p hp => absurd hp List.not_mem_nil

/-- the test upon one plan: [end for end in plan if F(256 + numbers[end] - bar) is not True] == [] -/
theorem Tr.plan {n : Nat} {q : Nat → Bool} {p : List Nat} {e : Expr} {lp pos : Pos} (hA : AOk n A) (h1 : Ev prog w A Γ e (.list (natsPV (p.filter q)))) (hm : behindInMarks .Eq (.List [] lp) = false := by with_unfolding_all rfl) : Tr prog w A Γ (.Compare e [.Eq] [.List [] lp] pos) (pAll q (.list (natsPV p))) := by
  refine Tr.cast (Tr.cmp h1 (Ev.list Evs.nil) (COp.eqE (k := 1) hA (enc_nats _) enc_nil (Small.ints _) (small_nil 0) (by omega)) hm) ?_
  unfold encInts
  rw [eqv_nil, pAll_at]
  cases p.filter q <;> rfl
theorem Ev.some {n : Nat} {ps : List (List Nat)} {e : Expr} {lp pos : Pos} (hA : AOk n A) (h1 : Ev prog w A Γ e (.list (plansPV ps))) (hm : behindInMarks .NotEq (.List [] lp) = false := by with_unfolding_all rfl) : Ev prog w A Γ (.Compare e [.NotEq] [.List [] lp] pos) (.bool (!ps.isEmpty)) := by
  refine Ev.cast (Ev.cmp h1 (Ev.list Evs.nil) (COp.neE (k := 2) hA (enc_plans _) enc_nil (small_plans _) (small_nil 1) (by omega)) hm) ?_
  rw [eqv_nil]
  cases ps <;> rfl

noncomputable def ρ14 (bs ns : List Int) (ends : List Nat) (mu li : List (List Nat)) (W : Int) : List (Str × PV) :=
  [("worth", .int W), ("granted", .int W), ("much", .list (plansPV mu)), ("little", .list (plansPV li)), ("bars", .list (intsPV bs)), ("ends", .list (natsPV ends)), ("numbers", .list (intsPV ns))]

set_option maxHeartbeats 1000000 in
theorem law_loop {bs ns : List Int} {ends : List Nat} {mu li : List (List Nat)} {W : Int} {doc pm : Value} {an : Option Addr} {ct : Value} {L : Addr} {B : Heap} {R : Flow → Shared → Prop} (hm : Plans ns mu) (hl : Plans ns li) (hA : AOk 3 A) (t : TF w.params B) (hnl : ns.length = 9) (hbs : bs.length ≤ 9) (hb0 : bs ≠ [])
    (hup : ∀ bar, (Has (fun e => bar ≤ ns.getD e 0) mu ↔ bar ≤ W)) (hdn : ∀ bar, (Has (fun e => ns.getD e 0 < bar) li ↔ W < bar))
    (h : YX prog w A lawJ (lawC doc pm an ct L B (ρ14 bs ns ends mu li W) []) (lawBody 16) R) : YX prog w A lawJ (lawC doc pm an ct L B (ρ14 bs ns ends mu li W) []) (lawBody 15) R := by
  conv => arg 6; whnf
  have hnum : ∀ j, j < 9 → (intsPV ns)[j]? = Option.some (.int (num ns j)) := fun j hj => intsPV_get (by unfold num; rw [List.getD_eq_getElem?_getD, List.getElem?_eq_getElem (by omega)]; rfl)
  obtain ⟨_, _, _, _, _, hfI⟩ := fun_isn t
  obtain ⟨_, _, _, _, _, hfT⟩ := fun_term t
  obtain ⟨lb, hlb⟩ : ∃ lb, bs[bs.length - 1]? = Option.some lb := by
    have := List.length_pos_iff.mpr hb0
    exact ⟨bs[bs.length - 1]'(by omega), by simp [show bs.length - 1 < bs.length by omega]⟩
  have hb1 := List.length_pos_iff.mpr hb0
  have hdata : ∀ (k : Nat) d, (intsPV bs ++ [.int (lb + 1)])[k]? = Option.some d → ∃ b, d = .int b := fun k d hd => by
    have hmem := List.mem_of_getElem? hd
    rcases List.mem_append.mp hmem with hmem | hmem
    · obtain ⟨b, _, rfl⟩ := List.mem_map.mp hmem; exact ⟨b, rfl⟩
    · rw [List.mem_singleton.mp hmem]; exact ⟨_, rfl⟩
  refine YX.step (S.forN (fun _ => lawC doc pm an ct L B (ρ14 bs ns ends mu li W) []) (ds := intsPV bs ++ [.int (lb + 1)]) (Itr.list hA.1 (Ev.addList (LV.of (Ev.name rfl)) (LV.of (Ev.list (Evs.cons (Ev.bin (Ev.idx (k := -1) (LV.of (Ev.name rfl)) (Ev.neg Ev.int) (by rw [pyIdx_last, intsPV_len]; exact intsPV_get hlb) (by rw [intsPV_len]; omega)) Ev.int BOp.add) Evs.nil))) (by rw [intsPV_len]; simp [sizeLine]; omega)))
    (fun _ => rfl) (fun _ => rfl) (fun _ => rfl) (fun _ => rfl) (fun k d hd => ?_)) h
  obtain ⟨b, rfl⟩ := hdata k d hd
  -- up
  refine X.step (S.assignOfComp (CompSem.cast (CompSem.one [("bar", .int b), ("numbers", .list (intsPV ns))] (pAll (bUp ns b)) (fun d => d) rfl (ClSub.cons rfl (ClSub.cons rfl ClSub.nil)) (Caps.cons rfl (Caps.cons rfl Caps.nil)) (Itr.list hA.1 (Ev.name rfl)) (by rw [plansPV, List.length_map]; exact hm.few) (fun C D ys j d hd => ?_) (fun C D ys j d hd _ => Ev.name rfl)) (filt_plans _ mu))) ?_
  · obtain ⟨p, hpm, rfl⟩ := plans_get hd
    refine Trs.one (Tr.plan hA (Ev.cast (EvN.ev (EvN.comp [("bar", .int b), ("numbers", .list (intsPV ns))] (qPV (bUp ns b)) (fun d => d) rfl (ClSub.cons rfl (ClSub.cons rfl ClSub.nil)) (Caps.cons rfl (Caps.cons rfl Caps.nil)) (Itr.list hA.1 (Ev.name rfl)) (by rw [natsPV_len]; have := hm.len p hpm; omega) (fun C D ys k d hd => ?_) (fun C D ys k d hd _ => Ev.name rfl))) (congrArg PV.list (filt_nats _ p))))
    obtain ⟨e, he, rfl⟩ := nats_get hd
    have he9 := hm.lt p hpm e (List.mem_of_getElem? he)
    exact Trs.one (Tr.cmp (Ev.call (gl_isn t) hfI (fun h k => t.keeps k) (hA.le (by omega)) (EvsF.cons (EvF.of (Ev.bin (Ev.bin Ev.int (Ev.idx (k := (e : Int)) (LV.of (Ev.name rfl)) (Ev.name rfl) (by rw [pyIdx_nat]; exact hnum e he9) (by omega)) BOp.add) (Ev.name rfl) BOp.sub)) EvsF.nil) isnonterm (.inr rfl)) Ev.bool COp.isNotB)
  -- down
  refine X.step (S.assignOfComp (CompSem.cast (CompSem.one [("bar", .int b), ("numbers", .list (intsPV ns))] (pAll (bDn ns b)) (fun d => d) rfl (ClSub.cons rfl (ClSub.cons rfl ClSub.nil)) (Caps.cons rfl (Caps.cons rfl Caps.nil)) (Itr.list hA.1 (Ev.name rfl)) (by rw [plansPV, List.length_map]; exact hl.few) (fun C D ys j d hd => ?_) (fun C D ys j d hd _ => Ev.name rfl)) (filt_plans _ li))) ?_
  · obtain ⟨p, hpm, rfl⟩ := plans_get hd
    refine Trs.one (Tr.plan hA (Ev.cast (EvN.ev (EvN.comp [("bar", .int b), ("numbers", .list (intsPV ns))] (qPV (bDn ns b)) (fun d => d) rfl (ClSub.cons rfl (ClSub.cons rfl ClSub.nil)) (Caps.cons rfl (Caps.cons rfl Caps.nil)) (Itr.list hA.1 (Ev.name rfl)) (by rw [natsPV_len]; have := hl.len p hpm; omega) (fun C D ys k d hd => ?_) (fun C D ys k d hd _ => Ev.name rfl))) (congrArg PV.list (filt_nats _ p))))
    obtain ⟨e, he, rfl⟩ := nats_get hd
    have he9 := hl.lt p hpm e (List.mem_of_getElem? he)
    exact Trs.one (Tr.cmp (Ev.call (gl_ist t) hfT (fun h k => t.keeps k) (hA.le (by omega)) (EvsF.cons (EvF.of (Ev.bin (Ev.bin Ev.int (Ev.idx (k := (e : Int)) (LV.of (Ev.name rfl)) (Ev.name rfl) (by rw [pyIdx_nat]; exact hnum e he9) (by omega)) BOp.add) (Ev.name rfl) BOp.sub)) EvsF.nil) isterm (.inr rfl)) Ev.bool COp.isNotB)
  refine X.ifF (Tr.cast (Tr.or (b := false) (c := false) (Tr.cast (Tr.cmp (Ev.some hA (Ev.name rfl)) (Ev.cmp (Ev.name rfl) (Ev.name rfl) COp.le) (COp.neB hA)) ?_) fun _ => Tr.cast (Tr.or (b := false) (c := false) (Tr.cast (Tr.cmp (Ev.some hA (Ev.name rfl)) (Ev.cmp (Ev.name rfl) (Ev.name rfl) COp.gt) (COp.neB hA)) ?_) fun _ => Tr.or_nil) rfl) rfl) ?_
  · rw [some_plan (bUp_iff (ns := ns) (bar := b)) (hup b)]; simp
  · rw [some_plan (bDn_iff (ns := ns) (bar := b)) (hdn b)]; simp
  · exact X.nil fun s ok => ⟨rfl, ok.to (Sub.cons rfl (Sub.cons rfl (Sub.cons rfl (Sub.cons rfl (Sub.cons rfl (Sub.cons rfl (Sub.cons rfl Sub.nil)))))))⟩
end Mine

end
section
open PySem PySem.W PyProof.Rows PySem.Calls
set_option autoImplicit false
set_option linter.all false
set_option maxRecDepth 100000
namespace Mine
variable {prog : Program} {w : World} {A : Around} {Γ : Cx}

theorem plans_good {ab ns : List Int} (ha : Abv ab) (hal : ab.length = 9) (hnl : ns.length = 9) (side : Int) : Plans ns (plOf ab ns side 0) := by
  have hg := pl_good (ns := ns) ha hal hnl side 0 (by omega)
  have hs := sz_le ha (i := 0) (by omega)
  refine ⟨Nat.le_trans hg.few (Nat.pow_le_pow_right (by omega) (by omega)), fun p hp => ?_, fun p hp => ?_, fun p hp e he => ?_⟩
  · have := (hg.mem p hp).1; omega
  · have := (hg.mem p hp).2.1
    intro q; subst q; simp at this
  · have := (hg.mem p hp).2.2 e he
    have := (kidsOf_inv this).1; omega
theorem worth_in {ab ns : List Int} (ha : Abv ab) (hal : ab.length = 9) (hnl : ns.length = 9) : val (kidsOf ab) ns 0 ∈ barsOf ab ns := by
  obtain ⟨e, h1, h2, h3⟩ := val_mem (tree_ok ha hal hnl) 0 (by omega)
  refine (lay_perm _).mem_iff.mpr (List.mem_map.mpr ⟨e, ends_iff.mpr ⟨h1, ?_⟩, h3⟩)
  rw [List.getD_eq_getElem?_getD, h2]; rfl

theorem isTrue_is (b : Bool) : (b == true) = b := by cases b <;> rfl

set_option maxHeartbeats 1000000 in
theorem law_c {ab ns : List Int} (ha : Abv ab) (hal : ab.length = 9) (hnl : ns.length = 9) {doc pm : Value} {an : Option Addr} {ct : Value} {L : Addr} {B : Heap} (hA : AOk 5 A) (t : TF w.params B)
    (hbm : BMain B) (hC : CodeHd B 164 162) (hT : B.get? 162 = none) :
    YX prog w A lawJ (lawC doc pm an ct L B (ρ9 ab ns) []) (lawBody 9) (fun f s' => (∀ b o, B.get? b = some o → s'.heap.get? b = some o) ∧ retOf f = .bool true) := by
  conv => arg 6; whnf
  have ht := tree_ok (ns := ns) ha hal hnl
  have hWb := worth_in (ns := ns) ha hal hnl
  have hpw : (barsOf ab ns).Pairwise (· ≤ ·) := lay_pw _
  have hbl := bars_len ab ns
  obtain ⟨w1, w2, w3, w4⟩ := worth_at hpw hWb
  have he0 := plan_eq (ns := ns) ha hal hnl 0
  have he1 := plan_eq (ns := ns) ha hal hnl 1
  have hp0 := plans_good (ns := ns) ha hal hnl 0
  have hp1 := plans_good (ns := ns) ha hal hnl 1
  obtain ⟨_, _, _, _, _, hfP⟩ := fun_plans t
  obtain ⟨_, _, _, _, _, hfE⟩ := fun_ise t
  have hs := sure_eq ht he0 hp0.ne
  have hg := grant_eq ht he1 hp1.ne
  have hup : ∀ bar, (Has (fun e => bar ≤ ns.getD e 0) (plOf ab ns 0 0) ↔ bar ≤ val (kidsOf ab) ns 0) := fun bar => plan_up ht he0 bar 0 ht.pos
  have hdn : ∀ bar, (Has (fun e => ns.getD e 0 < bar) (plOf ab ns 1 0) ↔ val (kidsOf ab) ns 0 < bar) := fun bar => plan_down ht he1 bar 0 ht.pos
  refine YX.stepJ (worth_st (kids := kidsOf ab) (ns := ns) (bs := barsOf ab ns) (n := 9) (r := cntLe (barsOf ab ns) (val (kidsOf ab) ns 0)) (W := val (kidsOf ab) ns 0) ht (hA.le (by omega)) t hbm hC hT rfl rfl rfl (cntLe_le _ _) w1 w3 w4 (by omega) w2) ?_
  generalize val (kidsOf ab) ns 0 = W at *
  refine YX.assign (Ev.call (gl_plans t) hfP (fun h k => t.keeps k) (hA.le (by omega)) (EvsF.cons (EvF.of (Ev.name rfl)) (EvsF.cons (EvF.of (Ev.name rfl)) (EvsF.cons (EvF.of Ev.int) EvsF.nil))) (plans_ok ht he0) (.inl rfl)) ?_
  refine YX.assign (Ev.call (gl_plans t) hfP (fun h k => t.keeps k) (hA.le (by omega)) (EvsF.cons (EvF.of (Ev.name rfl)) (EvsF.cons (EvF.of (Ev.name rfl)) (EvsF.cons (EvF.of Ev.int) EvsF.nil))) (plans_ok ht he1) (.inl rfl)) ?_
  refine law_sure hp0 hA.1 t hnl rfl rfl hs.1 hs.2 (law_granted hp1 hA.1 t hnl rfl rfl hg.1 hg.2 ?_)
  conv => arg 6; whnf
  refine YX.ifF (Tr.cast (Tr.cmp (Ev.name rfl) (Ev.name rfl) COp.ne) (by simp)) ?_
  refine YX.to (ρ14 (barsOf ab ns) ns (endsOf (kidsOf ab)) (plOf ab ns 0 0) (plOf ab ns 1 0) W) (Sub.cons rfl (Sub.cons rfl (Sub.cons rfl (Sub.cons rfl (Sub.cons rfl (Sub.cons rfl (Sub.cons rfl Sub.nil))))))) (law_loop hp0 hp1 (hA.le (by omega)) t hnl hbl (List.ne_nil_of_mem hWb) hup hdn ?_)
  conv => arg 6; whnf
  have hel := ends_len (kidsOf ab)
  have hem : ∀ e ∈ endsOf (kidsOf ab), e < 9 := fun e he => (ends_iff.mp he).1
  generalize endsOf (kidsOf ab) = ends at *
  have hnum : ∀ j, j < 9 → (intsPV ns)[j]? = some (.int (num ns j)) := fun j hj => intsPV_get (by unfold num; rw [List.getD_eq_getElem?_getD, List.getElem?_eq_getElem (by omega)]; rfl)
  refine YX.ret (d := .bool true) (Ev.cast (Ev.cmp (Ev.cast (EvN.ev (EvN.comp [("numbers", .list (intsPV ns)), ("worth", .int W)] (qPV fun e => decide (num ns e - W = 0) == true) (fun d => d) rfl (ClSub.cons rfl (ClSub.cons rfl ClSub.nil)) (Caps.cons rfl (Caps.cons rfl Caps.nil)) (Itr.list hA.1 (Ev.name rfl)) (by rw [natsPV_len]; omega) (fun C D ys k d hd => ?_) (fun C D ys k d hd _ => Ev.name rfl))) (congrArg PV.list (filt_nats _ ends)))
    (Ev.cast (EvN.ev (EvN.comp [("granted", .int W), ("numbers", .list (intsPV ns))] (qPV fun e => decide (num ns e = W)) (fun d => d) rfl (ClSub.cons rfl (ClSub.cons rfl ClSub.nil)) (Caps.cons rfl (Caps.cons rfl Caps.nil)) (Itr.list hA.1 (Ev.name rfl)) (by rw [natsPV_len]; omega) (fun C D ys k d hd => ?_) (fun C D ys k d hd _ => Ev.name rfl))) (congrArg PV.list (filt_nats _ ends)))
    (COp.eqE (k := 1) hA (enc_nats _) (enc_nats _) (Small.ints _) (Small.ints _) (by omega))) ?_) fun v s' ok r => ⟨ok.base, r.bool_inv⟩
  · obtain ⟨e, he, rfl⟩ := nats_get hd
    have he9 := hem e (List.mem_of_getElem? he)
    exact Trs.one (Tr.cmp (Ev.call (gl_ise t) hfE (fun h k => t.keeps k) (hA.le (by omega)) (EvsF.cons (EvF.of (Ev.bin (Ev.idx (k := (e : Int)) (LV.of (Ev.name rfl)) (Ev.name rfl) (by rw [pyIdx_nat]; exact hnum e he9) (by omega)) (Ev.name rfl) BOp.sub)) EvsF.nil) iseof (.inr rfl)) Ev.bool COp.isB)
  · obtain ⟨e, he, rfl⟩ := nats_get hd
    have he9 := hem e (List.mem_of_getElem? he)
    exact Trs.one (Tr.cmp (Ev.idx (k := (e : Int)) (LV.of (Ev.name rfl)) (Ev.name rfl) (by rw [pyIdx_nat]; exact hnum e he9) (by omega)) (Ev.name rfl) COp.eq)
  · have e1 : (fun e => decide (num ns e - W = 0) == true) = fun e => decide (num ns e = W) := by
      funext e
      rw [isTrue_is]
      by_cases h : num ns e = W
      · rw [decide_eq_true h, decide_eq_true (by omega)]
      · rw [decide_eq_false h, decide_eq_false (by omega)]
    rw [e1]
    have : PyData.eqv (encInts ((ends.filter fun e => decide (num ns e = W)).map fun k : Nat => (k : Int))) (encInts ((ends.filter fun e => decide (num ns e = W)).map fun k : Nat => (k : Int))) = true := by unfold encInts; rw [eqv_ints]; simp
    rw [this]

theorem law_ok {ns : List Int} {a : Addr} {us : List Value} (hns : IntsAre us ns) (hlen : us.length ≤ 63) {s : Shared} {B : Heap} {R : Result → Shared → Prop} (hA : AOk 6 A) (j : lawJ s.heap) (hB : ∀ b o, B.get? b = some o → s.heap.get? b = some o) (t : TF w.params B) (hscr : B.IsList a us.toArray)
    (hbm : BMain B) (hC1 : CodeHd B 149 145) (hT1 : B.get? 145 = none) (hC2 : CodeHd B 164 162) (hT2 : B.get? 162 = none)
    (hR : ∀ s', As s s' → lawJ s'.heap → (∀ b o, B.get? b = some o → s'.heap.get? b = some o) → R (.ok (.ret (.bool true))) s') :
    codeAny (model prog w) A (.call (.ref 165) ⟨[.ref a], []⟩) R s := by
  have ts := t.keeps hB
  obtain ⟨doc, pm, an, ct, hf⟩ := fun_law ts
  refine fn_cellsJ (J := lawJ) (n := 5) (B := B) (W := ["rows", "above", "worth", "granted", "bar", "kids", "numbers"]) (ρ := [("script", .ref a)]) (binds := [("script", .ref a)]) (RV := fun v s' => v = .bool true) lawJ_ok j hA hf ts.lim rfl rfl rfl hB ?_ ?_ ?_ (fun v s' as j' hk r => by rw [r]; exact hR s' as j' hk)
  · intro x hx
    have := List.mem_singleton.mp hx; subst this
    exact .inl rfl
  · intro x d e
    have := PySem.mem_of_lookup e
    simp only [List.mem_cons, Prod.mk.injEq, List.not_mem_nil, or_false] at this
    rcases this with ⟨rfl, rfl⟩
    exact ⟨.ref a, .ref a, .inl ⟨rfl, rfl⟩⟩
  have hA' : AOk 5 (A.deeper (envL doc pm an ct s.heap.objs.size)) := hA.deeper _
  refine YX.out ?_ lawJ_ok
  have hab := pg_abv (cells ns)
  exact law_a hns hlen rfl hA' t hscr hbm hC1 hT1 (law_b (rl := strsPV (ups (pgRow (cells ns)))) (ab := ups (pgAb (cells ns))) (ns := ups (pgMk (cells ns))) (by rw [strsPV, List.length_map, ups_len]) hab (ups_len _) (ups_len _) hA' t (law_c hab (ups_len _) (ups_len _) hA' t hbm hC2 hT2))
end Mine

end
section
open PySem PySem.W PyProof.Rows PySem.Calls
set_option autoImplicit false
set_option linter.all false
namespace Mine
set_option maxRecDepth 100000

/-! the other objects of the heap behind the top (printed by wip/print_kh.lean) -/
noncomputable def kp11 (P : Params) : Obj := { cls := Value.type "tuple", data := Data.seq #[] }
noncomputable def kp12 (P : Params) : Obj := { cls := Value.none, data := Data.fields #[Value.int 1 0, Value.int 0 0, Value.ref 20, Value.int 5 0, Value.int 0 0, Value.ref 29, Value.int 11 0, Value.int 0 0, Value.ref 38, Value.int 31 0, Value.int 0 0, Value.ref 47, Value.int 52 0, Value.int 0 0, Value.ref 54, Value.int 160 0, Value.int 0 0, Value.ref 123, Value.int 162 0, Value.int 0 0, Value.ref 130, Value.int 164 0, Value.int 0 0, Value.ref 137, Value.int 167 0, Value.int 0 0, Value.ref 142, Value.int 188 0, Value.int 0 0, Value.ref 149, Value.int 197 0, Value.int 0 0, Value.ref 154, Value.int 208 0, Value.int 0 0, Value.ref 159, Value.int 221 0, Value.int 0 0, Value.ref 164] }
noncomputable def kp13 (P : Params) : Obj := { cls := Value.type "code", data := Data.fields #[Value.str (Str.ofString "<module>") 182, Value.str (Str.ofString "<module>") 183, Value.str (Str.ofString "/claim/cut.py") 184, Value.int 1 0, Value.int 0 0, Value.int 0 0, Value.int 0 0, Value.int 0 0, Value.ref 11, Value.bool false, Value.int 181 0, Value.ref 12, Value.none, Value.none, Value.none, Value.none, Value.int 185 0, Value.int 1 0, Value.str (Str.ofString "/claim/cut.py") 186] }
noncomputable def kp14 (P : Params) : Obj := { cls := Value.type "frame", slots := #[some (Value.ref 13), some (Value.ref 3), some (Value.ref 3), none, some (Value.str (Str.ofString "__main__") 164), none, some (Value.ref 0)] }
noncomputable def kp15 (P : Params) : Obj := { cls := Value.type "tuple", data := Data.seq #[] }
noncomputable def kp16 (P : Params) : Obj := { cls := Value.none, data := Data.fields #[] }
noncomputable def kp17 (P : Params) : Obj := { cls := Value.type "tuple", data := Data.seq #[Value.str (Str.ofString "k") 190] }
noncomputable def kp18 (P : Params) : Obj := { cls := Value.type "tuple", data := Data.seq #[] }
noncomputable def kp19 (P : Params) : Obj := ⟨Value.none, none, .func { fdAt (topAt 0) (Str.ofString "_wall") (Value.none) (Value.none) (Value.none) (Value.none) (none) (Value.none) (Value.none) with globals := 0 }, #[]⟩
noncomputable def kp20 (P : Params) : Obj := { cls := Value.type "code", data := Data.fields #[Value.str (Str.ofString "_wall") 187, Value.str (Str.ofString "_wall") 188, Value.str (Str.ofString "/claim/cut.py") 189, Value.int 1 0, Value.int 1 0, Value.int 0 0, Value.int 0 0, Value.int 3 0, Value.ref 15, Value.bool true, Value.int 181 0, Value.ref 16, Value.none, Value.ref 17, Value.ref 18, Value.ref 19, Value.int 191 0, Value.int 1 0, Value.str (Str.ofString "/claim/cut.py") 192] }
noncomputable def kp21 (P : Params) : Obj := ⟨Value.type "function", none, .func (fdAt (topAt 0) (Str.ofString "_wall") (Value.none) (Value.none) (Value.none) (Value.str (Str.ofString "__main__") 164) (none) (Value.ref 20) (Value.none)), #[]⟩
noncomputable def kp24 (P : Params) : Obj := { cls := Value.type "tuple", data := Data.seq #[] }
noncomputable def kp25 (P : Params) : Obj := { cls := Value.none, data := Data.fields #[] }
noncomputable def kp26 (P : Params) : Obj := { cls := Value.type "tuple", data := Data.seq #[Value.str (Str.ofString "a") 201, Value.str (Str.ofString "x") 202, Value.str (Str.ofString "lo") 203, Value.str (Str.ofString "hi") 204, Value.str (Str.ofString "key") 205] }
noncomputable def kp27 (P : Params) : Obj := { cls := Value.type "tuple", data := Data.seq #[] }
noncomputable def kp28 (P : Params) : Obj := ⟨Value.none, none, .func { fdAt (topAt 2) (Str.ofString "insort_right") (Value.none) (Value.none) (Value.none) (Value.none) (none) (Value.none) (Value.none) with globals := 0 }, #[]⟩
noncomputable def kp33 (P : Params) : Obj := { cls := Value.type "tuple", data := Data.seq #[] }
noncomputable def kp34 (P : Params) : Obj := { cls := Value.none, data := Data.fields #[] }
noncomputable def kp35 (P : Params) : Obj := { cls := Value.type "tuple", data := Data.seq #[Value.str (Str.ofString "a") 214, Value.str (Str.ofString "x") 215, Value.str (Str.ofString "lo") 216, Value.str (Str.ofString "hi") 217, Value.str (Str.ofString "key") 218, Value.str (Str.ofString "mid") 219] }
noncomputable def kp36 (P : Params) : Obj := { cls := Value.type "tuple", data := Data.seq #[] }
noncomputable def kp37 (P : Params) : Obj := ⟨Value.none, none, .func { fdAt (topAt 3) (Str.ofString "bisect_right") (Value.none) (Value.none) (Value.none) (Value.none) (none) (Value.none) (Value.none) with globals := 0 }, #[]⟩
noncomputable def kp42 (P : Params) : Obj := { cls := Value.type "tuple", data := Data.seq #[] }
noncomputable def kp43 (P : Params) : Obj := { cls := Value.none, data := Data.fields #[] }
noncomputable def kp44 (P : Params) : Obj := { cls := Value.type "tuple", data := Data.seq #[Value.str (Str.ofString "a") 228, Value.str (Str.ofString "x") 229, Value.str (Str.ofString "lo") 230, Value.str (Str.ofString "hi") 231, Value.str (Str.ofString "key") 232, Value.str (Str.ofString "mid") 233] }
noncomputable def kp45 (P : Params) : Obj := { cls := Value.type "tuple", data := Data.seq #[] }
noncomputable def kp46 (P : Params) : Obj := ⟨Value.none, none, .func { fdAt (topAt 4) (Str.ofString "bisect_left") (Value.none) (Value.none) (Value.none) (Value.none) (none) (Value.none) (Value.none) with globals := 0 }, #[]⟩
noncomputable def kp49 (P : Params) : Obj := { cls := Value.type "tuple", data := Data.seq #[] }
noncomputable def kp50 (P : Params) : Obj := { cls := Value.type "builtin_function_or_method", data := Data.fields #[Value.builtin "type.__prepare__", Value.type "type"] }
noncomputable def kp51 (P : Params) : Obj := { cls := Value.type "dict", data := Data.dict #[{ hash := PyData.keyHash P (Str.ofString "__module__"), key := Value.str (Str.ofString "__module__") 246, val := Value.str (Str.ofString "cpy313.tabnanny") 237 }, { hash := PyData.keyHash P (Str.ofString "__qualname__"), key := Value.str (Str.ofString "__qualname__") 248, val := Value.str (Str.ofString "Whitespace") 247 }, { hash := PyData.keyHash P (Str.ofString "__firstlineno__"), key := Value.str (Str.ofString "__firstlineno__") 250, val := Value.int 52 249 }, { hash := PyData.keyHash P (Str.ofString "S"), key := Value.str (Str.ofString "S") 254, val := Value.str (Str.ofString " ") 252 }, { hash := PyData.keyHash P (Str.ofString "T"), key := Value.str (Str.ofString "T") 255, val := Value.str (Str.ofString "\t") 253 }, { hash := PyData.keyHash P (Str.ofString "__init__"), key := Value.str (Str.ofString "__init__") 270, val := Value.ref 65 }, { hash := PyData.keyHash P (Str.ofString "longest_run_of_spaces"), key := Value.str (Str.ofString "longest_run_of_spaces") 279, val := Value.ref 72 }, { hash := PyData.keyHash P (Str.ofString "indent_level"), key := Value.str (Str.ofString "indent_level") 291, val := Value.ref 79 }, { hash := PyData.keyHash P (Str.ofString "equal"), key := Value.str (Str.ofString "equal") 299, val := Value.ref 86 }, { hash := PyData.keyHash P (Str.ofString "not_equal_witness"), key := Value.str (Str.ofString "not_equal_witness") 307, val := Value.ref 93 }, { hash := PyData.keyHash P (Str.ofString "less"), key := Value.str (Str.ofString "less") 317, val := Value.ref 100 }, { hash := PyData.keyHash P (Str.ofString "not_less_witness"), key := Value.str (Str.ofString "not_less_witness") 325, val := Value.ref 107 }, { hash := PyData.keyHash P (Str.ofString "__static_attributes__"), key := Value.str (Str.ofString "__static_attributes__") 331, val := Value.ref 108 }] 13 }
noncomputable def kp52 (P : Params) : Obj := { cls := Value.type "tuple", data := Data.seq #[] }
noncomputable def kp53 (P : Params) : Obj := { cls := Value.none, data := Data.fields #[Value.int 55 0, Value.int 4 0, Value.ref 64, Value.int 78 0, Value.int 4 0, Value.ref 71, Value.int 82 0, Value.int 4 0, Value.ref 78, Value.int 89 0, Value.int 4 0, Value.ref 85, Value.int 92 0, Value.int 4 0, Value.ref 92, Value.int 95 0, Value.int 4 0, Value.ref 99, Value.int 106 0, Value.int 4 0, Value.ref 106] }
noncomputable def kp54 (P : Params) : Obj := { cls := Value.type "code", data := Data.fields #[Value.str (Str.ofString "Whitespace") 241, Value.str (Str.ofString "Whitespace") 242, Value.str (Str.ofString "/claim/cut.py") 243, Value.int 52 0, Value.int 0 0, Value.int 0 0, Value.int 0 0, Value.int 0 0, Value.ref 52, Value.bool false, Value.int 181 0, Value.ref 53, Value.none, Value.none, Value.none, Value.none, Value.int 244 0, Value.int 52 0, Value.str (Str.ofString "/claim/cut.py") 245] }
noncomputable def kp55 (P : Params) : Obj := { cls := Value.type "frame", slots := #[some (Value.ref 54), some (Value.ref 3), some (Value.ref 51), none, some (Value.str (Str.ofString "cpy313.tabnanny") 237), none, some (Value.ref 0)] }
noncomputable def kp56 (P : Params) : Obj := { cls := Value.type "str_ascii_iterator", data := Data.fields #[Value.none, Value.int 2 0] }
noncomputable def kp57 (P : Params) : Obj := { cls := Value.type "tuple", data := Data.seq #[] }
noncomputable def kp58 (P : Params) : Obj := { cls := Value.type "StopIteration", data := Data.fields #[Value.ref 57, Value.none, Value.none, Value.none, Value.bool false, Value.none] }
noncomputable def kp59 (P : Params) : Obj := { cls := Value.type "tuple", data := Data.seq #[] }
noncomputable def kp60 (P : Params) : Obj := { cls := Value.none, data := Data.fields #[] }
noncomputable def kp61 (P : Params) : Obj := { cls := Value.type "tuple", data := Data.seq #[Value.str (Str.ofString "self") 259, Value.str (Str.ofString "ws") 260, Value.str (Str.ofString "S") 261, Value.str (Str.ofString "T") 262, Value.str (Str.ofString "count") 263, Value.str (Str.ofString "b") 264, Value.str (Str.ofString "n") 265, Value.str (Str.ofString "nt") 266, Value.str (Str.ofString "ch") 267] }
noncomputable def kp62 (P : Params) : Obj := { cls := Value.type "tuple", data := Data.seq #[] }
noncomputable def kp63 (P : Params) : Obj := ⟨Value.none, none, .func { fdAt (inCls 1 (topAt 6)) (Str.ofString "Whitespace.__init__") (Value.none) (Value.none) (Value.none) (Value.none) (none) (Value.none) (Value.none) with globals := 0 }, #[]⟩
noncomputable def kp66 (P : Params) : Obj := { cls := Value.type "tuple", data := Data.seq #[] }
noncomputable def kp67 (P : Params) : Obj := { cls := Value.none, data := Data.fields #[] }
noncomputable def kp68 (P : Params) : Obj := { cls := Value.type "tuple", data := Data.seq #[Value.str (Str.ofString "self") 274, Value.str (Str.ofString "count") 275, Value.str (Str.ofString "trailing") 276] }
noncomputable def kp69 (P : Params) : Obj := { cls := Value.type "tuple", data := Data.seq #[] }
noncomputable def kp70 (P : Params) : Obj := ⟨Value.none, none, .func { fdAt (inCls 2 (topAt 6)) (Str.ofString "Whitespace.longest_run_of_spaces") (Value.none) (Value.none) (Value.none) (Value.none) (none) (Value.none) (Value.none) with globals := 0 }, #[]⟩
noncomputable def kp73 (P : Params) : Obj := { cls := Value.type "tuple", data := Data.seq #[] }
noncomputable def kp74 (P : Params) : Obj := { cls := Value.none, data := Data.fields #[] }
noncomputable def kp75 (P : Params) : Obj := { cls := Value.type "tuple", data := Data.seq #[Value.str (Str.ofString "self") 283, Value.str (Str.ofString "tabsize") 284, Value.str (Str.ofString "count") 285, Value.str (Str.ofString "trailing") 286, Value.str (Str.ofString "il") 287, Value.str (Str.ofString "i") 288] }
noncomputable def kp76 (P : Params) : Obj := { cls := Value.type "tuple", data := Data.seq #[] }
noncomputable def kp77 (P : Params) : Obj := ⟨Value.none, none, .func { fdAt (inCls 3 (topAt 6)) (Str.ofString "Whitespace.indent_level") (Value.none) (Value.none) (Value.none) (Value.none) (none) (Value.none) (Value.none) with globals := 0 }, #[]⟩
noncomputable def kp80 (P : Params) : Obj := { cls := Value.type "tuple", data := Data.seq #[] }
noncomputable def kp81 (P : Params) : Obj := { cls := Value.none, data := Data.fields #[] }
noncomputable def kp82 (P : Params) : Obj := { cls := Value.type "tuple", data := Data.seq #[Value.str (Str.ofString "self") 295, Value.str (Str.ofString "other") 296] }
noncomputable def kp83 (P : Params) : Obj := { cls := Value.type "tuple", data := Data.seq #[] }
noncomputable def kp84 (P : Params) : Obj := ⟨Value.none, none, .func { fdAt (inCls 4 (topAt 6)) (Str.ofString "Whitespace.equal") (Value.none) (Value.none) (Value.none) (Value.none) (none) (Value.none) (Value.none) with globals := 0 }, #[]⟩
noncomputable def kp87 (P : Params) : Obj := { cls := Value.type "tuple", data := Data.seq #[] }
noncomputable def kp88 (P : Params) : Obj := { cls := Value.none, data := Data.fields #[] }
noncomputable def kp89 (P : Params) : Obj := { cls := Value.type "tuple", data := Data.seq #[Value.str (Str.ofString "self") 303, Value.str (Str.ofString "other") 304] }
noncomputable def kp90 (P : Params) : Obj := { cls := Value.type "tuple", data := Data.seq #[] }
noncomputable def kp91 (P : Params) : Obj := ⟨Value.none, none, .func { fdAt (inCls 5 (topAt 6)) (Str.ofString "Whitespace.not_equal_witness") (Value.none) (Value.none) (Value.none) (Value.none) (none) (Value.none) (Value.none) with globals := 0 }, #[]⟩
noncomputable def kp92 (P : Params) : Obj := { cls := Value.type "code", data := Data.fields #[Value.str (Str.ofString "not_equal_witness") 300, Value.str (Str.ofString "Whitespace.not_equal_witness") 301, Value.str (Str.ofString "/claim/cut.py") 302, Value.int 92 0, Value.int 2 0, Value.int 0 0, Value.int 0 0, Value.int 3 0, Value.ref 87, Value.bool true, Value.int 181 0, Value.ref 88, Value.none, Value.ref 89, Value.ref 90, Value.ref 91, Value.int 305 0, Value.int 92 0, Value.str (Str.ofString "/claim/cut.py") 306] }
noncomputable def kp93 (P : Params) : Obj := ⟨Value.type "function", none, .func (fdAt (inCls 5 (topAt 6)) (Str.ofString "Whitespace.not_equal_witness") (Value.none) (Value.none) (Value.none) (Value.str (Str.ofString "cpy313.tabnanny") 237) (none) (Value.ref 92) (Value.none)), #[]⟩
noncomputable def kp94 (P : Params) : Obj := { cls := Value.type "tuple", data := Data.seq #[] }
noncomputable def kp95 (P : Params) : Obj := { cls := Value.none, data := Data.fields #[] }
noncomputable def kp96 (P : Params) : Obj := { cls := Value.type "tuple", data := Data.seq #[Value.str (Str.ofString "self") 311, Value.str (Str.ofString "other") 312, Value.str (Str.ofString "n") 313, Value.str (Str.ofString "ts") 314] }
noncomputable def kp97 (P : Params) : Obj := { cls := Value.type "tuple", data := Data.seq #[] }
noncomputable def kp98 (P : Params) : Obj := ⟨Value.none, none, .func { fdAt (inCls 6 (topAt 6)) (Str.ofString "Whitespace.less") (Value.none) (Value.none) (Value.none) (Value.none) (none) (Value.none) (Value.none) with globals := 0 }, #[]⟩
noncomputable def kp101 (P : Params) : Obj := { cls := Value.type "tuple", data := Data.seq #[] }
noncomputable def kp102 (P : Params) : Obj := { cls := Value.none, data := Data.fields #[] }
noncomputable def kp103 (P : Params) : Obj := { cls := Value.type "tuple", data := Data.seq #[Value.str (Str.ofString "self") 321, Value.str (Str.ofString "other") 322] }
noncomputable def kp104 (P : Params) : Obj := { cls := Value.type "tuple", data := Data.seq #[] }
noncomputable def kp105 (P : Params) : Obj := ⟨Value.none, none, .func { fdAt (inCls 7 (topAt 6)) (Str.ofString "Whitespace.not_less_witness") (Value.none) (Value.none) (Value.none) (Value.none) (none) (Value.none) (Value.none) with globals := 0 }, #[]⟩
noncomputable def kp106 (P : Params) : Obj := { cls := Value.type "code", data := Data.fields #[Value.str (Str.ofString "not_less_witness") 318, Value.str (Str.ofString "Whitespace.not_less_witness") 319, Value.str (Str.ofString "/claim/cut.py") 320, Value.int 106 0, Value.int 2 0, Value.int 0 0, Value.int 0 0, Value.int 3 0, Value.ref 101, Value.bool true, Value.int 181 0, Value.ref 102, Value.none, Value.ref 103, Value.ref 104, Value.ref 105, Value.int 323 0, Value.int 106 0, Value.str (Str.ofString "/claim/cut.py") 324] }
noncomputable def kp107 (P : Params) : Obj := ⟨Value.type "function", none, .func (fdAt (inCls 7 (topAt 6)) (Str.ofString "Whitespace.not_less_witness") (Value.none) (Value.none) (Value.none) (Value.str (Str.ofString "cpy313.tabnanny") 237) (none) (Value.ref 106) (Value.none)), #[]⟩
noncomputable def kp108 (P : Params) : Obj := { cls := Value.type "tuple", data := Data.seq #[Value.str (Str.ofString "is_simple") 326, Value.str (Str.ofString "n") 327, Value.str (Str.ofString "norm") 328, Value.str (Str.ofString "nt") 329, Value.str (Str.ofString "raw") 330] }
noncomputable def kp111 (P : Params) : Obj := { cls := Value.type "getset_descriptor", data := Data.fields #[Value.str (Str.ofString "__dict__") 332, Value.ref 110, Value.builtin "function.__dict__", Value.builtin "function.__dict__#set"] }
noncomputable def kp112 (P : Params) : Obj := { cls := Value.type "getset_descriptor", data := Data.fields #[Value.str (Str.ofString "__weakref__") 334, Value.ref 110, Value.builtin "ExceptionGroup.__weakref__", Value.none] }
noncomputable def kp113 (P : Params) : Obj := { cls := Value.type "super", data := Data.fields #[Value.ref 110, Value.ref 110, Value.ref 110] }
noncomputable def kp114 (P : Params) : Obj := { cls := Value.type "builtin_function_or_method", data := Data.fields #[Value.builtin "object.__init_subclass__", Value.ref 110] }
noncomputable def kp116 (P : Params) : Obj := { cls := Value.type "dict", data := Data.dict #[{ hash := PyData.keyHash P (Str.ofString "->"), key := Value.str (Str.ofString "->") 475, val := Value.int 51 431 }, { hash := PyData.keyHash P (Str.ofString "."), key := Value.str (Str.ofString ".") 477, val := Value.int 23 375 }, { hash := PyData.keyHash P (Str.ofString "..."), key := Value.str (Str.ofString "...") 479, val := Value.int 52 433 }, { hash := PyData.keyHash P (Str.ofString "/"), key := Value.str (Str.ofString "/") 481, val := Value.int 17 363 }, { hash := PyData.keyHash P (Str.ofString "//"), key := Value.str (Str.ofString "//") 483, val := Value.int 47 423 }, { hash := PyData.keyHash P (Str.ofString "//="), key := Value.str (Str.ofString "//=") 485, val := Value.int 48 425 }, { hash := PyData.keyHash P (Str.ofString "/="), key := Value.str (Str.ofString "/=") 487, val := Value.int 39 407 }, { hash := PyData.keyHash P (Str.ofString ":"), key := Value.str (Str.ofString ":") 489, val := Value.int 11 351 }, { hash := PyData.keyHash P (Str.ofString ":="), key := Value.str (Str.ofString ":=") 491, val := Value.int 53 435 }, { hash := PyData.keyHash P (Str.ofString ";"), key := Value.str (Str.ofString ";") 493, val := Value.int 13 355 }, { hash := PyData.keyHash P (Str.ofString "<"), key := Value.str (Str.ofString "<") 495, val := Value.int 20 369 }, { hash := PyData.keyHash P (Str.ofString "<<"), key := Value.str (Str.ofString "<<") 497, val := Value.int 33 395 }, { hash := PyData.keyHash P (Str.ofString "<<="), key := Value.str (Str.ofString "<<=") 499, val := Value.int 44 417 }, { hash := PyData.keyHash P (Str.ofString "<="), key := Value.str (Str.ofString "<=") 501, val := Value.int 29 387 }, { hash := PyData.keyHash P (Str.ofString "="), key := Value.str (Str.ofString "=") 503, val := Value.int 22 373 }, { hash := PyData.keyHash P (Str.ofString "=="), key := Value.str (Str.ofString "==") 505, val := Value.int 27 383 }, { hash := PyData.keyHash P (Str.ofString ">"), key := Value.str (Str.ofString ">") 507, val := Value.int 21 371 }] 17 }
noncomputable def kp117 (P : Params) : Obj := { cls := Value.type "dict", data := Data.dict #[{ hash := PyData.keyHash P (Str.ofString ">="), key := Value.str (Str.ofString ">=") 509, val := Value.int 30 389 }, { hash := PyData.keyHash P (Str.ofString ">>"), key := Value.str (Str.ofString ">>") 510, val := Value.int 34 397 }, { hash := PyData.keyHash P (Str.ofString ">>="), key := Value.str (Str.ofString ">>=") 511, val := Value.int 45 419 }, { hash := PyData.keyHash P (Str.ofString "@"), key := Value.str (Str.ofString "@") 512, val := Value.int 49 427 }, { hash := PyData.keyHash P (Str.ofString "@="), key := Value.str (Str.ofString "@=") 513, val := Value.int 50 429 }, { hash := PyData.keyHash P (Str.ofString "["), key := Value.str (Str.ofString "[") 514, val := Value.int 9 347 }, { hash := PyData.keyHash P (Str.ofString "]"), key := Value.str (Str.ofString "]") 515, val := Value.int 10 349 }, { hash := PyData.keyHash P (Str.ofString "^"), key := Value.str (Str.ofString "^") 516, val := Value.int 32 393 }, { hash := PyData.keyHash P (Str.ofString "^="), key := Value.str (Str.ofString "^=") 517, val := Value.int 43 415 }, { hash := PyData.keyHash P (Str.ofString "{"), key := Value.str (Str.ofString "{") 518, val := Value.int 25 379 }, { hash := PyData.keyHash P (Str.ofString "|"), key := Value.str (Str.ofString "|") 519, val := Value.int 18 365 }, { hash := PyData.keyHash P (Str.ofString "|="), key := Value.str (Str.ofString "|=") 520, val := Value.int 42 413 }, { hash := PyData.keyHash P (Str.ofString "}"), key := Value.str (Str.ofString "}") 521, val := Value.int 26 381 }, { hash := PyData.keyHash P (Str.ofString "~"), key := Value.str (Str.ofString "~") 522, val := Value.int 31 391 }] 14 }
noncomputable def kp118 (P : Params) : Obj := { cls := Value.type "tuple", data := Data.seq #[] }
noncomputable def kp119 (P : Params) : Obj := { cls := Value.none, data := Data.fields #[] }
noncomputable def kp120 (P : Params) : Obj := { cls := Value.type "tuple", data := Data.seq #[Value.str (Str.ofString "x") 541] }
noncomputable def kp121 (P : Params) : Obj := { cls := Value.type "tuple", data := Data.seq #[] }
noncomputable def kp122 (P : Params) : Obj := ⟨Value.none, none, .func { fdAt (topAt 59) (Str.ofString "ISTERMINAL") (Value.none) (Value.none) (Value.none) (Value.none) (none) (Value.none) (Value.none) with globals := 0 }, #[]⟩
noncomputable def kp125 (P : Params) : Obj := { cls := Value.type "tuple", data := Data.seq #[] }
noncomputable def kp126 (P : Params) : Obj := { cls := Value.none, data := Data.fields #[] }
noncomputable def kp127 (P : Params) : Obj := { cls := Value.type "tuple", data := Data.seq #[Value.str (Str.ofString "x") 548] }
noncomputable def kp128 (P : Params) : Obj := { cls := Value.type "tuple", data := Data.seq #[] }
noncomputable def kp129 (P : Params) : Obj := ⟨Value.none, none, .func { fdAt (topAt 60) (Str.ofString "ISNONTERMINAL") (Value.none) (Value.none) (Value.none) (Value.none) (none) (Value.none) (Value.none) with globals := 0 }, #[]⟩
noncomputable def kp132 (P : Params) : Obj := { cls := Value.type "tuple", data := Data.seq #[] }
noncomputable def kp133 (P : Params) : Obj := { cls := Value.none, data := Data.fields #[] }
noncomputable def kp134 (P : Params) : Obj := { cls := Value.type "tuple", data := Data.seq #[Value.str (Str.ofString "x") 555] }
noncomputable def kp135 (P : Params) : Obj := { cls := Value.type "tuple", data := Data.seq #[] }
noncomputable def kp136 (P : Params) : Obj := ⟨Value.none, none, .func { fdAt (topAt 61) (Str.ofString "ISEOF") (Value.none) (Value.none) (Value.none) (Value.none) (none) (Value.none) (Value.none) with globals := 0 }, #[]⟩
noncomputable def kp139 (P : Params) : Obj := { cls := Value.type "tuple", data := Data.seq #[] }
noncomputable def kp140 (P : Params) : Obj := { cls := Value.none, data := Data.fields #[] }
noncomputable def kp141 (P : Params) : Obj := ⟨Value.none, none, .func { fdAt (topAt 63) (Str.ofString "_law_page") (Value.none) (Value.none) (Value.none) (Value.none) (none) (Value.none) (Value.none) with globals := 0 }, #[]⟩
noncomputable def kp144 (P : Params) : Obj := { cls := Value.type "tuple", data := Data.seq #[] }
noncomputable def kp145 (P : Params) : Obj := { cls := Value.none, data := Data.fields #[] }
noncomputable def kp146 (P : Params) : Obj := { cls := Value.type "tuple", data := Data.seq #[Value.str (Str.ofString "spaces") 570, Value.str (Str.ofString "above") 571, Value.str (Str.ofString "opened") 572, Value.str (Str.ofString "keep") 573] }
noncomputable def kp147 (P : Params) : Obj := { cls := Value.type "tuple", data := Data.seq #[Value.str (Str.ofString "spaces") 574, Value.str (Str.ofString "place") 575] }
noncomputable def kp148 (P : Params) : Obj := ⟨Value.none, none, .func { fdAt (topAt 64) (Str.ofString "_law_nest") (Value.none) (Value.none) (Value.none) (Value.none) (none) (Value.none) (Value.none) with globals := 0 }, #[]⟩
noncomputable def kp151 (P : Params) : Obj := { cls := Value.type "tuple", data := Data.seq #[] }
noncomputable def kp152 (P : Params) : Obj := { cls := Value.none, data := Data.fields #[] }
noncomputable def kp153 (P : Params) : Obj := ⟨Value.none, none, .func { fdAt (topAt 65) (Str.ofString "_law_held") (Value.none) (Value.none) (Value.none) (Value.none) (none) (Value.none) (Value.none) with globals := 0 }, #[]⟩
noncomputable def kp156 (P : Params) : Obj := { cls := Value.type "tuple", data := Data.seq #[] }
noncomputable def kp157 (P : Params) : Obj := { cls := Value.none, data := Data.fields #[] }
noncomputable def kp158 (P : Params) : Obj := ⟨Value.none, none, .func { fdAt (topAt 66) (Str.ofString "_law_plans") (Value.none) (Value.none) (Value.none) (Value.none) (none) (Value.none) (Value.none) with globals := 0 }, #[]⟩
noncomputable def kp161 (P : Params) : Obj := { cls := Value.type "tuple", data := Data.seq #[] }
noncomputable def kp162 (P : Params) : Obj := { cls := Value.none, data := Data.fields #[] }
noncomputable def kp163 (P : Params) : Obj := ⟨Value.none, none, .func { fdAt (topAt 67) (Str.ofString "law") (Value.none) (Value.none) (Value.none) (Value.none) (none) (Value.none) (Value.none) with globals := 0 }, #[]⟩
noncomputable def khHeap (P : Params) : Heap := { objs := { toList := [boot_o_0 P, boot_o_1 P, boot_o_2 P, ko3 P, boot_o_4 P, boot_o_5 P, boot_o_6 P, boot_o_7 P, boot_o_8 P, boot_o_9 P, boot_o_10 P, kp11 P, kp12 P, kp13 P, kp14 P, kp15 P, kp16 P, kp17 P, kp18 P, kp19 P, kp20 P, kp21 P, ko22 P, ko23 P, kp24 P, kp25 P, kp26 P, kp27 P, kp28 P, ko29 P, ko30 P, ko31 P, ko32 P, kp33 P, kp34 P, kp35 P, kp36 P, kp37 P, ko38 P, ko39 P, ko40 P, ko41 P, kp42 P, kp43 P, kp44 P, kp45 P, kp46 P, ko47 P, ko48 P, kp49 P, kp50 P, kp51 P, kp52 P, kp53 P, kp54 P, kp55 P, kp56 P, kp57 P, kp58 P, kp59 P, kp60 P, kp61 P, kp62 P, kp63 P, ko64 P, ko65 P, kp66 P, kp67 P, kp68 P, kp69 P, kp70 P, ko71 P, ko72 P, kp73 P, kp74 P, kp75 P, kp76 P, kp77 P, ko78 P, ko79 P, kp80 P, kp81 P, kp82 P, kp83 P, kp84 P, ko85 P, ko86 P, kp87 P, kp88 P, kp89 P, kp90 P, kp91 P, kp92 P, kp93 P, kp94 P, kp95 P, kp96 P, kp97 P, kp98 P, ko99 P, ko100 P, kp101 P, kp102 P, kp103 P, kp104 P, kp105 P, kp106 P, kp107 P, kp108 P, ko109 P, ko110 P, kp111 P, kp112 P, kp113 P, kp114 P, ko115 P, kp116 P, kp117 P, kp118 P, kp119 P, kp120 P, kp121 P, kp122 P, ko123 P, ko124 P, kp125 P, kp126 P, kp127 P, kp128 P, kp129 P, ko130 P, ko131 P, kp132 P, kp133 P, kp134 P, kp135 P, kp136 P, ko137 P, ko138 P, kp139 P, kp140 P, kp141 P, ko142 P, ko143 P, kp144 P, kp145 P, kp146 P, kp147 P, kp148 P, ko149 P, ko150 P, kp151 P, kp152 P, kp153 P, ko154 P, ko155 P, kp156 P, kp157 P, kp158 P, ko159 P, ko160 P, kp161 P, kp162 P, kp163 P, ko164 P, ko165 P] } }

abbrev RR : RowW := PySem.Challenge.rw_rl0128_01.row.toRowW
/-- what the walk knows of the text: all its statements but the three defs that come twice and the names of the modules -/
noncomputable def hq : Program := view RR.prog ([0, 6] ++ (List.range 54).map (· + 8) ++ [63, 64, 65, 66, 67])
noncomputable def hlo : List Str := [Str.ofString "insort_right", Str.ofString "bisect_right", Str.ofString "bisect_left", Str.ofString "Whitespace", Str.ofString "EXACT_TOKEN_TYPES"]
noncomputable abbrev hXt : Shared → Bool := fun s => xlAt hq [] s && recOk (RowW.records RR) s
noncomputable abbrev hH : Hook := kmHook Kf kfAs kfAs_eq [145, 162]
abbrev hrow : String := "special-get-raises"

open PySem.W.Fast in
set_option maxHeartbeats 8000000 in
theorem hrunF (w : World) (os : OsState) : topRun treeTable RR.prog (w.withFollow hrow false) 11 (some (.ref 6)) 2400 ⟨boot_heap w.params, Array.mk [], boot_drawn, boot_toks, os⟩ (topStub RR.prog) = some ⟨khHeap w.params, Array.mk [], boot_drawn, 597, os⟩ := by
  rw [te14364793385576792824, te14082659384304107361]
  kernel_rfl
open PySem.W.Fast in
set_option maxHeartbeats 8000000 in
theorem hrunT (w : World) (os : OsState) : topRun treeTable RR.prog (w.withFollow hrow true) 11 (some (.ref 6)) 2400 ⟨boot_heap w.params, Array.mk [], boot_drawn, boot_toks, os⟩ (topStub RR.prog) = some ⟨khHeap w.params, Array.mk [], boot_drawn, 597, os⟩ := by
  rw [te14364793385576792824, te14082659384304107361]
  kernel_rfl
theorem hrun (w : World) (os : OsState) : topRun treeTable RR.prog w 11 (some (.ref 6)) 2400 ⟨boot_heap w.params, Array.mk [], boot_drawn, boot_toks, os⟩ (topStub RR.prog) = some ⟨khHeap w.params, Array.mk [], boot_drawn, 597, os⟩ := by
  have e := World.withFollow_self w hrow
  cases hb : w.params.followText hrow <;> rw [hb] at e
  · have := hrunF w os
    rwa [e] at this
  · have := hrunT w os
    rwa [e] at this
theorem hsize (w : World) : ((boot_heap w.params).isNs mainGlobals && (Array.mk [] : Array GenState).size == 0, (boot_heap w.params).objs.size, (boot_heap w.params).nsMap mainGlobals "__annotations__") = (true, 11, some (.ref 6)) := by kernel_rfl
open PySem.W.Fast in
theorem hlook1 (w : World) (os : OsState) : (staticsOk (importedModules RR.prog.main.body) (boot_heap w.params) (khHeap w.params) && namesBound RR.prog (khHeap w.params) && gensDone ⟨khHeap w.params, Array.mk [], boot_drawn, 597, os⟩ && laidKept (boot_heap w.params) (khHeap w.params)) = true := by
  rw [te5923862056798008813]
  kernel_rfl
open PySem.W.Fast in
set_option maxHeartbeats 8000000 in
theorem hlook2 (w : World) (os : OsState) : openSeen hq hlo (importedModules RR.prog.main.body) hXt true ⟨khHeap w.params, Array.mk [], boot_drawn, 597, os⟩ = openGood hq hlo := by
  rw [te4187177175401517315, te5923862056798008813]
  kernel_rfl
theorem hlook3 (w : World) (os : OsState) : hH.obs ⟨khHeap w.params, Array.mk [], boot_drawn, 597, os⟩ = hH.val w := by kernel_rfl
theorem hleft : LeftO RR.prog hq hlo hXt hH.obs hH.val 4790 :=
  LeftO.of_pieces (H₀ := boot_heap) (H₁ := khHeap) (gs₀ := Array.mk []) (gs₁ := Array.mk []) (d₀ := boot_drawn) (d₁ := boot_drawn) (k₀ := boot_toks) (k₁ := 597) (m₀ := 11) (ann := some (.ref 6)) (M := 2400)
    (boot_open (p := RR.prog) (N := 4790) (by kernel_rfl) rfl (fun s => by rfl)) hsize hrun rfl (fun w => funext fun os => by rw [hlook1, hlook2, hlook3])
end Mine

end
section
open PySem PySem.W PyProof.Rows PySem.Calls
set_option autoImplicit false
set_option linter.all false
namespace Mine
set_option maxRecDepth 100000

noncomputable def hdOf : Stmt → DefRec
  | .FunctionDef n ps b _ _ _ sc _ _ p => ⟨n, ps, b, sc, p⟩
  | _ => ⟨Str.empty, parsOf (.Pass ⟨0, 0, 0, 0⟩), [], default, ⟨0, 0, 0, 0⟩⟩

set_option maxHeartbeats 8000000 in
open PySem.W.Fast in
theorem hsaid : PySem.Challenge.rw_rl0128_01.wellSaid = true := by
  unfold OpenLaw.wellSaid OpenRow.wellSaid OpenRow.partSaid looksOpen
  rw [te11788848310118352699, te9807087744658564304, te12862048085361865435, te8377067652309620493, te18344453789297297638, te14412699480532031325, te8326940854005059898, te5923862056798008813, te17691160309236699985, te13343964577679436407, te17119622794617984870, te17868728402115742887, te2357444279172408678, te13582783067957832011, te5318747976498570220, te12749700546528644094, te10501279942588096481, te8179353310426384613, te797321630700447069, te9572597257264208301, te9558739934217749035, te16286561074155671207, te6984425678791042302, te12879404354523853263, te482687673346738481, te10792542408131684335, sDec_eq, named_eq]
  kernel_rfl
set_option maxHeartbeats 8000000 in
theorem hd (walk : WalkO hq hlo (XL hq []) hH.says RR (hdOf (topAt 67)) [] fun f vs => PySem.call f vs) : PySem.Challenge.rw_rl0128_01.Holds := by
  refine holds_law hsaid fun said => ?_
  refine holds_open (q := hq) (loose := hlo) (Xt := hXt) (XP := XL hq []) (Yf := hH.obs) (Ya := hH.val) (YP := hH.says) (d := hdOf (topAt 67)) (kwd := []) (N := 4790) hleft hH.of hH.keeps (fun s e => xl_of s (Bool.and_eq_true_iff.mp e).1) XL.keeps (by kernel_rfl) (by kernel_rfl) (by kernel_rfl) (fun s e => recFacts_of (Bool.and_eq_true_iff.mp e).2) (by rfl) said (by decide +kernel) ⟨rfl, rfl, rfl, rfl, rfl, by decide +kernel⟩ ?hw walk
  case hw => w_witness2
end Mine

end
section
open PySem PySem.W PyProof.Rows PySem.Calls
set_option autoImplicit false
set_option linter.all false
namespace Mine
set_option maxRecDepth 100000

noncomputable abbrev lawTabs : List (Addr × Addr) := [(149, 145), (164, 162)]
theorem k_law (P : Params) : nsIn (Kf P) mainGlobals "law" = some (some (.ref 165)) := by kernel_rfl
theorem caller_ok : AOk 6 callerA := ⟨rfl, by decide, by decide⟩
theorem tabs_at {w : World} {h : Heap} (KX : (Kf w.params).In h) (hT8 : ∀ P ∈ [145, 162], h.get? P = some (tabObj #[])) : TabsAt lawTabs h := fun q hq => by
  simp only [List.mem_cons, List.not_mem_nil, or_false] at hq
  rcases hq with rfl | rfl
  · exact ⟨codeHd_of_K KX (by kernel_rfl), hT8 145 (by simp)⟩
  · exact ⟨codeHd_of_K KX (by kernel_rfl), hT8 162 (by simp)⟩

theorem law_go {p : Program} {loose : List Str} {mean : ExcName → Option Value} {mg mb : Str → Option Value} {w : World} {s₁ : Shared} {ns : List Int} {a fa : Addr} {us : List Value} {prog : Program} {R : Result → Shared → Prop}
    (KX : (Kf w.params).In s₁.heap) (hT8 : ∀ P ∈ [145, 162], s₁.heap.get? P = some (tabObj #[])) (T : Top p loose mean mg mb s₁.heap) (hmg : mg "law" = some (.ref fa)) (hL : s₁.heap.IsList a us.toArray) (hI : IntsAre us ns) (hn : ¬ (63 : Int) < (ns.length : Int))
    (hR : ∀ s', As s₁ s' → GrownAll lawTabs s'.heap → (∀ b o, (ghostOf s₁.heap lawTabs).get? b = some o → s'.heap.get? b = some o) → R (.ok (.ret (.bool true))) s') :
    codeAny (model prog w) callerA (.call (.ref fa) ⟨[.ref a], []⟩) R s₁ := by
  have hT9 := tabs_at KX hT8
  have hfa : fa = 165 := by
    have e := mg_of KX T.g (k_law w.params)
    rw [hmg] at e; cases e; rfl
  subst hfa
  have KG : (Kf w.params).In (ghostOf s₁.heap lawTabs) := ghost_K hT9 KX (by kernel_rfl)
  have TG := ghost_top hT9 T
  have t : TF w.params (ghostOf s₁.heap lawTabs) := ⟨KG, TG.nolimit, ⟨mg, TG.g⟩, ⟨mb, TG.b, TG.builtins⟩⟩
  obtain ⟨bm, ob, b1, b2, b3, b4, b5, b6⟩ := TG.bmain
  have hne : bm ≠ mainGlobals := by
    intro q
    obtain ⟨o, es, ep, e, hd', _⟩ := TG.g
    rw [q, e] at b3; cases b3; rw [b6] at hd'; cases hd'
  have hbm : BMain (ghostOf s₁.heap lawTabs) := ⟨mg, bm, ob, TG.g, b1, b2, hne, b3, b4, b5, b6⟩
  have hlen : us.length ≤ 63 := by
    have := (of_ints hI : Reps [] s₁.heap us (ns.map .int)).len
    rw [List.length_map] at this; omega
  refine law_ok (B := ghostOf s₁.heap lawTabs) hI hlen caller_ok ⟨.inl (hT8 145 (by simp)), .inl (hT8 162 (by simp))⟩ (fun b o e => of_hideAll _ e) t (ghost_list hT9 hL) hbm (codeHd_of_K KG (by kernel_rfl)) (hideAll_none _ (by simp)) (codeHd_of_K KG (by kernel_rfl)) (hideAll_none _ (by simp)) fun s' as j' hk => hR s' as ?_ hk
  have gr : ∀ {T : Addr} {ps : Pos} {q : Str} {h : Heap}, TabSt T ps q h → GrownAt T h := fun j => by
    rcases j with j | ⟨c', j, _⟩
    · exact ⟨_, j⟩
    · exact ⟨_, j⟩
  exact ⟨gr j'.1, gr j'.2, trivial⟩

set_option maxHeartbeats 8000000 in
theorem Go : PySem.Challenge.rw_rl0128_01.Holds := hd (by
  k_fill
  intro w s₀ s₁ mg mb G Y fa o pm cd doc dV kV ho hd' hcd hD hmg hg args vals as hpre hlay hrd hwl hlo
  have KX := km_in_of Y
  have hT8 := km_tabs_of Y
  refine Ground.open G ?_
  intro T B D TE TW
  try (refine guard_noD D (by decide +kernel) ?_; clear D)
  wrow_args hpre hlay hrd hwl hlo
  clear hd' hcd hD
  refine enter_call (kn_post (tabs_at KX hT8) (fun _ _ => rfl) (law_go KX hT8 T hmg (by assumption) (by assumption) (by assumption) fun s' as' gr hk => ⟨⟨.inl ⟨.bool true, .bool true, [], rfl, fun cls => rfl, .bool true, ?_, fun _ => ⟨List.nodup_nil, fun a ha => absurd ha List.not_mem_nil⟩⟩, hk, ?_, ?_⟩, gr⟩))
  · clear hmg; wrow_post
  · obtain ⟨h', tk, rfl⟩ := as'; rfl
  · obtain ⟨h', tk, rfl⟩ := as'; exact hg)
end Mine

end
theorem PySem.Challenge.cw_rl0128_01_holds : PySem.Challenge.rw_rl0128_01.Holds :=
  Mine.Go
