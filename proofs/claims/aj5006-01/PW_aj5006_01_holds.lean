import PyProof.Rows.All
import Wide.All
import OpenK.AllK
import Wide.FinOn
import PySem.Challenge.RW_aj5006_01
open PySem PySem.W PyProof.Rows
set_option Elab.async false
set_option maxRecDepth 100000
set_option maxHeartbeats 8000000
set_option linter.unusedVariables false
set_option pp.deepTerms false
set_option pp.maxSteps 3000
namespace Mine
open_top hd for PySem.Challenge.rw_aj5006_01
end Mine
section
open PySem.Calls PySem.Spec
namespace Mine
noncomputable abbrev PR : Program := PySem.Challenge.rw_aj5006_01.row.prog
noncomputable abbrev KF (w : World) : Frag := hd.heap_39 w.params
noncomputable abbrev MD (w : World) : Model := model PR w
abbrev Kp (h h' : Heap) : Prop := ∀ b o, h.get? b = some o → h'.get? b = some o
abbrev Vp : Type := Str → Option Value

def ib (n : Int) : Nat := Builtin.Int.intBits n
/-- plain data -/
inductive D where
  | none
  | bool (b : Bool)
  | int (i : Int)
  | str (s : Str)
  | tup (l : List D)
  | list (l : List D)
  | raw (v : Value)
  | rng (a b : Int)

mutual
inductive Rep (h : Heap) : Value → D → Prop
  | none : Rep h .none .none
  | bool (b : Bool) : Rep h (.bool b) (.bool b)
  | int (i : Int) (t : Tok) : Rep h (.int i t) (.int i)
  | str (s : Str) (t : Tok) : Rep h (.str s t) (.str s)
  | raw (v : Value) : Rep h v (.raw v)
  | rng {r : Addr} {a b : Int} {t u v : Tok} : IsRange h r a b 1 t u v → Rep h (.ref r) (.rng a b)
  | tup {a : Addr} {vs : List Value} {l : List D} : IsTup h a vs.toArray → RepL h vs l → Rep h (.ref a) (.tup l)
  | list {a : Addr} {vs : List Value} {l : List D} : h.IsList a vs.toArray → RepL h vs l → Rep h (.ref a) (.list l)
inductive RepL (h : Heap) : List Value → List D → Prop
  | nil : RepL h [] []
  | cons {v : Value} {d : D} {vs : List Value} {l : List D} : Rep h v d → RepL h vs l → RepL h (v :: vs) (d :: l)
end

theorem islist_mono {h h' : Heap} (k : Kp h h') {a : Addr} {vs : Array Value} (x : h.IsList a vs) : h'.IsList a vs := let ⟨o, e, r⟩ := x; ⟨o, k a o e, r⟩

mutual
theorem Rep.mono {h h' : Heap} (k : Kp h h') : ∀ {v : Value} {d : D}, Rep h v d → Rep h' v d
  | _, _, .none => .none
  | _, _, .bool b => .bool b
  | _, _, .int i t => .int i t
  | _, _, .str s t => .str s t
  | _, _, .raw v => .raw v
  | _, _, .rng x => .rng (k _ _ x)
  | _, _, .tup x y => .tup (IsTup.keeps x k) (RepL.mono k y)
  | _, _, .list x y => .list (islist_mono k x) (RepL.mono k y)
theorem RepL.mono {h h' : Heap} (k : Kp h h') : ∀ {vs : List Value} {l : List D}, RepL h vs l → RepL h' vs l
  | _, _, .nil => .nil
  | _, _, .cons x y => .cons (Rep.mono k x) (RepL.mono k y)
end

theorem RepL.length {h : Heap} : ∀ {vs : List Value} {l : List D}, RepL h vs l → vs.length = l.length
  | _, _, .nil => rfl
  | _, _, .cons _ y => by simp [RepL.length y]
theorem RepL.get {h : Heap} : ∀ {vs : List Value} {l : List D}, RepL h vs l → ∀ {n : Nat} {d : D}, l[n]? = some d → ∃ v, vs[n]? = some v ∧ Rep h v d
  | _, _, .nil, n, d, e => by simp at e
  | _, _, .cons (v := v) x y, 0, d, e => by simp at e; subst e; exact ⟨v, by simp, x⟩
  | _, _, .cons x y, n + 1, d, e => by
    simp at e
    obtain ⟨v, hv, r⟩ := RepL.get y e
    exact ⟨v, by simpa using hv, r⟩
theorem RepL.append {h : Heap} : ∀ {vs : List Value} {l : List D} {vs' : List Value} {l' : List D}, RepL h vs l → RepL h vs' l' → RepL h (vs ++ vs') (l ++ l')
  | _, _, _, _, .nil, r => r
  | _, _, _, _, .cons x y, r => .cons x (RepL.append y r)

/-- locals, newest first -/
abbrev Lo := List (Str × D)

def VarIs (env : Env) (h : Heap) (x : Str) (v : Value) : Prop :=
  (env.kindOf x = some .local ∧ ∃ m, h.Ns env.locals m ∧ m x = some v) ∨
  ((env.kindOf x = some .cell ∨ (env.kindOf x = some .free ∧ (x == ("__classdict__" : Str)) = false)) ∧ ∃ c o, env.cells.lookup x = some c ∧ h.get? c = some o ∧ o.data = .cell (some v))

theorem VarIs.mono {env : Env} {h h' : Heap} {x : Str} {v : Value} (k : Kp h h') : VarIs env h x v → VarIs env h' x v
  | .inl ⟨e, m, hn, hm⟩ => .inl ⟨e, m, hn.keeps k, hm⟩
  | .inr ⟨e, c, o, h1, h2, h3⟩ => .inr ⟨e, c, o, h1, k _ _ h2, h3⟩

/-- what data is made of stays -/
abbrev Kd (h h' : Heap) : Prop := ∀ b o, h.get? b = some o → ((∃ vs n, o.data = .seq vs n) ∨ (o.cls = .type "range" ∧ ∃ fs, o.data = .fields fs)) → h'.get? b = some o

/-- and cells stay cells -/
abbrev Ke (h h' : Heap) : Prop := Kd h h' ∧ ∀ b o v, h.get? b = some o → o.data = .cell v → ∃ o' v', h'.get? b = some o' ∧ o'.data = .cell v'
structure Cx where
  w : World
  A : Around
  env : Env
  hid : List Addr
  g : Heap
  L : Addr
  rk : Nat
  p : Program
  loose : List Str
  mean : ExcName → Option Value
  mg : Vp
  mb : Vp
  A₀ : Around
  base : Heap
  outer : List Env
  fenv : Env
  below : Below A₀ base outer g
  frames : A.frames = some (fenv :: outer)
  frame : fenv.frame = some L
  fkind : fenv.scope.kind = .function
  kin : (KF w).In g
  top : Top p loose mean mg mb g
  hand : A.handled = none
  depth : A.depth + rk < recursionLimit
  units : A.units + 10 * rk + 200 < cLine
  ekind : env.scope.kind = .function
  eglob : env.globals = mainGlobals
  ebuilt : env.builtins = builtinsNs
  hidL : L ∈ hid
  hidE : env.locals ∈ hid
  kvis : ∀ b ∈ hid, ∀ o, (KF w).lookup b = some o → False
  inv : Heap → Prop
  invk : ∀ h h', Ke h h' → inv h → inv h'

def Cx.view (c : Cx) (h : Heap) : Heap := hideAll h c.hid
theorem Cx.view_sub (c : Cx) {h : Heap} {b : Addr} {o : Obj} (e : (c.view h).get? b = some o) : h.get? b = some o := of_hideAll _ e
theorem Cx.view_not (c : Cx) {h : Heap} {b : Addr} {o : Obj} (e : (c.view h).get? b = some o) : b ∉ c.hid := fun hm => by
  rw [Cx.view, hideAll_none _ hm] at e; cases e
theorem Cx.view_mono (c : Cx) {h h' : Heap} (k : Kp h h') : Kp (c.view h) (c.view h') := fun b _ e => hideAll_get _ (k _ _ (c.view_sub e)) (c.view_not e)

structure St (c : Cx) (σ : Lo) (h : Heap) : Prop where
  fr : ∃ m, Fr c.g c.L h m
  ns : ∃ m, h.Ns c.env.locals m
  live : ∀ b ∈ c.hid, ∃ o, h.get? b = some o
  var : ∀ x d, σ.lookup x = some d → ∃ v, VarIs c.env h x v ∧ Rep (c.view h) v d
  inv : c.inv h
theorem St.mono {c : Cx} {σ : Lo} {h h' : Heap} (k : Kp h h') (S : St c σ h) : St c σ h' :=
  ⟨let ⟨m, F⟩ := S.fr; ⟨m, F.keeps k⟩, let ⟨m, N⟩ := S.ns; ⟨m, N.keeps k⟩, fun b hb => let ⟨o, e⟩ := S.live b hb; ⟨o, k _ _ e⟩, fun x d e => let ⟨v, a, b⟩ := S.var x d e; ⟨v, a.mono k, b.mono (c.view_mono k)⟩, c.invk _ _ ⟨fun b o e _ => k b o e, fun b o v e hd => ⟨o, v, k b o e, hd⟩⟩ S.inv⟩
theorem St.new {c : Cx} {σ : Lo} {h : Heap} (S : St c σ h) {a : Addr} (ha : h.objs.size ≤ a) : a ∉ c.hid := fun hm => by
  obtain ⟨o, e⟩ := S.live a hm
  exact absurd (Heap.lt_size e) (Nat.not_lt.mpr ha)
theorem St.kin {c : Cx} {σ : Lo} {h : Heap} (S : St c σ h) : (KF c.w).In h := let ⟨_, F⟩ := S.fr; c.kin.keeps F.keep

def Out (c : Cx) (s : Shared) (v : Value) (s' : Shared) (Q : D → Prop) : Prop :=
  ∃ h' tk d, s' = { s with heap := h', toks := tk } ∧ Kp s.heap h' ∧ Rep (c.view h') v d ∧ Q d
def OutB (s : Shared) (v : Bool) (s' : Shared) (Q : Bool → Prop) : Prop :=
  ∃ h' tk, s' = { s with heap := h', toks := tk } ∧ Kp s.heap h' ∧ Q v

abbrev Ex := Value → Shared → Prop
def VE (c : Cx) (σ : Lo) (t : Sem Value) (Q : D → Prop) : Prop := ∀ (s : Shared) (E : Ex), St c σ s.heap → wpAny (MD c.w) c.A t (fun v s' => Out c s v s' Q) E s
def BE (c : Cx) (σ : Lo) (t : Sem Bool) (Q : Bool → Prop) : Prop := ∀ (s : Shared) (E : Ex), St c σ s.heap → wpAny (MD c.w) c.A t (fun v s' => OutB s v s' Q) E s
def EE (c : Cx) (σ : Lo) (e : PySem.Expr) (Q : D → Prop) : Prop := VE c σ (eval e c.env) Q
def EB (c : Cx) (σ : Lo) (e : PySem.Expr) (Q : Bool → Prop) : Prop := BE c σ (PySem.isTrue e c.env (eval e c.env)) Q
def Bop (c : Cx) (σ : Lo) (op : Operator) (d1 d2 : D) (Q : D → Prop) : Prop :=
  ∀ (s : Shared) (E : Ex) (v1 v2 : Value), St c σ s.heap → Rep (c.view s.heap) v1 d1 → Rep (c.view s.heap) v2 d2 → wpAny (MD c.w) c.A (binaryOp op v1 v2) (fun v s' => Out c s v s' Q) E s
def Cop (c : Cx) (σ : Lo) (op : CmpOp) (d1 d2 : D) (Q : D → Prop) : Prop :=
  ∀ (s : Shared) (E : Ex) (v1 v2 : Value), St c σ s.heap → Rep (c.view s.heap) v1 d1 → Rep (c.view s.heap) v2 d2 → wpAny (MD c.w) c.A (compareOp op v1 v2) (fun v s' => Out c s v s' Q) E s
def Uop (c : Cx) (σ : Lo) (op : UnaryOp) (d1 : D) (Q : D → Prop) : Prop :=
  ∀ (s : Shared) (E : Ex) (v1 : Value), St c σ s.heap → Rep (c.view s.heap) v1 d1 → wpAny (MD c.w) c.A (unaryOp op v1) (fun v s' => Out c s v s' Q) E s
def Tru (c : Cx) (σ : Lo) (d1 : D) (Q : Bool → Prop) : Prop :=
  ∀ (s : Shared) (E : Ex) (v1 : Value), St c σ s.heap → Rep (c.view s.heap) v1 d1 → wpAny (MD c.w) c.A (truthy v1) (fun v s' => OutB s v s' Q) E s

theorem Out.now {c : Cx} {s : Shared} {v : Value} {d : D} {Q : D → Prop} (r : Rep (c.view s.heap) v d) (q : Q d) : Out c s v s Q := ⟨s.heap, s.toks, d, rfl, fun _ _ e => e, r, q⟩
theorem Out.tok {c : Cx} {s : Shared} {v : Value} {d : D} {tk : Nat} {Q : D → Prop} (r : Rep (c.view s.heap) v d) (q : Q d) : Out c s v { s with toks := tk } Q := ⟨s.heap, tk, d, rfl, fun _ _ e => e, r, q⟩
theorem OutB.now {s : Shared} {b : Bool} {Q : Bool → Prop} (q : Q b) : OutB s b s Q := ⟨s.heap, s.toks, rfl, fun _ _ e => e, q⟩
theorem Out.trans {c : Cx} {s s1 s' : Shared} {v : Value} {Q : D → Prop} (h : ∃ h' tk, s1 = { s with heap := h', toks := tk } ∧ Kp s.heap h') (o : Out c s1 v s' Q) : Out c s v s' Q := by
  obtain ⟨h1, t1, rfl, k1⟩ := h
  obtain ⟨h2, t2, d, rfl, k2, r, q⟩ := o
  exact ⟨h2, t2, d, rfl, fun b o e => k2 b o (k1 b o e), r, q⟩
theorem OutB.trans {s s1 s' : Shared} {v : Bool} {Q : Bool → Prop} (h : ∃ h' tk, s1 = { s with heap := h', toks := tk } ∧ Kp s.heap h') (o : OutB s1 v s' Q) : OutB s v s' Q := by
  obtain ⟨h1, t1, rfl, k1⟩ := h
  obtain ⟨h2, t2, rfl, k2, q⟩ := o
  exact ⟨h2, t2, rfl, fun b o e => k2 b o (k1 b o e), q⟩

/-- sequence: a tree, then what its value's data says -/
theorem seqV {c : Cx} {σ : Lo} {t : Sem Value} {Q : D → Prop} {P : Value → Shared → Prop} {s : Shared} {E : Ex} (h : VE c σ t Q) (S : St c σ s.heap)
    (k : ∀ v h' tk d, Kp s.heap h' → St c σ h' → Rep (c.view h') v d → Q d → P v { s with heap := h', toks := tk }) : wpAny (MD c.w) c.A t P E s :=
  wpAny_mono (h s E S) (fun v s' o => by obtain ⟨h', tk, d, rfl, k1, r, q⟩ := o; exact k v h' tk d k1 (S.mono k1) r q) fun _ _ x => x
theorem seqB {c : Cx} {σ : Lo} {t : Sem Bool} {Q : Bool → Prop} {P : Bool → Shared → Prop} {s : Shared} {E : Ex} (h : BE c σ t Q) (S : St c σ s.heap)
    (k : ∀ v h' tk, Kp s.heap h' → St c σ h' → Q v → P v { s with heap := h', toks := tk }) : wpAny (MD c.w) c.A t P E s :=
  wpAny_mono (h s E S) (fun v s' o => by obtain ⟨h', tk, rfl, k1, q⟩ := o; exact k v h' tk k1 (S.mono k1) q) fun _ _ x => x
/-- the rest's outcome, seen from the start -/
theorem fin {c : Cx} {s : Shared} {t : Sem Value} {Q : D → Prop} {E : Ex} {h1 : Heap} {t1 : Nat} (k1 : Kp s.heap h1)
    (h : wpAny (MD c.w) c.A t (fun v s' => Out c { s with heap := h1, toks := t1 } v s' Q) E { s with heap := h1, toks := t1 }) :
    wpAny (MD c.w) c.A t (fun v s' => Out c s v s' Q) E { s with heap := h1, toks := t1 } := wpAny_mono h (fun _ _ o => Out.trans ⟨h1, t1, rfl, k1⟩ o) fun _ _ x => x
theorem finB {c : Cx} {s : Shared} {t : Sem Bool} {Q : Bool → Prop} {E : Ex} {h1 : Heap} {t1 : Nat} (k1 : Kp s.heap h1)
    (h : wpAny (MD c.w) c.A t (fun v s' => OutB { s with heap := h1, toks := t1 } v s' Q) E { s with heap := h1, toks := t1 }) :
    wpAny (MD c.w) c.A t (fun v s' => OutB s v s' Q) E { s with heap := h1, toks := t1 } := wpAny_mono h (fun _ _ o => OutB.trans ⟨h1, t1, rfl, k1⟩ o) fun _ _ x => x

section
variable {c : Cx} {σ : Lo} {Q : D → Prop} {B : Bool → Prop} {pos : Pos}

theorem EE_int {i : Int} {k : Nat} (q : Q (.int i)) : EE c σ (.Constant (.int i) k pos) Q := fun s _ _ => wpAny_Constant_int (Out.tok (.int i _) q)
theorem EE_str {x : Str} {k : Nat} (q : Q (.str x)) : EE c σ (.Constant (.str x) k pos) Q := fun s _ _ => Constant_str (Out.tok (.str x _) q)
theorem EE_boolc {b : Bool} {k : Nat} (q : Q (.bool b)) : EE c σ (.Constant (.bool b) k pos) Q := fun s _ _ => Constant_bool (Out.now (.bool b) q)
theorem EE_none {k : Nat} (q : Q .none) : EE c σ (.Constant .none k pos) Q := fun s _ _ => wpAny_Constant_none (Out.now .none q)

theorem EE_loc {x : Str} {d : D} (hl : σ.lookup x = some d) (hd : (x == ("__debug__" : Str)) = false) (q : Q d) : EE c σ (.Name x pos) Q := fun s E S => by
  obtain ⟨v, hv, r⟩ := S.var x d hl
  refine wpAny_Name ?_ hd
  rcases hv with ⟨hx, m, hn, hm⟩ | ⟨hx, cc, o, h1, h2, h3⟩
  · exact wpAny_loadName_local c.ekind hx hn hm (Out.now r q)
  · rcases hx with hx | ⟨hx, hn⟩
    · exact wpAny_loadName_cell c.ekind hx h1 ⟨o, h2, h3⟩ (Out.now r q)
    · exact wpAny_loadName_free c.ekind hx h1 ⟨o, h2, h3⟩ (Out.now r q) hn

theorem kind_of {env : Env} {sc : Scope} {x : Str} {k : NameKind} (hs : env.scope = sc) (hx : sc.names.lookup x = some k) : env.kindOf x = some k := by subst hs; exact hx
theorem EE_glob {sc : Scope} {x : Str} {v : Value} {d : D} (hs : c.env.scope = sc) (hx : sc.names.lookup x = some .globalImplicit) (e : ∀ w, nsIn (KF w) mainGlobals x = some (some v)) (hd : (x == ("__debug__" : Str)) = false) (r : ∀ h, (KF c.w).In h → Rep (c.view h) v d)
    (q : Q d) : EE c σ (.Name x pos) Q := fun s E S => by
  obtain ⟨m, F⟩ := S.fr
  exact Name_function_global c.ekind (kind_of hs hx) (loadGlobal_global (env := c.env) (by rw [c.eglob]; exact c.top.g.keeps F.keep) (mg_of c.kin c.top.g (e c.w)) (Out.now (r _ S.kin) q)) hd

theorem EE_raw {sc : Scope} {x : Str} {v : Value} (hs : c.env.scope = sc) (hx : sc.names.lookup x = some .globalImplicit) (e : ∀ w, nsIn (KF w) mainGlobals x = some (some v)) (hd : (x == ("__debug__" : Str)) = false) (q : Q (.raw v)) : EE c σ (.Name x pos) Q :=
  EE_glob hs hx e hd (fun _ _ => .raw v) q
theorem EE_gint {sc : Scope} {x : Str} {i : Int} {t : Tok} (hs : c.env.scope = sc) (hx : sc.names.lookup x = some .globalImplicit) (e : ∀ w, nsIn (KF w) mainGlobals x = some (some (.int i t))) (hd : (x == ("__debug__" : Str)) = false) (q : Q (.int i)) : EE c σ (.Name x pos) Q :=
  EE_glob hs hx e hd (fun _ _ => .int i t) q
theorem EE_gstr {sc : Scope} {x : Str} {i : Str} {t : Tok} (hs : c.env.scope = sc) (hx : sc.names.lookup x = some .globalImplicit) (e : ∀ w, nsIn (KF w) mainGlobals x = some (some (.str i t))) (hd : (x == ("__debug__" : Str)) = false) (q : Q (.str i)) : EE c σ (.Name x pos) Q :=
  EE_glob hs hx e hd (fun _ _ => .str i t) q
theorem EE_g4 {sc : Scope} {x : Str} {a : Addr} {s m e b : Int} {t1 t2 t3 t4 : Tok} {n : Nat} {dd : Option Addr} {sl : Array (Option Value)} (hs : c.env.scope = sc) (hx : sc.names.lookup x = some .globalImplicit) (e1 : ∀ w, nsIn (KF w) mainGlobals x = some (some (.ref a)))
    (e2 : ∀ w, (KF w).lookup a = some ⟨.type "tuple", dd, .seq #[.int s t1, .int m t2, .int e t3, .int b t4] n, sl⟩) (hd : (x == ("__debug__" : Str)) = false) (q : Q (.tup [.int s, .int m, .int e, .int b])) : EE c σ (.Name x pos) Q :=
  EE_glob hs hx e1 hd (fun h X => .tup (vs := [.int s t1, .int m t2, .int e t3, .int b t4]) ⟨_, hideAll_get _ (X _ _ (e2 c.w)) (fun hm => c.kvis _ hm _ (e2 c.w)), rfl, n, rfl⟩ (.cons (.int _ _) (.cons (.int _ _) (.cons (.int _ _) (.cons (.int _ _) .nil))))) q
/-- a builtin's name -/
theorem EE_bi {sc : Scope} {x : Str} {v : Value} (hs : c.env.scope = sc) (hx : sc.names.lookup x = some .globalImplicit) (e : ∀ w, nsIn (KF w) mainGlobals x = some none) (hv : bootBuiltins x = some v) (hn : x ≠ "__name__") (hd : (x == ("__debug__" : Str)) = false) (q : Q (.raw v)) : EE c σ (.Name x pos) Q := fun s E S => by
  obtain ⟨m, F⟩ := S.fr
  refine Name_function_global c.ekind (kind_of hs hx) (loadGlobal_builtin (env := c.env) (by rw [c.eglob]; exact c.top.g.keeps F.keep) (mg_none_of c.kin c.top.g (e c.w)) (by rw [c.ebuilt]; exact c.top.b.keeps F.keep) ((c.top.builtins x hn).trans hv) (Out.now (.raw v) q)) hd
end
end Mine
end
section
open PySem.Calls PySem.Spec
namespace Mine
def Iop (c : Cx) (σ : Lo) (op : Operator) (d1 d2 : D) (Q : D → Prop) : Prop :=
  ∀ (s : Shared) (E : Ex) (v1 v2 : Value), St c σ s.heap → Rep (c.view s.heap) v1 d1 → Rep (c.view s.heap) v2 d2 → wpAny (MD c.w) c.A (inplaceOp op v1 v2) (fun v s' => Out c s v s' Q) E s
/-- an item of a sequence -/
def Gop (c : Cx) (σ : Lo) (slice : PySem.Expr) (d1 d2 : D) (Q : D → Prop) : Prop :=
  ∀ (s : Shared) (E : Ex) (v1 v2 : Value) (value : PySem.Expr), St c σ s.heap → Rep (c.view s.heap) v1 d1 → Rep (c.view s.heap) v2 d2 → wpAny (MD c.w) c.A (subscriptTail value slice v1 v2) (fun v s' => Out c s v s' Q) E s

theorem rep_tup {h : Heap} {v : Value} {l : List D} (r : Rep h v (.tup l)) : ∃ a vs, v = .ref a ∧ IsTup h a (List.toArray vs) ∧ RepL h vs l := by cases r with | tup a b => exact ⟨_, _, rfl, a, b⟩
theorem rep_list {h : Heap} {v : Value} {l : List D} (r : Rep h v (.list l)) : ∃ a vs, v = .ref a ∧ h.IsList a (List.toArray vs) ∧ RepL h vs l := by cases r with | list a b => exact ⟨_, _, rfl, a, b⟩
theorem view_tup {c : Cx} {h : Heap} {a : Addr} {vs : Array Value} (x : IsTup (c.view h) a vs) : IsTup h a vs := let ⟨o, e, r⟩ := x; ⟨o, c.view_sub e, r⟩
theorem view_list {c : Cx} {h : Heap} {a : Addr} {vs : Array Value} (x : (c.view h).IsList a vs) : h.IsList a vs := let ⟨o, e, r⟩ := x; ⟨o, c.view_sub e, r⟩

section
variable {c : Cx} {σ : Lo} {Q : D → Prop} {B : Bool → Prop} {pos : Pos}

theorem Bop_add {a b : Int} (q : Q (.int (a + b))) : Bop c σ .Add (.int a) (.int b) Q := fun s E v1 v2 S r1 r2 => by cases r1; cases r2; exact add_int (Out.tok (.int _ _) q)
theorem Bop_sub {a b : Int} (q : Q (.int (a - b))) : Bop c σ .Sub (.int a) (.int b) Q := fun s E v1 v2 S r1 r2 => by cases r1; cases r2; exact sub_int (Out.tok (.int _ _) q)
theorem Bop_mul {a b : Int} (hm : IntMulOk a b) (q : Q (.int (a * b))) : Bop c σ .Mult (.int a) (.int b) Q := fun s E v1 v2 S r1 r2 => by cases r1; cases r2; exact PySem.P.mul_int (Out.tok (.int _ _) q) hm
theorem Bop_mod {a b : Int} (hb : b ≠ 0) (q : Q (.int (a.fmod b))) : Bop c σ .Mod (.int a) (.int b) Q := fun s E v1 v2 S r1 r2 => by cases r1; cases r2; exact mod_int' hb (Out.tok (.int _ _) q)
theorem Bop_div {a b : Int} (hb : b ≠ 0) (hp : Builtin.divisionGoesByPylong a b = false) (q : Q (.int (a.fdiv b))) : Bop c σ .FloorDiv (.int a) (.int b) Q := fun s E v1 v2 S r1 r2 => by cases r1; cases r2; exact floordiv_int hb (Out.tok (.int _ _) q) (.inl hp)
theorem Bop_pow {a b : Int} (h0 : 0 ≤ b) (hs : (ib a : Int) * b ≤ 2 ^ 27) (q : Q (.int (a ^ b.toNat))) : Bop c σ .Pow (.int a) (.int b) Q := fun s E v1 v2 S r1 r2 => by cases r1; cases r2; exact pow_int h0 hs (Out.tok (.int _ _) q)
theorem Bop_shr {a b : Int} (h0 : 0 ≤ b) (q : Q (.int (a.fdiv (2 ^ b.toNat)))) : Bop c σ .RShift (.int a) (.int b) Q := fun s E v1 v2 S r1 r2 => by cases r1; cases r2; exact rshift_int h0 (Out.tok (.int _ _) q)
theorem Bop_shl {a b : Int} (h0 : 0 ≤ b) (hs : (ib a : Int) + b ≤ 2 ^ 27) (q : Q (.int (a * 2 ^ b.toNat))) : Bop c σ .LShift (.int a) (.int b) Q := fun s E v1 v2 S r1 r2 => by cases r1; cases r2; exact lshift_int h0 hs (Out.tok (.int _ _) q)
theorem Bop_and {a b : Int} (q : Q (.int (Builtin.bitAnd a b))) : Bop c σ .BitAnd (.int a) (.int b) Q := fun s E v1 v2 S r1 r2 => by cases r1; cases r2; exact and_int (Out.tok (.int _ _) q)
theorem Bop_xor {a b : Int} (q : Q (.int (Builtin.bitXor a b))) : Bop c σ .BitXor (.int a) (.int b) Q := fun s E v1 v2 S r1 r2 => by cases r1; cases r2; exact xor_int (Out.tok (.int _ _) q)

theorem Iop_add {a b : Int} (q : Q (.int (a + b))) : Iop c σ .Add (.int a) (.int b) Q := fun s E v1 v2 S r1 r2 => by cases r1; cases r2; exact PySem.P.iadd_int (Out.tok (.int _ _) q)
theorem Iop_sub {a b : Int} (q : Q (.int (a - b))) : Iop c σ .Sub (.int a) (.int b) Q := fun s E v1 v2 S r1 r2 => by cases r1; cases r2; exact PySem.P.isub_int (Out.tok (.int _ _) q)
theorem Iop_shr {a b : Int} (h0 : 0 ≤ b) (q : Q (.int (a.fdiv (2 ^ b.toNat)))) : Iop c σ .RShift (.int a) (.int b) Q := fun s E v1 v2 S r1 r2 => by cases r1; cases r2; exact irshift_int h0 (Out.tok (.int _ _) q)
theorem Iop_shl {a b : Int} (h0 : 0 ≤ b) (hs : (ib a : Int) + b ≤ 2 ^ 27) (q : Q (.int (a * 2 ^ b.toNat))) : Iop c σ .LShift (.int a) (.int b) Q := fun s E v1 v2 S r1 r2 => by cases r1; cases r2; exact ilshift_int h0 hs (Out.tok (.int _ _) q)
theorem Iop_xor {a b : Int} (q : Q (.int (Builtin.bitXor a b))) : Iop c σ .BitXor (.int a) (.int b) Q := fun s E v1 v2 S r1 r2 => by cases r1; cases r2; exact ixor_int (Out.tok (.int _ _) q)

theorem Iop_xorT {a b T : Int} (hT : Builtin.bitXor a b = T) (q : Q (.int T)) : Iop c σ .BitXor (.int a) (.int b) Q := by subst hT; exact Iop_xor q
theorem Bop_xorT {a b T : Int} (hT : Builtin.bitXor a b = T) (q : Q (.int T)) : Bop c σ .BitXor (.int a) (.int b) Q := by subst hT; exact Bop_xor q
theorem Uop_neg {a : Int} (q : Q (.int (-a))) : Uop c σ .USub (.int a) Q := fun s E v1 S r1 => by cases r1; exact PySem.P.neg_int (Out.tok (.int _ _) q)
theorem Tru_int {a : Int} (q : B (a != 0)) : Tru c σ (.int a) B := fun s E v1 S r1 => by cases r1; exact PySem.P.truthy_int (OutB.now q)
theorem Tru_bool {a : Bool} (q : B a) : Tru c σ (.bool a) B := fun s E v1 S r1 => by cases r1; exact wpAny_truthy_bool (OutB.now q)
theorem Uop_not {d : D} (h : Tru c σ d (fun b => Q (.bool (!b)))) : Uop c σ .Not d Q := fun s E v1 S r1 =>
  not_of (wpAny_mono (h s E v1 S r1) (fun b s' o => by obtain ⟨h', tk, rfl, k, q⟩ := o; exact ⟨h', tk, _, rfl, k, .bool _, q⟩) fun _ _ x => x)

theorem Cop_eq {a b : Int} (q : Q (.bool (a == b))) : Cop c σ .Eq (.int a) (.int b) Q := fun s E v1 v2 S r1 r2 => by cases r1; cases r2; exact PySem.P.eq_int (Out.now (.bool _) q)
theorem Cop_ne {a b : Int} (q : Q (.bool (a != b))) : Cop c σ .NotEq (.int a) (.int b) Q := fun s E v1 v2 S r1 r2 => by cases r1; cases r2; exact PySem.P.ne_int (Out.now (.bool _) q)
theorem Cop_lt {a b : Int} (q : Q (.bool (decide (a < b)))) : Cop c σ .Lt (.int a) (.int b) Q := fun s E v1 v2 S r1 r2 => by cases r1; cases r2; exact PySem.P.lt_int (Out.now (.bool _) q)
theorem Cop_le {a b : Int} (q : Q (.bool (decide (a ≤ b)))) : Cop c σ .LtE (.int a) (.int b) Q := fun s E v1 v2 S r1 r2 => by cases r1; cases r2; exact PySem.P.le_int (Out.now (.bool _) q)
theorem Cop_gt {a b : Int} (q : Q (.bool (decide (a > b)))) : Cop c σ .Gt (.int a) (.int b) Q := fun s E v1 v2 S r1 r2 => by cases r1; cases r2; exact PySem.P.gt_int (Out.now (.bool _) q)
theorem Cop_ge {a b : Int} (q : Q (.bool (decide (a ≥ b)))) : Cop c σ .GtE (.int a) (.int b) Q := fun s E v1 v2 S r1 r2 => by cases r1; cases r2; exact PySem.P.ge_int (Out.now (.bool _) q)
theorem Cop_eqs {a b : Str} (q : Q (.bool (a == b))) : Cop c σ .Eq (.str a) (.str b) Q := fun s E v1 v2 S r1 r2 => by cases r1; cases r2; exact eq_str (Out.now (.bool _) q)

/-- four ints, a number of the program -/
abbrev mD (s m e b : Int) : D := .tup [.int s, .int m, .int e, .int b]
abbrev pD (s m e b : Int) : PyData := .tuple [.int s, .int m, .int e, .int b]
theorem mD_reads {h : Heap} {v : Value} {s m e b : Int} (r : Rep h v (mD s m e b)) : Reads h v (pD s m e b) [] := by
  obtain ⟨a, vs, rfl, ⟨o, ho, hc, n, hd⟩, rl⟩ := rep_tup r
  refine Reads.tuple ho hc hd ?_
  cases rl with | cons a1 rl => cases rl with | cons a2 rl => cases rl with | cons a3 rl => cases rl with | cons a4 rl => cases rl; cases a1; cases a2; cases a3; cases a4; exact .cons (.int _ _) (.cons (.int _ _) (.cons (.int _ _) (.cons (.int _ _) .nil)))
theorem reads_sub {c : Cx} {h : Heap} {v : Value} {d : PyData} {as : List Addr} (r : Reads (c.view h) v d as) : Reads h v d as := PyProof.Rows.Reads.keeps (fun _ _ e => c.view_sub e) r
theorem Cop_eq4 {s m e b s' m' e' b' : Int} (q : Q (.bool (s == s' && (m == m' && (e == e' && (b == b' && true)))))) : Cop c σ .Eq (mD s m e b) (mD s' m' e' b') Q := fun st E v1 v2 S r1 r2 =>
  eq_dataH (reads_sub (mD_reads r1)) (reads_sub (mD_reads r2)) (by simp [SeqAt.shaped, PyData.canLay0, PyData.canLayAll0, PyData.depth, PyData.depthAll]) (by simp [SeqAt.shaped, PyData.canLay0, PyData.canLayAll0, PyData.depth, PyData.depthAll]) (by have := c.units; have := cLine_is; omega) (Out.now (.bool _) q)

theorem EE_bin {l r : PySem.Expr} {op : Operator} (h : EE c σ l (fun d1 => EE c σ r (fun d2 => Bop c σ op d1 d2 Q))) : EE c σ (.BinOp l op r pos) Q := fun s E S =>
  wpAny_BinOp (seqV h S fun v1 h1 t1 d1 k1 S1 r1 q1 => seqV q1 S1 fun v2 h2 t2 d2 k2 S2 r2 q2 =>
    fin (c := c) (t1 := t2) (fun b o e => k2 b o (k1 b o e)) (q2 _ E v1 v2 S2 (r1.mono (c.view_mono k2)) r2))
theorem EE_un {x : PySem.Expr} {op : UnaryOp} (h : EE c σ x (fun d1 => Uop c σ op d1 Q)) : EE c σ (.UnaryOp op x pos) Q := fun s E S =>
  UnaryOp_ (seqV h S fun v1 h1 t1 d1 k1 S1 r1 q1 => fin (c := c) (t1 := t1) k1 (q1 _ E v1 S1 r1))
theorem EE_cmp {l r : PySem.Expr} {op : CmpOp} (hb : behindInMarks op r = false) (h : EE c σ l (fun d1 => EE c σ r (fun d2 => Cop c σ op d1 d2 Q))) : EE c σ (.Compare l [op] [r] pos) Q := fun s E S =>
  wpAny_Compare1 (seqV h S fun v1 h1 t1 d1 k1 S1 r1 q1 => seqV q1 S1 fun v2 h2 t2 d2 k2 S2 r2 q2 =>
    fin (c := c) (t1 := t2) (fun b o e => k2 b o (k1 b o e)) (q2 _ E v1 v2 S2 (r1.mono (c.view_mono k2)) r2)) hb
theorem EE_ifexp {t b o : PySem.Expr} (h : EB c σ t (fun x => (x = true → EE c σ b Q) ∧ (x = false → EE c σ o Q))) : EE c σ (.IfExp t b o pos) Q := fun s E S =>
  IfExp_ (seqB h S fun x h1 t1 k1 S1 q1 => by
    cases x with
    | true => exact fin (c := c) (t1 := t1) k1 (q1.1 rfl _ E S1)
    | false => exact fin (c := c) (t1 := t1) k1 (q1.2 rfl _ E S1))

/-- truth of an expression -/
theorem EB_plain {e : PySem.Expr} (he : PySem.isTrue e c.env (eval e c.env) = (do let v ← eval e c.env; standAt (PySem.Expr.pos e); holding [v] (truthy v))) (h : EE c σ e (fun d => Tru c σ d B)) : EB c σ e B := fun s E S =>
  isTrue_plain (seqV h S fun v1 h1 t1 d1 k1 S1 r1 q1 => finB (c := c) (t1 := t1) k1 (q1 _ E v1 S1 r1)) he
theorem EB_cmp {l r : PySem.Expr} {op : CmpOp} (hb : behindInMarks op r = false) (h : EE c σ l (fun d1 => EE c σ r (fun d2 => Cop c σ op d1 d2 (fun d => Tru c σ d B)))) : EB c σ (.Compare l [op] [r] pos) B := fun s E S =>
  wpAny_isTrue_Compare1 (seqV h S fun v1 h1 t1 d1 k1 S1 r1 q1 => seqV q1 S1 fun v2 h2 t2 d2 k2 S2 r2 q2 =>
    wpAny_mono (q2 { s with heap := h2, toks := t2 } E v1 v2 S2 (r1.mono (c.view_mono k2)) r2) (fun v s' o => by
      obtain ⟨h3, t3, d, rfl, k3, r3, q3⟩ := o
      exact finB (c := c) (t1 := t3) (fun b o e => k3 b o (k2 b o (k1 b o e))) (q3 _ E v (S2.mono k3) r3)) fun _ _ x => x) hb
theorem EB_not {x : PySem.Expr} (h : EB c σ x (fun b => B (!b))) : EB c σ (.UnaryOp .Not x pos) B := fun s E S =>
  isTrue_not (seqB h S fun b h1 t1 k1 S1 q1 => ⟨h1, t1, rfl, k1, q1⟩)
theorem all_and {a b : PySem.Expr} (h : EB c σ a (fun x => (x = false → B false) ∧ (x = true → EB c σ b B))) : EB c σ (.BoolOp .And [a, b] pos) B := fun s E S => by
  show wpAny (MD c.w) c.A (allTrue .And [a, b] c.env) _ E s
  unfold allTrue
  refine wpAny_bind (seqB h S fun x h1 t1 k1 S1 q1 => ?_)
  cases x with
  | false => exact wpAny_pure ⟨h1, t1, rfl, k1, q1.1 rfl⟩
  | true =>
    show wpAny (MD c.w) c.A (allTrue .And [b] c.env) _ E _
    unfold allTrue
    refine wpAny_bind (seqB (q1.2 rfl) S1 fun y h2 t2 k2 S2 q2 => ?_)
    cases y with
    | false => exact wpAny_pure ⟨h2, t2, rfl, fun b o e => k2 b o (k1 b o e), q2⟩
    | true =>
      show wpAny (MD c.w) c.A (allTrue .And [] c.env) _ E _
      unfold allTrue
      exact wpAny_pure ⟨h2, t2, rfl, fun b o e => k2 b o (k1 b o e), q2⟩
theorem all_or {a b : PySem.Expr} (h : EB c σ a (fun x => (x = true → B true) ∧ (x = false → EB c σ b B))) : EB c σ (.BoolOp .Or [a, b] pos) B := fun s E S => by
  show wpAny (MD c.w) c.A (allTrue .Or [a, b] c.env) _ E s
  unfold allTrue
  refine wpAny_bind (seqB h S fun x h1 t1 k1 S1 q1 => ?_)
  cases x with
  | true => exact wpAny_pure ⟨h1, t1, rfl, k1, q1.1 rfl⟩
  | false =>
    show wpAny (MD c.w) c.A (allTrue .Or [b] c.env) _ E _
    unfold allTrue
    refine wpAny_bind (seqB (q1.2 rfl) S1 fun y h2 t2 k2 S2 q2 => ?_)
    cases y with
    | true => exact wpAny_pure ⟨h2, t2, rfl, fun b o e => k2 b o (k1 b o e), q2⟩
    | false =>
      show wpAny (MD c.w) c.A (allTrue .Or [] c.env) _ E _
      unfold allTrue
      exact wpAny_pure ⟨h2, t2, rfl, fun b o e => k2 b o (k1 b o e), q2⟩
/-- and, or for their value -/
theorem EE_or {a b : PySem.Expr} (h : EE c σ a (fun d => Tru c σ d (fun x => (x = true → Q d) ∧ (x = false → EE c σ b Q)))) : EE c σ (.BoolOp .Or [a, b] pos) Q := fun s E S =>
  BoolOp_or (seqV h S fun v1 h1 t1 d1 k1 S1 r1 q1 => wpAny_mono (q1 _ E v1 S1 r1) (fun x s' o => by
    obtain ⟨h2, t2, rfl, k2, q2⟩ := o
    cases x with
    | true => exact ⟨h2, t2, d1, rfl, fun b o e => k2 b o (k1 b o e), r1.mono (c.view_mono k2), q2.1 rfl⟩
    | false => exact BoolOp_one (fin (c := c) (t1 := t2) (fun b o e => k2 b o (k1 b o e)) (q2.2 rfl _ E (S1.mono k2)))) fun _ _ x => x)
theorem EE_and {a b : PySem.Expr} (h : EE c σ a (fun d => Tru c σ d (fun x => (x = false → Q d) ∧ (x = true → EE c σ b Q)))) : EE c σ (.BoolOp .And [a, b] pos) Q := fun s E S =>
  BoolOp_and (seqV h S fun v1 h1 t1 d1 k1 S1 r1 q1 => wpAny_mono (q1 _ E v1 S1 r1) (fun x s' o => by
    obtain ⟨h2, t2, rfl, k2, q2⟩ := o
    cases x with
    | false => exact ⟨h2, t2, d1, rfl, fun b o e => k2 b o (k1 b o e), r1.mono (c.view_mono k2), q2.1 rfl⟩
    | true => exact BoolOp_one (fin (c := c) (t1 := t2) (fun b o e => k2 b o (k1 b o e)) (q2.2 rfl _ E (S1.mono k2)))) fun _ _ x => x)

end
end Mine
end
section
open PySem.Calls PySem.Spec
namespace Mine
/-- a def's contract by data -/
def FnOK (f : Addr) (n : Nat) (args : List D) (Q : D → Prop) : Prop :=
  ∀ (c : Cx) (σ : Lo), n ≤ c.rk → ∀ (s : Shared) (E : Ex) (vs : List Value), St c σ s.heap → RepL (c.view s.heap) vs args → wpAny (MD c.w) c.A (call (.ref f) vs) (fun v s' => Out c s v s' Q) E s

def EL (c : Cx) (σ : Lo) : List PySem.Expr → (List D → Prop) → Prop
  | [], Q => Q []
  | e :: r, Q => EE c σ e (fun d => EL c σ r (fun ds => Q (d :: ds)))

def noStars : List PySem.Expr → Bool
  | [] => true
  | .Starred .. :: _ => false
  | _ :: r => noStars r
theorem starEach_cons {e : PySem.Expr} {r : List PySem.Expr} {env : Env} (h : noStars (e :: r) = true) : starEach (e :: r) env = (false, eval e env) :: starEach r env := by
  cases e <;> first | rfl | cases h
theorem noStars_tail {e : PySem.Expr} {r : List PySem.Expr} (h : noStars (e :: r) = true) : noStars r = true := by
  cases e <;> first | exact h | cases h

theorem seqL {c : Cx} {σ : Lo} {pos : Pos} {E : Ex} : ∀ {es : List PySem.Expr} {Q : List D → Prop} {P : List Value → Shared → Prop} {s : Shared}, noStars es = true → EL c σ es Q → St c σ s.heap →
    (∀ vs h' tk ds, Kp s.heap h' → St c σ h' → RepL (c.view h') vs ds → Q ds → P vs { s with heap := h', toks := tk }) → wpAny (MD c.w) c.A (spliced (backTo pos (starEach es c.env))) P E s
  | [], Q, P, s, _, h, S, k => spliced_none (k [] s.heap s.toks [] (fun _ _ e => e) S .nil h)
  | e :: r, Q, P, s, hn, h, S, k => spliced_more (seqV h S fun v1 h1 t1 d1 k1 S1 r1 q1 => seqL (noStars_tail hn) q1 S1 fun vs h2 t2 ds k2 S2 r2 q2 =>
      k (v1 :: vs) h2 t2 (d1 :: ds) (fun b o e => k2 b o (k1 b o e)) S2 (.cons (r1.mono (c.view_mono k2)) r2) q2) (starEach_cons hn)

theorem anyStar {pos : Pos} {env : Env} : ∀ {es : List PySem.Expr}, noStars es = true → (backTo pos (starEach es env)).any (·.1) = false
  | [], _ => rfl
  | e :: r, h => by
    rw [starEach_cons h]
    show (false || (backTo pos (starEach r env)).any (·.1)) = false
    rw [anyStar (noStars_tail h)]; rfl
theorem EL_len {c : Cx} {σ : Lo} : ∀ {es : List PySem.Expr} {Q : List D → Prop}, EL c σ es Q → EL c σ es (fun ds => ds.length = es.length ∧ Q ds)
  | [], _, h => ⟨rfl, h⟩
  | e :: r, Q, h => fun s E S => wpAny_mono (h s E S) (fun v s' o => by
      obtain ⟨h', tk, d, e1, k, rr, q⟩ := o
      refine ⟨h', tk, d, e1, k, rr, ?_⟩
      have := EL_len q
      clear q h
      revert this
      generalize r = r
      intro this
      exact EL_mono this fun ds hd => ⟨by simp [hd.1], hd.2⟩) fun _ _ x => x
where
  EL_mono {c : Cx} {σ : Lo} : ∀ {es : List PySem.Expr} {Q Q' : List D → Prop}, EL c σ es Q → (∀ ds, Q ds → Q' ds) → EL c σ es Q'
  | [], _, _, h, k => k _ h
  | e :: r, _, _, h, k => fun s E S => wpAny_mono (h s E S) (fun v s' o => by
      obtain ⟨h', tk, d, e1, k', rr, q⟩ := o
      exact ⟨h', tk, d, e1, k', rr, EL_mono q fun ds hd => k _ hd⟩) fun _ _ x => x

theorem kp_push {h : Heap} {o : Obj} : Kp h (h.push o) := fun _ _ e => Heap.get?_push_of_some _ e
section
variable {c : Cx} {σ : Lo} {Q : D → Prop} {B : Bool → Prop} {pos : Pos}

theorem newTup {s : Shared} {E : Ex} {vs : List Value} {ds : List D} (S : St c σ s.heap) (r : RepL (c.view s.heap) vs ds) (hsz : ds.length ≤ 1000) (q : Q (.tup ds)) :
    wpAny (MD c.w) c.A (newTuple vs) (fun v s' => Out c s v s' Q) E s :=
  wpAny_newObj_type ⟨_, s.toks, .tup ds, rfl, kp_push, .tup ⟨_, hideAll_get _ (Heap.get?_push_size _ rfl) (S.new (Nat.le_refl _)), rfl, _, rfl⟩ (r.mono (c.view_mono kp_push)), q⟩
    (by show vs.toArray.size ≤ sizeLine; rw [List.size_toArray, r.length]; exact Nat.le_trans hsz (by decide))
theorem newLst {s : Shared} {E : Ex} {vs : List Value} {ds : List D} (S : St c σ s.heap) (r : RepL (c.view s.heap) vs ds) (hsz : ds.length ≤ 1000) (q : Q (.list ds)) :
    wpAny (MD c.w) c.A (newList vs) (fun v s' => Out c s v s' Q) E s :=
  wpAny_newObj_type ⟨_, s.toks, .list ds, rfl, kp_push, .list ⟨_, hideAll_get _ (Heap.get?_push_size _ rfl) (S.new (Nat.le_refl _)), rfl, _, rfl⟩ (r.mono (c.view_mono kp_push)), q⟩
    (by show vs.toArray.size ≤ sizeLine; rw [List.size_toArray, r.length]; exact Nat.le_trans hsz (by decide))

theorem EE_tup {es : List PySem.Expr} {k : Nat} (hn : (noStars es && decide (es.length ≤ 1000)) = true) (h : EL c σ es (fun ds => Q (.tup ds))) : EE c σ (.Tuple es k pos) Q := fun s E S =>
  Tuple_ (seqL (Bool.and_eq_true_iff.mp hn).1 (EL_len h) S fun vs h1 t1 ds k1 S1 r1 q1 => fin (c := c) (t1 := t1) k1 (newTup S1 r1 (by rw [q1.1]; exact of_decide_eq_true (Bool.and_eq_true_iff.mp hn).2) q1.2))
theorem EE_lst {es : List PySem.Expr} (hn : (noStars es && decide (es.length ≤ 1000)) = true) (h : EL c σ es (fun ds => Q (.list ds))) : EE c σ (.List es pos) Q := fun s E S =>
  List_ (seqL (Bool.and_eq_true_iff.mp hn).1 (EL_len h) S fun vs h1 t1 ds k1 S1 r1 q1 => fin (c := c) (t1 := t1) k1 (newLst S1 r1 (by rw [q1.1]; exact of_decide_eq_true (Bool.and_eq_true_iff.mp hn).2) q1.2))

theorem EE_sub {v sl : PySem.Expr} (h : EE c σ v (fun d1 => EE c σ sl (fun d2 => Gop c σ sl d1 d2 Q))) : EE c σ (.Subscript v sl pos) Q := fun s E S =>
  Subscript_ (seqV h S fun v1 h1 t1 d1 k1 S1 r1 q1 => seqV q1 S1 fun v2 h2 t2 d2 k2 S2 r2 q2 =>
    fin (c := c) (t1 := t2) (fun b o e => k2 b o (k1 b o e)) (q2 _ E v1 v2 _ S2 (r1.mono (c.view_mono k2)) r2))
theorem Gop_tup {ds : List D} {i : Int} {d : D} {j : Nat} (h1 : -2 ^ 63 ≤ i) (h2 : i < 2 ^ 63) (hj : seqIndex? i ds.length = some j) (hd : ds[j]? = some d) {slice : PySem.Expr} (hs : ∀ a i t, subscripted slice false (.ref a) (.int i t) = operate [.ref a, .int i t] (getItem (.ref a) (.int i t))) (q : Q d) : Gop c σ slice (.tup ds) (.int i) Q := fun s E v1 v2 value S r1 r2 => by
  obtain ⟨a, vs, rfl, ht, rl⟩ := rep_tup r1
  cases r2
  obtain ⟨v, hv, rv⟩ := rl.get hd
  exact item_tupleT (view_tup ht) h1 h2 (by rw [rl.length]; exact hj) hv (Out.now rv q) (hs _ _ _)
theorem Gop_list {ds : List D} {i : Int} {d : D} (h1 : 0 ≤ i) (h2 : i < 2 ^ 63) (hd : ds[i.toNat]? = some d) {slice : PySem.Expr} (hs : ∀ a i t, subscripted slice false (.ref a) (.int i t) = operate [.ref a, .int i t] (getItem (.ref a) (.int i t))) (q : Q d) : Gop c σ slice (.list ds) (.int i) Q := fun s E v1 v2 value S r1 r2 => by
  obtain ⟨a, vs, rfl, ht, rl⟩ := rep_list r1
  cases r2
  obtain ⟨v, hv, rv⟩ := rl.get hd
  exact tail_any (view_list ht).typeIs slot_list_getitem.lookup (wpAny_getItem_list (view_list ht) h1 h2 (by simpa using hv) (Out.now rv q)) (hs _ _ _)

theorem callF {fx : PySem.Expr} {f : Addr} {o : Obj} {fd : FuncData} {es : List PySem.Expr} {n : Nat} (hk : ∀ w, (KF w).lookup f = some o) (hd : o.data = .func fd) (hne : (!es.isEmpty && noStars es) = true) (hr : n ≤ c.rk)
    (hc : eval (.Call fx es [] pos) c.env = (do let x ← eval fx c.env; callWith pos x [] (backTo pos (starEach es c.env)) (backToKw pos (keywordEach [] c.env))))
    (hf : EE c σ fx (fun d => d = .raw (.ref f) ∧ EL c σ es (fun ds => FnOK f n ds Q))) : EE c σ (.Call fx es [] pos) Q := fun s E S =>
  Call_ (seqV hf S fun v1 h1 t1 d1 k1 S1 r1 q1 => by
    obtain ⟨rfl, q1⟩ := q1
    cases r1
    cases es with
    | nil => cases hne
    | cons e rest =>
      refine callWith_def_at (h' := h1) (S1.kin _ _ (hk c.w)) hd (seqL hne q1 S1 fun vs h2 t2 ds k2 S2 r2 q2 => ⟨S2.kin _ _ (hk c.w), ?_⟩) (starEach_cons hne)
      exact fin (c := c) (t1 := t2) (fun b o e => k2 b o (k1 b o e)) (q2 c σ hr _ E vs S2 r2)) hc

theorem EE_bl {o : PySem.Expr} {ap : Pos} (hc : ∃ pl, eval (.Call (.Attribute o "bit_length" ap) [] [] pos) c.env = (do
          let ov ← eval o c.env
          standAt (Pos.atName ap)
          let __x ← holding [ov] (getMethod ov "bit_length" pl)
          match __x with
            | (f, first) => callWith pos f first (backTo pos (starEach [] c.env)) [])) (h : EE c σ o (fun d => ∃ i, d = .int i ∧ Q (.int (ib i)))) : EE c σ (.Call (.Attribute o "bit_length" ap) [] [] pos) Q := fun s E S => by
  obtain ⟨pl, hc⟩ := hc
  refine MethodCall_ (pl := pl) (seqV h S fun v1 h1 t1 d1 k1 S1 r1 q1 => ?_) hc
  obtain ⟨i, rfl, q⟩ := q1
  cases r1
  exact getMethod_int_bit_length (callWith_method0 (call_int_bit_length ⟨h1, _, _, rfl, k1, .int _ _, q⟩))
end
end Mine
end
section
open PySem.Calls PySem.Spec
namespace Mine
def Fo (c : Cx) (s : Shared) (fl : Flow) (s' : Shared) (N : Lo → Prop) (R : D → Prop) : Prop :=
  ∃ h' tk, s' = { s with heap := h', toks := tk } ∧ Kp (c.view s.heap) (c.view h') ∧ (match fl with
    | .next => ∃ σ', St c σ' h' ∧ N σ'
    | .ret v => (∃ σ', St c σ' h') ∧ ∃ d, Rep (c.view h') v d ∧ R d
    | _ => False)
def SS (c : Cx) (σ : Lo) (ss : List Stmt) (N : Lo → Prop) (R : D → Prop) : Prop := ∀ (s : Shared) (E : Ex), St c σ s.heap → wpAny (MD c.w) c.A (execs ss c.env) (fun fl s' => Fo c s fl s' N R) E s
def S1 (c : Cx) (σ : Lo) (st : Stmt) (N : Lo → Prop) (R : D → Prop) : Prop := ∀ (s : Shared) (E : Ex), St c σ s.heap → wpAny (MD c.w) c.A (exec st c.env) (fun fl s' => Fo c s fl s' N R) E s

theorem Fo.trans {c : Cx} {s : Shared} {h1 : Heap} {t1 : Nat} {fl : Flow} {s' : Shared} {N : Lo → Prop} {R : D → Prop} (k : Kp (c.view s.heap) (c.view h1)) (o : Fo c { s with heap := h1, toks := t1 } fl s' N R) : Fo c s fl s' N R := by
  obtain ⟨h2, t2, rfl, k2, x⟩ := o
  exact ⟨h2, t2, rfl, fun b o e => k2 b o (k b o e), x⟩

theorem ns_same {h : Heap} {a : Addr} {m m' : Vp} (x : h.Ns a m) (y : h.Ns a m') : m = m' := by
  obtain ⟨o, es, ep, h1, h2, h3, h4⟩ := x
  obtain ⟨o', es', ep', g1, g2, g3, g4⟩ := y
  rw [h1] at g1; cases g1
  rw [h2] at g2; cases g2
  funext n
  rw [← h4, ← g4]

section
variable {c : Cx} {σ : Lo} {N : Lo → Prop} {R : D → Prop} {pos : Pos}

theorem storeL {s : Shared} {E : Ex} {x : Str} {v : Value} {d : D} {P : Unit → Shared → Prop} (hL : c.env.locals = c.L) (hx : c.env.kindOf x = some .local) (S : St c σ s.heap) (r : Rep (c.view s.heap) v d)
    (k : ∀ h', St c ((x, d) :: σ) h' → Kp (c.view s.heap) (c.view h') → P () { s with heap := h', toks := s.toks + 1 }) : wpAny (MD c.w) c.A (storeName c.env x v) P E s := by
  obtain ⟨m, F⟩ := S.fr
  have hn0 : s.heap.Ns c.env.locals m := by rw [hL]; exact F.ns
  refine wpAny_storeName_local hx hn0 (fun h' hn hs => ?_) (by rw [c.ekind]; rfl)
  have hs' : Heap.SameBut c.L s.heap h' := hL ▸ hs
  have kv : Kp (c.view s.heap) (c.view h') := fun b o e => hideAll_get _ ((hs'.2 b (fun q => c.view_not e (q ▸ c.hidL))).trans (c.view_sub e)) (c.view_not e)
  refine k h' ⟨⟨_, F.set (hL ▸ hn) hs'⟩, ⟨_, hn⟩, fun b hb => ?_, fun y dy e => ?_, c.invk _ _ ⟨fun b o e hc => (hs'.2 b (fun q => ?_)).trans e, fun b o v e hc => ⟨o, v, (hs'.2 b (fun q => ?_)).trans e, hc⟩⟩ S.inv⟩ kv
  · by_cases q : b = c.env.locals
    · obtain ⟨o, _, _, e, _⟩ := hn
      exact ⟨o, q ▸ e⟩
    · obtain ⟨o, e⟩ := S.live b hb
      exact ⟨o, (hs.2 b q).trans e⟩
  · rw [List.lookup_cons] at e
    by_cases q : y = x
    · subst q
      simp only [beq_self_eq_true] at e
      cases e
      exact ⟨v, .inl ⟨hx, _, hn, if_pos rfl⟩, r.mono kv⟩
    · have : (y == x) = false := beq_eq_false_iff_ne.mpr q
      simp only [this] at e
      obtain ⟨vy, hv, ry⟩ := S.var y dy e
      refine ⟨vy, ?_, ry.mono kv⟩
      rcases hv with ⟨hy, m1, hn1, e1⟩ | ⟨hy, cc, o, h1, h2, h3⟩
      · refine .inl ⟨hy, _, hn, ?_⟩
        rw [if_neg q, ← ns_same hn1 hn0]; exact e1
      · refine .inr ⟨hy, cc, o, h1, (hs.2 cc fun q => ?_).trans h2, h3⟩
        obtain ⟨o', _, _, e1, e2, _⟩ := hn0
        rw [q, e1] at h2; cases h2
        rw [h3] at e2; cases e2
  · obtain ⟨o', es, ep, e1, e2, e3⟩ := hn0
    rw [q, ← hL, e1] at e
    cases e
    rcases hc with ⟨_, _, q⟩ | ⟨_, _, q⟩ <;> (rw [e2] at q; cases q)
  · obtain ⟨o', es, ep, e1, e2, e3⟩ := hn0
    rw [q, ← hL, e1] at e
    cases e
    rw [e2] at hc; cases hc

theorem SS_nil (n : N σ) : SS c σ [] N R := fun s E S => wpAny_execs_nil ⟨s.heap, s.toks, rfl, fun _ _ e => e, σ, S, n⟩
theorem SS_cons {st : Stmt} {rest : List Stmt} (h : S1 c σ st (fun σ' => SS c σ' rest N R) R) : SS c σ (st :: rest) N R := fun s E S =>
  wpAny_execs_cons (wpAny_mono (h s E S) (fun fl s' o => by
    obtain ⟨h', tk, rfl, k, x⟩ := o
    cases fl with
    | next =>
      obtain ⟨σ', S', n⟩ := x
      exact wpAny_mono (n { s with heap := h', toks := tk } E S') (fun fl s' o => o.trans k) fun _ _ x => x
    | ret v => exact ⟨h', tk, rfl, k, x⟩
    | brk => exact x.elim
    | cont => exact x.elim) fun _ _ x => x)
theorem S_ret {e : PySem.Expr} (h : EE c σ e R) : S1 c σ (.Return (some e) pos) N R := fun s E S =>
  wpAny_Return_some (seqV h S fun v h1 t1 d k1 S1 r q => ⟨h1, t1, rfl, c.view_mono k1, ⟨σ, S1⟩, d, r, q⟩)
theorem S_if {t : PySem.Expr} {body orelse : List Stmt} (h : EB c σ t (fun b => (b = true → SS c σ body N R) ∧ (b = false → SS c σ orelse N R))) : S1 c σ (.If t body orelse pos) N R := fun s E S =>
  wpAny_If (seqB h S fun b h1 t1 k1 S1 q => by
    cases b with
    | true => exact wpAny_mono (q.1 rfl { s with heap := h1, toks := t1 } E S1) (fun fl s' o => o.trans (c.view_mono k1)) fun _ _ x => x
    | false => exact wpAny_mono (q.2 rfl { s with heap := h1, toks := t1 } E S1) (fun fl s' o => o.trans (c.view_mono k1)) fun _ _ x => x)
theorem S_assert {t : PySem.Expr} {msg : Option PySem.Expr} (h : EB c σ t (fun b => b = true ∧ N σ)) : S1 c σ (.Assert t msg pos) N R := fun s E S =>
  wpAny_Assert_holds (seqB h S fun b h1 t1 k1 S1 q => ⟨q.1, h1, t1, rfl, c.view_mono k1, σ, S1, q.2⟩)
theorem S_set {sc : Scope} {x : Str} {e : PySem.Expr} {p' : Pos} (hs : c.env.scope = sc) (hL : c.env.locals = c.L) (hx : sc.names.lookup x = some .local) (hsw : swapsWith e (some (.Name x p')) pos.line c.env = pure false) (h : EE c σ e (fun d => N ((x, d) :: σ)))
    : S1 c σ (.Assign [.Name x p'] e pos) N R := fun s E S =>
  wpAny_Assign_Name (seqV h S fun v h1 t1 d k1 S1 r q => storeL hL (kind_of hs hx) S1 r fun h2 S2 k2 => ⟨h2, _, rfl, fun b o e => k2 b o (c.view_mono k1 b o e), _, S2, q⟩) hsw
theorem S_aug {sc : Scope} {x : Str} {e : PySem.Expr} {op : Operator} {p' : Pos} {d0 : D} (hs : c.env.scope = sc) (hL : c.env.locals = c.L) (hx : sc.names.lookup x = some .local) (hl : σ.lookup x = some d0) (h : EE c σ e (fun d1 => Iop c σ op d0 d1 (fun d => N ((x, d) :: σ)))) :
    S1 c σ (.AugAssign (.Name x p') op e pos) N R := fun s E S => by
  obtain ⟨v0, hv, r0⟩ := S.var x d0 hl
  refine wpAny_AugAssign_Name ?_
  rcases hv with ⟨_, m, hn, hm⟩ | ⟨hx', _⟩
  · refine wpAny_loadName_local c.ekind (kind_of hs hx) hn hm (seqV h S fun v1 h1 t1 d1 k1 S1 r1 q1 => ?_)
    refine wpAny_mono (q1 { s with heap := h1, toks := t1 } E v0 v1 S1 (r0.mono (c.view_mono k1)) r1) (fun v s' o => ?_) fun _ _ x => x
    obtain ⟨h2, t2, d, rfl, k2, r2, q2⟩ := o
    exact storeL hL (kind_of hs hx) (S1.mono k2) r2 fun h3 S3 k3 => ⟨h3, _, rfl, fun b o e => k3 b o (c.view_mono k2 b o (c.view_mono k1 b o e)), _, S3, q2⟩
  · rw [kind_of hs hx] at hx'; rcases hx' with q | ⟨q, _⟩ <;> cases q

def names? : List PySem.Expr → Option (List Str)
  | [] => some []
  | .Name x _ :: r => (match names? r with | some l => some (x :: l) | none => none)
  | _ :: _ => none
theorem names_cons {x : Str} {p : Pos} {r : List PySem.Expr} {xs : List Str} (h : names? (.Name x p :: r) = some xs) : ∃ l, names? r = some l ∧ x :: l = xs := by
  simp only [names?] at h
  split at h
  · rename_i l hl
    exact ⟨l, hl, Option.some.inj h⟩
  · cases h
def pushL : List Str → List D → Lo → Lo
  | x :: xs, d :: ds, σ => pushL xs ds ((x, d) :: σ)
  | _, _, σ => σ
theorem stores_go (hL : c.env.locals = c.L) : ∀ (es : List PySem.Expr) (xs : List Str) (vs : List Value) (ds : List D) {σ : Lo} {s : Shared} {E : Ex} {P : Unit → Shared → Prop}, names? es = some xs → (∀ x ∈ xs, c.env.kindOf x = some .local) →
    St c σ s.heap → RepL (c.view s.heap) vs ds → es.length = ds.length → (∀ h' tk, St c (pushL xs ds σ) h' → Kp (c.view s.heap) (c.view h') → P () { s with heap := h', toks := tk }) →
    wpAny (MD c.w) c.A (assignInOrder ((assignEach es c.env).map (·.2)) vs) P E s
  | [], xs, vs, ds, σ, s, E, P, hn, hk, S, r, hl, k => by
    cases hn
    cases ds with
    | nil => cases r; exact assignInOrder_nil (k s.heap s.toks S fun _ _ e => e)
    | cons _ _ => cases hl
  | e :: es, xs, vs, ds, σ, s, E, P, hn, hk, S, r, hl, k => by
    cases e <;> try (cases hn; done)
    rename_i x p
    obtain ⟨xs', hn', rfl⟩ := names_cons hn
    cases ds with
    | nil => cases hl
    | cons d ds =>
      cases r with
      | cons r1 r2 =>
        rename_i v vs
        show wpAny _ _ (assignInOrder (assign (.Name x p) c.env :: (assignEach es c.env).map (·.2)) (v :: vs)) P E s
        refine assignInOrder_cons (PyProof.Rows.assign_Name (storeL hL (hk x (.head _)) S r1 fun h1 S1 k1 => ?_))
        exact stores_go hL es xs' vs ds hn' (fun y hy => hk y (.tail _ hy)) S1 (r2.mono k1) (by simpa using hl) fun h2 t2 S2 k2 => k h2 t2 S2 fun b o e => k2 b o (k1 b o e)

theorem extBut_kp {h h' : Heap} (he : Heap.ExtBut h.objs.size h h') : Kp h h' := fun b o e => he b o (Nat.ne_of_lt (Heap.lt_size e)) e

theorem names_len : ∀ {es : List PySem.Expr} {xs : List Str}, names? es = some xs → ∀ env, (assignEach es env).length = es.length ∧ (assignEach es env).findIdx? (·.1) = none
  | [], _, _, env => ⟨rfl, rfl⟩
  | e :: es, xs, hn, env => by
    cases e <;> try (cases hn; done)
    rename_i x p
    obtain ⟨xs', hn', rfl⟩ := names_cons hn
    obtain ⟨a, b⟩ := names_len hn' env
    show ((false, assign (.Name x p) env) :: assignEach es env).length = _ ∧ ((false, assign (.Name x p) env) :: assignEach es env).findIdx? (·.1) = none
    refine ⟨by simp [a], ?_⟩
    rw [List.findIdx?_cons]; simp [b]

theorem S_unpack {sc : Scope} {es : List PySem.Expr} {xs : List Str} {k : Nat} {tp : Pos} {e : PySem.Expr} (hs : c.env.scope = sc) (hL : c.env.locals = c.L) (hn : names? es = some xs) (hx : (xs.all fun x => decide (sc.names.lookup x = some .local)) = true)
    (hsw : swapsWithSole [.Tuple es k tp] e pos.line c.env = pure false) (hss : swappedStores [.Tuple es k tp] e c.env = pure none) (h : EE c σ e (fun d => ∃ ds, d = .tup ds ∧ es.length = ds.length ∧ N (pushL xs ds σ))) : S1 c σ (.Assign [.Tuple es k tp] e pos) N R := fun s E S =>
  Assign_Tuple (seqV h S fun v h1 t1 d k1 S1 r q => by
    obtain ⟨ds, rfl, hl, q⟩ := q
    obtain ⟨a, vs, rfl, ht, rl⟩ := rep_tup r
    refine assign_Tuple_tuple c.hand (view_tup ht) ?_ (names_len hn _).2 fun h2 he => ?_
    · rw [(names_len hn _).1, List.size_toArray, rl.length]; exact hl
    · have k2 := extBut_kp he
      refine stores_go hL es xs vs.toArray.toList ds hn (fun x hm => kind_of hs (of_decide_eq_true (List.all_eq_true.mp hx x hm))) (S1.mono k2) (rl.mono (c.view_mono k2)) hl fun h3 t3 S3 k3 => ⟨h3, t3, rfl, fun b o e => k3 b o (c.view_mono k2 b o (c.view_mono k1 b o e)), _, S3, q⟩) hsw hss

theorem bind_go (hL : c.env.locals = c.L) : ∀ (xs : List Str) (vs : List Value) (ds : List D) {σ : Lo} {s : Shared} {E : Ex} {P : Unit → Shared → Prop}, (∀ x ∈ xs, c.env.kindOf x = some .local) →
    St c σ s.heap → RepL (c.view s.heap) vs ds → xs.length = ds.length → (∀ h' tk, St c (pushL xs ds σ) h' → Kp (c.view s.heap) (c.view h') → P () { s with heap := h', toks := tk }) →
    wpAny (MD c.w) c.A (assignInOrder (xs.map fun n => bindName c.env n) vs) P E s
  | [], vs, ds, σ, s, E, P, hk, S, r, hl, k => by
    cases ds with
    | nil => cases r; exact assignInOrder_nil (k s.heap s.toks S fun _ _ e => e)
    | cons _ _ => cases hl
  | x :: xs, vs, ds, σ, s, E, P, hk, S, r, hl, k => by
    cases ds with
    | nil => cases hl
    | cons d ds =>
      cases r with
      | cons r1 r2 =>
        rename_i v vs
        refine assignInOrder_cons (bindName_ (storeL hL (hk x (.head _)) S r1 fun h1 S1 k1 => ?_))
        exact bind_go hL xs vs ds (fun y hy => hk y (.tail _ hy)) S1 (r2.mono k1) (by simpa using hl) fun h2 t2 S2 k2 => k h2 t2 S2 fun b o e => k2 b o (k1 b o e)
theorem RepL.reverse {h : Heap} : ∀ {vs : List Value} {ds : List D}, RepL h vs ds → RepL h vs.reverse ds.reverse
  | _, _, .nil => .nil
  | _, _, .cons a b => by rw [List.reverse_cons, List.reverse_cons]; exact RepL.append (RepL.reverse b) (.cons a .nil)
theorem S_swapped {sc : Scope} {es : List PySem.Expr} {xs : List Str} {k : Nat} {tp : Pos} {e : PySem.Expr} (hs : c.env.scope = sc) (hL : c.env.locals = c.L) (hss : ∀ env : Env, env.scope = sc → swappedStores [.Tuple es k tp] e env = pure (some xs))
    (hx : (xs.all fun x => decide (sc.names.lookup x = some .local)) = true) (hsw : swapsWithSole [.Tuple es k tp] e pos.line c.env = pure false) (h : EE c σ e (fun d => ∃ ds, d = .tup ds ∧ xs.length = ds.length ∧ N (pushL xs.reverse ds.reverse σ))) : S1 c σ (.Assign [.Tuple es k tp] e pos) N R := fun s E S =>
  Assign_Tuple_swapped (names := xs) (seqV h S fun v h1 t1 d k1 S1 r q => by
    obtain ⟨ds, rfl, hl, q⟩ := q
    obtain ⟨a, vs, rfl, ht, rl⟩ := rep_tup r
    have hsz : xs.length = vs.toArray.size := by rw [List.size_toArray, rl.length]; exact hl
    rw [hsz]
    refine unpackItems_tuple c.hand (view_tup ht) fun h2 he => ?_
    have k2 := extBut_kp he
    exact bind_go hL xs.reverse vs.toArray.toList.reverse ds.reverse (fun x hm => kind_of hs (of_decide_eq_true (List.all_eq_true.mp hx x (List.mem_reverse.mp hm)))) (S1.mono k2) (RepL.reverse (rl.mono (c.view_mono k2))) (by simpa using hl) fun h3 t3 S3 k3 => ⟨h3, t3, rfl, fun b o e => k3 b o (c.view_mono k2 b o (c.view_mono k1 b o e)), _, S3, q⟩) hsw (hss _ hs)
end


theorem zip_rev {h : Heap} {x : Str} {d : D} : ∀ {xs : List Str} {vs : List Value} {ds : List D}, xs.Nodup → RepL h vs ds → (xs.zip ds).lookup x = some d → ∃ v, (xs.zip vs).reverse.lookup x = some v ∧ Rep h v d
  | [], _, _, _, _, e => by simp at e
  | y :: ys, _, _, hn, .nil, e => by simp at e
  | y :: ys, _, _, hn, .cons (v := v) (d := d') (vs := vs) (l := l) r rs, e => by
    rw [List.zip_cons_cons, List.lookup_cons] at e
    rw [List.zip_cons_cons, List.reverse_cons, List.lookup_append]
    have hn' := List.nodup_cons.mp hn
    by_cases q : x = y
    · subst q
      simp only [beq_self_eq_true] at e
      cases e
      have : (ys.zip vs).reverse.lookup x = none := by
        rw [List.lookup_eq_none_iff]
        intro p hp
        have := (List.of_mem_zip (List.mem_reverse.mp hp)).1
        exact bne_iff_ne.mpr fun (q : x = p.1) => hn'.1 (by rw [q]; exact this)
      rw [this]
      exact ⟨v, by simp, r⟩
    · have : (x == y) = false := beq_eq_false_iff_ne.mpr q
      simp only [this] at e
      obtain ⟨v', e', r'⟩ := zip_rev hn'.2 rs e
      exact ⟨v', by rw [e']; rfl, r'⟩

theorem view_cons {c : Cx} {L : Addr} {h : Heap} : Kp (hideAll h (L :: c.hid)) (c.view h) := fun b o e => by
  have hb : b ∉ L :: c.hid := fun hm => by rw [hideAll_none _ hm] at e; cases e
  exact hideAll_get _ (of_hideAll _ e) fun hm => hb (.tail _ hm)

/-- from a call to the body -/
theorem FnOK_intro {f : Addr} {n : Nat} {args dd : List D} {Q : D → Prop} {name qual : Str} {params : Arguments} {body : List Stmt} {scope : Scope} {dV kV doc pm cdv ct oc : Value} {an od : Option Addr} {osl : Array (Option Value)} (xs : List Str) {σ0 : Lo}
    (ho : ∀ w, (KF w).lookup f = some ⟨oc, od, .func (fnOf name qual params body scope dV kV doc pm an cdv ct), osl⟩) (hcd : ∀ w, codeIn (KF w) cdv qual = true)
    (hbind : ∀ (s : Shared) (vs : List Value) (w : World), (KF w).In s.heap → vs.length = args.length → ∃ dv : List Value, BindsTo s (fnOf name qual params body scope dV kV doc pm an cdv ct) ⟨vs, []⟩ (xs.zip (vs ++ dv)) ∧ ∀ h, RepL h dv dd)
    (hnd : xs.Nodup) (hloc : (xs.all fun x => decide (scope.names.lookup x = some .local)) = true) (hσ : xs.zip (args ++ dd) = σ0)
    (hco : scope.isCoroutine = false) (hgen : scope.isGenerator = false) (hk : scope.kind = .function) (hcell : (scope.names.all fun x => x.2 != .cell) = true)
    (h : ∀ c : Cx, n ≤ c.rk → c.env.scope = scope → c.env.locals = c.L → SS c σ0 body (fun _ => Q .none) Q) : FnOK f (n + 1) args Q := by
  intro c σ hrk s E vs S rl
  obtain ⟨m, F⟩ := S.fr
  obtain ⟨dv, hb, hdv⟩ := hbind s vs c.w S.kin rl.length
  have hc := c.depth
  have hu := c.units
  have B1 := pushX c.below F c.frame c.fkind
  have hcell' : ∀ x ∈ scope.names, x.2 ≠ .cell := fun x hx => by simpa using List.all_eq_true.mp hcell x hx
  refine wpAny_call (codeAny_call_def (by omega) (S.kin _ _ (ho c.w)) rfl (c.top.nolimit.keeps F.keep) (codeRec_of S.kin (hcd c.w)) rfl hb hcell'
    (fun x hx => of_decide_eq_true (List.all_eq_true.mp hloc _ (List.of_mem_zip hx).1)) (fun h₁ hns hk₁ => ?_) hco hgen hk)
  let c' : Cx := {
    w := c.w
    A := c.A.deeper (envX qual scope s.heap.objs.size f cdv [])
    env := envX qual scope s.heap.objs.size f cdv []
    hid := s.heap.objs.size :: c.hid
    g := s.heap
    L := s.heap.objs.size
    rk := c.rk - 1
    p := c.p
    loose := c.loose
    mean := c.mean
    mg := c.mg
    mb := c.mb
    A₀ := c.A
    base := c.base
    outer := c.fenv :: c.outer
    fenv := envX qual scope s.heap.objs.size f cdv []
    below := ⟨c.frames, B1.stays, B1.frames⟩
    frames := (by show Option.map _ c.A.frames = _; rw [c.frames]; rfl)
    frame := rfl
    fkind := hk
    kin := S.kin
    top := c.top.keeps F.keep
    hand := c.hand
    depth := (by show c.A.depth + 1 + (c.rk - 1) < _; omega)
    units := (by show c.A.units + 3 + 10 * (c.rk - 1) + 200 < _; omega)
    ekind := hk
    eglob := rfl
    ebuilt := rfl
    hidL := .head _
    hidE := .head _
    kvis := (by
      intro b hb o e
      rcases List.mem_cons.mp hb with rfl | hb
      · exact absurd (Heap.lt_size (S.kin _ _ e)) (Nat.lt_irrefl _)
      · exact c.kvis b hb o e)
    inv := fun _ => True
    invk := fun _ _ _ x => x }
  have F1 : Fr s.heap s.heap.objs.size h₁ (fun x => (xs.zip (vs ++ dv)).reverse.lookup x) := ⟨hns, hk₁, Nat.le_refl _⟩
  have kv : Kp (c.view s.heap) (c'.view h₁) := fun b o e => hideAll_get _ (hk₁ _ _ (c.view_sub e)) fun hm => by
    rcases List.mem_cons.mp hm with rfl | hm
    · exact absurd (Heap.lt_size (c.view_sub e)) (Nat.lt_irrefl _)
    · exact c.view_not e hm
  have S0 : St c' σ0 h₁ := ⟨⟨_, F1⟩, ⟨_, hns⟩, fun b hb => by
      rcases List.mem_cons.mp hb with rfl | hb
      · obtain ⟨o, _, _, e, _⟩ := hns; exact ⟨o, e⟩
      · obtain ⟨o, e⟩ := S.live b hb; exact ⟨o, hk₁ _ _ e⟩, fun x d e => by
      subst hσ
      obtain ⟨v, ev, rv⟩ := zip_rev hnd (RepL.append (rl.mono kv) (hdv (c'.view h₁))) e
      refine ⟨v, .inl ⟨?_, _, hns, ev⟩, rv⟩
      have hx : x ∈ xs := by
        have : (xs.zip (args ++ dd)).lookup x ≠ none := by rw [e]; exact fun q => nomatch q
        rw [Ne, List.lookup_eq_none_iff] at this
        apply Classical.byContradiction
        intro hx
        exact this fun p hp => bne_iff_ne.mpr fun (q : x = p.1) => hx (by rw [q]; exact (List.of_mem_zip hp).1)
      exact of_decide_eq_true (List.all_eq_true.mp hloc x hx), True.intro⟩
  refine wpAny_mono (h c' (by show n ≤ c.rk - 1; omega) rfl rfl { s with heap := h₁, toks := s.toks + (xs.zip (vs ++ dv)).length } _ S0) (fun fl s' o => ?_) fun _ _ x => x
  obtain ⟨h', tk, rfl, k, x⟩ := o
  cases fl with
  | next =>
    obtain ⟨σ', S', q⟩ := x
    obtain ⟨m', F'⟩ := S'.fr
    exact ⟨h', tk, .none, rfl, F'.keep, .none, q⟩
  | ret v =>
    obtain ⟨⟨σ', S'⟩, d, rv, q⟩ := x
    obtain ⟨m', F'⟩ := S'.fr
    exact ⟨h', tk, d, rfl, F'.keep, rv.mono view_cons, q⟩
  | brk => exact x.elim
  | cont => exact x.elim
end Mine
end
section
open PySem.Calls PySem.Spec
namespace Mine
def Fn (c : Cx) (f : Addr) (ds : List D) (Q : D → Prop) : Prop := ∃ n, n ≤ c.rk ∧ FnOK f n ds Q
theorem FnOK.mono {f : Addr} {n : Nat} {ds : List D} {P Q : D → Prop} (h : FnOK f n ds P) (k : ∀ d, P d → Q d) : FnOK f n ds Q := fun c σ hr s E vs S r =>
  wpAny_mono (h c σ hr s E vs S r) (fun v s' o => by obtain ⟨h', tk, d, e1, k', rr, q⟩ := o; exact ⟨h', tk, d, e1, k', rr, k _ q⟩) fun _ _ x => x
theorem FnOK.up {f : Addr} {n m : Nat} {ds : List D} {Q : D → Prop} (h : FnOK f n ds Q) (k : n ≤ m) : FnOK f m ds Q := fun c σ hr s E vs S r => h c σ (Nat.le_trans k hr) s E vs S r
theorem Fn.use {c : Cx} {f : Addr} {n : Nat} {ds : List D} {P Q : D → Prop} (h : FnOK f n ds P) (hr : n ≤ c.rk) (k : ∀ d, P d → Q d) : Fn c f ds Q := ⟨n, hr, h.mono k⟩

section
variable {c : Cx} {σ : Lo} {Q : D → Prop} {B : Bool → Prop} {pos : Pos}
theorem EL_nil {P : List D → Prop} (h : P []) : EL c σ [] P := h
theorem EL_cons {e : PySem.Expr} {r : List PySem.Expr} {P : List D → Prop} (h : EE c σ e (fun d => EL c σ r (fun ds => P (d :: ds)))) : EL c σ (e :: r) P := h
theorem EE_call {sc : Scope} {x : Str} {np : Pos} {f : Addr} {es : List PySem.Expr} {oc : Value} {od : Option Addr} {fd : FuncData} {osl : Array (Option Value)} (hs : c.env.scope = sc) (hx : sc.names.lookup x = some .globalImplicit)
    (he : ∀ w, nsIn (KF w) mainGlobals x = some (some (.ref f))) (hk : ∀ w, (KF w).lookup f = some ⟨oc, od, .func fd, osl⟩) (hd : (x == ("__debug__" : Str)) = false) (hne : (!es.isEmpty && noStars es) = true)
    (hc : eval (.Call (.Name x np) es [] pos) c.env = (do let y ← eval (.Name x np) c.env; callWith pos y [] (backTo pos (starEach es c.env)) (backToKw pos (keywordEach [] c.env))))
    (h : EL c σ es (fun ds => Fn c f ds Q)) : EE c σ (.Call (.Name x np) es [] pos) Q := fun s E S =>
  Call_ (seqV (Q := fun d => d = .raw (.ref f)) (EE_raw hs hx he hd rfl) S fun v1 h1 t1 d1 k1 S1 r1 q1 => by
    subst q1
    cases r1
    cases es with
    | nil => cases hne
    | cons e rest =>
      refine callWith_def_at (h' := h1) (S1.kin _ _ (hk c.w)) rfl (seqL hne h S1 fun vs h2 t2 ds k2 S2 r2 q2 => ⟨S2.kin _ _ (hk c.w), ?_⟩) (starEach_cons hne)
      obtain ⟨n, hr, q2⟩ := q2
      exact fin (c := c) (t1 := t2) (fun b o e => k2 b o (k1 b o e)) (q2 c σ hr _ E vs S2 r2)) hc
end
end Mine
end
section
open PySem.Calls PySem.Spec
namespace Mine
/-! two to a whole power, and whole numbers times it -/
def p2 (k : Int) : Rat := (2 : Rat) ^ k
theorem two_ne : (2 : Rat) ≠ 0 := by decide
theorem p2_pos (k : Int) : 0 < p2 k := Rat.zpow_pos (by decide)
theorem p2_add (a b : Int) : p2 (a + b) = p2 a * p2 b := Rat.zpow_add two_ne a b
theorem p2_zero : p2 0 = 1 := Rat.zpow_zero _
theorem p2_nat (n : Nat) : p2 (n : Int) = ((2 ^ n : Int) : Rat) := by
  show (2 : Rat) ^ (n : Int) = _
  rw [Rat.zpow_natCast, Rat.intCast_pow]; rfl
/-- X * 2^e, seen from a lower power -/
theorem scale (X : Int) {e k : Int} (h : k ≤ e) : (X : Rat) * p2 e = ((X * 2 ^ (e - k).toNat : Int) : Rat) * p2 k := by
  have h1 : e = ((e - k).toNat : Int) + k := by omega
  have h2 : p2 e = ((2 ^ (e - k).toNat : Int) : Rat) * p2 k := by
    conv => lhs; rw [h1]
    rw [p2_add, p2_nat]
  rw [h2, Rat.intCast_mul, Rat.mul_assoc]
theorem le_same {X Y k : Int} : (X : Rat) * p2 k ≤ (Y : Rat) * p2 k ↔ X ≤ Y := by
  rw [← Rat.intCast_le_intCast]
  exact ⟨fun h => Rat.le_of_mul_le_mul_right h (p2_pos k), fun h => Rat.mul_le_mul_of_nonneg_right h (Rat.le_of_lt (p2_pos k))⟩
theorem lt_same {X Y k : Int} : (X : Rat) * p2 k < (Y : Rat) * p2 k ↔ X < Y := by
  rw [← Rat.not_le, le_same, Int.not_le]
theorem eq_same {X Y k : Int} : (X : Rat) * p2 k = (Y : Rat) * p2 k ↔ X = Y := by
  constructor
  · intro h
    have h1 : X ≤ Y := (le_same (k := k)).mp (by rw [h]; exact Rat.le_refl)
    have h2 : Y ≤ X := (le_same (k := k)).mp (by rw [h]; exact Rat.le_refl)
    omega
  · rintro rfl; rfl
theorem p2_mono {a b : Int} (h : a ≤ b) : p2 a ≤ p2 b := by
  have e1 := scale 1 (e := a) (k := a) (by omega)
  have e2 := scale 1 h
  have h3 : (1 : Int) ≤ 1 * 2 ^ (b - a).toNat := by have := Int.pow_pos (n := 2) (m := (b - a).toNat) (by decide); omega
  have h4 := (le_same (k := a)).mpr h3
  rw [← e2] at h4
  simpa using h4
theorem pow_pos (a : Nat) : (0 : Int) < 2 ^ a := Int.pow_pos (by decide)
theorem pow_succ2 (a : Nat) : (2 : Int) ^ (a + 1) = 2 * 2 ^ a := by rw [Int.pow_succ]; omega
theorem pow_nat (a : Nat) : ((2 ^ a : Nat) : Int) = 2 ^ a := by rw [Int.natCast_pow]; rfl

/-- to the floor, n bits less: nothing of p bits lies between -/
theorem round_down {X e : Int} {n p : Nat} (hX : 2 ^ (n + p) ≤ 2 * X.natAbs) (hp : 1 ≤ p) {Z f : Int} (hZ : Z.natAbs < 2 ^ p) (h : (Z : Rat) * p2 f ≤ (X : Rat) * p2 e) : (Z : Rat) * p2 f ≤ ((X / 2 ^ n : Int) : Rat) * p2 (e + n) := by
  have hn := pow_pos n
  by_cases hf : e + n ≤ f
  · rw [scale Z (k := e) (by omega), le_same] at h
    rw [scale Z hf, le_same]
    have e1 : (f - e).toNat = (f - (e + n)).toNat + n := by omega
    rw [e1, Int.pow_add, ← Int.mul_assoc] at h
    exact (Int.le_ediv_iff_mul_le hn).mpr h
  · obtain ⟨q, rfl⟩ : ∃ q, p = q + 1 := ⟨p - 1, by omega⟩
    have hq := pow_pos q
    have hX' : (2 : Int) ^ n * 2 ^ q ≤ X.natAbs := by
      have h1 : ((2 ^ (n + (q + 1)) : Nat) : Int) ≤ ((2 * X.natAbs : Nat) : Int) := by exact_mod_cast hX
      rw [pow_nat, ← Nat.add_assoc, pow_succ2, Int.pow_add] at h1
      omega
    have hZ' : (Z.natAbs : Int) < 2 * 2 ^ q := by
      have h1 : ((Z.natAbs : Nat) : Int) < ((2 ^ (q + 1) : Nat) : Int) := by exact_mod_cast hZ
      rw [pow_nat, pow_succ2] at h1
      exact h1
    -- 2 * 2^f at most one unit
    have hu : p2 (e + n) = ((2 : Int) : Rat) * p2 (e + n - 1) := by
      have := p2_add 1 (e + n - 1)
      rw [show (1 : Int) + (e + n - 1) = e + n by omega] at this
      rw [this]; congr 1
    have hm : p2 f ≤ p2 (e + n - 1) := p2_mono (by omega)
    have hpf := p2_pos f
    have hA : ((2 * 2 ^ q : Int) : Rat) * p2 f ≤ ((2 ^ q : Int) : Rat) * p2 (e + n) := by
      rw [hu, ← Rat.mul_assoc, ← Rat.intCast_mul, Int.mul_comm (2 ^ q) 2]
      exact Rat.mul_le_mul_of_nonneg_left hm (Rat.intCast_nonneg.mpr (by omega))
    have hB : (Z : Rat) * p2 f < ((2 * 2 ^ q : Int) : Rat) * p2 f := lt_same.mpr (by omega)
    have hC : ((-(2 * 2 ^ q) : Int) : Rat) * p2 f < (Z : Rat) * p2 f := lt_same.mpr (by omega)
    by_cases hs : 0 ≤ X
    · have hD : (2 : Int) ^ q ≤ X / 2 ^ n := by
        refine (Int.le_ediv_iff_mul_le hn).mpr ?_
        rw [Int.mul_comm]; omega
      have hE := (le_same (k := e + n)).mpr hD
      exact Rat.le_trans (Rat.le_of_lt hB) (Rat.le_trans hA hE)
    · exfalso
      have hF : (X : Rat) * p2 e ≤ ((-(2 ^ q * 2 ^ n) : Int) : Rat) * p2 e := le_same.mpr (by rw [Int.mul_comm]; omega)
      have hG : ((-(2 ^ q * 2 ^ n) : Int) : Rat) * p2 e = ((-(2 ^ q) : Int) : Rat) * p2 (e + n) := by
        rw [scale (-(2 ^ q)) (e := e + n) (k := e) (by omega)]
        congr 2
        rw [show (e + (n : Int) - e).toNat = n by omega, Int.neg_mul]
      rw [hG] at hF
      rw [Int.cast_neg', Rat.neg_mul] at hF
      rw [Int.cast_neg', Rat.neg_mul] at hC
      grind
where
  Int.cast_neg' {a : Int} : ((-a : Int) : Rat) = -(a : Rat) := Rat.intCast_neg a
end Mine
end
section
open PySem.Calls PySem.Spec
namespace Mine
theorem ib_zero : ib 0 = 0 := rfl
theorem ib_pos {n : Int} (h : n ≠ 0) : ib n = n.natAbs.log2 + 1 := by
  unfold ib Builtin.Int.intBits
  rw [if_neg (by simpa using h)]
theorem ib_lt (n : Int) : n.natAbs < 2 ^ ib n := by
  by_cases h : n = 0
  · subst h; decide
  · rw [ib_pos h]; exact Nat.lt_log2_self
theorem ib_ge {n : Int} (h : n ≠ 0) : 2 ^ ib n ≤ 2 * n.natAbs := by
  rw [ib_pos h, Nat.pow_succ, Nat.mul_comm]
  exact Nat.mul_le_mul_left 2 (Nat.log2_self_le (by omega))
theorem ib_eq {n : Int} {k : Nat} (h0 : n ≠ 0) (h1 : n.natAbs < 2 ^ k) (h2 : 2 ^ k ≤ 2 * n.natAbs) : ib n = k := by
  have a := ib_lt n
  have b := ib_ge h0
  have c1 : ¬ ib n < k := fun h => by
    have : 2 ^ (ib n + 1) ≤ 2 ^ k := Nat.pow_le_pow_right (by decide) h
    rw [Nat.pow_succ] at this; omega
  have c2 : ¬ k < ib n := fun h => by
    have : 2 ^ (k + 1) ≤ 2 ^ ib n := Nat.pow_le_pow_right (by decide) h
    rw [Nat.pow_succ] at this; omega
  omega
theorem ib_le {n : Int} {k : Nat} (h : n.natAbs < 2 ^ k) : ib n ≤ k := by
  by_cases h0 : n = 0
  · subst h0; rw [ib_zero]; omega
  · have b := ib_ge h0
    apply Classical.byContradiction
    intro c
    have : 2 ^ (k + 1) ≤ 2 ^ ib n := Nat.pow_le_pow_right (by decide) (by omega)
    rw [Nat.pow_succ] at this; omega
theorem ib_one : ib 1 = 1 := ib_eq (by decide) (by decide) (by decide)

/-- the lowest one -/
theorem land_low : ∀ (k j : Nat), ((2 * j + 1) * 2 ^ k) &&& ((2 * j + 1) * 2 ^ k - 1) = (2 * j + 1) * 2 ^ k - 2 ^ k
  | 0, j => by
    apply Nat.eq_of_testBit_eq
    intro i
    cases i with
    | zero => simp
    | succ i =>
      have a1 : ((2 * j + 1) * 2 ^ 0) / 2 = j := by omega
      have a2 : ((2 * j + 1) * 2 ^ 0 - 1) / 2 = j := by omega
      have a3 : ((2 * j + 1) * 2 ^ 0 - 2 ^ 0) / 2 = j := by omega
      rw [Nat.testBit_and]
      simp only [Nat.testBit_succ, a1, a2, a3, Bool.and_self]
  | k + 1, j => by
    have ih := land_low k j
    have hp : 0 < (2 * j + 1) * 2 ^ k := Nat.mul_pos (by omega) (Nat.pow_pos (by decide))
    have e1 : (2 * j + 1) * 2 ^ (k + 1) = 2 * ((2 * j + 1) * 2 ^ k) := by rw [Nat.pow_succ]; rw [← Nat.mul_assoc, Nat.mul_comm]
    have e2 : 2 ^ (k + 1) = 2 * 2 ^ k := by rw [Nat.pow_succ, Nat.mul_comm]
    rw [e1, e2]
    generalize (2 * j + 1) * 2 ^ k = a at ih hp ⊢
    have e3 : 2 * a - 1 = 2 * (a - 1) + 1 := by omega
    rw [e3]
    apply Nat.eq_of_testBit_eq
    intro i
    cases i with
    | zero => simp; omega
    | succ i =>
      rw [Nat.testBit_and, Nat.testBit_succ, Nat.testBit_succ, Nat.testBit_succ, show 2 * a / 2 = a by omega, show (2 * (a - 1) + 1) / 2 = a - 1 by omega, show (2 * a - 2 * 2 ^ k) / 2 = a - 2 ^ k by omega, ← Nat.testBit_and, ih]

theorem odd_pow : ∀ (n : Nat), 0 < n → ∃ j k, n = (2 * j + 1) * 2 ^ k
  | n, h => by
    by_cases q : n % 2 = 1
    · exact ⟨n / 2, 0, by omega⟩
    · obtain ⟨j, k, e⟩ := odd_pow (n / 2) (by omega)
      exact ⟨j, k + 1, by rw [Nat.pow_succ, ← Nat.mul_assoc, ← e]; omega⟩
termination_by n => n

theorem bitAnd_neg {n : Int} {j k : Nat} (h : n = ((2 * j + 1) * 2 ^ k : Nat)) : Builtin.bitAnd n (-n) = ((2 ^ k : Nat) : Int) := by
  have hp : 0 < (2 * j + 1) * 2 ^ k := Nat.mul_pos (by omega) (Nat.pow_pos (by decide))
  have hl := land_low k j
  have hle : 2 ^ k ≤ (2 * j + 1) * 2 ^ k := Nat.le_mul_of_pos_left _ (by omega)
  generalize (2 * j + 1) * 2 ^ k = a at *
  subst h
  have d1 : decide ((0 : Int) ≤ (a : Int)) = true := decide_eq_true (by omega)
  have d2 : decide ((0 : Int) ≤ -(a : Int)) = false := decide_eq_false (by omega)
  unfold Builtin.bitAnd
  rw [d1, d2]
  dsimp only
  have e : (Builtin.bitNot (-(a : Int))).toNat = a - 1 := by
    unfold Builtin.bitNot; omega
  rw [e, Int.toNat_natCast, hl]
  omega

/-- a number of the program's: sign, size, power, bits -/
structure Mpf where
  s : Int
  m : Int
  e : Int
  b : Int
structure Mpf.Ok (x : Mpf) : Prop where
  sg : x.s = 0 ∨ x.s = 1
  nn : 0 ≤ x.m
  bc : x.b = ib x.m
  zz : x.m = 0 → x.s = 0 ∧ x.e = 0
  odd : x.m ≠ 0 → x.m % 2 = 1
/-- the signed size -/
def sg (s m : Int) : Int := if s = 1 then -m else m
def rv (s m e : Int) : Rat := (sg s m : Rat) * p2 e
def Mpf.val (x : Mpf) : Rat := rv x.s x.m x.e
def Fits (p : Int) (z : Mpf) : Prop := p = 0 ∨ z.m < 2 ^ p.toNat
/-- y is v rounded to p bits (0: exactly), up or down -/
structure Rnd (p : Int) (up : Bool) (v : Rat) (y : Mpf) : Prop where
  fits : Fits p y
  exact0 : p = 0 → y.val = v
  dn : up = false → y.val ≤ v ∧ ∀ z : Mpf, z.Ok → Fits p z → z.val ≤ v → z.val ≤ y.val
  hi : up = true → v ≤ y.val ∧ ∀ z : Mpf, z.Ok → Fits p z → v ≤ z.val → y.val ≤ z.val

theorem sg_neg {s m : Int} (h : s = 0 ∨ s = 1) : sg (1 - s) m = - sg s m := by
  rcases h with rfl | rfl <;> simp [sg]
theorem sg_abs {s m : Int} : (sg s m).natAbs = m.natAbs := by unfold sg; split <;> simp

/-- the power's rest is odd: the stage behind the shift -/
theorem stage2 {s M e : Int} (hs : s = 0 ∨ s = 1) (hM : 0 < M) {y : Mpf} {t : Nat} {o : Int} (ho : M = o * 2 ^ t) (hod : o % 2 = 1) (hy : y = ⟨s, o, e + t, ib o⟩) : y.Ok ∧ y.val = rv s M e ∧ 0 < y.m ∧ y.m ≤ M := by
  have ht := pow_pos t
  have hop : 0 < o := by
    apply Classical.byContradiction
    intro h
    have : o * 2 ^ t ≤ 0 := Int.mul_nonpos_of_nonpos_of_nonneg (by omega) (by omega)
    omega
  subst hy
  refine ⟨⟨hs, by show 0 ≤ o; omega, rfl, fun h => ?_, fun _ => hod⟩, ?_, hop, ?_⟩
  · have : o = 0 := h
    omega
  · show rv s o (e + t) = rv s M e
    unfold rv
    rw [scale (sg s o) (e := e + t) (k := e) (by omega)]
    congr 2
    rw [show (e + (t : Int) - e).toNat = t by omega]
    unfold sg
    split <;> rw [ho]
    rw [Int.neg_mul]
  · show o ≤ M
    have : o * 1 ≤ o * 2 ^ t := Int.mul_le_mul_of_nonneg_left (by omega) (by omega)
    omega

/-- what is exact is rounded, if it fits -/
theorem Rnd.exact {p : Int} {up : Bool} {v : Rat} {y : Mpf} (hf : Fits p y) (h : y.val = v) : Rnd p up v y :=
  ⟨hf, fun _ => h, fun _ => ⟨by rw [h]; exact Rat.le_refl, fun z _ _ hz => by rw [h]; exact hz⟩, fun _ => ⟨by rw [h]; exact Rat.le_refl, fun z _ _ hz => by rw [h]; exact hz⟩⟩

theorem neg_mul_p2 (X : Int) (e : Int) : ((-X : Int) : Rat) * p2 e = -((X : Rat) * p2 e) := by rw [Rat.intCast_neg, Rat.neg_mul]

/-- the signed floor or ceiling of the signed size -/
theorem Rnd.shift {s m e : Int} {n p : Nat} {up : Bool} {y : Mpf} {q : Int} (hs : s = 0 ∨ s = 1) (hm : 0 < m) (hb : 2 ^ (n + p) ≤ 2 * m.natAbs) (hp : 1 ≤ p) (hq : q = if up then -((-(sg s m)) / 2 ^ n) else sg s m / 2 ^ n)
    (hv : y.val = (q : Rat) * p2 (e + n)) (hf : y.m < 2 ^ p) : Rnd p up (rv s m e) y := by
  have hn := pow_pos n
  have hfz : ∀ z : Mpf, z.Ok → Fits p z → (sg z.s z.m).natAbs < 2 ^ p := fun z hz hfz => by
    rw [sg_abs]
    rcases hfz with h | h
    · omega
    · rw [Int.toNat_natCast] at h
      have h1 := hz.nn
      have h2 : ((z.m.natAbs : Nat) : Int) < ((2 ^ p : Nat) : Int) := by rw [pow_nat]; omega
      exact_mod_cast h2
  refine ⟨.inr (by rw [Int.toNat_natCast]; exact hf), fun h => by omega, fun hu => ?_, fun hu => ?_⟩
  · subst hu
    simp only [Bool.false_eq_true, if_false] at hq
    refine ⟨?_, fun z hz hfit hle => ?_⟩
    · rw [hv]
      unfold rv
      rw [scale q (e := e + n) (k := e) (by omega), le_same, show (e + (n : Int) - e).toNat = n by omega, hq]
      exact Int.ediv_mul_le _ (by omega)
    · rw [hv, hq]
      exact round_down (by rw [sg_abs]; exact hb) hp (hfz z hz hfit) hle
  · subst hu
    simp only [if_true] at hq
    refine ⟨?_, fun z hz hfit hle => ?_⟩
    · rw [hv]
      unfold rv
      rw [scale q (e := e + n) (k := e) (by omega), le_same, show (e + (n : Int) - e).toNat = n by omega, hq]
      have := Int.ediv_mul_le (-(sg s m)) (b := 2 ^ n) (by omega)
      rw [Int.neg_mul]; omega
    · rw [hv, hq]
      have h1 : (((-(sg z.s z.m) : Int)) : Rat) * p2 z.e ≤ ((-(sg s m) : Int) : Rat) * p2 e := by
        rw [neg_mul_p2, neg_mul_p2]
        exact Rat.neg_le_neg hle
      have h2 := round_down (by rw [Int.natAbs_neg, sg_abs]; exact hb) hp (by rw [Int.natAbs_neg]; exact hfz z hz hfit) h1
      rw [neg_mul_p2] at h2 ⊢
      exact Rat.neg_le_iff.mp h2
end Mine
end
section
open PySem.Calls PySem.Spec
namespace Mine
def tz (n : Int) : Int := (ib (Builtin.bitAnd n (-n)) : Int) - 1

theorem ib_mul_pow {o : Int} (h : o ≠ 0) (t : Nat) : ib (o * 2 ^ t) = ib o + t := by
  have a := ib_lt o
  have b := ib_ge h
  have e1 : (o * 2 ^ t).natAbs = o.natAbs * 2 ^ t := by rw [Int.natAbs_mul, Int.natAbs_pow]; rfl
  have hp : 0 < 2 ^ t := Nat.pow_pos (by decide)
  refine ib_eq ?_ ?_ ?_
  · have : (o * 2 ^ t).natAbs ≠ 0 := by rw [e1]; exact Nat.mul_ne_zero (by omega) (by omega)
    omega
  · rw [e1, Nat.pow_add]; exact Nat.mul_lt_mul_of_pos_right a hp
  · rw [e1, Nat.pow_add, ← Nat.mul_assoc]; exact Nat.mul_le_mul_right _ b
theorem tz_odd {M : Int} (h : 0 < M) : ∃ (o : Int) (t : Nat), M = o * 2 ^ t ∧ o % 2 = 1 ∧ tz M = t ∧ 0 < o := by
  obtain ⟨j, k, e⟩ := odd_pow M.toNat (by omega)
  have eM : M = ((2 * j + 1) * 2 ^ k : Nat) := by omega
  refine ⟨2 * j + 1, k, by rw [eM, Int.natCast_mul, pow_nat]; rfl, by omega, ?_, by omega⟩
  unfold tz
  rw [bitAnd_neg eM, pow_nat]
  have := ib_mul_pow (o := 1) (by decide) k
  rw [Int.one_mul, ib_one] at this
  show ((ib (2 ^ k) : Nat) : Int) - 1 = k
  rw [this]; omega
theorem bitAnd_one {M : Int} (h : 0 ≤ M) : Builtin.bitAnd M 1 = M % 2 := by
  have d1 : decide (0 ≤ M) = true := decide_eq_true h
  have d2 : decide ((0 : Int) ≤ 1) = true := rfl
  unfold Builtin.bitAnd
  rw [d1, d2]
  dsimp only
  show (((M.toNat &&& 1 : Nat)) : Int) = M % 2
  rw [Nat.and_one_is_mod]
  omega
theorem fdiv_pow (a : Int) (n : Nat) : a.fdiv (2 ^ n) = a / 2 ^ n := Int.fdiv_eq_ediv_of_nonneg _ (Int.le_of_lt (pow_pos n))

structure NormPost (p : Int) (up : Bool) (s m e : Int) (y : Mpf) : Prop where
  ok : y.Ok
  rnd : Rnd p up (rv s m e) y
  bd : (y.m = 0 ∧ y.e = 0) ∨ (e ≤ y.e ∧ y.e ≤ e + ib m)
  bb : y.b ≤ ib m
  ex : (ib m : Int) ≤ p → y.val = rv s m e

theorem norm_zero {p : Int} {up : Bool} {s e : Int} : NormPost p up s 0 e ⟨0, 0, 0, 0⟩ := by
  have h : rv 0 0 0 = rv s 0 e := by
    unfold rv sg
    simp [Rat.zero_mul]
  exact ⟨⟨.inl rfl, Int.le_refl _, rfl, fun _ => ⟨rfl, rfl⟩, fun h => absurd rfl h⟩, Rnd.exact (.inr (pow_pos _)) h, .inl ⟨rfl, rfl⟩, by simp [ib_zero], fun _ => h⟩

theorem bits_between {m : Int} {nn pp : Nat} (hm : 0 < m) (h : ib m = nn + (pp + 1)) : m < 2 ^ nn * 2 ^ (pp + 1) ∧ 2 ^ nn * 2 ^ pp ≤ m := by
  have hib := ib_lt m
  have hig := ib_ge (n := m) (by omega)
  constructor
  · have h1 : ((m.natAbs : Nat) : Int) < ((2 ^ ib m : Nat) : Int) := by exact_mod_cast hib
    rw [pow_nat, h, Int.pow_add] at h1
    omega
  · have h1 : ((2 ^ ib m : Nat) : Int) ≤ ((2 * m.natAbs : Nat) : Int) := by exact_mod_cast hig
    rw [pow_nat, h, ← Nat.add_assoc, pow_succ2, Int.pow_add] at h1
    omega
theorem norm_leaf {s m e b p : Int} {up : Bool} (hs : s = 0 ∨ s = 1) (hm : 0 < m) (hb : b = ib m) (hp : 1 ≤ p) {M E B t o ee bb : Int}
    (h1 : (b - p ≤ 0 ∧ M = m ∧ E = e ∧ B = b) ∨ (0 < b - p ∧ E = e + (b - p) ∧ B = p ∧ ((M = m.fdiv (2 ^ (b - p).toNat) ∧ (up = true ↔ s = 1)) ∨ (M = -((-m).fdiv (2 ^ (b - p).toNat)) ∧ (up = true ↔ s = 0)))))
    (h2 : (Builtin.bitAnd M 1 ≠ 0 ∧ t = 0 ∧ o = M) ∨ (Builtin.bitAnd M 1 = 0 ∧ t = tz M ∧ o = M.fdiv (2 ^ t.toNat)))
    (h3 : (o = 1 ∧ bb = 1) ∨ (o ≠ 1 ∧ bb = B - t)) (he : ee = E + t) : NormPost p up s m e ⟨s, o, ee, bb⟩ := by
  have hib := ib_lt m
  have hig := ib_ge (n := m) (by omega)
  -- the stage behind the shift
  have go : ∀ (hM : 0 < M) (hB : M < 2 ^ B.toNat → ib M = B) (hM2 : M ≤ 2 ^ B.toNat) (hB0 : 0 ≤ B), ∃ tn : Nat, t = tn ∧ M = o * 2 ^ tn ∧ o % 2 = 1 ∧ bb = ib o ∧ 0 < o := by
    intro hM hB hM2 hB0
    obtain ⟨o', t', e1, e2, e3, e4⟩ := tz_odd hM
    rw [bitAnd_one (by omega)] at h2
    have key : ∃ tn : Nat, t = tn ∧ M = o * 2 ^ tn ∧ o % 2 = 1 ∧ 0 < o := by
      rcases h2 with ⟨c1, c2, c3⟩ | ⟨c1, c2, c3⟩
      · refine ⟨0, c2, by rw [c3]; simp, by rw [c3]; omega, by omega⟩
      · rw [e3] at c2
        refine ⟨t', c2, ?_⟩
        have : o = o' := by
          rw [c3, c2, Int.toNat_natCast, fdiv_pow, e1]
          exact Int.mul_ediv_cancel _ (by have := pow_pos t'; omega)
        rw [this]; exact ⟨e1, e2, e4⟩
    obtain ⟨tn, k1, k2, k3, k4⟩ := key
    refine ⟨tn, k1, k2, k3, ?_, k4⟩
    rcases h3 with ⟨c1, c2⟩ | ⟨c1, c2⟩
    · rw [c1, c2, ib_one]; rfl
    · have hlt : M < 2 ^ B.toNat := by
        apply Classical.byContradiction
        intro hc
        have hc : M = 2 ^ B.toNat := by omega
        rw [k2] at hc
        have h5 := pow_pos tn
        by_cases q : tn ≤ B.toNat
        · obtain ⟨d, hd⟩ := Nat.le.dest q
          rw [← hd, Nat.add_comm, Int.pow_add] at hc
          have := Int.eq_of_mul_eq_mul_right (by omega) hc
          cases d with
          | zero => exact c1 (by rw [this]; rfl)
          | succ d => rw [pow_succ2] at this; omega
        · obtain ⟨d, hd⟩ := Nat.le.dest (Nat.le_of_lt (Nat.lt_of_not_le q))
          rw [← hd, Nat.add_comm, Int.pow_add, ← Int.mul_assoc] at hc
          have h6 := pow_pos B.toNat
          have h7 : o * 2 ^ d = 1 := by
            have : o * 2 ^ d * 2 ^ B.toNat = 1 * 2 ^ B.toNat := by rw [hc]; omega
            exact Int.eq_of_mul_eq_mul_right (by omega) this
          have h8 : o * 1 ≤ o * 2 ^ d := Int.mul_le_mul_of_nonneg_left (by have := pow_pos d; omega) (by omega)
          omega
      have h5 := hB hlt
      rw [k2, ib_mul_pow (by omega)] at h5
      omega
  rcases h1 with ⟨c0, rfl, rfl, rfl⟩ | ⟨c0, rfl, rfl, c3⟩
  · -- no bit is lost
    have hml : M < 2 ^ B.toNat := by
      have h1 : ((M.natAbs : Nat) : Int) < ((2 ^ ib M : Nat) : Int) := by exact_mod_cast hib
      rw [pow_nat] at h1
      rw [hb, Int.toNat_natCast]; omega
    obtain ⟨tn, k1, k2, k3, k4, k5⟩ := go hm (fun _ => hb.symm) (by omega) (by omega)
    obtain ⟨a1, a2, a3, a4⟩ := stage2 (s := s) (e := E) hs hm k2 k3 (y := ⟨s, o, ee, bb⟩) (by rw [he, k1, k4])
    have hbt : ib M = ib o + tn := by rw [k2]; exact ib_mul_pow (by omega) tn
    refine ⟨a1, Rnd.exact (.inr ?_) a2, .inr ⟨by show E ≤ ee; omega, by show ee ≤ _; omega⟩, by show bb ≤ _; omega, fun _ => a2⟩
    have : (2 : Int) ^ B.toNat ≤ 2 ^ p.toNat := by
      have : 2 ^ B.toNat ≤ 2 ^ p.toNat := Nat.pow_le_pow_right (by decide) (by omega)
      rw [← pow_nat, ← pow_nat]; exact_mod_cast this
    show o < _
    have : o ≤ M := a4
    omega
  · -- bits are lost
    obtain ⟨nn, hnn⟩ : ∃ nn : Nat, b - B = nn := ⟨(b - B).toNat, by omega⟩
    obtain ⟨pp, hpp⟩ : ∃ pp : Nat, B = (pp + 1 : Nat) := ⟨(B - 1).toNat, by omega⟩
    have hbn : ib m = nn + (pp + 1) := by omega
    rw [hnn, Int.toNat_natCast, fdiv_pow, fdiv_pow] at c3
    have hn := pow_pos nn
    have hpw := pow_pos pp
    obtain ⟨m1, m2⟩ := bits_between hm hbn
    have f1 : 2 ^ pp ≤ m / 2 ^ nn := (Int.le_ediv_iff_mul_le hn).mpr (by rw [Int.mul_comm]; exact m2)
    have f2 : m / 2 ^ nn < 2 ^ (pp + 1) := (Int.ediv_lt_iff_lt_mul hn).mpr (by rw [Int.mul_comm]; exact m1)
    have f3 : -(2 ^ (pp + 1)) ≤ (-m) / 2 ^ nn := (Int.le_ediv_iff_mul_le hn).mpr (by rw [Int.neg_mul, Int.mul_comm]; omega)
    have f4 : (-m) / 2 ^ nn < -(2 ^ pp) + 1 := (Int.ediv_lt_iff_lt_mul hn).mpr (by rw [Int.add_mul, Int.neg_mul, Int.mul_comm (2 ^ pp)]; omega)
    have hM1 : 2 ^ pp ≤ M := by rcases c3 with ⟨c3, _⟩ | ⟨c3, _⟩ <;> omega
    have hM2 : M ≤ 2 ^ (pp + 1) := by rcases c3 with ⟨c3, _⟩ | ⟨c3, _⟩ <;> omega
    have hBt : B.toNat = pp + 1 := by omega
    rw [hBt] at go
    have hs2 := pow_succ2 pp
    obtain ⟨tn, k1, k2, k3, k4, k5⟩ := go (by omega) (fun hlt => by
      have h1 : M.natAbs < 2 ^ (pp + 1) := by
        have : ((M.natAbs : Nat) : Int) < ((2 ^ (pp + 1) : Nat) : Int) := by rw [pow_nat]; omega
        exact_mod_cast this
      have h2 : 2 ^ (pp + 1) ≤ 2 * M.natAbs := by
        have : ((2 ^ (pp + 1) : Nat) : Int) ≤ ((2 * M.natAbs : Nat) : Int) := by rw [pow_nat]; omega
        exact_mod_cast this
      rw [ib_eq (by omega) h1 h2, hpp]) hM2 (by omega)
    obtain ⟨a1, a2, a3, a4⟩ := stage2 (s := s) (e := e + (b - B)) hs (by omega) k2 k3 (y := ⟨s, o, ee, bb⟩) (by rw [he, k1, k4])
    have ho : o < 2 ^ (pp + 1) := by
      by_cases q : M < 2 ^ (pp + 1)
      · have : o ≤ M := a4
        omega
      · have h4 : o ≤ M := a4
        have h5 := pow_pos tn
        cases tn with
        | zero =>
          simp at k2
          omega
        | succ tn =>
          rw [pow_succ2] at k2
          have : o * 2 ≤ o * (2 * 2 ^ tn) := Int.mul_le_mul_of_nonneg_left (by have := pow_pos tn; omega) (by omega)
          omega
    have hibo : ib o ≤ pp + 1 := ib_le (by
      have : ((o.natAbs : Nat) : Int) < ((2 ^ (pp + 1) : Nat) : Int) := by rw [pow_nat]; omega
      exact_mod_cast this)
    have htn : tn ≤ pp + 1 := by
      apply Classical.byContradiction
      intro hc
      have h5 : (2 : Int) ^ (pp + 1 + 1) ≤ 2 ^ tn := by
        have : 2 ^ (pp + 1 + 1) ≤ 2 ^ tn := Nat.pow_le_pow_right (by decide) (by omega)
        rw [← pow_nat, ← pow_nat]; exact_mod_cast this
      rw [pow_succ2] at h5
      have : 1 * 2 ^ tn ≤ o * 2 ^ tn := Int.mul_le_mul_of_nonneg_right (by omega) (by have := pow_pos tn; omega)
      omega
    refine ⟨a1, ?_, .inr ⟨by show e ≤ ee; omega, by show ee ≤ _; omega⟩, by show bb ≤ _; omega, fun h => by omega⟩
    have hB' : B = ((pp + 1 : Nat) : Int) := hpp
    rw [hB']
    refine Rnd.shift (n := nn) (p := pp + 1) (q := sg s M) hs hm (by rw [← hbn]; exact hig) (by omega) ?_ ?_ ho
    · unfold sg
      rcases c3 with ⟨c3, cu⟩ | ⟨c3, cu⟩ <;> rcases hs with rfl | rfl <;> cases up <;> simp at cu <;> simp [c3]
    · rw [a2]
      unfold rv
      rw [hnn]

structure Bd (N : Int) (y : Mpf) : Prop where
  b : y.b ≤ N
  lo : -N ≤ y.e
  hi : y.e ≤ N
/-- what an operation gives back -/
structure Res (p : Int) (up : Bool) (v : Rat) (N : Int) (y : Mpf) : Prop where
  ok : y.Ok
  rnd : Rnd p up v y
  bd : Bd N y
theorem norm_res {p p' : Int} {up : Bool} {s m e N : Int} {y : Mpf} {v : Rat} (h : NormPost p' up s m e y) (hp : (p = p' ∧ 1 ≤ p) ∨ (p = 0 ∧ (ib m : Int) ≤ p')) (hv : rv s m e = v) (hN : 0 ≤ N ∧ -N ≤ e ∧ e + ib m ≤ N ∧ ib m ≤ N) : Res p up v N y := by
  refine ⟨h.ok, ?_, ⟨by have := h.bb; omega, ?_, ?_⟩⟩
  · subst hv
    rcases hp with ⟨rfl, _⟩ | ⟨rfl, hp⟩
    · exact h.rnd
    · exact Rnd.exact (.inl rfl) (h.ex hp)
  · rcases h.bd with ⟨_, h⟩ | ⟨h, _⟩ <;> omega
  · rcases h.bd with ⟨_, h⟩ | ⟨_, h⟩ <;> omega
end Mine
end
section
open PySem.Calls PySem.Spec
namespace Mine
theorem sg_mul (s m P : Int) : sg s (m * P) = sg s m * P := by unfold sg; split <;> simp [Int.neg_mul]
theorem p2_sum {s m e s' m' e' k : Int} (h1 : k ≤ e) (h2 : k ≤ e') : rv s m e + rv s' m' e' = ((sg s (m * 2 ^ (e - k).toNat) + sg s' (m' * 2 ^ (e' - k).toNat) : Int) : Rat) * p2 k := by
  unfold rv
  rw [scale (sg s m) h1, scale (sg s' m') h2, sg_mul, sg_mul, Rat.intCast_add, Rat.add_mul]
theorem rv_sum {s m e s' m' e' S M k : Int} (h1 : k ≤ e) (h2 : k ≤ e') (h : sg S M = sg s (m * 2 ^ (e - k).toNat) + sg s' (m' * 2 ^ (e' - k).toNat)) : rv S M k = rv s m e + rv s' m' e' := by
  rw [p2_sum h1 h2, ← h]; rfl
theorem ib_neg (a : Int) : ib (-a) = ib a := by
  unfold ib Builtin.Int.intBits
  by_cases h : a = 0
  · subst h; rfl
  · rw [if_neg (by simpa using h), if_neg (by simpa using h), Int.natAbs_neg]
theorem ib_sum {a b : Int} {A : Nat} (h1 : ib a ≤ A) (h2 : ib b ≤ A) : ib (a + b) ≤ A + 1 := by
  refine ib_le ?_
  have e1 := ib_lt a
  have e2 := ib_lt b
  have f1 : 2 ^ ib a ≤ 2 ^ A := Nat.pow_le_pow_right (by decide) h1
  have f2 : 2 ^ ib b ≤ 2 ^ A := Nat.pow_le_pow_right (by decide) h2
  rw [Nat.pow_succ]
  omega
theorem ib_mul_le (m : Int) (k : Nat) : ib (m * 2 ^ k) ≤ ib m + k := by
  by_cases h : m = 0
  · subst h; rw [Int.zero_mul, ib_zero]; omega
  · exact Nat.le_of_eq (ib_mul_pow h k)
theorem ib_sg (s m : Int) : ib (sg s m) = ib m := by
  unfold sg; split
  · exact ib_neg m
  · rfl

/-- a number of p bits is v, or lies far from it -/
theorem far {X e Z f : Int} {b p : Nat} {g : Int} (hX : X ≠ 0) (hb : ib X = b) (hp : 1 ≤ p) (hZ : Z.natAbs < 2 ^ p) (g1 : g ≤ e) (g2 : g ≤ b - 1 + e - p) (g3 : g ≤ b + e - 2) :
    (Z : Rat) * p2 f = (X : Rat) * p2 e ∨ (X : Rat) * p2 e + p2 g ≤ (Z : Rat) * p2 f ∨ (Z : Rat) * p2 f + p2 g ≤ (X : Rat) * p2 e := by
  have key : ∀ (k : Int) (z : Int), g ≤ k → k ≤ e → (Z : Rat) * p2 f = (z : Rat) * p2 k → (Z : Rat) * p2 f = (X : Rat) * p2 e ∨ (X : Rat) * p2 e + p2 g ≤ (Z : Rat) * p2 f ∨ (Z : Rat) * p2 f + p2 g ≤ (X : Rat) * p2 e := by
    intro k z hk hke hz
    have hx := scale X hke
    have hg : p2 g ≤ p2 k := p2_mono hk
    have h1 : p2 k = ((1 : Int) : Rat) * p2 k := by simp
    rw [hz, hx]
    generalize X * 2 ^ (e - k).toNat = x
    rcases Int.lt_trichotomy z x with q | q | q
    · refine .inr (.inr ?_)
      have := (le_same (k := k)).mpr (show z + 1 ≤ x by omega)
      rw [Rat.intCast_add, Rat.add_mul] at this
      grind
    · subst q; exact .inl rfl
    · refine .inr (.inl ?_)
      have := (le_same (k := k)).mpr (show x + 1 ≤ z by omega)
      rw [Rat.intCast_add, Rat.add_mul] at this
      grind
  by_cases q1 : e ≤ f
  · exact key e _ g1 (Int.le_refl _) (scale Z q1)
  · by_cases q2 : g ≤ f
    · exact key f Z q2 (by omega) rfl
    · -- far below
      have hf : p2 (f + p) ≤ p2 (b + e - 2) := p2_mono (by omega)
      have hZ1 : ((Z.natAbs : Nat) : Int) < ((2 ^ p : Nat) : Int) := by exact_mod_cast hZ
      rw [pow_nat] at hZ1
      have e1 : p2 (f + p) = ((2 ^ p : Int) : Rat) * p2 f := by rw [p2_add, p2_nat, Rat.mul_comm]
      have hA : (Z : Rat) * p2 f < ((2 ^ p : Int) : Rat) * p2 f := lt_same.mpr (by omega)
      have hB : ((-(2 ^ p) : Int) : Rat) * p2 f < (Z : Rat) * p2 f := lt_same.mpr (by omega)
      rw [neg_mul_p2] at hB
      have hg : p2 g ≤ p2 (b + e - 2) := p2_mono g3
      have hig := ib_ge hX
      rw [hb] at hig
      have hb1 : 1 ≤ b := by rw [← hb, ib_pos hX]; omega
      obtain ⟨b', rfl⟩ : ∃ b', b = b' + 1 := ⟨b - 1, by omega⟩
      have hX1 : (2 : Int) ^ b' ≤ X.natAbs := by
        have : ((2 ^ (b' + 1) : Nat) : Int) ≤ ((2 * X.natAbs : Nat) : Int) := by exact_mod_cast hig
        rw [pow_nat, pow_succ2] at this
        omega
      have e2 : p2 (((b' + 1 : Nat) : Int) + e - 2) + p2 (((b' + 1 : Nat) : Int) + e - 2) = ((2 ^ b' : Int) : Rat) * p2 e := by
        have h1 : p2 ((b' : Int) + e) = ((2 ^ b' : Int) : Rat) * p2 e := by rw [p2_add, p2_nat]
        have h2 : p2 (1 + ((b' : Int) + e - 1)) = p2 1 * p2 ((b' : Int) + e - 1) := p2_add _ _
        have h3 : p2 1 = 2 := by decide
        rw [show (1 : Int) + ((b' : Int) + e - 1) = (b' : Int) + e by omega, h3] at h2
        rw [show (((b' + 1 : Nat) : Int) + e - 2) = (b' : Int) + e - 1 by omega, ← h1, h2]
        grind
      by_cases hs : 0 ≤ X
      · refine .inr (.inr ?_)
        have hC : ((2 ^ b' : Int) : Rat) * p2 e ≤ (X : Rat) * p2 e := le_same.mpr (by omega)
        grind
      · refine .inr (.inl ?_)
        have hC : (X : Rat) * p2 e ≤ ((-(2 ^ b') : Int) : Rat) * p2 e := le_same.mpr (by omega)
        rw [neg_mul_p2] at hC
        grind

/-- two numbers close behind v, on one side, are rounded alike -/
theorem Rnd.near {X e : Int} {b p : Nat} {g : Int} {up : Bool} {y : Mpf} {v1 v2 : Rat} (hX : X ≠ 0) (hb : ib X = b) (hp : 1 ≤ p) (g1 : g ≤ e) (g2 : g ≤ b - 1 + e - p) (g3 : g ≤ b + e - 2) (hy : y.Ok)
    (hv : ((X : Rat) * p2 e < v1 ∧ v1 < (X : Rat) * p2 e + p2 g ∧ (X : Rat) * p2 e < v2 ∧ v2 < (X : Rat) * p2 e + p2 g) ∨ (v1 < (X : Rat) * p2 e ∧ (X : Rat) * p2 e < v1 + p2 g ∧ v2 < (X : Rat) * p2 e ∧ (X : Rat) * p2 e < v2 + p2 g)) (h : Rnd p up v1 y) : Rnd p up v2 y := by
  have hfz : ∀ z : Mpf, z.Ok → Fits p z → (z.val ≤ v1 ↔ z.val ≤ v2) ∧ (v1 ≤ z.val ↔ v2 ≤ z.val) := fun z hz hfz => by
    have hn : (sg z.s z.m).natAbs < 2 ^ p := by
      rw [sg_abs]
      rcases hfz with h | h
      · omega
      · rw [Int.toNat_natCast] at h
        have h1 := hz.nn
        have h2 : ((z.m.natAbs : Nat) : Int) < ((2 ^ p : Nat) : Int) := by rw [pow_nat]; omega
        exact_mod_cast h2
    have := far (f := z.e) hX hb hp hn g1 g2 g3
    have hval : z.val = (sg z.s z.m : Rat) * p2 z.e := rfl
    rw [← hval] at this
    have hg := p2_pos g
    generalize (X : Rat) * p2 e = x at *
    generalize z.val = zz at *
    constructor <;> constructor <;> intro h <;> grind
  have hy2 := hfz y hy h.fits
  refine ⟨h.fits, fun q => by omega, fun hu => ⟨hy2.1.mp (h.dn hu).1, fun z hz hf hle => (h.dn hu).2 z hz hf ((hfz z hz hf).1.mpr hle)⟩, fun hu => ⟨hy2.2.mp (h.hi hu).1, fun z hz hf hle => (h.hi hu).2 z hz hf ((hfz z hz hf).2.mpr hle)⟩⟩
end Mine
end
section
open PySem.Calls PySem.Spec
namespace Mine
theorem p2_lt {a b : Int} (h : a < b) : p2 a < p2 b := by
  have h1 : p2 (a + 1) ≤ p2 b := p2_mono (by omega)
  have h2 : p2 (a + 1) = p2 a * p2 1 := p2_add a 1
  have h3 : p2 1 = 2 := by decide
  have h4 := p2_pos a
  rw [h3] at h2
  grind
theorem cut_rnd {s m e b T m' e' b' d : Int} {p : Nat} {up : Bool} {y : Mpf} (hs : s = 0 ∨ s = 1) (hT : T = 0 ∨ T = 1) (hm : 0 < m) (hb : b = ib m) (hm' : 0 < m') (hb' : b' = ib m') (hp : 1 ≤ p) (hcut : (p : Int) + 4 < b + e - b' - e') (hlow : b' + e' < e)
    (hd : (s = T ∧ d = 1) ∨ (s ≠ T ∧ d = -1)) (hy : y.Ok) (h : Rnd p up (rv s (m * 2 ^ (p + 4) + d) (e - (p + 4))) y) : Rnd p up (rv s m e + rv T m' e') y := by
  have hX : sg s m ≠ 0 := by unfold sg; split <;> omega
  have hib : ib (sg s m) = ib m := ib_sg s m
  have hb1 : 1 ≤ b := by rw [hb, ib_pos (by omega)]; omega
  let g : Int := min e (min (b - 1 + e - p) (b + e - 2))
  have g1 : g ≤ e := Int.min_le_left _ _
  have g2 : g ≤ b - 1 + e - p := Int.le_trans (Int.min_le_right _ _) (Int.min_le_left _ _)
  have g3 : g ≤ b + e - 2 := Int.le_trans (Int.min_le_right _ _) (Int.min_le_right _ _)
  have g4 : e - (p + 4) < g := by
    have : e - (p + 4) + 1 ≤ g := Int.le_min.mpr ⟨by omega, Int.le_min.mpr ⟨by omega, by omega⟩⟩
    omega
  have g5 : b' + e' ≤ g := Int.le_min.mpr ⟨by omega, Int.le_min.mpr ⟨by omega, by omega⟩⟩
  refine Rnd.near (X := sg s m) (e := e) (b := ib m) (g := g) hX hib hp g1 (by omega) (by omega) hy ?_ h
  -- the two sides
  have hu : 0 < p2 (e - (p + 4)) := p2_pos _
  have hu2 : p2 (e - (p + 4)) < p2 g := p2_lt g4
  have ht : 0 < (m' : Rat) * p2 e' := by
    have := (lt_same (X := 0) (Y := m') (k := e')).mpr hm'
    simpa [Rat.zero_mul] using this
  have ht2 : (m' : Rat) * p2 e' < p2 g := by
    have h1 := ib_lt m'
    have h2 : ((m'.natAbs : Nat) : Int) < ((2 ^ ib m' : Nat) : Int) := by exact_mod_cast h1
    rw [pow_nat] at h2
    have h3 : (m' : Rat) * p2 e' < ((2 ^ ib m' : Int) : Rat) * p2 e' := lt_same.mpr (by omega)
    have h4 : p2 (b' + e') = ((2 ^ ib m' : Int) : Rat) * p2 e' := by rw [p2_add, hb', p2_nat]
    have h5 := p2_mono g5
    grind
  have hv1 : rv s (m * 2 ^ (p + 4) + d) (e - (p + 4)) = (sg s m : Rat) * p2 e + (sg s d : Rat) * p2 (e - (p + 4)) := by
    unfold rv
    have e1 : sg s (m * 2 ^ (p + 4) + d) = sg s m * 2 ^ (p + 4) + sg s d := by
      rw [← sg_mul]; unfold sg; split <;> omega
    rw [e1, scale (sg s m) (e := e) (k := e - (p + 4)) (by omega), show (e - (e - ((p : Int) + 4))).toNat = p + 4 by omega, Rat.intCast_add, Rat.add_mul]
  rw [hv1]
  have hsm : rv s m e = (sg s m : Rat) * p2 e := rfl
  have htm : rv T m' e' = (sg T m' : Rat) * p2 e' := rfl
  rw [hsm, htm]
  generalize (sg s m : Rat) * p2 e = x
  rcases hs with rfl | rfl <;> rcases hT with rfl | rfl <;> rcases hd with ⟨h1, rfl⟩ | ⟨h1, rfl⟩ <;> first | omega | skip
  · left
    simp only [sg]
    simp
    grind
  · right
    simp only [sg]
    simp
    grind
  · left
    simp only [sg]
    simp
    grind
  · right
    simp only [sg]
    simp
    grind
end Mine
end
section
open PySem.Calls PySem.Spec
namespace Mine
def Mpf.sign (x : Mpf) : Int := if x.m = 0 then 0 else if x.s = 1 then -1 else 1
theorem rv_zero (s e : Int) : rv s 0 e = 0 := by
  unfold rv sg
  simp [Rat.zero_mul]
theorem rv_pos {m e : Int} (h : 0 < m) : 0 < rv 0 m e := by
  have := (lt_same (X := 0) (Y := m) (k := e)).mpr h
  simpa [rv, sg, Rat.zero_mul] using this
theorem rv_neg {m e : Int} (h : 0 < m) : rv 1 m e < 0 := by
  have := (lt_same (X := -m) (Y := 0) (k := e)).mpr (by omega)
  simpa [rv, sg, Rat.zero_mul] using this
theorem sign_val {x : Mpf} (h : x.Ok) : (x.val = 0 ∧ x.sign = 0) ∨ (x.val < 0 ∧ x.sign = -1) ∨ (0 < x.val ∧ x.sign = 1) := by
  obtain ⟨s, m, e, b⟩ := x
  obtain ⟨h1, h2, h3, h4, h5⟩ := h
  dsimp only at *
  unfold Mpf.sign Mpf.val
  dsimp only
  by_cases q : m = 0
  · subst q
    exact .inl ⟨rv_zero _ _, rfl⟩
  · rcases h1 with rfl | rfl
    · exact .inr (.inr ⟨rv_pos (by omega), by rw [if_neg q]; rfl⟩)
    · exact .inr (.inl ⟨rv_neg (by omega), by rw [if_neg q]; rfl⟩)
/-- the comparison's answer -/
structure CmpR (x y : Rat) (r : Int) : Prop where
  eq : r = 0 ↔ x = y
  lt : r < 0 ↔ x < y
theorem CmpR.of_lt {x y : Rat} (h : x < y) {r : Int} (hr : r < 0) : CmpR x y r := ⟨⟨fun q => by omega, fun q => by subst q; exact absurd h Rat.lt_irrefl⟩, ⟨fun _ => h, fun _ => hr⟩⟩
theorem CmpR.of_gt {x y : Rat} (h : y < x) {r : Int} (hr : 0 < r) : CmpR x y r := ⟨⟨fun q => by omega, fun q => by subst q; exact absurd h Rat.lt_irrefl⟩, ⟨fun q => by omega, fun q => by exfalso; grind⟩⟩
theorem CmpR.of_eq {x y : Rat} (h : x = y) : CmpR x y 0 := ⟨⟨fun _ => h, fun _ => rfl⟩, ⟨fun q => by omega, fun q => by subst h; exact absurd q Rat.lt_irrefl⟩⟩
theorem cmp_zl {x y : Mpf} (hy : y.Ok) (hx : x.val = 0) : CmpR x.val y.val (-y.sign) := by
  rw [hx]
  rcases sign_val hy with ⟨h1, h2⟩ | ⟨h1, h2⟩ | ⟨h1, h2⟩
  · rw [h1, h2]; exact .of_eq rfl
  · exact .of_gt h1 (by omega)
  · exact .of_lt h1 (by omega)
theorem cmp_zr {x y : Mpf} (hx : x.Ok) (hy : y.val = 0) : CmpR x.val y.val x.sign := by
  rw [hy]
  rcases sign_val hx with ⟨h1, h2⟩ | ⟨h1, h2⟩ | ⟨h1, h2⟩
  · rw [h1, h2]; exact .of_eq rfl
  · exact .of_lt h1 (by omega)
  · exact .of_gt h1 (by omega)
/-- equal powers -/
theorem cmp_same {s m m' e r : Int} (hs : s = 0 ∨ s = 1) (h : (m = m' ∧ r = 0) ∨ (m < m' ∧ s = 0 ∧ r = -1) ∨ (m < m' ∧ s = 1 ∧ r = 1) ∨ (m' < m ∧ s = 0 ∧ r = 1) ∨ (m' < m ∧ s = 1 ∧ r = -1)) : CmpR (rv s m e) (rv s m' e) r := by
  rcases h with ⟨rfl, rfl⟩ | ⟨h, rfl, rfl⟩ | ⟨h, rfl, rfl⟩ | ⟨h, rfl, rfl⟩ | ⟨h, rfl, rfl⟩
  · exact .of_eq rfl
  · exact .of_lt (lt_same.mpr (by simpa [sg] using h)) (by decide)
  · exact .of_gt (lt_same.mpr (by simpa [sg] using h)) (by decide)
  · exact .of_gt (lt_same.mpr (by simpa [sg] using h)) (by decide)
  · exact .of_lt (lt_same.mpr (by simpa [sg] using h)) (by decide)
theorem mag_lt {m e m' e' : Int} (hm : 0 < m) (hm' : 0 < m') (h : ib m + e < ib m' + e') : (m : Rat) * p2 e < (m' : Rat) * p2 e' := by
  have h1 := ib_lt m
  have h2 := ib_ge (n := m') (by omega)
  have e1 : ((m.natAbs : Nat) : Int) < ((2 ^ ib m : Nat) : Int) := by exact_mod_cast h1
  have e2 : ((2 ^ ib m' : Nat) : Int) ≤ ((2 * m'.natAbs : Nat) : Int) := by exact_mod_cast h2
  rw [pow_nat] at e1 e2
  have f1 : (m : Rat) * p2 e < ((2 ^ ib m : Int) : Rat) * p2 e := lt_same.mpr (by omega)
  have f2 : ((2 ^ ib m' : Int) : Rat) * p2 e' ≤ ((2 * m' : Int) : Rat) * p2 e' := le_same.mpr (by omega)
  have g1 : p2 (ib m + e) = ((2 ^ ib m : Int) : Rat) * p2 e := by rw [p2_add, p2_nat]
  have g2 : p2 (ib m' + e') = ((2 ^ ib m' : Int) : Rat) * p2 e' := by rw [p2_add, p2_nat]
  have g3 : p2 (1 + (ib m + e)) ≤ p2 (ib m' + e') := p2_mono (by omega)
  rw [p2_add, show p2 1 = 2 by decide] at g3
  rw [Rat.intCast_mul] at f2
  have : ((2 : Int) : Rat) = 2 := by decide
  rw [this, Rat.mul_assoc] at f2
  grind
theorem cmp_mag {s m e m' e' r : Int} (hm : 0 < m) (hm' : 0 < m') (h : (ib m + e < ib m' + e' ∧ ((s = 0 ∧ r = -1) ∨ (s = 1 ∧ r = 1))) ∨ (ib m' + e' < ib m + e ∧ ((s = 0 ∧ r = 1) ∨ (s = 1 ∧ r = -1)))) : CmpR (rv s m e) (rv s m' e') r := by
  have k0 : ∀ a b : Int, rv 0 a b = (a : Rat) * p2 b := fun a b => by simp [rv, sg]
  have k1 : ∀ a b : Int, rv 1 a b = -((a : Rat) * p2 b) := fun a b => by simp [rv, sg, Rat.neg_mul]
  rcases h with ⟨h, ⟨rfl, rfl⟩ | ⟨rfl, rfl⟩⟩ | ⟨h, ⟨rfl, rfl⟩ | ⟨rfl, rfl⟩⟩
  · rw [k0, k0]; exact .of_lt (mag_lt hm hm' h) (by decide)
  · rw [k1, k1]; exact .of_gt (Rat.neg_lt_neg (mag_lt hm hm' h)) (by decide)
  · rw [k0, k0]; exact .of_gt (mag_lt hm' hm h) (by decide)
  · rw [k1, k1]; exact .of_lt (Rat.neg_lt_neg (mag_lt hm' hm h)) (by decide)
/-- two odd sizes of one value have one power -/
theorem odd_unique {m m' e e' : Int} (h1 : m % 2 = 1) (h2 : m' % 2 = 1) (h : (m : Rat) * p2 e = (m' : Rat) * p2 e') : e = e' := by
  have key : ∀ {a b i j : Int}, a % 2 = 1 → b % 2 = 1 → i < j → (a : Rat) * p2 i = (b : Rat) * p2 j → False := fun {a b i j} ha hb hij he => by
    rw [scale b (Int.le_of_lt hij), eq_same] at he
    obtain ⟨q, hq⟩ : ∃ q, (j - i).toNat = q + 1 := ⟨(j - i).toNat - 1, by omega⟩
    rw [hq, pow_succ2] at he
    have : b * (2 * 2 ^ q) = 2 * (b * 2 ^ q) := by rw [← Int.mul_assoc, Int.mul_comm b 2, Int.mul_assoc]
    rw [this] at he
    omega
  rcases Int.lt_trichotomy e e' with q | q | q
  · exact (key h1 h2 q h).elim
  · exact q
  · exact (key h2 h1 q h.symm).elim
theorem cmp_delta {s m e m' e' N r : Int} {z : Mpf} (hs : s = 0 ∨ s = 1) (h1 : m % 2 = 1) (h2 : m' % 2 = 1) (hne : e ≠ e') (hz : Res 5 false (rv s m e - rv s m' e') N z) (h : (z.s ≠ 0 ∧ r = -1) ∨ (z.s = 0 ∧ r = 1)) : CmpR (rv s m e) (rv s m' e') r := by
  have hv : rv s m e ≠ rv s m' e' := fun q => by
    unfold rv at q
    have o : ∀ {a : Int}, a % 2 = 1 → sg s a % 2 = 1 := fun {a} ha => by unfold sg; split <;> omega
    exact hne (odd_unique (o h1) (o h2) q)
  obtain ⟨d1, d2⟩ := hz.rnd.dn rfl
  have d0 := d2 ⟨0, 0, 0, 0⟩ ⟨.inl rfl, Int.le_refl _, rfl, fun _ => ⟨rfl, rfl⟩, fun h => absurd rfl h⟩ (.inr (by decide))
  have z0 : (Mpf.mk 0 0 0 0).val = 0 := rv_zero 0 0
  rw [z0] at d0
  have hzs := sign_val hz.ok
  rcases h with ⟨h, rfl⟩ | ⟨h, rfl⟩
  · have hzm : z.m ≠ 0 := fun q => h (hz.ok.zz q).1
    have hz1 : z.s = 1 := by have := hz.ok.sg; omega
    have : z.sign = -1 := by unfold Mpf.sign; rw [if_neg hzm, if_pos hz1]
    have : z.val < 0 := by
      rcases hzs with ⟨_, q⟩ | ⟨q, _⟩ | ⟨_, q⟩
      · omega
      · exact q
      · omega
    refine .of_lt ?_ (by decide)
    apply Classical.byContradiction
    intro q
    have : 0 ≤ rv s m e - rv s m' e' := by grind
    have := d0 this
    grind
  · have : 0 ≤ z.val := by
      rcases hzs with ⟨q, _⟩ | ⟨_, q⟩ | ⟨q, _⟩
      · rw [q]; exact Rat.le_refl
      · exfalso
        unfold Mpf.sign at q
        split at q
        · cases q
        · rw [h] at q; simp at q
      · exact Rat.le_of_lt q
    refine .of_gt ?_ (by decide)
    grind
end Mine
end
section
open PySem.Calls PySem.Spec
namespace Mine
/-- the exact range of an operation -/
structure Hull (f : Rat → Rat → Rat) (a b a' b' L H : Rat) : Prop where
  all : ∀ x y, a ≤ x → x ≤ b → a' ≤ y → y ≤ b' → L ≤ f x y ∧ f x y ≤ H
  lo : ∃ x y, a ≤ x ∧ x ≤ b ∧ a' ≤ y ∧ y ≤ b' ∧ L = f x y
  hi : ∃ x y, a ≤ x ∧ x ≤ b ∧ a' ≤ y ∧ y ≤ b' ∧ H = f x y
theorem lin {a b t x : Rat} (h1 : a ≤ x) (h2 : x ≤ b) : (a * t ≤ x * t ∧ x * t ≤ b * t) ∨ (b * t ≤ x * t ∧ x * t ≤ a * t) := by
  rcases Rat.le_total (a := 0) (b := t) with h | h
  · exact .inl ⟨Rat.mul_le_mul_of_nonneg_right h1 h, Rat.mul_le_mul_of_nonneg_right h2 h⟩
  · have e1 := Rat.mul_le_mul_of_nonneg_right h1 (Rat.neg_le_neg h)
    have e2 := Rat.mul_le_mul_of_nonneg_right h2 (Rat.neg_le_neg h)
    refine .inr ⟨?_, ?_⟩ <;> grind
theorem mul_hull {a b a' b' L H : Rat} (h1 : a ≤ b) (h2 : a' ≤ b') (l1 : L ≤ a * a') (l2 : L ≤ a * b') (l3 : L ≤ b * a') (l4 : L ≤ b * b') (u1 : a * a' ≤ H) (u2 : a * b' ≤ H) (u3 : b * a' ≤ H) (u4 : b * b' ≤ H)
    (hL : L = a * a' ∨ L = a * b' ∨ L = b * a' ∨ L = b * b') (hH : H = a * a' ∨ H = a * b' ∨ H = b * a' ∨ H = b * b') : Hull (fun x y => x * y) a b a' b' L H := by
  have at4 : ∀ {V : Rat}, (V = a * a' ∨ V = a * b' ∨ V = b * a' ∨ V = b * b') → ∃ x y, a ≤ x ∧ x ≤ b ∧ a' ≤ y ∧ y ≤ b' ∧ V = x * y := fun {V} h => by
    rcases h with h | h | h | h
    · exact ⟨a, a', Rat.le_refl, h1, Rat.le_refl, h2, h⟩
    · exact ⟨a, b', Rat.le_refl, h1, h2, Rat.le_refl, h⟩
    · exact ⟨b, a', h1, Rat.le_refl, Rat.le_refl, h2, h⟩
    · exact ⟨b, b', h1, Rat.le_refl, h2, Rat.le_refl, h⟩
  refine ⟨fun x y k1 k2 k3 k4 => ?_, at4 hL, at4 hH⟩
  have p1 := lin (t := a') k1 k2
  have p2 := lin (t := b') k1 k2
  have p3 := lin (t := x) k3 k4
  rw [Rat.mul_comm a' x, Rat.mul_comm y x, Rat.mul_comm b' x] at p3
  generalize x * y = w at *
  generalize x * a' = w1 at *
  generalize x * b' = w2 at *
  constructor
  · rcases p3 with p3 | p3
    · rcases p1 with p1 | p1 <;> grind
    · rcases p2 with p2 | p2 <;> grind
  · rcases p3 with p3 | p3
    · rcases p2 with p2 | p2 <;> grind
    · rcases p1 with p1 | p1 <;> grind
/-- neighbours -/
theorem nb {a b t : Rat} (h : a ≤ b) : (0 ≤ t → a * t ≤ b * t) ∧ (t ≤ 0 → b * t ≤ a * t) := by
  refine ⟨fun q => Rat.mul_le_mul_of_nonneg_right h q, fun q => ?_⟩
  have e1 := Rat.mul_le_mul_of_nonneg_right h (Rat.neg_le_neg q)
  grind
theorem add_hull {a b a' b' : Rat} (h1 : a ≤ b) (h2 : a' ≤ b') : Hull (fun x y => x + y) a b a' b' (a + a') (b + b') :=
  ⟨fun x y k1 k2 k3 k4 => by constructor <;> grind, ⟨a, a', Rat.le_refl, h1, Rat.le_refl, h2, rfl⟩, ⟨b, b', h1, Rat.le_refl, h2, Rat.le_refl, rfl⟩⟩
theorem sub_hull {a b a' b' : Rat} (h1 : a ≤ b) (h2 : a' ≤ b') : Hull (fun x y => x - y) a b a' b' (a - b') (b - a') :=
  ⟨fun x y k1 k2 k3 k4 => by constructor <;> grind, ⟨a, b', Rat.le_refl, h1, h2, Rat.le_refl, rfl⟩, ⟨b, a', h1, Rat.le_refl, Rat.le_refl, h2, rfl⟩⟩
theorem neg_hull {a b a' b' : Rat} (h1 : a ≤ b) (h2 : a' ≤ b') : Hull (fun x _ => -x) a b a' b' (-b) (-a) :=
  ⟨fun x y k1 k2 k3 k4 => by constructor <;> grind, ⟨b, a', h1, Rat.le_refl, Rat.le_refl, h2, rfl⟩, ⟨a, a', Rat.le_refl, h1, Rat.le_refl, h2, rfl⟩⟩
theorem pos_hull {a b a' b' : Rat} (h1 : a ≤ b) (h2 : a' ≤ b') : Hull (fun x _ => x) a b a' b' a b :=
  ⟨fun x y k1 k2 k3 k4 => ⟨k1, k2⟩, ⟨a, a', Rat.le_refl, h1, Rat.le_refl, h2, rfl⟩, ⟨b, a', h1, Rat.le_refl, Rat.le_refl, h2, rfl⟩⟩
def qabs (x : Rat) : Rat := if 0 ≤ x then x else -x
theorem abs_hull {a b a' b' L H : Rat} (h1 : a ≤ b) (h2 : a' ≤ b') (h : (0 ≤ a ∧ L = a ∧ H = b) ∨ (a < 0 ∧ 0 ≤ b ∧ L = 0 ∧ ((H = b ∧ -a ≤ b) ∨ (H = -a ∧ b ≤ -a))) ∨ (b < 0 ∧ L = -b ∧ H = -a)) : Hull (fun x _ => qabs x) a b a' b' L H := by
  have e : ∀ {x : Rat}, 0 ≤ x → qabs x = x := fun h => if_pos h
  have e' : ∀ {x : Rat}, x ≤ 0 → qabs x = -x := fun {x} h => by
    unfold qabs; split <;> grind
  refine ⟨fun x y k1 k2 k3 k4 => ?_, ?_, ?_⟩
  · unfold qabs
    split <;> grind
  · rcases h with ⟨q, rfl, rfl⟩ | ⟨q1, q2, rfl, _⟩ | ⟨q, rfl, rfl⟩
    · exact ⟨L, a', Rat.le_refl, h1, Rat.le_refl, h2, (e q).symm⟩
    · exact ⟨0, a', Rat.le_of_lt q1, q2, Rat.le_refl, h2, (e Rat.le_refl).symm⟩
    · exact ⟨b, a', h1, Rat.le_refl, Rat.le_refl, h2, (e' (Rat.le_of_lt q)).symm⟩
  · rcases h with ⟨q, rfl, rfl⟩ | ⟨q1, q2, rfl, ⟨rfl, q3⟩ | ⟨rfl, q3⟩⟩ | ⟨q, rfl, rfl⟩
    · exact ⟨H, a', h1, Rat.le_refl, Rat.le_refl, h2, (e (by grind)).symm⟩
    · exact ⟨H, a', h1, Rat.le_refl, Rat.le_refl, h2, (e q2).symm⟩
    · exact ⟨a, a', Rat.le_refl, h1, Rat.le_refl, h2, (e' (by grind)).symm⟩
    · exact ⟨a, a', Rat.le_refl, h1, Rat.le_refl, h2, (e' (by grind)).symm⟩
theorem sq_mono {x y : Rat} (h0 : 0 ≤ x) (h : x ≤ y) : x * x ≤ y * y :=
  Rat.le_trans (Rat.mul_le_mul_of_nonneg_right h h0) (Rat.mul_le_mul_of_nonneg_left h (Rat.le_trans h0 h))
theorem sq_neg (x : Rat) : (-x) * (-x) = x * x := by grind
theorem sq_hull {a b a' b' L H : Rat} (h1 : a ≤ b) (h2 : a' ≤ b') (h : (0 ≤ a ∧ L = a * a ∧ H = b * b) ∨ (b ≤ 0 ∧ L = b * b ∧ H = a * a) ∨ (a ≤ 0 ∧ 0 ≤ b ∧ L = 0 ∧ ((H = b * b ∧ -a ≤ b) ∨ (H = a * a ∧ b ≤ -a)))) : Hull (fun x _ => x * x) a b a' b' L H := by
  have nn : ∀ x : Rat, 0 ≤ x * x := fun x => by
    rcases Rat.le_total (a := 0) (b := x) with h | h
    · exact Rat.mul_nonneg h h
    · rw [← sq_neg]; exact Rat.mul_nonneg (by grind) (by grind)
  have mono' : ∀ {x y : Rat}, y ≤ x → x ≤ 0 → x * x ≤ y * y := fun {x y} h h0 => by
    rw [← sq_neg x, ← sq_neg y]; exact sq_mono (by grind) (by grind)
  have mix : ∀ {x y : Rat}, -y ≤ x → x ≤ y → x * x ≤ y * y := fun {x y} k1 k2 => by
    rcases Rat.le_total (a := 0) (b := x) with h | h
    · exact sq_mono h k2
    · rw [← sq_neg x]; exact sq_mono (by grind) (by grind)
  refine ⟨fun x y k1 k2 k3 k4 => ?_, ?_, ?_⟩
  · rcases h with ⟨q, rfl, rfl⟩ | ⟨q, rfl, rfl⟩ | ⟨q1, q2, rfl, ⟨rfl, q3⟩ | ⟨rfl, q3⟩⟩
    · exact ⟨sq_mono q k1, sq_mono (Rat.le_trans q k1) k2⟩
    · exact ⟨mono' k2 q, mono' k1 (Rat.le_trans k2 q)⟩
    · exact ⟨nn x, mix (by grind) k2⟩
    · refine ⟨nn x, ?_⟩
      rw [← sq_neg a]; exact mix (by grind) (by grind)
  · rcases h with ⟨q, rfl, rfl⟩ | ⟨q, rfl, rfl⟩ | ⟨q1, q2, rfl, _⟩
    · exact ⟨a, a', Rat.le_refl, h1, Rat.le_refl, h2, rfl⟩
    · exact ⟨b, a', h1, Rat.le_refl, Rat.le_refl, h2, rfl⟩
    · exact ⟨0, a', q1, q2, Rat.le_refl, h2, by grind⟩
  · rcases h with ⟨q, rfl, rfl⟩ | ⟨q, rfl, rfl⟩ | ⟨q1, q2, rfl, ⟨rfl, q3⟩ | ⟨rfl, q3⟩⟩
    · exact ⟨b, a', h1, Rat.le_refl, Rat.le_refl, h2, rfl⟩
    · exact ⟨a, a', Rat.le_refl, h1, Rat.le_refl, h2, rfl⟩
    · exact ⟨b, a', h1, Rat.le_refl, Rat.le_refl, h2, rfl⟩
    · exact ⟨a, a', Rat.le_refl, h1, Rat.le_refl, h2, rfl⟩

theorem mul_case {a b a' b' : Rat} (h1 : a ≤ b) (h2 : a' ≤ b') {L H : Rat}
    (h : (0 ≤ a ∧ 0 ≤ a' ∧ L = a * a' ∧ H = b * b') ∨ (0 ≤ a ∧ b' ≤ 0 ∧ L = b * a' ∧ H = a * b') ∨ (0 ≤ a ∧ a' ≤ 0 ∧ 0 ≤ b' ∧ L = b * a' ∧ H = b * b') ∨
      (b ≤ 0 ∧ 0 ≤ a' ∧ L = a * b' ∧ H = b * a') ∨ (b ≤ 0 ∧ b' ≤ 0 ∧ L = b * b' ∧ H = a * a') ∨ (b ≤ 0 ∧ a' ≤ 0 ∧ 0 ≤ b' ∧ L = a * b' ∧ H = a * a')) : Hull (fun x y => x * y) a b a' b' L H := by
  have n1 := nb (t := a') h1
  have n2 := nb (t := b') h1
  have n3 := nb (t := a) h2
  have n4 := nb (t := b) h2
  rw [Rat.mul_comm a' a, Rat.mul_comm b' a] at n3
  rw [Rat.mul_comm a' b, Rat.mul_comm b' b] at n4
  have key : L ≤ a * a' ∧ L ≤ a * b' ∧ L ≤ b * a' ∧ L ≤ b * b' ∧ a * a' ≤ H ∧ a * b' ≤ H ∧ b * a' ≤ H ∧ b * b' ≤ H ∧ (L = a * a' ∨ L = a * b' ∨ L = b * a' ∨ L = b * b') ∧ (H = a * a' ∨ H = a * b' ∨ H = b * a' ∨ H = b * b') := by
    generalize a * a' = w1 at *
    generalize a * b' = w2 at *
    generalize b * a' = w3 at *
    generalize b * b' = w4 at *
    obtain ⟨n1, n1'⟩ := n1
    obtain ⟨n2, n2'⟩ := n2
    obtain ⟨n3, n3'⟩ := n3
    obtain ⟨n4, n4'⟩ := n4
    rcases h with ⟨k1, k2, rfl, rfl⟩ | ⟨k1, k2, rfl, rfl⟩ | ⟨k1, k2, k3, rfl, rfl⟩ | ⟨k1, k2, rfl, rfl⟩ | ⟨k1, k2, rfl, rfl⟩ | ⟨k1, k2, k3, rfl, rfl⟩
    · have m1 := n1 k2; have m2 := n2 (Rat.le_trans k2 h2); have m3 := n3 k1; have m4 := n4 (Rat.le_trans k1 h1)
      refine ⟨Rat.le_refl, m3, m1, Rat.le_trans m1 m4, Rat.le_trans m1 m4, m2, m4, Rat.le_refl, .inl rfl, .inr (.inr (.inr rfl))⟩
    · have m1 := n1' (Rat.le_trans h2 k2); have m2 := n2' k2; have m3 := n3 k1; have m4 := n4 (Rat.le_trans k1 h1)
      refine ⟨m1, Rat.le_trans m1 m3, Rat.le_refl, m4, m3, Rat.le_refl, Rat.le_trans m1 m3, m2, .inr (.inr (.inl rfl)), .inr (.inl rfl)⟩
    · have m1 := n1' k2; have m2 := n2 k3; have m3 := n3 k1; have m4 := n4 (Rat.le_trans k1 h1)
      refine ⟨m1, Rat.le_trans m1 m3, Rat.le_refl, m4, Rat.le_trans m3 m2, m2, m4, Rat.le_refl, .inr (.inr (.inl rfl)), .inr (.inr (.inr rfl))⟩
    · have m1 := n1 k2; have m2 := n2 (Rat.le_trans k2 h2); have m3 := n3' (Rat.le_trans h1 k1); have m4 := n4' k1
      refine ⟨m3, Rat.le_refl, Rat.le_trans m3 m1, m2, m1, Rat.le_trans m3 m1, Rat.le_refl, m4, .inr (.inl rfl), .inr (.inr (.inl rfl))⟩
    · have m1 := n1' (Rat.le_trans h2 k2); have m2 := n2' k2; have m3 := n3' (Rat.le_trans h1 k1); have m4 := n4' k1
      refine ⟨Rat.le_trans m2 m3, m2, m4, Rat.le_refl, Rat.le_refl, m3, m1, Rat.le_trans m2 m3, .inr (.inr (.inr rfl)), .inl rfl⟩
    · have m1 := n1' k2; have m2 := n2 k3; have m3 := n3' (Rat.le_trans h1 k1); have m4 := n4' k1
      refine ⟨m3, Rat.le_refl, Rat.le_trans m2 m4, m2, Rat.le_refl, m3, m1, Rat.le_trans m4 m1, .inr (.inl rfl), .inl rfl⟩
  obtain ⟨l1, l2, l3, l4, u1, u2, u3, u4, hL, hH⟩ := key
  exact mul_hull h1 h2 l1 l2 l3 l4 u1 u2 u3 u4 hL hH
theorem sgn_iff {x : Mpf} (h : x.Ok) : (0 ≤ x.sign ↔ 0 ≤ x.val) ∧ (x.sign ≤ 0 ↔ x.val ≤ 0) ∧ (x.sign = 0 → x.val = 0) := by
  rcases sign_val h with ⟨h1, h2⟩ | ⟨h1, h2⟩ | ⟨h1, h2⟩ <;> rw [h2]
  · rw [h1]; exact ⟨⟨fun _ => Rat.le_refl, fun _ => by decide⟩, ⟨fun _ => Rat.le_refl, fun _ => by decide⟩, fun _ => rfl⟩
  · exact ⟨⟨fun q => absurd q (by decide), fun q => by exfalso; grind⟩, ⟨fun _ => Rat.le_of_lt h1, fun _ => by decide⟩, fun q => absurd q (by decide)⟩
  · exact ⟨⟨fun _ => Rat.le_of_lt h1, fun _ => by decide⟩, ⟨fun q => absurd q (by decide), fun q => by exfalso; grind⟩, fun q => absurd q (by decide)⟩

theorem mul_zero1 {a b a' b' : Rat} (h2 : a' ≤ b') (ha : a = 0) (hb : b = 0) : Hull (fun x y => x * y) a b a' b' 0 0 := by
  subst ha hb
  refine mul_hull Rat.le_refl h2 ?_ ?_ ?_ ?_ ?_ ?_ ?_ ?_ (.inl ?_) (.inl ?_) <;> rw [Rat.zero_mul] <;> exact Rat.le_refl
theorem mul_zero2 {a b a' b' : Rat} (h1 : a ≤ b) (ha : a' = 0) (hb : b' = 0) : Hull (fun x y => x * y) a b a' b' 0 0 := by
  subst ha hb
  refine mul_hull h1 Rat.le_refl ?_ ?_ ?_ ?_ ?_ ?_ ?_ ?_ (.inl ?_) (.inl ?_) <;> rw [Rat.mul_zero] <;> exact Rat.le_refl
end Mine
end
section
open PySem.Calls PySem.Spec
namespace Mine
/-- the rounding's name: to the ceiling or to the floor -/
def rs (up : Bool) : Str := if up then "c" else "f"

section
variable {c : Cx} {σ : Lo} {Q : D → Prop} {B : Bool → Prop} {pos : Pos}
theorem Gop_shifts {sl : PySem.Expr} (up : Bool) (hs : ∀ a x t, subscripted sl false (.ref a) (.str x t) = operate [.ref a, .str x t] (getItem (.ref a) (.str x t)))
    (q : Q (.tup [.int (if up then 0 else 1), .int (if up then 1 else 0)])) : Gop c σ sl (.raw (.ref 26)) (.str (rs up)) Q := fun s E v1 v2 value S r1 r2 => by
  cases r1
  cases r2
  obtain ⟨m, F⟩ := S.fr
  have key : ∀ (a : Addr) (i j : Int) (t1 t2 : Tok) (n : Nat), (∀ w, (KF w).lookup a = some ⟨.type "tuple", none, .seq #[.int i t1, .int j t2] n, #[]⟩) → Rep (c.view s.heap) (.ref a) (.tup [.int i, .int j]) := fun a i j t1 t2 n e =>
    .tup (vs := [.int i t1, .int j t2]) ⟨_, hideAll_get _ (S.kin _ _ (e c.w)) (fun hm => c.kvis _ hm _ (e c.w)), rfl, n, rfl⟩ (.cons (.int _ _) (.cons (.int _ _) .nil))
  cases up with
  | true => exact topItem_K (w := c.w) (K := KF c.w) (es := _) (n := _) (v := .ref 28) F c.kin rfl (by repeat (first | exact True.intro | refine And.intro ⟨_, _, rfl, rfl⟩ ?_)) rfl (Out.tok (key 28 0 1 _ _ _ (fun w => rfl)) q) (hs _ _ _)
  | false => exact topItem_K (w := c.w) (K := KF c.w) (es := _) (n := _) (v := .ref 27) F c.kin rfl (by repeat (first | exact True.intro | refine And.intro ⟨_, _, rfl, rfl⟩ ?_)) rfl (Out.tok (key 27 1 0 _ _ _ (fun w => rfl)) q) (hs _ _ _)
end


abbrev Mpf.D (x : Mpf) : Mine.D := mD x.s x.m x.e x.b

theorem mulOk {a b : Int} (h : ib a + ib b ≤ 2 ^ 27) : IntMulOk a b := by
  unfold IntMulOk
  intro hc
  rw [Bool.and_eq_true] at hc
  have h2 := hc.2
  unfold Builtin.Int.intTooBig at h2
  rw [decide_eq_true_eq] at h2
  have e1 : PySem.bitsLine = 2 ^ 27 := rfl
  have h3 : (Builtin.Int.intBits a + Builtin.Int.intBits b : Nat) ≤ 2 ^ 27 := h
  rw [e1] at h2
  omega
end Mine
end
section
open PySem.Calls PySem.Spec
namespace Mine
mutual
theorem Rep.monoD {h h' : Heap} (k : Kd h h') : ∀ {v : Value} {d : D}, Rep h v d → Rep h' v d
  | _, _, .none => .none
  | _, _, .bool b => .bool b
  | _, _, .int i t => .int i t
  | _, _, .str s t => .str s t
  | _, _, .raw v => .raw v
  | _, _, .rng x => .rng (k _ _ x (.inr ⟨rfl, _, rfl⟩))
  | _, _, .tup x y => .tup (let ⟨o, e, hc, n, r⟩ := x; ⟨o, k _ o e (.inl ⟨_, n, r⟩), hc, n, r⟩) (RepL.monoD k y)
  | _, _, .list x y => .list (let ⟨o, e, hc, n, r⟩ := x; ⟨o, k _ o e (.inl ⟨_, n, r⟩), hc, n, r⟩) (RepL.monoD k y)
theorem RepL.monoD {h h' : Heap} (k : Kd h h') : ∀ {vs : List Value} {l : List D}, RepL h vs l → RepL h' vs l
  | _, _, .nil => .nil
  | _, _, .cons x y => .cons (Rep.monoD k x) (RepL.monoD k y)
end

theorem iter_not {o : Obj} {T : String} {fs : Array Value} (hc : o.cls = .type T) (hd : o.data = .fields fs) (h : (∃ vs n, o.data = .seq vs n) ∨ (o.cls = .type "range" ∧ ∃ fs, o.data = .fields fs)) (hT : T ≠ "range" := by decide) : False := by
  rcases h with ⟨_, _, q⟩ | ⟨q, _⟩
  · rw [hd] at q; cases q
  · rw [hc] at q; exact hT (Value.type.inj q)
/-- an iterator of the loop's own may turn -/
theorem St.but {c : Cx} {σ : Lo} {h h' : Heap} {it : Addr} {oi : Obj} {fs : Array Value} (e : h.get? it = some oi) (hc : oi.cls = .type "list_iterator") (hd : oi.data = .fields fs) (hg : c.g.get? it = none) (hh : it ∉ c.hid)
    (k : ∀ b o, b ≠ it → h.get? b = some o → h'.get? b = some o) (S : St c σ h) : St c σ h' := by
  have kd : Kd (c.view h) (c.view h') := fun b o e1 hcl => hideAll_get _ (k b o (fun q => by
    have := c.view_sub e1
    rw [q, e] at this; cases this
    exact iter_not hc hd hcl) (c.view_sub e1)) (c.view_not e1)
  have kn : ∀ a m, h.Ns a m → h'.Ns a m := fun a m hn => by
    obtain ⟨o, es, ep, h1, h2, h3, h4⟩ := hn
    exact ⟨o, es, ep, k a o (fun q => by rw [q, e] at h1; cases h1; rw [hd] at h2; cases h2) h1, h2, h3, h4⟩
  refine ⟨?_, ?_, fun b hb => ?_, fun x d el => ?_, c.invk _ _ ⟨fun b o e1 hcl => k b o (fun q => by rw [q, e] at e1; cases e1; exact iter_not hc hd hcl) e1, fun b o v e1 hcl => ⟨o, v, k b o (fun q => by rw [q, e] at e1; cases e1; rw [hd] at hcl; cases hcl) e1, hcl⟩⟩ S.inv⟩
  · obtain ⟨m, F⟩ := S.fr
    exact ⟨m, kn _ _ F.ns, fun b o eb => k b o (fun q => by rw [q, hg] at eb; cases eb) (F.keep b o eb), F.above⟩
  · obtain ⟨m, N⟩ := S.ns
    exact ⟨m, kn _ _ N⟩
  · obtain ⟨o, eo⟩ := S.live b hb
    exact ⟨o, k b o (fun q => hh (q ▸ hb)) eo⟩
  · obtain ⟨v, hv, r⟩ := S.var x d el
    refine ⟨v, ?_, r.monoD kd⟩
    rcases hv with ⟨hx, m, hn, hm⟩ | ⟨hx, cc, o, h1, h2, h3⟩
    · exact .inl ⟨hx, m, kn _ _ hn, hm⟩
    · exact .inr ⟨hx, cc, o, h1, k cc o (fun q => by rw [q, e] at h2; cases h2; rw [hd] at h3; cases h3) h2, h3⟩

/-- a loop over a list's items, one by one -/
def ForL (c : Cx) (x : Str) (body : List Stmt) (R : D → Prop) : List D → Lo → (Lo → Prop) → Prop
  | [], σ, N => N σ
  | d :: ds, σ, N => SS c ((x, d) :: σ) body (fun σ' => ForL c x body R ds σ' N) R

section
variable {c : Cx} {σ : Lo} {N : Lo → Prop} {R : D → Prop} {Q : D → Prop} {pos : Pos}

theorem ForL_nil {x : Str} {body : List Stmt} (h : N σ) : ForL c x body R [] σ N := h
theorem ForL_cons {x : Str} {body : List Stmt} {d : D} {ds : List D} (h : SS c ((x, d) :: σ) body (fun σ' => ForL c x body R ds σ' N) R) : ForL c x body R (d :: ds) σ N := h
theorem St.out {c : Cx} {σ : Lo} {h : Heap} (S : St c σ h) {a : Addr} (ha : h.objs.size ≤ a) : c.g.get? a = none := by
  obtain ⟨m, F⟩ := S.fr
  cases q : c.g.get? a with
  | none => rfl
  | some o => exact absurd (Heap.lt_size (F.keep a o q)) (Nat.not_lt.mpr ha)

theorem S_for {sc : Scope} {x : Str} {px : Pos} {iter : PySem.Expr} {body : List Stmt} (hs : c.env.scope = sc) (hL : c.env.locals = c.L) (hx : sc.names.lookup x = some .local) (hf : ∀ v, foldedSetIterable iter c.env v = pure v)
    (h : EE c σ iter (fun d => ∃ ds, d = .list ds ∧ ForL c x body R ds σ N)) : S1 c σ (.For (.Name x px) iter body [] pos) N R := fun s E S =>
  wpAny_For (seqV h S fun v h1 t1 d k1 S1 r q => by
    obtain ⟨ds, rfl, q⟩ := q
    obtain ⟨a, vs, rfl, hl, rl⟩ := rep_list r
    refine wpAny_pyIter_list (view_list hl) ?_
    -- the iterator
    generalize hit : h1.objs.size = it
    generalize hH : h1.push { cls := .type "list_iterator", data := .fields #[.ref a, .int 0 0] } = H
    have kH : Kp h1 H := hH ▸ kp_push
    have itH : H.IsListIter it a 0 := ⟨_, by rw [← hH, ← hit]; exact Heap.get?_push_size _ rfl, rfl, rfl⟩
    have itg : c.g.get? it = none := S1.out (Nat.le_of_eq hit)
    have ith : it ∉ c.hid := S1.new (Nat.le_of_eq hit)
    have itn : h1.get? it = none := by
      cases q : h1.get? it with
      | none => rfl
      | some o => exact absurd (Heap.lt_size q) (by rw [hit]; exact Nat.lt_irrefl _)
    have itv : ∀ {h' : Heap} {o : Obj}, h'.get? it = some o → (c.view h').get? it = some o := fun e => hideAll_get _ e ith
    refine codeAny_forLoop (fun n s' => ∃ (i : Nat) (h2 : Heap) (t2 : Nat) (σ2 : Lo), n = ds.length - i ∧ i ≤ ds.length ∧ s' = { s with heap := h2, toks := t2 } ∧ Kp (c.view h1) (c.view h2) ∧ St c σ2 h2 ∧ h2.IsListIter it a i ∧ ForL c x body R (ds.drop i) σ2 N)
      ?_ ds.length ⟨0, H, t1, σ, rfl, Nat.zero_le _, rfl, c.view_mono kH, S1.mono kH, itH, q⟩
    rintro n s' ⟨i, h2, t2, σ2, rfl, hi, rfl, kv, S2, it2, F2⟩
    have l2 : h2.IsList a vs.toArray := view_list (islist_mono kv hl)
    have r2 : RepL (c.view h2) vs ds := rl.mono kv
    have hlen : vs.length = ds.length := rl.length
    by_cases hlt : i < ds.length
    · have hv : vs.toArray[i]? = some (vs[i]'(by omega)) := by simp [hlen, hlt]
      refine wpAny_pyNext_list_item it2 l2 hv fun h3 it3 hs3 => ?_
      obtain ⟨oi, ho, hoc, hod⟩ := id it2
      have S3 : St c σ2 h3 := St.but ho hoc hod itg ith (fun b o hb e => (hs3.2 b hb).trans e) S2
      have kd3 : Kd (c.view h2) (c.view h3) := fun b o e1 hcl => hideAll_get _ ((hs3.2 b (fun q => by
        have := c.view_sub e1
        rw [q, ho] at this; cases this
        exact iter_not hoc hod hcl)).trans (c.view_sub e1)) (c.view_not e1)
      have kv3 : Kp (c.view h1) (c.view h3) := fun b o e1 => hideAll_get _ ((hs3.2 b (fun q => by
        have := c.view_sub e1
        rw [q, itn] at this; cases this)).trans (c.view_sub (kv b o e1))) (c.view_not e1)
      obtain ⟨d, hd⟩ : ∃ d, ds[i]? = some d := ⟨ds[i], by simp [hlt]⟩
      obtain ⟨v, hvv, rv⟩ := r2.get hd
      have hv' : vs[i]'(by omega) = v := by
        have : vs[i]? = some (vs[i]'(by omega)) := by simp [hlen, hlt]
        rw [this] at hvv; exact Option.some.inj hvv
      have hdrop : ds.drop i = d :: ds.drop (i + 1) := by
        have : ds[i] = d := by have := hd; simp [hlt] at this; exact this
        rw [← this]; exact List.drop_eq_getElem_cons hlt
      rw [hdrop] at F2
      dsimp only
      rw [hv']
      refine PyProof.Rows.assign_Name (storeL hL (kind_of hs hx) S3 (rv.monoD kd3) fun h4 S4 k4 => ?_)
      refine wpAny_mono (F2 _ _ S4) (fun fl s'' o => ?_) fun _ _ x => x
      obtain ⟨h5, t5, rfl, k5, o⟩ := o
      have it4 : h4.get? it = h3.get? it := by
        obtain ⟨o3, e3, r3⟩ := it3
        rw [e3, c.view_sub (k4 it o3 (itv e3))]
      have it5 : h5.IsListIter it a (i + 1) := by
        obtain ⟨o3, e3, r3⟩ := it3
        exact ⟨o3, c.view_sub (k5 it o3 (itv (it4.trans e3))), r3⟩
      have kv5 : Kp (c.view h1) (c.view h5) := fun b o e => k5 b o (k4 b o (kv3 b o e))
      cases fl with
      | next =>
        obtain ⟨σ5, S5, F5⟩ := o
        exact ⟨ds.length - (i + 1), by omega, i + 1, h5, t5, σ5, rfl, by omega, rfl, kv5, S5, it5, F5⟩
      | ret v => exact ⟨h5, t5, rfl, fun b o e => kv5 b o (c.view_mono k1 b o e), o⟩
      | brk => exact o.elim
      | cont => exact o.elim
    · have hi' : i = ds.length := by omega
      refine wpAny_pyNext_list_end c.hand it2 l2 (by simp [hlen, hi']) fun h3 he3 => ?_
      obtain ⟨oi, ho, hoc, hod⟩ := id it2
      have S3 : St c σ2 h3 := St.but ho hoc hod itg ith (fun b o hb e => he3 b o hb e) S2
      have kv3 : Kp (c.view h1) (c.view h3) := fun b o e1 => hideAll_get _ (he3 b o (fun q => by
        have := c.view_sub e1
        rw [q, itn] at this; cases this) (c.view_sub (kv b o e1))) (c.view_not e1)
      have : ds.drop i = [] := by rw [hi']; simp
      rw [this] at F2
      exact wpAny_execs_nil ⟨h3, t2, rfl, fun b o e => kv3 b o (c.view_mono k1 b o e), σ2, S3, F2⟩) hf

theorem pick2 (a b : Value) : slicePick (List.toArray [a, b]) (some 1) none none = List.toArray [b] := by kernel_rfl
theorem pick4 (a b c d : Value) : slicePick (List.toArray [a, b, c, d]) (some 1) none none = List.toArray [b, c, d] := by kernel_rfl
theorem EE_tail {v : PySem.Expr} {k : Nat} {p1 p2 : Pos} (ht : ∀ a r, letTemporaryGo v (.ref a) r = pure ()) (h : EE c σ v (fun d => ∃ ds, d = .list ds ∧ (ds.length = 2 ∨ ds.length = 4) ∧ Q (.list (ds.drop 1)))) :
    EE c σ (.Subscript v (.Slice (some (.Constant (.int 1) k p1)) none none p2) pos) Q := fun s E S =>
  Subscript_ (seqV h S fun v1 h1 t1 d k1 S1 r q => by
    obtain ⟨ds, rfl, hlen, q⟩ := q
    obtain ⟨a, vs, rfl, hl, rl⟩ := rep_list r
    refine wpAny_Slice ?_
    refine evalPart_some_step (wpAny_Constant_int ?_)
    refine evalPart_none_step (evalPart_none_step ?_)
    refine slice_listK (lo := some 1) (hi := none) (view_list hl) (.int 1 _) .none ?_ (by with_unfolding_all rfl) (ht a) (by rw [List.size_toArray, rl.length]; rcases hlen with e | e <;> rw [e] <;> decide)
    have hp : slicePick vs.toArray (some 1) none none = (vs.drop 1).toArray := by
      have := rl.length
      rcases hlen with e | e <;> rw [e] at this
      · match vs, this with
        | [a, b], _ => exact pick2 a b
      · match vs, this with
        | [a, b, c, d], _ => exact pick4 a b c d
    rw [hp]
    have kk : Kp h1 ((h1.push { cls := .type "slice", data := .fields #[.int 1 t1, .none, .none] }).push { cls := .type "list", data := .seq (vs.drop 1).toArray }) := fun b o e => Heap.get?_push_of_some _ (Heap.get?_push_of_some _ e)
    refine ⟨_, _, _, rfl, fun b o e => kk b o (k1 b o e), .list (vs := vs.drop 1) ⟨{ cls := .type "list", data := .seq (vs.drop 1).toArray }, hideAll_get _ ?_ (S1.new (Nat.le_succ _)), rfl, _, rfl⟩ ?_, q⟩
    · have := Heap.get?_push_size (h1.push { cls := .type "slice", data := .fields #[.int 1 t1, .none, .none] }) (o := { cls := .type "list", data := .seq (vs.drop 1).toArray }) rfl
      rw [Heap.size_push] at this
      exact this
    · have := rl.mono (c.view_mono kk)
      cases this with
      | nil => exact .nil
      | cons a b => exact b)
theorem S_set2 {sc : Scope} {x y : Str} {e : PySem.Expr} {p1 p2 : Pos} (hs : c.env.scope = sc) (hL : c.env.locals = c.L) (hx : (decide (sc.names.lookup x = some .local) && decide (sc.names.lookup y = some .local)) = true)
    (ha : List.map (fun z : Bool × (Value → Sem Unit) => z.2) (assignEach [.Name x p1, .Name y p2] c.env) = [assign (.Name x p1) c.env, assign (.Name y p2) c.env]) (hss : swappedStores [.Name x p1, .Name y p2] e c.env = pure none)
    (h : EE c σ e (fun d => N ((y, d) :: (x, d) :: σ))) : S1 c σ (.Assign [.Name x p1, .Name y p2] e pos) N R := fun s E S => by
  have hx' := Bool.and_eq_true_iff.mp hx
  refine wpAny_Assign_two (seqV h S fun v h1 t1 d k1 S1 r q => ?_) ha hss
  refine PyProof.Rows.assign_Name (storeL hL (kind_of hs (of_decide_eq_true hx'.1)) S1 r fun h2 S2 k2 => ?_)
  refine PyProof.Rows.assign_Name (storeL hL (kind_of hs (of_decide_eq_true hx'.2)) S2 (r.mono k2) fun h3 S3 k3 => ?_)
  exact ⟨h3, _, rfl, fun b o e => k3 b o (k2 b o (c.view_mono k1 b o e)), _, S3, q⟩
end

/-- less is known -/
def Sub (σ σ' : Lo) : Prop := ∀ x d, σ.lookup x = some d → σ'.lookup x = some d
theorem Sub.refl {σ : Lo} : Sub σ σ := fun _ _ e => e
theorem Sub.nil {σ : Lo} : Sub [] σ := fun _ _ e => by cases e
theorem Sub.cons {k : Str} {d : D} {r σ : Lo} (h : σ.lookup k = some d) (t : Sub r σ) : Sub ((k, d) :: r) σ := fun x d' e => by
  rw [List.lookup_cons] at e
  by_cases q : x = k
  · subst q
    simp only [beq_self_eq_true] at e
    rw [← e]; exact h
  · have : (x == k) = false := beq_eq_false_iff_ne.mpr q
    simp only [this] at e
    exact t x d' e
theorem Sub.under {k : Str} {d : D} {σ σ' : Lo} (t : Sub σ σ') : Sub ((k, d) :: σ) ((k, d) :: σ') := fun x d' e => by
  rw [List.lookup_cons] at e ⊢
  cases q : x == k with
  | true => rw [q] at e; exact e
  | false => rw [q] at e; exact t x d' e
theorem St.sub {c : Cx} {σ σ' : Lo} {h : Heap} (t : Sub σ σ') (S : St c σ' h) : St c σ h := ⟨S.fr, S.ns, S.live, fun x d e => S.var x d (t x d e), S.inv⟩
theorem SS_sub {c : Cx} {σ σ' : Lo} {ss : List Stmt} {N : Lo → Prop} {R : D → Prop} (t : Sub σ σ') (h : SS c σ ss N R) : SS c σ' ss N R := fun s E S => h s E (S.sub t)
theorem SS_mono {c : Cx} {σ : Lo} {ss : List Stmt} {N N' : Lo → Prop} {R : D → Prop} (h : SS c σ ss N R) (k : ∀ σ', N σ' → N' σ') : SS c σ ss N' R := fun s E S =>
  wpAny_mono (h s E S) (fun fl s' o => by
    obtain ⟨h', tk, e1, k1, o⟩ := o
    refine ⟨h', tk, e1, k1, ?_⟩
    cases fl with
    | next => obtain ⟨σ', S', n⟩ := o; exact ⟨σ', S', k _ n⟩
    | ret v => exact o
    | brk => exact o
    | cont => exact o) fun _ _ x => x
/-- a loop by what holds between its turns -/
theorem ForL_ind {c : Cx} {x : Str} {body : List Stmt} {R : D → Prop} {N : Lo → Prop} {α β : Type} (dd : α → D) (st : β → Lo) (P : List α → β → Prop) (xs : List α)
    (step : ∀ pre a b, a ∈ xs → P pre b → SS c ((x, dd a) :: st b) body (fun σ' => ∃ b', P (pre ++ [a]) b' ∧ Sub (st b') σ') R)
    (done : ∀ b σ', P xs b → Sub (st b) σ' → N σ') {σ : Lo} (h0 : ∃ b0, P [] b0 ∧ Sub (st b0) σ) : ForL c x body R (xs.map dd) σ N := by
  have go : ∀ (pre post : List α) (σ : Lo), pre ++ post = xs → (∃ b, P pre b ∧ Sub (st b) σ) → ForL c x body R (post.map dd) σ N := by
    intro pre post
    induction post generalizing pre with
    | nil =>
      intro σ e ⟨b, hp, hs⟩
      rw [List.append_nil] at e
      subst e
      exact done b σ hp hs
    | cons a r ih =>
      intro σ e ⟨b, hp, hs⟩
      exact SS_sub hs.under (SS_mono (step pre a b (by rw [← e]; simp) hp) fun σ' h => ih (pre ++ [a]) σ' (by simp [← e]) h)
  exact go [] xs σ rfl h0

section
variable {c : Cx} {σ : Lo} {Q : D → Prop} {B : Bool → Prop} {pos : Pos}
theorem EB_cmp2 {l r1 r2 : PySem.Expr} {op1 op2 : CmpOp} (hb : lastMarks [op1, op2] [r1, r2] = false)
    (h : EE c σ l (fun d1 => EE c σ r1 (fun d2 => Cop c σ op1 d1 d2 (fun d => Tru c σ d (fun x => (x = false → B false) ∧ (x = true → EE c σ r2 (fun d3 => Cop c σ op2 d2 d3 (fun d => Tru c σ d B)))))))) :
    EB c σ (.Compare l [op1, op2] [r1, r2] pos) B := fun s E S =>
  isTrue_chain (rs := []) (seqV h S fun v1 h1 t1 d1 k1 S1 q1r q1 => test_link (seqV q1 S1 fun v2 h2 t2 d2 k2 S2 q2r q2 =>
    wpAny_mono (q2 { s with heap := h2, toks := t2 } E v1 v2 S2 (q1r.mono (c.view_mono k2)) q2r) (fun v s' o => by
      obtain ⟨h3, t3, d, rfl, k3, r3, q3⟩ := o
      refine wpAny_mono (q3 { s with heap := h3, toks := t3 } E v (S2.mono k3) r3) (fun b s' o => ?_) fun _ _ x => x
      obtain ⟨h4, t4, rfl, k4, q4⟩ := o
      have kk : Kp s.heap h4 := fun b o e => k4 b o (k3 b o (k2 b o (k1 b o e)))
      cases b with
      | false => exact ⟨h4, t4, rfl, kk, q4.1 rfl⟩
      | true =>
        refine test_last (seqV (q4.2 rfl) ((S2.mono k3).mono k4) fun v5 h5 t5 d5 k5 S5 r5 q5 => ?_)
        refine wpAny_mono (q5 { s with heap := h5, toks := t5 } E v2 v5 S5 (q2r.mono (c.view_mono fun b o e => k5 b o (k4 b o (k3 b o e)))) r5) (fun v s' o => ?_) fun _ _ x => x
        obtain ⟨h6, t6, d6, rfl, k6, r6, q6⟩ := o
        exact finB (c := c) (t1 := t6) (fun b o e => k6 b o (k5 b o (kk b o e))) (q6 _ E v (S5.mono k6) r6)) fun _ _ x => x)) hb
theorem list4_reads {h : Heap} {v : Value} : ∀ {xs : List Mpf}, Rep h v (.list (xs.map Mpf.D)) → ∃ as, Reads h v (.list (xs.map fun z => pD z.s z.m z.e z.b)) as := fun {xs} r => by
  obtain ⟨a, vs, rfl, ⟨o, ho, hc, n, hd⟩, rl⟩ := rep_list r
  have go : ∀ (xs : List Mpf) (vs : List Value), RepL h vs (xs.map Mpf.D) → ReadsAll h vs (xs.map fun z => pD z.s z.m z.e z.b) [] := by
    intro xs
    induction xs with
    | nil => intro vs r; cases r; exact .nil
    | cons x xs ih =>
      intro vs r
      cases r with
      | cons r1 r2 => exact .cons (mD_reads r1) (ih _ r2)
  exact ⟨_, Reads.list ho hc hd (go xs vs rl)⟩
theorem Cop_in4 {s m e b : Int} {xs : List Mpf} (q : Q (.bool (xs.any fun z => z.s == s && (z.m == m && (z.e == e && (z.b == b && true)))))) : Cop c σ .In (mD s m e b) (.list (xs.map Mpf.D)) Q := fun st E v1 v2 S r1 r2 => by
  obtain ⟨as, r2'⟩ := list4_reads r2
  have hu := c.units
  have hc := cLine_is
  have e1 : PyData.canLayAll0 (xs.map fun z => pD z.s z.m z.e z.b) = true := by
    clear q r2 r2'
    induction xs with
    | nil => rfl
    | cons x xs ih => simp only [List.map_cons, PyData.canLayAll0, ih, Bool.and_true]; rfl
  have e2 : (pD s m e b).depth ≤ 1 := by simp [PyData.depth, PyData.depthAll]
  refine PySem.SeqAt.in_list_reads (reads_sub r2') (reads_sub (mD_reads r1)) e1 rfl (by have := Nat.min_le_right (PyData.depthAll (xs.map fun z => pD z.s z.m z.e z.b)) (pD s m e b).depth; omega) (Out.now (.bool _) ?_)
  rw [List.any_map]
  exact q
end
end Mine
end
section
open PySem.Calls PySem.Spec
namespace Mine
theorem boot_len' : bootBuiltins "len" = some (.builtin "len") := by decide +kernel
/-- a builtin by data -/
def Cal (c : Cx) (σ : Lo) (f : Value) (ds : List D) (Q : D → Prop) : Prop :=
  ∀ (s : Shared) (E : Ex) (vs : List Value), St c σ s.heap → RepL (c.view s.heap) vs ds → wpAny (MD c.w) c.A (call f vs) (fun v s' => Out c s v s' Q) E s

theorem repL1 {h : Heap} {vs : List Value} {d : D} (r : RepL h vs [d]) : ∃ v, vs = [v] ∧ Rep h v d := by cases r with | cons a b => cases b; exact ⟨_, rfl, a⟩
theorem repL2 {h : Heap} {vs : List Value} {d e : D} (r : RepL h vs [d, e]) : ∃ v w, vs = [v, w] ∧ Rep h v d ∧ Rep h w e := by cases r with | cons a b => obtain ⟨w, rfl, x⟩ := repL1 b; exact ⟨_, _, rfl, a, x⟩
section
variable {c : Cx} {σ : Lo} {Q : D → Prop} {B : Bool → Prop} {pos : Pos}
theorem EE_bic {sc : Scope} {x : Str} {np : Pos} {id : String} {es : List PySem.Expr} (hs : c.env.scope = sc) (hx : sc.names.lookup x = some .globalImplicit)
    (he : ∀ w, nsIn (KF w) mainGlobals x = some none) (hv : bootBuiltins x = some (.builtin id)) (hn : x ≠ "__name__") (hd : (x == ("__debug__" : Str)) = false) (hne : (!es.isEmpty && noStars es) = true)
    (hc : eval (.Call (.Name x np) es [] pos) c.env = (do let y ← eval (.Name x np) c.env; callWith pos y [] (backTo pos (starEach es c.env)) (backToKw pos (keywordEach [] c.env))))
    (h : EL c σ es (fun ds => Cal c σ (.builtin id) ds Q)) : EE c σ (.Call (.Name x np) es [] pos) Q := fun s E S =>
  Call_ (seqV (Q := fun d => d = .raw (.builtin id)) (EE_bi hs hx he hv hn hd rfl) S fun v1 h1 t1 d1 k1 S1 r1 q1 => by
    subst q1
    cases r1
    cases es with
    | nil => cases hne
    | cons e rest =>
      have hst := starEach_cons (env := c.env) hne
      refine PyProof.Rows.callWith_builtin1 (seqL hne h S1 fun vs h2 t2 ds k2 S2 r2 q2 => ?_) hst (anyStar (noStars_tail hne))
      exact fin (c := c) (t1 := t2) (fun b o e => k2 b o (k1 b o e)) (q2 _ E vs S2 r2)) hc
theorem EE_tyc {sc : Scope} {x : Str} {np : Pos} {T : String} {es : List PySem.Expr} (hs : c.env.scope = sc) (hx : sc.names.lookup x = some .globalImplicit)
    (he : ∀ w, nsIn (KF w) mainGlobals x = some none) (hv : bootBuiltins x = some (.type T)) (hn : x ≠ "__name__") (hd : (x == ("__debug__" : Str)) = false) (hne : (!es.isEmpty && noStars es) = true)
    (hc : eval (.Call (.Name x np) es [] pos) c.env = (do let y ← eval (.Name x np) c.env; callWith pos y [] (backTo pos (starEach es c.env)) (backToKw pos (keywordEach [] c.env))))
    (h : EL c σ es (fun ds => Cal c σ (.type T) ds Q)) : EE c σ (.Call (.Name x np) es [] pos) Q := fun s E S =>
  Call_ (seqV (Q := fun d => d = .raw (.type T)) (EE_bi hs hx he hv hn hd rfl) S fun v1 h1 t1 d1 k1 S1 r1 q1 => by
    subst q1
    cases r1
    cases es with
    | nil => cases hne
    | cons e rest =>
      have hst := starEach_cons (env := c.env) hne
      refine PyProof.Rows.callWith_type1 (seqL hne h S1 fun vs h2 t2 ds k2 S2 r2 q2 => ?_) hst (anyStar (noStars_tail hne))
      exact fin (c := c) (t1 := t2) (fun b o e => k2 b o (k1 b o e)) (q2 _ E vs S2 r2)) hc

theorem Cal_min {a b : Int} (q : Q (.int (if b < a then b else a))) : Cal c σ (.builtin "min") [.int a, .int b] Q := fun s E vs S r => by
  obtain ⟨v1, v2, rfl, r1, r2⟩ := repL2 r
  cases r1; cases r2
  refine min_two_ints c.hand fun h' tk k => ⟨h', tk, _, rfl, k, ?_, q⟩
  split <;> exact .int _ _
theorem Cal_abs {a : Int} (q : Q (.int (if a < 0 then -a else a))) : Cal c σ (.builtin "abs") [.int a] Q := fun s E vs S r => by
  obtain ⟨v1, rfl, r1⟩ := repL1 r
  cases r1
  exact call_abs_int fun u tk => Out.tok (.int _ _) q
theorem Cal_len {ds : List D} (hl : (ds.length : Int) < 2 ^ 63) (q : Q (.int ds.length)) : Cal c σ (.builtin "len") [.list ds] Q := fun s E vs S r => by
  obtain ⟨v1, rfl, r1⟩ := repL1 r
  obtain ⟨a, vs, rfl, hl', rl⟩ := rep_list r1
  have e : ((vs.toArray.size : Nat) : Int) = (ds.length : Nat) := by rw [List.size_toArray, rl.length]
  refine call_len_list (view_list hl') (by rw [e]; exact hl) ?_
  rw [e]
  exact Out.tok (.int _ _) q
theorem Cal_range1 {n : Int} (q : Q (.rng 0 n)) : Cal c σ (.type "range") [.int n] Q := fun s E vs S r => by
  obtain ⟨v1, rfl, r1⟩ := repL1 r
  cases r1
  exact call_range_1 ⟨_, _, _, rfl, kp_push, .rng (hideAll_get _ (Heap.get?_push_size _ rfl) (S.new (Nat.le_refl _))), q⟩
theorem Cal_range2 {a b : Int} (q : Q (.rng a b)) : Cal c σ (.type "range") [.int a, .int b] Q := fun s E vs S r => by
  obtain ⟨v1, v2, rfl, r1, r2⟩ := repL2 r
  cases r1; cases r2
  exact call_range_2 ⟨_, _, _, rfl, kp_push, .rng (hideAll_get _ (Heap.get?_push_size _ rfl) (S.new (Nat.le_refl _))), q⟩
theorem Bop_modp {a b : Int} (hb : 0 < b) (q : Q (.int (a % b))) : Bop c σ .Mod (.int a) (.int b) Q :=
  Bop_mod (by omega) (by rw [Int.fmod_eq_emod_of_nonneg _ (by omega)]; exact q)
theorem Bop_divp {a b : Int} (hb : 0 < b) (hp : b.natAbs.log2 < 9000) (q : Q (.int (a / b))) : Bop c σ .FloorDiv (.int a) (.int b) Q :=
  Bop_div (by omega) (PyProof.noPylong_of_log2 hp) (by rw [Int.fdiv_eq_ediv_of_nonneg _ (by omega)]; exact q)
theorem Bop_pow2 {b : Int} (h0 : 0 ≤ b) (hs : 2 * b ≤ 2 ^ 27) (q : Q (.int (2 ^ b.toNat))) : Bop c σ .Pow (.int 2) (.int b) Q := Bop_pow h0 hs q
theorem S_swapped2 {N : Lo → Prop} {R : D → Prop} {sc : Scope} {es : List PySem.Expr} {xs : List Str} {k : Nat} {tp : Pos} {e : PySem.Expr} (hs : c.env.scope = sc) (hL : c.env.locals = c.L) (hn : names? es = some xs) (hss : ∀ env : Env, env.scope = sc → swappedStores [.Tuple es k tp] e env = pure (some xs))
    (hx : (xs.all fun x => decide (sc.names.lookup x = some .local)) = true) (hsw : swapsWithSole [.Tuple es k tp] e pos.line c.env = pure false) (h : EE c σ e (fun d => ∃ ds, d = .tup ds ∧ xs.length = ds.length ∧ N (pushL xs.reverse ds.reverse σ))) : S1 c σ (.Assign [.Tuple es k tp] e pos) N R :=
  S_swapped hs hL hss hx hsw h
theorem log2_pow {n : Nat} (h : n < 9000) : ((2 : Int) ^ n).natAbs.log2 < 9000 := by
  rw [Int.natAbs_pow]
  show (2 ^ n).log2 < 9000
  rw [Nat.log2_two_pow]; exact h
end
end Mine
end
section
open PySem.Calls PySem.Spec
namespace Mine
def notOwn (T : String) : Bool := !(["enumerate", "zip", "dict_itemiterator", "dict_reverseitemiterator", "odict_iterator", "itertools.zip_longest", "itertools.pairwise"].contains T)
/-- something to walk over -/
structure Wk (c : Cx) (h1 h2 : Heap) (I : Addr) (ds : List D) (fp : List Addr) (P : Nat → Value → Prop) (Z : Nat → Heap → Prop) : Prop where
  walk : Walks PR c.w c.A I fp [I] ds.length P Z
  at0 : Z 0 h2
  item : ∀ i v, i < ds.length → P i v → ∃ d, ds[i]? = some d ∧ Rep (c.view h1) v d
  new : h1.objs.size ≤ I
  keep : Kp h1 h2
  low : ∀ b ∈ fp, b < h2.objs.size
  obj : ∀ i h, Z i h → ∃ o T fs, h.get? I = some o ∧ o.cls = .type T ∧ o.data = .fields fs ∧ T ≠ "range" ∧ notOwn T = true
  fpv : ∀ b ∈ fp, b ∉ c.hid
/-- what a value's walk gives -/
def Src (c : Cx) (h1 : Heap) (v : Value) (ds : List D) : Prop := ∀ (s : Shared) (E : Ex) (Q : Value → Shared → Prop), s.heap = h1 →
  (∀ I h2 fp P Z, Wk c h1 h2 I ds fp P Z → Q (.ref I) { s with heap := h2 }) → wpAny (MD c.w) c.A (pyIter v) Q E s
def rngL (a b : Int) : List D := (List.range (b - a).toNat).map fun (i : Nat) => .int (a + (i : Int))
inductive Iters : D → List D → Prop
  | list (ds : List D) : Iters (.list ds) ds
  | tup (ds : List D) : Iters (.tup ds) ds
  | rng (a b : Int) : 0 ≤ a ∧ a ≤ 1000 → 0 ≤ b ∧ b ≤ 1000 → Iters (.rng a b) (rngL a b)

theorem src_of {c : Cx} {σ : Lo} {h : Heap} {v : Value} {d : D} {ds : List D} (S : St c σ h) (r : Rep (c.view h) v d) (hi : Iters d ds) : Src c h v ds := by
  rintro s E Q rfl k
  have hnew : s.heap.objs.size ∉ c.hid := S.new (Nat.le_refl _)
  cases hi with
  | list ds =>
    obtain ⟨a, vs, rfl, hl, rl⟩ := rep_list r
    have ha : a ∉ c.hid := by obtain ⟨o, e, _⟩ := hl; exact c.view_not e
    have hl' := view_list hl
    have hlt : a < s.heap.objs.size := by obtain ⟨o, e, _⟩ := hl'; exact Heap.lt_size e
    have W := Walks.list (prog := PR) (w := c.w) (A := c.A) c.hand s.heap.objs.size a (Nat.ne_of_lt hlt) vs.toArray
    rw [show vs.toArray.size = ds.length by rw [List.size_toArray, rl.length]] at W
    refine wpAny_pyIter_list hl' (k _ _ _ _ _ ⟨W, ?_, ?_, Nat.le_refl _, kp_push, ?_, ?_, ?_⟩)
    · exact ⟨⟨_, Heap.get?_push_size _ rfl, rfl, rfl⟩, islist_mono kp_push hl'⟩
    · intro i v _ hv
      have hv' : vs[i]? = some v := by simpa using hv
      have hi : i < ds.length := by rw [← rl.length]; exact (List.getElem?_eq_some_iff.mp hv').1
      obtain ⟨d, hd⟩ : ∃ d, ds[i]? = some d := ⟨ds[i], by simp [hi]⟩
      obtain ⟨v', e', r'⟩ := rl.get hd
      rw [hv'] at e'; cases e'
      exact ⟨d, hd, r'⟩
    · intro b hb
      rw [Heap.size_push]
      simp only [List.mem_cons, List.not_mem_nil, or_false] at hb
      rcases hb with rfl | rfl
      · exact Nat.lt_succ_self _
      · exact Nat.lt_succ_of_lt hlt
    · rintro i h ⟨⟨o, e, hc, hd⟩, _⟩
      exact ⟨o, _, _, e, hc, hd, by decide, by decide⟩
    · intro b hb
      simp only [List.mem_cons, List.not_mem_nil, or_false] at hb
      rcases hb with rfl | rfl
      · exact hnew
      · exact ha
  | tup ds =>
    obtain ⟨a, vs, rfl, hl, rl⟩ := rep_tup r
    have ha : a ∉ c.hid := by obtain ⟨o, e, _⟩ := hl; exact c.view_not e
    have hl' : s.heap.IsTuple a vs.toArray := view_tup hl
    have hlt : a < s.heap.objs.size := by obtain ⟨o, e, _⟩ := hl'; exact Heap.lt_size e
    have W := Walks.tuple (prog := PR) (w := c.w) (A := c.A) c.hand s.heap.objs.size a (Nat.ne_of_lt hlt) vs.toArray
    rw [show vs.toArray.size = ds.length by rw [List.size_toArray, rl.length]] at W
    refine wpAny_pyIter_tuple hl' (k _ _ _ _ _ ⟨W, ?_, ?_, Nat.le_refl _, kp_push, ?_, ?_, ?_⟩)
    · exact ⟨⟨_, Heap.get?_push_size _ rfl, rfl, rfl⟩, IsTup.keeps hl' kp_push⟩
    · intro i v _ hv
      have hv' : vs[i]? = some v := by simpa using hv
      have hi : i < ds.length := by rw [← rl.length]; exact (List.getElem?_eq_some_iff.mp hv').1
      obtain ⟨d, hd⟩ : ∃ d, ds[i]? = some d := ⟨ds[i], by simp [hi]⟩
      obtain ⟨v', e', r'⟩ := rl.get hd
      rw [hv'] at e'; cases e'
      exact ⟨d, hd, r'⟩
    · intro b hb
      rw [Heap.size_push]
      simp only [List.mem_cons, List.not_mem_nil, or_false] at hb
      rcases hb with rfl | rfl
      · exact Nat.lt_succ_self _
      · exact Nat.lt_succ_of_lt hlt
    · rintro i h ⟨⟨o, e, hc, hd⟩, _⟩
      exact ⟨o, _, _, e, hc, hd, by decide, by decide⟩
    · intro b hb
      simp only [List.mem_cons, List.not_mem_nil, or_false] at hb
      rcases hb with rfl | rfl
      · exact hnew
      · exact ha
  | rng a b h0 h1 =>
    cases r with
    | rng hr =>
      rename_i r t u v
      have hr' : IsRange s.heap r a b 1 t u v := c.view_sub hr
      have hsz : Builtin.Range.rangeSize a b 1 = ((b - a).toNat : Int) := by
        unfold Builtin.Range.rangeSize
        rw [if_pos (by decide)]
        split <;> omega
      have fl : ∀ x : Int, -1000 ≤ x ∧ x ≤ 1001 → Builtin.Range.rangeFitsLong x = true := fun x hx => by
        unfold Builtin.Range.rangeFitsLong
        simp only [Bool.and_eq_true, decide_eq_true_eq]
        omega
      have hsm : Builtin.Range.small a b 1 = true := by
        unfold Builtin.Range.small
        rw [hsz, fl a (by omega), fl b (by omega), fl 1 (by omega), fl _ (by omega)]
        simp only [Bool.and_self, Bool.true_and, Bool.or_eq_true]
        right
        rw [if_pos (by decide)]
        exact fl _ (by omega)
      have hl : (rngL a b).length = (b - a).toNat := by unfold rngL; simp
      have W := Walks.range (prog := PR) (w := c.w) (A := c.A) c.hand s.heap.objs.size a 1 (b - a).toNat
      rw [← hl] at W
      refine wpAny_pyIter_range hr' hsm (k _ _ _ _ _ ⟨W, ?_, ?_, Nat.le_refl _, kp_push, ?_, ?_, ?_⟩)
      · show IsRangeIter _ _ _ _ _
        rw [hl, hsz]
        have e1 : a + ((0 : Nat) : Int) * 1 = a := by simp
        have e2 : ((b - a).toNat : Int) - ((0 : Nat) : Int) = ((b - a).toNat : Int) := by simp
        rw [e1, e2]
        exact Heap.get?_push_size _ rfl
      · rintro i v hi ⟨t, rfl⟩
        refine ⟨.int (a + (i : Int)), ?_, ?_⟩
        · unfold rngL at hi ⊢
          simp only [List.length_map, List.length_range] at hi
          simp [hi]
        · rw [Int.mul_one]; exact .int _ _
      · intro q hb
        rw [Heap.size_push]
        simp only [List.mem_cons, List.not_mem_nil, or_false] at hb
        rw [hb]
        exact Nat.lt_succ_self _
      · intro i h e
        exact ⟨_, _, _, e, rfl, rfl, by decide, by decide⟩
      · intro q hb
        simp only [List.mem_cons, List.not_mem_nil, or_false] at hb
        rw [hb]
        exact hnew

def relS (sc scL : Scope) : Scope :=
  { sc with names := sc.names.map fun (n, k) => if (k == .free && scL.kind == .function && scL.names.lookup n == some .cell) then (n, .cell) else (n, k) }
theorem rel_eq {env : Env} {sc scL : Scope} (hs : env.scope = scL) : relabel sc env = relS sc scL := by subst hs; rfl
/-- a comprehension's own context -/
def Cx.comp (c : Cx) (sc : Scope) (cl : List (Str × Addr)) (C D I : Addr) (hk : sc.kind = .function) (kv : ∀ b, b = C ∨ b = D ∨ b = I → ∀ o, (KF c.w).lookup b = some o → False) : Cx :=
  { c with
    env := compEnvC sc cl C c.env
    hid := C :: D :: I :: c.hid
    ekind := hk
    eglob := c.eglob
    ebuilt := c.ebuilt
    hidL := .tail _ (.tail _ (.tail _ c.hidL))
    hidE := .head _
    kvis := fun b hb o e => by
      rcases List.mem_cons.mp hb with q | hb
      · exact kv b (.inl q) o e
      rcases List.mem_cons.mp hb with q | hb
      · exact kv b (.inr (.inl q)) o e
      rcases List.mem_cons.mp hb with q | hb
      · exact kv b (.inr (.inr q)) o e
      · exact c.kvis b hb o e }
def CompL (T : D → (D → Prop) → Prop) : List D → List D → (List D → Prop) → Prop
  | [], acc, Q => Q acc
  | d :: ds, acc, Q => T d (fun r => CompL T ds (acc ++ [r]) Q)
def CT (c : Cx) (sc scL : Scope) (x : Str) (σf : Lo) (elt : PySem.Expr) (d : D) (Q : D → Prop) : Prop :=
  ∀ c2 : Cx, c2.rk = c.rk → c2.env.scope = relS sc scL → EE c2 ((x, d) :: σf) elt Q
theorem hide_mono {h h' : Heap} {l : List Addr} (k : ∀ b o, b ∉ l → h.get? b = some o → h'.get? b = some o) : Kp (hideAll h l) (hideAll h' l) := fun b o e => by
  have hb : b ∉ l := fun hm => by rw [hideAll_none _ hm] at e; cases e
  exact hideAll_get _ (k b o hb (of_hideAll _ e)) hb
theorem not_of_ge {h : Heap} {a b : Addr} {o : Obj} (e : h.get? b = some o) (ha : h.objs.size ≤ a) : b ≠ a := fun q => by
  have := Heap.lt_size e
  rw [q] at this
  exact absurd this (Nat.not_lt.mpr ha)

theorem off3 {b C D I : Addr} {l : List Addr} (h : b ∉ C :: D :: I :: l) : b ≠ C ∧ b ≠ D ∧ b ≠ I ∧ b ∉ l :=
  ⟨fun q => h (q ▸ .head _), fun q => h (q ▸ .tail _ (.head _)), fun q => h (q ▸ .tail _ (.tail _ (.head _))), fun q => h (.tail _ (.tail _ (.tail _ q)))⟩
theorem comp_core {c : Cx} {σ σf : Lo} {elt iter : PySem.Expr} {x : Str} {px pos : Pos} {scope scL : Scope} {cl : List (Str × Addr)} {s₂ : Shared} {h1 : Heap} {I : Addr} {ds : List D} {fp : List Addr} {P : Nat → Value → Prop} {Z : Nat → Heap → Prop} {E : Ex}
    {RR : Value → Addr → Result → Shared → Prop} {Fin : List D → Prop} (hs : c.env.scope = scL) (hcell : ∀ y ∈ scope.names, y.2 ≠ .cell) (hkind : scope.kind = .function) (hx : scope.names.lookup x = some .local)
    (S1 : St c σ h1) (W : Wk c h1 s₂.heap I ds fp P Z) (hsz : ds.length ≤ 1000)
    (hfree : ∀ y d, σf.lookup y = some d → σ.lookup y = some d ∧ (relS scope scL).names.lookup y = some .cell ∧ scL.names.lookup y = some .cell ∧ cl.lookup y = c.env.cells.lookup y)
    (hT : CompL (CT c scope scL x σf elt) ds [] Fin)
    (hRR : ∀ (D C : Addr) (h : Heap) (tk : Nat) (vs : List Value) (rs : List Mine.D) (m : Vp), s₂.heap.objs.size ≤ D → s₂.heap.objs.size ≤ C → C ≠ D → Kp h1 h → PlainL h D vs.toArray → RepL (hideAll h (C :: D :: I :: c.hid)) vs rs → h.Ns C m → Fin rs →
      RR (.ref D) C (.ok .next) { s₂ with heap := h, toks := tk }) :
    wpAny (MD c.w) c.A (newList []) (fun acc s₃ => wpAny (MD c.w) c.A (newFunctionEnv scope c.env.globals cl [] c.env.qual none .none (some c.env)) (fun cenv s₄ =>
      codeAny (MD c.w) c.A (.compStart (.ListComp elt [⟨.Name x px, iter, [], 0⟩] scope pos) 0 (.ref I) acc { cenv with scope := relabel scope c.env }) (RR acc cenv.locals) s₄) E s₃) E s₂ := by
  refine wpAny_newObj_type (wpAny_newFunctionEnv hcell (by intro y hy; simp at hy) (fun h₁ hns₁ hsb₁ => ?_) hkind)
  dsimp only at hns₁ hsb₁ ⊢
  generalize hH2 : s₂.heap.push { cls := .type "list", dict := none, data := .seq ([] : List Value).toArray } = H2 at hns₁ hsb₁ ⊢
  have hC : H2.objs.size = s₂.heap.objs.size + 1 := by rw [← hH2, Heap.size_push]
  generalize hCC : H2.objs.size = C at *
  generalize hDD : s₂.heap.objs.size = D at *
  have hDC : C ≠ D := by rw [hC]; exact Nat.succ_ne_self _
  have hgeD : s₂.heap.objs.size ≤ D := Nat.le_of_eq hDD
  have hgeC : s₂.heap.objs.size ≤ C := by rw [hC, hDD]; exact Nat.le_succ _
  have hltI : I < s₂.heap.objs.size := by obtain ⟨o, _, _, e, _⟩ := W.obj 0 _ W.at0; exact Heap.lt_size e
  have hIC : I ≠ C := fun q => absurd hltI (by rw [q]; exact Nat.not_lt.mpr hgeC)
  have hID : I ≠ D := fun q => absurd hltI (by rw [q]; exact Nat.not_lt.mpr hgeD)
  have old : Kp s₂.heap h₁ := fun b o e => hsb₁.extBut b o (not_of_ge e hgeC) (Heap.get?_push_of_some _ (hH2 ▸ Heap.get?_push_of_some _ e))
  have hacc : PlainL h₁ D ([] : List Value).toArray := ⟨_, _, hsb₁.extBut _ _ (Ne.symm hDC) (Heap.get?_push_of_some _ (by rw [← hDD, ← hH2]; exact Heap.get?_push_size _ rfl)), rfl, rfl, rfl⟩
  have offb : ∀ b o, h1.get? b = some o → b ≠ C ∧ b ≠ D ∧ b ≠ I := fun b o e => ⟨not_of_ge (W.keep b o e) hgeC, not_of_ge (W.keep b o e) hgeD, not_of_ge e W.new⟩
  have fpC : ∀ b ∈ fp, b ≠ C ∧ b ≠ D := fun b hb => by
    have := W.low b hb
    exact ⟨fun q => absurd this (by rw [q]; exact Nat.not_lt.mpr hgeC), fun q => absurd this (by rw [q]; exact Nat.not_lt.mpr hgeD)⟩
  have hrel := rel_eq (sc := scope) hs
  have kv : ∀ b, b = C ∨ b = D ∨ b = I → ∀ o, (KF c.w).lookup b = some o → False := fun b hb o e => by
    have := offb b o (S1.kin _ _ e)
    rcases hb with q | q | q
    · exact this.1 q
    · exact this.2.1 q
    · exact this.2.2 q
  have loop : ∀ s₃ : Shared, s₃ = { s₂ with heap := h₁, toks := s₂.toks + ([] : List (Str × Value)).length } →
      codeAny (MD c.w) c.A (.compLoop (.ListComp elt [⟨.Name x px, iter, [], 0⟩] scope pos) 0 (.ref I) (.ref D) (compEnvC scope cl C c.env)) (RR (.ref D) C) s₃ := by
    rintro s₃ rfl
    refine codeAny_compLoop_list
      (fun k s' => ∃ (h' : Heap) (tk i : Nat) (ys : List Value) (rs : List Mine.D) (m' : Vp), s' = { s₂ with heap := h', toks := tk } ∧ i ≤ ds.length ∧ k = ds.length + 1 - i ∧ rs.length = i ∧ Z i h' ∧ Kp h1 h' ∧ PlainL h' D ys.toArray ∧
        RepL (hideAll h' (C :: D :: I :: c.hid)) ys rs ∧ h'.Ns C m' ∧ CompL (CT c scope scL x σf elt) (ds.drop i) rs Fin) ?_ (ds.length + 1)
      ⟨h₁, _, 0, [], [], _, rfl, Nat.zero_le _, rfl, rfl, W.walk.frame _ _ _ W.at0 fun b _ o e => old b o e, fun b o e => old b o (W.keep b o e), hacc, .nil, hns₁, hT⟩ (fun _ => rfl)
    rintro k s' ⟨h', tk, i, ys, rs, m', rfl, hi, rfl, hyl, hz, kp, hl, rl, hn, R⟩
    by_cases hlt : i < ds.length
    · refine W.walk.item i _ _ _ hlt hz fun v h₂ tk₂ hPv hz₂ hk₂ => ?_
      obtain ⟨d, hd, rd⟩ := W.item i v hlt hPv
      have hdrop : ds.drop i = d :: ds.drop (i + 1) := by
        have : ds[i] = d := by have := hd; simp [hlt] at this; exact this
        rw [← this]; exact List.drop_eq_getElem_cons hlt
      rw [hdrop] at R
      have hk₂' : ∀ b o, b ≠ I → h'.get? b = some o → h₂.get? b = some o := fun b o hb e => hk₂ b o (by simpa using hb) e
      have hn₂ : h₂.Ns C m' := hn.at' fun o e => hk₂' _ o (Ne.symm hIC) e
      dsimp only
      refine wpAny_assign_Name (wpAny_storeName_local (lookup_relabel_local hx) hn₂ (fun h₃ hn₃ hs₃ => ?_) (by simp [compEnvC, relabel, hkind]))
      have k3 : ∀ b o, b ≠ I → b ≠ C → h'.get? b = some o → h₃.get? b = some o := fun b o hI hC e => hs₃.extBut b o hC (hk₂' b o hI e)
      have kp3 : Kp h1 h₃ := fun b o e => k3 b o (offb b o e).2.2 (offb b o e).1 (kp b o e)
      have hz₃ : Z (i + 1) h₃ := W.walk.frame _ _ _ hz₂ fun b hb o e => hs₃.extBut b o (fpC b hb).1 e
      let c2 : Cx := c.comp scope cl C D I hkind kv
      have view3 : Kp (c.view h1) (c2.view h₃) := fun b o e => by
        have e1 := c.view_sub e
        have := offb b o e1
        refine hideAll_get _ (kp3 b o e1) fun hm => ?_
        rcases List.mem_cons.mp hm with q | hm
        · exact this.1 q
        rcases List.mem_cons.mp hm with q | hm
        · exact this.2.1 q
        rcases List.mem_cons.mp hm with q | hm
        · exact this.2.2 q
        · exact c.view_not e hm
      have St3 : St c2 ((x, d) :: σf) h₃ := by
        refine ⟨?_, ⟨_, hn₃⟩, fun b hb => ?_, fun y dy e => ?_, ?_⟩
        · obtain ⟨m, F⟩ := S1.fr
          exact ⟨m, F.keeps kp3⟩
        · rcases List.mem_cons.mp hb with rfl | hb
          · obtain ⟨o, _, _, e, _⟩ := hn₃; exact ⟨o, e⟩
          rcases List.mem_cons.mp hb with rfl | hb
          · obtain ⟨o, _, e, _⟩ := hl; exact ⟨o, k3 _ o (Ne.symm hID) (Ne.symm hDC) e⟩
          rcases List.mem_cons.mp hb with rfl | hb
          · obtain ⟨o, _, _, e, _⟩ := W.obj _ _ hz₃; exact ⟨o, e⟩
          · obtain ⟨o, e⟩ := S1.live b hb; exact ⟨o, kp3 b o e⟩
        · rw [List.lookup_cons] at e
          by_cases q : y = x
          · subst q
            simp only [beq_self_eq_true] at e
            cases e
            exact ⟨v, .inl ⟨lookup_relabel_local hx, _, hn₃, if_pos rfl⟩, rd.mono view3⟩
          · have : (y == x) = false := beq_eq_false_iff_ne.mpr q
            simp only [this] at e
            obtain ⟨e1, e2, e3, e4⟩ := hfree y dy e
            obtain ⟨u, hv, ru⟩ := S1.var y dy e1
            refine ⟨u, .inr ⟨.inl ?_, ?_⟩, ru.mono view3⟩
            · show (relabel scope c.env).names.lookup y = some .cell
              rw [hrel]; exact e2
            · rcases hv with ⟨hy, _⟩ | ⟨_, cc, o, h1', h2', h3'⟩
              · rw [kind_of hs e3] at hy; cases hy
              · exact ⟨cc, o, e4.trans h1', kp3 _ _ h2', h3'⟩
        · exact c.invk _ _ ⟨fun b o e _ => kp3 b o e, fun b o v e hd => ⟨o, v, kp3 b o e, hd⟩⟩ S1.inv
      have hE := R c2 rfl hrel
      refine wpAny_mono (hE { s₂ with heap := h₃, toks := tk₂ + 1 } _ St3) (fun y s₄ o => ?_) fun _ _ e => e
      obtain ⟨h₄, tk₄, r, rfl, k₄, ry, qr⟩ := o
      dsimp only at k₄
      have hl₄ : PlainL h₄ D ys.toArray := by
        obtain ⟨o, n, e, r⟩ := hl
        exact ⟨o, n, k₄ _ _ (k3 _ o (Ne.symm hID) (Ne.symm hDC) e), r⟩
      have hlen : ys.length = i := by rw [rl.length]; exact hyl
      refine list_append_plainL hl₄ (fun h₅ hl₅ hs₅ => ?_) (by rw [List.size_toArray, hlen]; exact Nat.le_trans hi (Nat.le_trans hsz (by decide)))
      have k5 : ∀ b o, b ≠ I → b ≠ C → b ≠ D → h'.get? b = some o → h₅.get? b = some o := fun b o hI hC hD e => hs₅.extBut b o hD (k₄ b o (k3 b o hI hC e))
      refine ⟨ds.length + 1 - (i + 1), by omega, h₅, tk₄, i + 1, ys ++ [y], rs ++ [r], _, rfl, hlt, rfl, by rw [List.length_append, List.length_singleton, hyl], ?_, ?_, ?_, ?_, (hn₃.keeps k₄).sameBut hs₅ hDC, qr⟩
      · exact W.walk.frame _ _ _ hz₃ fun b hb o e => hs₅.extBut b o (fpC b hb).2 (k₄ b o e)
      · exact fun b o e => k5 b o (offb b o e).2.2 (offb b o e).1 (offb b o e).2.1 (kp b o e)
      · rw [List.push_toArray] at hl₅; exact hl₅
      · refine RepL.append (rl.mono (hide_mono fun b o hb e => ?_)) (.cons (ry.mono (hide_mono fun b o hb e => ?_)) .nil)
        · exact k5 b o (off3 hb).2.2.1 (off3 hb).1 (off3 hb).2.1 e
        · exact hs₅.extBut b o (off3 hb).2.1 e
    · have hi' : i = ds.length := by omega
      subst hi'
      refine W.walk.done _ _ _ hz fun h₂ tk₂ hk₂ => ?_
      have hk₂' : ∀ b o, b ≠ I → h'.get? b = some o → h₂.get? b = some o := fun b o hb e => hk₂ b o (by simpa using hb) e
      rw [List.drop_length] at R
      dsimp only
      refine hRR D C h₂ tk₂ ys rs m' (Nat.le_refl _) (by rw [hC]; exact Nat.le_succ _) hDC (fun b o e => hk₂' b o (offb b o e).2.2 (kp b o e)) ?_ (rl.mono (hide_mono fun b o hb e => hk₂' b o (off3 hb).2.2.1 e)) (hn.at' fun o e => hk₂' _ o (Ne.symm hIC) e) R
      obtain ⟨o, n, e, r⟩ := hl
      exact ⟨o, n, hk₂' _ _ (Ne.symm hID) e, r⟩
  exact codeAny_compStart_list (loop _ rfl) (W.walk.self 0 _ _ _ (W.walk.frame _ _ _ W.at0 fun b _ o e => old b o e) (loop _ rfl))

theorem closure_none {sc : Scope} {env : Env} (h : (sc.names.all fun y => y.2 != .free) = true) : closureFor sc env = pure [] := closureFor_none fun x hx => by simpa using List.all_eq_true.mp h x hx
theorem names_ok {sc : Scope} (h : (sc.names.all fun y => (y.2 != .local) || decide (sc.names.lookup y.1 = some .local)) = true) : ∀ x ∈ sc.names, x.2 = .local → sc.names.lookup x.1 = some .local := fun x hx e => by
  have := List.all_eq_true.mp h x hx
  rw [e] at this
  simpa using this
theorem nocell_ok {sc : Scope} (h : (sc.names.all fun y => y.2 != .cell) = true) : ∀ x ∈ sc.names, x.2 ≠ .cell := fun x hx => by simpa using List.all_eq_true.mp h x hx
section
variable {c : Cx} {σ σf : Lo} {Q : D → Prop} {N : Lo → Prop} {R : D → Prop} {pos spos : Pos} {elt iter : PySem.Expr} {x y : Str} {px py : Pos} {scope scL : Scope} {cl : List (Str × Addr)}
theorem EE_comp (hs : c.env.scope = scL) (hclos : closureFor scope c.env = pure cl) (hcell : (scope.names.all fun y => y.2 != .cell) = true) (hkind : scope.kind = .function)
    (hnames : (scope.names.all fun y => (y.2 != .local) || decide (scope.names.lookup y.1 = some .local)) = true) (hx : scope.names.lookup x = some .local) (hf : ∀ v, foldedSetIterable iter c.env v = pure v)
    (hfree : ∀ y d, σf.lookup y = some d → σ.lookup y = some d ∧ (relS scope scL).names.lookup y = some .cell ∧ scL.names.lookup y = some .cell ∧ cl.lookup y = c.env.cells.lookup y)
    (h : EE c σ iter (fun d => ∃ ds, Iters d ds ∧ ds.length ≤ 1000 ∧ CompL (CT c scope scL x σf elt) ds [] (fun rs => Q (.list rs)))) :
    EE c σ (.ListComp elt [⟨.Name x px, iter, [], 0⟩] scope pos) Q := fun s E S => by
  show wpAny _ _ (comprehension (.ListComp elt [⟨.Name x px, iter, [], 0⟩] scope pos) scope c.env _ (newList []) false (eval iter c.env)) _ E s
  refine wpAny_comprehension_free (use := none) rfl hf hclos hkind (names_ok hnames) (seqV h S fun v h1 t1 d k1 S1 r1 q1 => ?_)
  obtain ⟨ds, hi, hsz, hT⟩ := q1
  refine src_of S1 r1 hi { s with heap := h1, toks := t1 } E _ rfl fun I h2 fp P Z W => ?_
  refine comp_core (RR := fun acc C => compPost (MD c.w) c.A E none (fun v s' => Out c s v s' Q) acc C) hs (nocell_ok hcell) hkind hx S1 W hsz hfree hT fun D C h tk vs rs m hD hC hCD kp hl rl hn q => ?_
  have hDh : D ∉ c.hid := fun hm => by
    obtain ⟨o, e⟩ := S1.live D hm
    exact not_of_ge (W.keep _ _ e) hD rfl
  refine ⟨m, hn, fun h' hs' => ⟨h', tk, .list rs, rfl, fun b o e => hs'.extBut b o (not_of_ge (W.keep _ _ (k1 b o e)) hC) (kp b o (k1 b o e)), ?_, q⟩⟩
  obtain ⟨o, e, r⟩ := hl.isList
  refine .list ⟨o, hideAll_get _ (hs'.extBut _ _ (Ne.symm hCD) e) hDh, r⟩ (rl.mono fun b o e => ?_)
  have hb : b ∉ C :: D :: I :: c.hid := fun hm => by rw [hideAll_none _ hm] at e; cases e
  exact hideAll_get _ (hs'.extBut b o (off3 hb).1 (of_hideAll _ e)) (off3 hb).2.2.2

/-- a name's value changes, and no other's -/
structure Upd (c : Cx) (h h' : Heap) (x : Str) (v : Value) : Prop where
  fr : (∃ m, Fr c.g c.L h m) → ∃ m, Fr c.g c.L h' m
  ns : (∃ m, h.Ns c.env.locals m) → ∃ m, h'.Ns c.env.locals m
  ke : Ke h h'
  kv : Kp (c.view h) (c.view h')
  live : ∀ b, (∃ o, h.get? b = some o) → ∃ o, h'.get? b = some o
  self : VarIs c.env h' x v
  oth : ∀ z u, z ≠ x → VarIs c.env h z u → VarIs c.env h' z u
theorem St.upd {h h' : Heap} {v : Value} {d : D} (U : Upd c h h' x v) (S : St c σ h) (r : Rep (c.view h') v d) : St c ((x, d) :: σ) h' := by
  refine ⟨U.fr S.fr, U.ns S.ns, fun b hb => U.live b (S.live b hb), fun y dy e => ?_, c.invk _ _ U.ke S.inv⟩
  rw [List.lookup_cons] at e
  by_cases q : y = x
  · subst q
    simp only [beq_self_eq_true] at e
    cases e
    exact ⟨v, U.self, r⟩
  · have : (y == x) = false := beq_eq_false_iff_ne.mpr q
    simp only [this] at e
    obtain ⟨u, hv, ru⟩ := S.var y dy e
    exact ⟨u, U.oth y u q hv, ru.mono U.kv⟩
/-- a name can be stored to -/
def Sto (c : Cx) (x : Str) : Prop := ∀ (s : Shared) (E : Ex) (v : Value) (P : Unit → Shared → Prop), St c [] s.heap → (∀ h' tk, Upd c s.heap h' x v → P () { s with heap := h', toks := tk }) → wpAny (MD c.w) c.A (storeName c.env x v) P E s
theorem sto_local {sc : Scope} (hs : c.env.scope = sc) (hL : c.env.locals = c.L) (hx : sc.names.lookup x = some .local) : Sto c x := fun s E v P S k => by
  obtain ⟨m, F⟩ := S.fr
  have hn0 : s.heap.Ns c.env.locals m := by rw [hL]; exact F.ns
  have hx' := kind_of hs hx
  refine wpAny_storeName_local hx' hn0 (fun h' hn hsb => ?_) (by rw [c.ekind]; rfl)
  have hs' : Heap.SameBut c.L s.heap h' := hL ▸ hsb
  have hdat : ∀ b o, s.heap.get? b = some o → b = c.L → ∃ es ep, o.data = .dict es ep := fun b o e q => by
    obtain ⟨o', es, ep, e1, e2, e3⟩ := hn0
    rw [q, ← hL, e1] at e
    cases e
    exact ⟨_, _, e2⟩
  refine k h' _ ⟨fun ⟨m, F⟩ => ⟨_, F.set (hL ▸ hn) hs'⟩, fun _ => ⟨_, hn⟩, ⟨fun b o e hc => (hs'.2 b fun q => ?_).trans e, fun b o v e hc => ⟨o, v, (hs'.2 b fun q => ?_).trans e, hc⟩⟩, fun b o e => hideAll_get _ ((hs'.2 b (fun q => c.view_not e (q ▸ c.hidL))).trans (c.view_sub e)) (c.view_not e), fun b ⟨o, e⟩ => ?_, .inl ⟨hx', _, hn, if_pos rfl⟩, fun z u q hv => ?_⟩
  · obtain ⟨_, _, e2⟩ := hdat b o e q
    rcases hc with ⟨_, _, q⟩ | ⟨_, _, q⟩ <;> (rw [e2] at q; cases q)
  · obtain ⟨_, _, e2⟩ := hdat b o e q
    rw [e2] at hc; cases hc
  · by_cases q : b = c.env.locals
    · obtain ⟨o, _, _, e, _⟩ := hn
      exact ⟨o, q ▸ e⟩
    · exact ⟨o, (hsb.2 b q).trans e⟩
  · rcases hv with ⟨hy, m1, hn1, e1⟩ | ⟨hy, cc, o, h1, h2, h3⟩
    · refine .inl ⟨hy, _, hn, ?_⟩
      rw [if_neg q, ← ns_same hn1 hn0]; exact e1
    · refine .inr ⟨hy, cc, o, h1, (hs'.2 cc fun q => ?_).trans h2, h3⟩
      obtain ⟨_, _, e2⟩ := hdat cc o h2 q
      rw [e2] at h3; cases h3
end
end Mine
end
section
open PySem.Calls PySem.Spec
namespace Mine
theorem VarIs.at {env : Env} {h h' : Heap} {x : Str} {v : Value} {C : Addr} {oC : Obj} (hL : env.locals ≠ C) (e : h.get? C = some oC) (hd : ∀ v, oC.data ≠ .cell v) (k : ∀ b, b ≠ C → h'.get? b = h.get? b) : VarIs env h x v → VarIs env h' x v
  | .inl ⟨hx, m, ⟨o, es, ep, h1, h2⟩, hm⟩ => .inl ⟨hx, m, ⟨o, es, ep, (k _ hL).trans h1, h2⟩, hm⟩
  | .inr ⟨hx, cc, o, h1, h2, h3⟩ => .inr ⟨hx, cc, o, h1, (k cc fun q => by rw [q, e] at h2; cases h2; exact hd _ h3).trans h2, h3⟩
theorem Upd.pre {c : Cx} {h h1 h3 : Heap} {x : Str} {v : Value} (k : Kp h1 h) (U : Upd c h h3 x v) : Upd c h1 h3 x v :=
  ⟨fun ⟨m, F⟩ => U.fr ⟨m, F.keeps k⟩, fun ⟨m, N⟩ => U.ns ⟨m, N.keeps k⟩, ⟨fun b o e hc => U.ke.1 b o (k b o e) hc, fun b o v e hc => U.ke.2 b o v (k b o e) hc⟩, fun b o e => U.kv b o (c.view_mono k b o e), fun b ⟨o, e⟩ => U.live b ⟨o, k b o e⟩, U.self, fun z u q hv => U.oth z u q (hv.mono k)⟩
theorem Upd.post {c : Cx} {h1 h3 h4 : Heap} {x : Str} {v : Value} {C : Addr} {oC : Obj} (U : Upd c h1 h3 x v) (hC : ∀ o, h1.get? C = some o → False) (hCh : C ∉ c.hid) (hg : c.g.get? C = none) (e : h3.get? C = some oC) (hd : ∀ v, oC.data ≠ .cell v)
    (k : ∀ b, b ≠ C → h4.get? b = h3.get? b) : Upd c h1 h4 x v := by
  have hLC : c.L ≠ C := fun q => hCh (q ▸ c.hidL)
  have hEC : c.env.locals ≠ C := fun q => hCh (q ▸ c.hidE)
  have off : ∀ b o, h1.get? b = some o → b ≠ C := fun b o e q => hC o (q ▸ e)
  refine ⟨fun x => ?_, fun x => ?_, ⟨fun b o e hc => (k b (off b o e)).trans (U.ke.1 b o e hc), fun b o v e hc => ?_⟩, fun b o e => ?_, fun b ⟨o, e⟩ => ?_, U.self.at hEC e hd k, fun z u q hv => (U.oth z u q hv).at hEC e hd k⟩
  · obtain ⟨m, ⟨o, es, ep, a1, a2⟩, a3, a4⟩ := U.fr x
    exact ⟨m, ⟨o, es, ep, (k _ hLC).trans a1, a2⟩, fun b o e => (k b (fun q => by rw [q, hg] at e; cases e)).trans (a3 b o e), a4⟩
  · obtain ⟨m, ⟨o, es, ep, a1, a2⟩⟩ := U.ns x
    exact ⟨m, ⟨o, es, ep, (k _ hEC).trans a1, a2⟩⟩
  · obtain ⟨o', v', e', hd'⟩ := U.ke.2 b o v e hc
    exact ⟨o', v', (k b (off b o e)).trans e', hd'⟩
  · have e1 := U.kv b o e
    exact hideAll_get _ ((k b (off b o (c.view_sub e))).trans (c.view_sub e1)) (c.view_not e1)
  · obtain ⟨o', e'⟩ := U.live b ⟨o, e⟩
    exact ⟨o', (k b (off b o e)).trans e'⟩
/-- some other object may change -/
theorem St.off {c : Cx} {σ : Lo} {h h' : Heap} {it : Addr} {oi : Obj} (e : h.get? it = some oi) (hn : ¬ ((∃ vs n, oi.data = .seq vs n) ∨ (oi.cls = .type "range" ∧ ∃ fs, oi.data = .fields fs))) (hc : ∀ v, oi.data ≠ .cell v) (hg : c.g.get? it = none) (hh : it ∉ c.hid)
    (k : ∀ b o, b ≠ it → h.get? b = some o → h'.get? b = some o) (S : St c σ h) : St c σ h' := by
  have kd : Kd (c.view h) (c.view h') := fun b o e1 hcl => hideAll_get _ (k b o (fun q => by
    have := c.view_sub e1
    rw [q, e] at this; cases this
    exact hn hcl) (c.view_sub e1)) (c.view_not e1)
  have kn : ∀ a m, a ∈ c.hid → h.Ns a m → h'.Ns a m := fun a m ha hn => by
    obtain ⟨o, es, ep, h1, h2, h3, h4⟩ := hn
    exact ⟨o, es, ep, k a o (fun q => hh (q ▸ ha)) h1, h2, h3, h4⟩
  refine ⟨?_, ?_, fun b hb => ?_, fun x d el => ?_, c.invk _ _ ⟨fun b o e1 hcl => k b o (fun q => by rw [q, e] at e1; cases e1; exact hn hcl) e1, fun b o v e1 hcl => ⟨o, v, k b o (fun q => by rw [q, e] at e1; cases e1; exact hc _ hcl) e1, hcl⟩⟩ S.inv⟩
  · obtain ⟨m, F⟩ := S.fr
    exact ⟨m, kn _ _ c.hidL F.ns, fun b o eb => k b o (fun q => by rw [q, hg] at eb; cases eb) (F.keep b o eb), F.above⟩
  · obtain ⟨m, N⟩ := S.ns
    exact ⟨m, kn _ _ c.hidE N⟩
  · obtain ⟨o, eo⟩ := S.live b hb
    exact ⟨o, k b o (fun q => hh (q ▸ hb)) eo⟩
  · obtain ⟨v, hv, r⟩ := S.var x d el
    refine ⟨v, ?_, r.monoD kd⟩
    rcases hv with ⟨hx, m, hn, hm⟩ | ⟨hx, cc, o, h1, h2, h3⟩
    · exact .inl ⟨hx, m, kn _ _ c.hidE hn, hm⟩
    · exact .inr ⟨hx, cc, o, h1, k cc o (fun q => by rw [q, e] at h2; cases h2; exact hc _ h3) h2, h3⟩
section
variable {c : Cx} {σ σf : Lo} {Q : D → Prop} {N : Lo → Prop} {R : D → Prop} {pos spos : Pos} {elt iter : PySem.Expr} {x y : Str} {px py : Pos} {scope scL : Scope} {cl : List (Str × Addr)}
theorem comp_use {s : Shared} {E : Ex} {K : Flow → Shared → Prop} (hsw : swapsWith (.ListComp elt [⟨.Name x px, iter, [], 0⟩] scope pos) (some (.Name y py)) spos.line c.env = pure true)
    (hs : c.env.scope = scL) (hclos : closureFor scope c.env = pure cl) (hcell : (scope.names.all fun y => y.2 != .cell) = true) (hkind : scope.kind = .function)
    (hnames : (scope.names.all fun y => (y.2 != .local) || decide (scope.names.lookup y.1 = some .local)) = true) (hx : scope.names.lookup x = some .local) (hf : ∀ v, foldedSetIterable iter c.env v = pure v)
    (hfree : ∀ y d, σf.lookup y = some d → σ.lookup y = some d ∧ (relS scope scL).names.lookup y = some .cell ∧ scL.names.lookup y = some .cell ∧ cl.lookup y = c.env.cells.lookup y)
    (S : St c σ s.heap) (hy : Sto c y) {Fin : List Mine.D → Prop}
    (h : EE c σ iter (fun d => ∃ ds, Iters d ds ∧ ds.length ≤ 1000 ∧ CompL (CT c scope scL x σf elt) ds [] Fin))
    (k : ∀ (D : Addr) (h1 h4 : Heap) (tk : Nat) (vs : List Value) (rs : List Mine.D), Kp s.heap h1 → St c σ h1 → (∀ o, h1.get? D = some o → False) → D ∉ c.hid → c.g.get? D = none → Upd c h1 h4 y (.ref D) →
      PlainL h4 D vs.toArray → RepL (hideAll h4 (D :: c.hid)) vs rs → Fin rs → K .next { s with heap := h4, toks := tk }) :
    wpAny (MD c.w) c.A (exec (.Assign [.Name y py] (.ListComp elt [⟨.Name x px, iter, [], 0⟩] scope pos) spos) c.env) K E s := by
  rw [exec_Assign_Name_used _ _ _ _ hsw]
  refine wpAny_bind (wpAny_standAt (wpAny_bind ?_))
  show wpAny _ _ (do let _ ← comprehension (.ListComp elt [⟨.Name x px, iter, [], 0⟩] scope pos) scope c.env _ (newList []) false (eval iter c.env) (some (assign (.Name y py) c.env))) _ _ s
  refine wpAny_bind (wpAny_mono (wpAny_comprehension_free (use := some (assign (.Name y py) c.env)) (Q := fun _ s' => K .next s') rfl hf hclos hkind (names_ok hnames) (seqV h S fun v h1 t1 d k1 S1 r1 q1 => ?_)) (fun _ s' hq => wpAny_pure (wpAny_pure hq)) fun _ _ e => e)
  obtain ⟨ds, hi, hsz, hT⟩ := q1
  refine src_of S1 r1 hi { s with heap := h1, toks := t1 } E _ rfl fun I h2 fp P Z W => ?_
  refine comp_core (RR := fun acc C => compPost (MD c.w) c.A E (some (assign (.Name y py) c.env)) (fun _ s' => K .next s') acc C) hs (nocell_ok hcell) hkind hx S1 W hsz hfree hT fun D C h tk vs rs m hD hC hCD kp hl rl hn q => ?_
  have hDh : D ∉ c.hid := fun hm => by
    obtain ⟨o, e⟩ := S1.live D hm
    exact not_of_ge (W.keep _ _ e) hD rfl
  have hCh : C ∉ c.hid := fun hm => by
    obtain ⟨o, e⟩ := S1.live C hm
    exact not_of_ge (W.keep _ _ e) hC rfl
  show wpAny _ _ (assign (.Name y py) c.env (.ref D)) _ _ _
  refine PyProof.Rows.assign_Name (hy _ E (.ref D) _ ((S1.mono kp).sub .nil) fun h3 t3 U => ?_)
  dsimp only at U ⊢
  obtain ⟨oC, es, ep, c1, c2, c3, c4⟩ := hn
  have c5 : h3.get? C = some oC := c.view_sub (U.kv _ _ (hideAll_get _ c1 hCh))
  refine ⟨m, ⟨oC, es, ep, c5, c2, c3, c4⟩, fun h4 hs4 => ?_⟩
  have gone : ∀ a, h2.objs.size ≤ a → (∀ o, h1.get? a = some o → False) ∧ c.g.get? a = none := fun a ha => by
    have z : ∀ o, h1.get? a = some o → False := fun o e => not_of_ge (W.keep _ _ e) ha rfl
    refine ⟨z, ?_⟩
    obtain ⟨_, F⟩ := S1.fr
    cases q : c.g.get? a with
    | none => rfl
    | some o => exact (z o (F.keep a o q)).elim
  have U4 : Upd c h1 h4 y (.ref D) := (U.pre kp).post (gone C hC).1 hCh (gone C hC).2 c5 (fun v q => by rw [c2] at q; cases q) hs4.2
  obtain ⟨oD, nD, d1, dr⟩ := hl
  have d3 : h3.get? D = some oD := c.view_sub (U.kv _ _ (hideAll_get _ d1 hDh))
  refine k D h1 h4 t3 vs rs k1 S1 (gone D hD).1 hDh (gone D hD).2 U4 ⟨oD, nD, (hs4.2 D (Ne.symm hCD)).trans d3, dr⟩ (rl.mono fun b o e => ?_) q
  have hb : b ∉ C :: D :: I :: c.hid := fun hm => by rw [hideAll_none _ hm] at e; cases e
  refine hideAll_get _ ((hs4.2 b (off3 hb).1).trans (c.view_sub (U.kv _ _ (hideAll_get _ (of_hideAll _ e) (off3 hb).2.2.2)))) fun hm => ?_
  rcases List.mem_cons.mp hm with q | hm
  · exact (off3 hb).2.1 q
  · exact (off3 hb).2.2.2 hm
theorem S_setcomp (hy : Sto c y) (hsw : swapsWith (.ListComp elt [⟨.Name x px, iter, [], 0⟩] scope pos) (some (.Name y py)) spos.line c.env = pure true)
    (hs : c.env.scope = scL) (hclos : closureFor scope c.env = pure cl) (hcell : (scope.names.all fun y => y.2 != .cell) = true) (hkind : scope.kind = .function)
    (hnames : (scope.names.all fun y => (y.2 != .local) || decide (scope.names.lookup y.1 = some .local)) = true) (hx : scope.names.lookup x = some .local) (hf : ∀ v, foldedSetIterable iter c.env v = pure v)
    (hfree : ∀ y d, σf.lookup y = some d → σ.lookup y = some d ∧ (relS scope scL).names.lookup y = some .cell ∧ scL.names.lookup y = some .cell ∧ cl.lookup y = c.env.cells.lookup y)
    (h : EE c σ iter (fun d => ∃ ds, Iters d ds ∧ ds.length ≤ 1000 ∧ CompL (CT c scope scL x σf elt) ds [] (fun rs => N ((y, .list rs) :: σ)))) :
    S1 c σ (.Assign [.Name y py] (.ListComp elt [⟨.Name x px, iter, [], 0⟩] scope pos) spos) N R := fun s E S =>
  comp_use hsw hs hclos hcell hkind hnames hx hf hfree S hy h fun D h1 h4 tk vs rs k1 S1 z1 z2 z3 U hl rl q => by
    obtain ⟨o, e, r⟩ := hl.isList
    refine ⟨h4, tk, rfl, fun b o e => U.kv b o (c.view_mono k1 b o e), _, S1.upd U (.list ⟨o, hideAll_get _ e z2, r⟩ (rl.mono fun b o e => ?_)), q⟩
    have hb : b ∉ D :: c.hid := fun hm => by rw [hideAll_none _ hm] at e; cases e
    exact hideAll_get _ (of_hideAll _ e) fun hm => hb (.tail _ hm)
end
end Mine
end
section
open PySem.Calls PySem.Spec
namespace Mine
/-- a list of its own, that grows -/
def Cx.own (c : Cx) (ρ : Addr) (hk : ∀ o, (KF c.w).lookup ρ = some o → False) (xs : List D) : Cx :=
  { c with
    hid := ρ :: c.hid
    hidL := .tail _ c.hidL
    hidE := .tail _ c.hidE
    kvis := fun b hb o e => by
      rcases List.mem_cons.mp hb with rfl | hb
      · exact hk o e
      · exact c.kvis b hb o e
    inv := fun h => ∃ vs, PlainL h ρ (List.toArray vs) ∧ RepL (hideAll h (ρ :: c.hid)) vs xs
    invk := fun h h' k ⟨vs, ⟨o, n, e, r1, r2, r3⟩, rl⟩ => ⟨vs, ⟨o, n, k.1 _ _ e (.inl ⟨_, _, r3⟩), r1, r2, r3⟩, rl.monoD fun b o e hc => by
      have hb : b ∉ ρ :: c.hid := fun hm => by rw [hideAll_none _ hm] at e; cases e
      exact hideAll_get _ (k.1 b o (of_hideAll _ e) hc) hb⟩ }
def Bas (c : Cx) (h : Heap) : Prop := (∃ m, Fr c.g c.L h m) ∧ (∃ m, h.Ns c.env.locals m) ∧ ∀ b ∈ c.hid, ∃ o, h.get? b = some o
/-- on to a return -/
def SW (c : Cx) (σ : Lo) (ss : List Stmt) (R : D → Prop) : Prop := ∀ (s : Shared) (E : Ex), St c σ s.heap →
  wpAny (MD c.w) c.A (execs ss c.env) (fun fl s' => ∃ h' tk v d, s' = { s with heap := h', toks := tk } ∧ fl = .ret v ∧ Kp (c.view s.heap) (c.view h') ∧ Bas c h' ∧ Rep (c.view h') v d ∧ R d) E s
theorem plain_ns {h : Heap} {a b : Addr} {its : Array Value} {m : Vp} (x : PlainL h a its) (y : h.Ns b m) : a ≠ b := fun q => by
  obtain ⟨o, n, e, _, _, d⟩ := x
  obtain ⟨o', es, ep, e', d', _⟩ := y
  rw [q, e'] at e; cases e
  rw [d'] at d; cases d
theorem St.append {c : Cx} {ρ : Addr} {hk : ∀ o, (KF c.w).lookup ρ = some o → False} {xs : List D} {σ : Lo} {h h' : Heap} {vs : List Value} {v : Value} {r : D} (hg : c.g.get? ρ = none) (S : St (c.own ρ hk xs) σ h) (hs : Heap.SameBut ρ h h')
    (hl0 : PlainL h ρ vs.toArray) (hl : PlainL h' ρ (vs ++ [v]).toArray) (rl : RepL (hideAll h (ρ :: c.hid)) vs xs) (rv : Rep (hideAll h (ρ :: c.hid)) v r) : St (c.own ρ hk (xs ++ [r])) σ h' := by
  have km : Kp (hideAll h (ρ :: c.hid)) (hideAll h' (ρ :: c.hid)) := hide_mono fun b o hb e => (hs.2 b fun q => hb (q ▸ .head _)).trans e
  refine ⟨?_, ?_, fun b hb => ?_, fun x d e => ?_, vs ++ [v], hl, RepL.append (rl.mono km) (.cons (rv.mono km) .nil)⟩
  · obtain ⟨m, F⟩ := S.fr
    exact ⟨m, F.change hs (plain_ns hl0 F.ns) hg⟩
  · obtain ⟨m, N⟩ := S.ns
    exact ⟨m, N.sameBut hs (Ne.symm (plain_ns hl0 N))⟩
  · by_cases q : b = ρ
    · obtain ⟨o, _, e, _⟩ := hl
      exact ⟨o, q ▸ e⟩
    · obtain ⟨o, e⟩ := S.live b hb
      exact ⟨o, (hs.2 b q).trans e⟩
  · obtain ⟨u, hv, ru⟩ := S.var x d e
    refine ⟨u, ?_, ru.mono km⟩
    obtain ⟨o, n, e, _, _, hd⟩ := hl0
    obtain ⟨m, N⟩ := S.ns
    exact VarIs.at (Ne.symm (plain_ns ⟨o, n, e, by assumption, by assumption, hd⟩ N)) e (fun v q => by rw [hd] at q; cases q) hs.2 hv
section
variable {c : Cx} {σ σf : Lo} {Q : D → Prop} {N : Lo → Prop} {R : D → Prop} {pos spos : Pos} {elt iter : PySem.Expr} {x y : Str} {px py : Pos} {scope scL : Scope} {cl : List (Str × Addr)}
theorem SW_ret {e : PySem.Expr} {rest : List Stmt} (h : EE c σ e R) : SW c σ (.Return (some e) pos :: rest) R := fun s E S =>
  wpAny_execs_cons (wpAny_Return_some (seqV h S fun v h1 t1 d k1 S1 r q => ⟨h1, t1, v, d, rfl, rfl, c.view_mono k1, ⟨S1.fr, S1.ns, S1.live⟩, r, q⟩))
def OwnL (c : Cx) (ρ : Addr) (hk : ∀ o, (KF c.w).lookup ρ = some o → False) (σ : Lo) (x y : Str) (e : PySem.Expr) (rest : List Stmt) (R : D → Prop) : List D → List D → Prop
  | [], xs => SW (c.own ρ hk xs) σ rest R
  | d :: ds, xs => ∃ a b, d = .tup [a, b] ∧ EE (c.own ρ hk xs) ((y, b) :: (x, a) :: σ) e (fun r => xs.length ≤ 1000 ∧ OwnL c ρ hk σ x y e rest R ds (xs ++ [r]))

/-- the append -/
theorem S_append {ρ : Addr} {hk : ∀ o, (KF c.w).lookup ρ = some o → False} {xs : List D} {r : Str} {rp ap : Pos} {e : PySem.Expr} {rest : List Stmt} {K : Flow → Shared → Prop} {s : Shared} {E : Ex} (hg : c.g.get? ρ = none)
    (hi : interactive c.env = false) (hbase : attributeBase (.Name r rp) "append" c.env (eval (.Name r rp) c.env) = eval (.Name r rp) c.env)
    (hfew : ((backTo pos (starEach [e] c.env)).all (fun x => !x.1) && (backToKw pos (keywordEach [] c.env)).all (fun x => x.1.isSome) && decide (([e] : List PySem.Expr).length + ([] : List Keyword).length + (if ([] : List Keyword).isEmpty then 0 else 1) < 30)) = true)
    (hline : (ap.endLine == pos.line) = true) (htrees : backTo pos (starEach [e] c.env) = [(false, eval e c.env)])
    (hr : σ.lookup r = some (.raw (.ref ρ))) (hrd : (r == ("__debug__" : Str)) = false) {G : D → Prop} (he : EE (c.own ρ hk xs) σ e (fun d => xs.length ≤ 1000 ∧ G d)) (S : St (c.own ρ hk xs) σ s.heap)
    (k : ∀ d h' tk, Kp (hideAll s.heap (ρ :: c.hid)) (hideAll h' (ρ :: c.hid)) → St (c.own ρ hk (xs ++ [d])) σ h' → G d → wpAny (MD c.w) c.A (execs rest c.env) K E { s with heap := h', toks := tk }) :
    wpAny (MD c.w) c.A (execs (.Expr (.Call (.Attribute (.Name r rp) "append" ap) [e] [] pos) spos :: rest) c.env) K E s := by
  refine wpAny_execs_cons (wpAny_Expr_any (wpAny_Call_append hbase hfew hline htrees (seqV (c := c.own ρ hk xs) (Q := fun d => d = .raw (.ref ρ)) (EE_loc hr hrd rfl) S fun v1 h1 t1 d1 k1 S1 r1 q1 => ?_)) hi (by rfl))
  subst q1
  cases r1
  obtain ⟨vs, hl, rl⟩ := S1.inv
  refine ⟨ρ, _, rfl, hl, ?_⟩
  refine seqV (c := c.own ρ hk xs) he S1 fun v2 h2 t2 d2 k2 S2 r2 q2 => ?_
  have hl2 : PlainL h2 ρ vs.toArray := hl.keeps k2
  have rl2 : RepL (hideAll h2 (ρ :: c.hid)) vs xs := rl.mono (hide_mono fun b o _ e => k2 b o e)
  refine list_append_plainL hl2 (fun h3 hl3 hs3 => ?_) (by rw [List.size_toArray, rl2.length]; exact Nat.le_trans q2.1 (by decide))
  rw [List.push_toArray] at hl3
  have S3 := St.append hg S2 hs3 hl2 hl3 rl2 r2
  exact k d2 h3 t2 (fun b o e => hide_mono (fun b o hb e => (hs3.2 b fun q => hb (q ▸ .head _)).trans (k2 b o (k1 b o e))) b o e) S3 q2.2
/-- a loop over pairs that appends -/
theorem SW_for {ρ : Addr} {hk : ∀ o, (KF c.w).lookup ρ = some o → False} {xs : List D} {r : Str} {rp ap p1 p2 tp fp : Pos} {k0 : Nat} {e : PySem.Expr} {rest : List Stmt} (hg : c.g.get? ρ = none) (hs : c.env.scope = scL) (hL : c.env.locals = c.L)
    (hx : scL.names.lookup x = some .local) (hy : scL.names.lookup y = some .local) (hσ : σ.lookup x = none ∧ σ.lookup y = none) (hf : ∀ v, foldedSetIterable iter c.env v = pure v)
    (hi : interactive c.env = false) (hbase : attributeBase (.Name r rp) "append" c.env (eval (.Name r rp) c.env) = eval (.Name r rp) c.env)
    (hfew : ((backTo pos (starEach [e] c.env)).all (fun x => !x.1) && (backToKw pos (keywordEach [] c.env)).all (fun x => x.1.isSome) && decide (([e] : List PySem.Expr).length + ([] : List Keyword).length + (if ([] : List Keyword).isEmpty then 0 else 1) < 30)) = true)
    (hline : (ap.endLine == pos.line) = true) (htrees : backTo pos (starEach [e] c.env) = [(false, eval e c.env)])
    (hr : ∀ a b : D, ((y, b) :: (x, a) :: σ).lookup r = some (.raw (.ref ρ))) (hrd : (r == ("__debug__" : Str)) = false)
    (h : EE (c.own ρ hk xs) σ iter (fun d => ∃ ds, d = .list ds ∧ OwnL c ρ hk σ x y e rest R ds xs)) :
    SW (c.own ρ hk xs) σ (.For (.Tuple [.Name x p1, .Name y p2] k0 tp) iter [.Expr (.Call (.Attribute (.Name r rp) "append" ap) [e] [] pos) spos] [] fp :: rest) R := fun s E S => by
  refine wpAny_execs_cons (wpAny_For (seqV (c := c.own ρ hk xs) h S fun v h1 t1 d k1 S1 rr q => ?_) hf)
  obtain ⟨ds, rfl, q⟩ := q
  obtain ⟨a, vs, rfl, hl, rl⟩ := rep_list rr
  have hl1 := view_list hl
  refine wpAny_pyIter_list hl1 ?_
  generalize hit : h1.objs.size = it
  generalize hH : h1.push { cls := .type "list_iterator", data := .fields #[.ref a, .int 0 0] } = H
  have kH : Kp h1 H := hH ▸ kp_push
  have itH : H.IsListIter it a 0 := ⟨_, by rw [← hH, ← hit]; exact Heap.get?_push_size _ rfl, rfl, rfl⟩
  have itg : c.g.get? it = none := S1.out (Nat.le_of_eq hit)
  have ith : it ∉ ρ :: c.hid := S1.new (Nat.le_of_eq hit)
  have itn : h1.get? it = none := by
    cases q : h1.get? it with
    | none => rfl
    | some o => exact absurd (Heap.lt_size q) (by rw [hit]; exact Nat.lt_irrefl _)
  let V (h : Heap) : Heap := hideAll h (ρ :: c.hid)
  have vsub : ∀ {h : Heap} {b : Addr} {o : Obj}, (V h).get? b = some o → h.get? b = some o := fun e => of_hideAll _ e
  have vget : ∀ {h : Heap} {b : Addr} {o : Obj}, h.get? b = some o → b ∉ ρ :: c.hid → (V h).get? b = some o := fun e hb => hideAll_get _ e hb
  have vnot : ∀ {h : Heap} {b : Addr} {o : Obj}, (V h).get? b = some o → b ∉ ρ :: c.hid := fun {h b o} e hm => by rw [show V h = hideAll h (ρ :: c.hid) from rfl, hideAll_none _ hm] at e; cases e
  refine codeAny_forLoop_any (fun n s' => ∃ (i : Nat) (h2 : Heap) (t2 : Nat) (ys : List D), n = ds.length - i ∧ i ≤ ds.length ∧ s' = { s with heap := h2, toks := t2 } ∧ Kp (V h1) (V h2) ∧ St (c.own ρ hk ys) σ h2 ∧ h2.IsListIter it a i ∧ OwnL c ρ hk σ x y e rest R (ds.drop i) ys)
    ?_ ds.length ⟨0, H, t1, xs, rfl, Nat.zero_le _, rfl, (c.own ρ hk xs).view_mono kH, S1.mono kH, itH, q⟩
  rintro n s' ⟨i, h2, t2, ys, rfl, hi', rfl, kv, S2, it2, F2⟩
  have hla : a ∉ ρ :: c.hid := by obtain ⟨o, e, _⟩ := hl; exact vnot e
  have l2 : h2.IsList a vs.toArray := by
    obtain ⟨o, e, r⟩ := hl
    exact ⟨o, vsub (kv _ _ e), r⟩
  have r2 : RepL (V h2) vs ds := rl.mono kv
  have hlen : vs.length = ds.length := rl.length
  obtain ⟨oi, ho, hoc, hod⟩ := id it2
  have turn3 : ∀ h3 : Heap, (∀ b o, b ≠ it → h2.get? b = some o → h3.get? b = some o) → St (c.own ρ hk ys) σ h3 ∧ Kd (V h2) (V h3) ∧ Kp (V h1) (V h3) := fun h3 he => by
    refine ⟨St.but ho hoc hod itg ith he S2, fun b o e1 hcl => vget (he b o (fun q => ?_) (vsub e1)) (vnot e1), fun b o e1 => vget (he b o (fun q => ?_) (vsub (kv b o e1))) (vnot e1)⟩
    · have := vsub e1
      rw [q, ho] at this; cases this
      exact iter_not hoc hod hcl
    · have := vsub e1
      rw [q, itn] at this; cases this
  by_cases hlt : i < ds.length
  · have hv : vs.toArray[i]? = some (vs[i]'(by omega)) := by simp [hlen, hlt]
    refine wpAny_pyNext_list_item it2 l2 hv fun h3 it3 hs3 => ?_
    obtain ⟨S3, kd3, kv3⟩ := turn3 h3 (fun b o hb e => (hs3.2 b hb).trans e)
    obtain ⟨d, hd⟩ : ∃ d, ds[i]? = some d := ⟨ds[i], by simp [hlt]⟩
    obtain ⟨v, hvv, rv⟩ := r2.get hd
    have hv' : vs[i]'(by omega) = v := by
      have : vs[i]? = some (vs[i]'(by omega)) := by simp [hlen, hlt]
      rw [this] at hvv; exact Option.some.inj hvv
    have hdrop : ds.drop i = d :: ds.drop (i + 1) := by
      have : ds[i] = d := by have := hd; simp [hlt] at this; exact this
      rw [← this]; exact List.drop_eq_getElem_cons hlt
    rw [hdrop] at F2
    dsimp only
    rw [hv']
    obtain ⟨da, db, rfl, F2⟩ := F2
    obtain ⟨t, tv, rfl, ht, rt⟩ := rep_tup (rv.monoD kd3)
    have ht3 : IsTup h3 t tv.toArray := by
      obtain ⟨o, e, r⟩ := ht
      exact ⟨o, vsub e, r⟩
    refine wpAny_letOwnedTupleGo_listiter it3 ?_
    refine assign_Tuple_tuple c.hand ht3 ?_ rfl fun h4 he4 => ?_
    · show 2 = tv.toArray.size
      rw [List.size_toArray, rt.length]; rfl
    have k4 : Kp h3 h4 := extBut_kp he4
    have kv4 : Kp (V h3) (V h4) := fun b o e => vget (k4 b o (vsub e)) (vnot e)
    refine stores_go (c := c.own ρ hk ys) hL [.Name x p1, .Name y p2] [x, y] tv.toArray.toList [da, db] rfl (fun z hz => ?_) (S3.mono k4) (rt.mono kv4) rfl fun h5 t5 S5 k5 => ?_
    · simp only [List.mem_cons, List.not_mem_nil, or_false] at hz
      rcases hz with rfl | rfl
      · exact kind_of hs hx
      · exact kind_of hs hy
    have it5 : h5.IsListIter it a (i + 1) := by
      obtain ⟨o3, e3, r3⟩ := it3
      exact ⟨o3, vsub (k5 it o3 (vget (k4 _ _ e3) ith)), r3⟩
    refine S_append (c := c) (σ := (y, db) :: (x, da) :: σ) (xs := ys) hg hi hbase hfew hline htrees (hr da db) hrd F2 S5 fun d' h6 t6 k6 S6 q6 => ?_
    refine wpAny_execs_nil ?_
    refine ⟨ds.length - (i + 1), by omega, i + 1, h6, t6, ys ++ [d'], rfl, by omega, rfl, fun b o e => k6 b o (k5 b o (kv4 b o (kv3 b o e))), S6.sub (fun z dz e => ?_), ?_, q6⟩
    · rw [List.lookup_cons, List.lookup_cons]
      have h1 : (z == y) = false := beq_eq_false_iff_ne.mpr fun q => by rw [q, hσ.2] at e; cases e
      have h2 : (z == x) = false := beq_eq_false_iff_ne.mpr fun q => by rw [q, hσ.1] at e; cases e
      simp only [h1, h2]
      exact e
    · obtain ⟨o3, e3, r3⟩ := it5
      exact ⟨o3, vsub (k6 it o3 (vget e3 ith)), r3⟩
  · have hi2 : i = ds.length := by omega
    refine wpAny_pyNext_list_end c.hand it2 l2 (by simp [hlen, hi2]) fun h3 he3 => ?_
    obtain ⟨S3, kd3, kv3⟩ := turn3 h3 (fun b o hb e => he3 b o hb e)
    have : ds.drop i = [] := by rw [hi2]; simp
    rw [this] at F2
    refine wpAny_execs_nil ?_
    refine wpAny_mono (F2 { s with heap := h3, toks := t2 } E S3) (fun fl s' o => ?_) fun _ _ x => x
    obtain ⟨h', tk, v, d, rfl, rfl, k, B, rd, q⟩ := o
    exact ⟨h', tk, v, d, rfl, rfl, fun b o e => k b o (kv3 b o ((c.own ρ hk xs).view_mono k1 b o e)), B, rd, q⟩

theorem own_go {s : Shared} {E : Ex} {D : Addr} {h1 h4 : Heap} {tk : Nat} {vs : List Value} {rs : List Mine.D} {rest : List Stmt} (htriv : ∀ h, c.inv h) (k1 : Kp s.heap h1) (S1 : St c σ h1) (z1 : ∀ o, h1.get? D = some o → False) (z3 : c.g.get? D = none)
    (U : Upd c h1 h4 y (.ref D)) (hl : PlainL h4 D vs.toArray) (rl : RepL (hideAll h4 (D :: c.hid)) vs rs)
    (q : ∀ ρ hk, c.g.get? ρ = none → SW (c.own ρ hk rs) ((y, .raw (.ref ρ)) :: σ) rest R) : wpAny (MD c.w) c.A (execs rest c.env) (fun fl s' => Fo c s fl s' N R) E { s with heap := h4, toks := tk } := by
  have hk : ∀ o, (KF c.w).lookup D = some o → False := fun o e => z1 o (S1.kin _ _ e)
  have kv : Kp (c.view h1) (hideAll h4 (D :: c.hid)) := fun b o e => by
    have e4 := U.kv b o e
    refine hideAll_get _ (c.view_sub e4) fun hm => ?_
    rcases List.mem_cons.mp hm with q | hm
    · exact z1 o (q ▸ c.view_sub e)
    · exact c.view_not e hm
  have S4 : St (c.own D hk rs) ((y, .raw (.ref D)) :: σ) h4 := by
    refine ⟨U.fr S1.fr, U.ns S1.ns, fun b hb => ?_, fun z dz e => ?_, vs, hl, rl⟩
    · rcases List.mem_cons.mp hb with rfl | hb
      · obtain ⟨o, _, e, _⟩ := hl; exact ⟨o, e⟩
      · exact U.live b (S1.live b hb)
    · rw [List.lookup_cons] at e
      by_cases q : z = y
      · subst q
        simp only [beq_self_eq_true] at e
        cases e
        exact ⟨_, U.self, .raw _⟩
      · have : (z == y) = false := beq_eq_false_iff_ne.mpr q
        simp only [this] at e
        obtain ⟨u, hv, ru⟩ := S1.var z dz e
        exact ⟨u, U.oth z u q hv, ru.mono kv⟩
  refine wpAny_mono (q D hk z3 { s with heap := h4, toks := tk } E S4) (fun fl s' o => ?_) fun _ _ x => x
  obtain ⟨h', tk', v, d, rfl, rfl, k, B, rd, q⟩ := o
  have vc : Kp (hideAll h' (D :: c.hid)) (c.view h') := view_cons
  exact ⟨h', tk', rfl, fun b o e => vc _ _ (k b o (kv b o (c.view_mono k1 b o e))), ⟨[], B.1, B.2.1, fun b hb => B.2.2 b (.tail _ hb), fun _ _ e => (by cases e), htriv _⟩, d, rd.mono vc, q⟩
theorem SS_ownComp {rest : List Stmt} (htriv : ∀ h, c.inv h) (hy : Sto c y) (hsw : swapsWith (.ListComp elt [⟨.Name x px, iter, [], 0⟩] scope pos) (some (.Name y py)) spos.line c.env = pure true)
    (hs : c.env.scope = scL) (hclos : closureFor scope c.env = pure cl) (hcell : (scope.names.all fun y => y.2 != .cell) = true) (hkind : scope.kind = .function)
    (hnames : (scope.names.all fun y => (y.2 != .local) || decide (scope.names.lookup y.1 = some .local)) = true) (hx : scope.names.lookup x = some .local) (hf : ∀ v, foldedSetIterable iter c.env v = pure v)
    (hfree : ∀ y d, σf.lookup y = some d → σ.lookup y = some d ∧ (relS scope scL).names.lookup y = some .cell ∧ scL.names.lookup y = some .cell ∧ cl.lookup y = c.env.cells.lookup y)
    (h : EE c σ iter (fun d => ∃ ds, Iters d ds ∧ ds.length ≤ 1000 ∧ CompL (CT c scope scL x σf elt) ds [] (fun rs => ∀ ρ hk, c.g.get? ρ = none → SW (c.own ρ hk rs) ((y, .raw (.ref ρ)) :: σ) rest R))) :
    SS c σ (.Assign [.Name y py] (.ListComp elt [⟨.Name x px, iter, [], 0⟩] scope pos) spos :: rest) N R := fun s E S =>
  wpAny_execs_cons (comp_use (K := fun fl s' => _) hsw hs hclos hcell hkind hnames hx hf hfree S hy h fun D h1 h4 tk vs rs k1 S1 z1 z2 z3 U hl rl q => own_go htriv k1 S1 z1 z3 U hl rl q)
theorem SS_ownList {rest : List Stmt} {ln : Str} {np : Pos} {e : PySem.Expr} (htriv : ∀ h, c.inv h) (hsto : Sto c y) (hsw : swapsWith (.Call (.Name ln np) [e] [] pos) (some (.Name y py)) spos.line c.env = pure false)
    (hs : c.env.scope = scL) (hx : scL.names.lookup ln = some .globalImplicit)
    (he : ∀ w, nsIn (KF w) mainGlobals ln = some none) (hv : bootBuiltins ln = some (.type "list")) (hn : ln ≠ "__name__") (hd : (ln == ("__debug__" : Str)) = false) (hne : (!([e] : List PySem.Expr).isEmpty && noStars [e]) = true)
    (hc : eval (.Call (.Name ln np) [e] [] pos) c.env = (do let y ← eval (.Name ln np) c.env; callWith pos y [] (backTo pos (starEach [e] c.env)) (backToKw pos (keywordEach [] c.env))))
    (h : EE c σ e (fun d => ∃ ds, d = .list ds ∧ ds.length ≤ 1000 ∧ ∀ ρ hk, c.g.get? ρ = none → SW (c.own ρ hk ds) ((y, .raw (.ref ρ)) :: σ) rest R)) :
    SS c σ (.Assign [.Name y py] (.Call (.Name ln np) [e] [] pos) spos :: rest) N R := fun s E S => by
  refine wpAny_execs_cons (wpAny_Assign_Name (Call_ (seqV (Q := fun d => d = .raw (.type "list")) (EE_bi hs hx he hv hn hd rfl) S fun v1 h1 t1 d1 k1 S1 r1 q1 => ?_) hc) hsw)
  subst q1
  cases r1
  have hst := starEach_cons (env := c.env) (e := e) (r := []) hne
  refine PyProof.Rows.callWith_type1 (seqL (Q := fun ds' => ∃ ds, ds' = [.list ds] ∧ ds.length ≤ 1000 ∧ ∀ ρ hk, c.g.get? ρ = none → SW (c.own ρ hk ds) ((y, .raw (.ref ρ)) :: σ) rest R) hne ?_ S1 fun ws h2 t2 ds' k2 S2 r2 q2 => ?_) hst (anyStar (noStars_tail hne))
  · intro s E S
    refine wpAny_mono (h s E S) (fun v s' o => ?_) fun _ _ x => x
    obtain ⟨h', tk, d, e1, k, rr, ds, rfl, q⟩ := o
    exact ⟨h', tk, _, e1, k, rr, ds, rfl, q⟩
  obtain ⟨ds, rfl, hsz, q⟩ := q2
  obtain ⟨v, rfl, rv⟩ := repL1 r2
  obtain ⟨a, vs, rfl, hl, rl⟩ := rep_list rv
  obtain ⟨o, ho, hcls, n, hdat⟩ := view_list hl
  refine call_list_seq a (.inl rfl) ho hcls hdat (fun h' c' k' hnew => ?_) (by rw [List.size_toArray, rl.length]; exact Nat.le_trans hsz (by decide))
  have z2 : h2.objs.size ∉ c.hid := S2.new (Nat.le_refl _)
  refine hsto { s with heap := h', toks := t2 } E _ _ ((S2.mono k').sub .nil) fun h4 t4 U => ?_
  have U' := U.pre (h1 := h2) k'
  have z1 : ∀ o, h2.get? h2.objs.size = some o → False := fun o e => Nat.lt_irrefl _ (Heap.lt_size e)
  have kv : Kp (c.view h2) (hideAll h4 (h2.objs.size :: c.hid)) := fun b o e => by
    have e4 := U'.kv b o e
    refine hideAll_get _ (c.view_sub e4) fun hm => ?_
    rcases List.mem_cons.mp hm with q | hm
    · exact z1 o (q ▸ c.view_sub e)
    · exact c.view_not e hm
  exact own_go (h1 := h2) htriv (fun b o e => k2 b o (k1 b o e)) S2 z1 (S2.out (Nat.le_refl _)) U' ⟨_, _, c.view_sub (U.kv _ _ (hideAll_get _ hnew z2)), rfl, rfl, rfl⟩ (rl.mono kv) q
end
end Mine
end
section
open PySem.Calls PySem.Spec
namespace Mine
/-- the list of its own, known -/
def OwnIs (c : Cx) (ρ : Addr) (xs : List D) : Prop := ∀ h, c.inv h → ∃ vs, PlainL h ρ (List.toArray vs) ∧ RepL (c.view h) vs xs
theorem own_is {c : Cx} {ρ : Addr} {hk : ∀ o, (KF c.w).lookup ρ = some o → False} {xs : List D} : OwnIs (c.own ρ hk xs) ρ xs := fun h x => x
section
variable {c : Cx} {σ : Lo} {Q : D → Prop} {B : Bool → Prop} {pos : Pos} {ρ : Addr} {xs : List D}
theorem Cal_lenO (hi : OwnIs c ρ xs) (hl : (xs.length : Int) < 2 ^ 63) (q : Q (.int xs.length)) : Cal c σ (.builtin "len") [.raw (.ref ρ)] Q := fun s E vs S r => by
  obtain ⟨v1, rfl, r1⟩ := repL1 r
  cases r1
  obtain ⟨vs, pl, rl⟩ := hi _ S.inv
  have e : ((vs.toArray.size : Nat) : Int) = (xs.length : Nat) := by rw [List.size_toArray, rl.length]
  refine call_len_list pl.isList (by rw [e]; exact hl) ?_
  rw [e]
  exact Out.tok (.int _ _) q
theorem Gop_own (hi : OwnIs c ρ xs) {i : Int} {d : D} (h1 : 0 ≤ i) (h2 : i < 2 ^ 63) (hd : xs[i.toNat]? = some d) {slice : PySem.Expr} (hs : ∀ a i t, subscripted slice false (.ref a) (.int i t) = operate [.ref a, .int i t] (getItem (.ref a) (.int i t))) (q : Q d) : Gop c σ slice (.raw (.ref ρ)) (.int i) Q := fun s E v1 v2 value S r1 r2 => by
  cases r1; cases r2
  obtain ⟨vs, pl, rl⟩ := hi _ S.inv
  obtain ⟨v, hv, rv⟩ := rl.get hd
  exact tail_any pl.isList.typeIs slot_list_getitem.lookup (wpAny_getItem_list pl.isList h1 h2 (by simpa using hv) (Out.now rv q)) (hs _ _ _)
end
/-- from a call to the body -/
theorem FnOK_intro2 {f : Addr} {n : Nat} {args dd : List D} {Q : D → Prop} {name qual : Str} {params : Arguments} {body : List Stmt} {scope : Scope} {dV kV doc pm cdv ct oc : Value} {an od : Option Addr} {osl : Array (Option Value)} (xs : List Str) {σ0 : Lo}
    (ho : ∀ w, (KF w).lookup f = some ⟨oc, od, .func (fnOf name qual params body scope dV kV doc pm an cdv ct), osl⟩) (hcd : ∀ w, codeIn (KF w) cdv qual = true)
    (hbind : ∀ (s : Shared) (vs : List Value) (w : World), (KF w).In s.heap → vs.length = args.length → ∃ dv : List Value, BindsTo s (fnOf name qual params body scope dV kV doc pm an cdv ct) ⟨vs, []⟩ (xs.zip (vs ++ dv)) ∧ ∀ h, RepL h dv dd)
    (hnd : xs.Nodup) (hloc : (xs.all fun x => decide (scope.names.lookup x = some .local)) = true) (hσ : xs.zip (args ++ dd) = σ0)
    (hco : scope.isCoroutine = false) (hgen : scope.isGenerator = false) (hk : scope.kind = .function) (hcell : (scope.names.all fun x => x.2 != .cell) = true)
    (h : ∀ c : Cx, n ≤ c.rk → c.env.scope = scope → c.env.locals = c.L → (∀ h, c.inv h) → SS c σ0 body (fun _ => Q .none) Q) : FnOK f (n + 1) args Q := by
  intro c σ hrk s E vs S rl
  obtain ⟨m, F⟩ := S.fr
  obtain ⟨dv, hb, hdv⟩ := hbind s vs c.w S.kin rl.length
  have hc := c.depth
  have hu := c.units
  have B1 := pushX c.below F c.frame c.fkind
  have hcell' : ∀ x ∈ scope.names, x.2 ≠ .cell := fun x hx => by simpa using List.all_eq_true.mp hcell x hx
  refine wpAny_call (codeAny_call_def (by omega) (S.kin _ _ (ho c.w)) rfl (c.top.nolimit.keeps F.keep) (codeRec_of S.kin (hcd c.w)) rfl hb hcell'
    (fun x hx => of_decide_eq_true (List.all_eq_true.mp hloc _ (List.of_mem_zip hx).1)) (fun h₁ hns hk₁ => ?_) hco hgen hk)
  let c' : Cx := {
    w := c.w
    A := c.A.deeper (envX qual scope s.heap.objs.size f cdv [])
    env := envX qual scope s.heap.objs.size f cdv []
    hid := s.heap.objs.size :: c.hid
    g := s.heap
    L := s.heap.objs.size
    rk := c.rk - 1
    p := c.p
    loose := c.loose
    mean := c.mean
    mg := c.mg
    mb := c.mb
    A₀ := c.A
    base := c.base
    outer := c.fenv :: c.outer
    fenv := envX qual scope s.heap.objs.size f cdv []
    below := ⟨c.frames, B1.stays, B1.frames⟩
    frames := (by show Option.map _ c.A.frames = _; rw [c.frames]; rfl)
    frame := rfl
    fkind := hk
    kin := S.kin
    top := c.top.keeps F.keep
    hand := c.hand
    depth := (by show c.A.depth + 1 + (c.rk - 1) < _; omega)
    units := (by show c.A.units + 3 + 10 * (c.rk - 1) + 200 < _; omega)
    ekind := hk
    eglob := rfl
    ebuilt := rfl
    hidL := .head _
    hidE := .head _
    kvis := (by
      intro b hb o e
      rcases List.mem_cons.mp hb with rfl | hb
      · exact absurd (Heap.lt_size (S.kin _ _ e)) (Nat.lt_irrefl _)
      · exact c.kvis b hb o e)
    inv := fun _ => True
    invk := fun _ _ _ x => x }
  have F1 : Fr s.heap s.heap.objs.size h₁ (fun x => (xs.zip (vs ++ dv)).reverse.lookup x) := ⟨hns, hk₁, Nat.le_refl _⟩
  have kv : Kp (c.view s.heap) (c'.view h₁) := fun b o e => hideAll_get _ (hk₁ _ _ (c.view_sub e)) fun hm => by
    rcases List.mem_cons.mp hm with rfl | hm
    · exact absurd (Heap.lt_size (c.view_sub e)) (Nat.lt_irrefl _)
    · exact c.view_not e hm
  have S0 : St c' σ0 h₁ := ⟨⟨_, F1⟩, ⟨_, hns⟩, fun b hb => by
      rcases List.mem_cons.mp hb with rfl | hb
      · obtain ⟨o, _, _, e, _⟩ := hns; exact ⟨o, e⟩
      · obtain ⟨o, e⟩ := S.live b hb; exact ⟨o, hk₁ _ _ e⟩, fun x d e => by
      subst hσ
      obtain ⟨v, ev, rv⟩ := zip_rev hnd (RepL.append (rl.mono kv) (hdv (c'.view h₁))) e
      refine ⟨v, .inl ⟨?_, _, hns, ev⟩, rv⟩
      have hx : x ∈ xs := by
        have : (xs.zip (args ++ dd)).lookup x ≠ none := by rw [e]; exact fun q => nomatch q
        rw [Ne, List.lookup_eq_none_iff] at this
        apply Classical.byContradiction
        intro hx
        exact this fun p hp => bne_iff_ne.mpr fun (q : x = p.1) => hx (by rw [q]; exact (List.of_mem_zip hp).1)
      exact of_decide_eq_true (List.all_eq_true.mp hloc x hx), True.intro⟩
  refine wpAny_mono (h c' (by show n ≤ c.rk - 1; omega) rfl rfl (fun _ => True.intro) { s with heap := h₁, toks := s.toks + (xs.zip (vs ++ dv)).length } _ S0) (fun fl s' o => ?_) fun _ _ x => x
  obtain ⟨h', tk, rfl, k, x⟩ := o
  cases fl with
  | next =>
    obtain ⟨σ', S', q⟩ := x
    obtain ⟨m', F'⟩ := S'.fr
    exact ⟨h', tk, .none, rfl, F'.keep, .none, q⟩
  | ret v =>
    obtain ⟨⟨σ', S'⟩, d, rv, q⟩ := x
    obtain ⟨m', F'⟩ := S'.fr
    exact ⟨h', tk, d, rfl, F'.keep, rv.mono view_cons, q⟩
  | brk => exact x.elim
  | cont => exact x.elim
end Mine
end
section
open PySem.Calls PySem.Spec
namespace Mine
section
variable {c : Cx} {σ : Lo} {Q : D → Prop} {B : Bool → Prop} {N : Lo → Prop} {R : D → Prop} {pos : Pos}
theorem Bop_addT {as bs : List D} (ha : as ≠ []) (hb : bs ≠ []) (hsz : as.length + bs.length ≤ 1000) (q : Q (.tup (as ++ bs))) : Bop c σ .Add (.tup as) (.tup bs) Q := fun s E v1 v2 S r1 r2 => by
  obtain ⟨t, vs, rfl, ht, rv⟩ := rep_tup r1
  obtain ⟨b, ws, rfl, hw, rw'⟩ := rep_tup r2
  obtain ⟨⟨cls, dd, data, sl⟩, ho, hc, n, hd⟩ := view_tup ht
  obtain ⟨⟨cls2, dd2, data2, sl2⟩, ho2, hc2, n2, hd2⟩ := view_tup hw
  simp only at hc hd hc2 hd2
  subst hc hd hc2 hd2
  have e : vs.toArray ++ ws.toArray = (vs ++ ws).toArray := by simp
  have l1 := rv.length
  have l2 := rw'.length
  have n1 : vs ≠ [] := fun q => by subst q; cases rv; exact ha rfl
  have n2' : ws ≠ [] := fun q => by subst q; cases rw'; exact hb rfl
  refine concat_meets ⟨_, ho, rfl⟩ ⟨_, ho2, rfl⟩ noFill_tuple_add seq_tuple_add PySem.F.slot_tuple_add PySem.F.entry_tuple_add (PySem.F.args_tuple_add_2 _ _)
    (tuple_addW2 t b vs.toArray ws.toArray n n2 dd dd2 sl sl2 (by simpa using n1) (by simpa using n2') (by rw [List.size_toArray, List.size_toArray, l1, l2]; exact Nat.le_trans hsz (by decide))) ⟨ho, ho2, ?_⟩
  rw [e]
  exact ⟨_, s.toks, .tup (as ++ bs), rfl, kp_push, .tup ⟨_, hideAll_get _ (Heap.get?_push_size _ rfl) (S.new (Nat.le_refl _)), rfl, _, rfl⟩ ((rv.append rw').mono (c.view_mono kp_push)), q⟩
theorem S_unpackL {sc : Scope} {es : List PySem.Expr} {xs : List Str} {k : Nat} {tp : Pos} {e : PySem.Expr} (hs : c.env.scope = sc) (hL : c.env.locals = c.L) (hn : names? es = some xs) (hx : (xs.all fun x => decide (sc.names.lookup x = some .local)) = true)
    (hsw : swapsWithSole [.Tuple es k tp] e pos.line c.env = pure false) (hss : swappedStores [.Tuple es k tp] e c.env = pure none) (h : EE c σ e (fun d => ∃ ds, d = .list ds ∧ es.length = ds.length ∧ N (pushL xs ds σ))) : S1 c σ (.Assign [.Tuple es k tp] e pos) N R := fun s E S =>
  Assign_Tuple (seqV h S fun v h1 t1 d k1 S1 r q => by
    obtain ⟨ds, rfl, hl, q⟩ := q
    obtain ⟨a, vs, rfl, ht, rl⟩ := rep_list r
    have ht' := view_list ht
    rw [assign_Tuple]
    refine wpAny_bind (wpAny_standAt ?_)
    unfold unpack
    have e1 : (assignEach es c.env).length = vs.toArray.size := by rw [(names_len hn _).1, List.size_toArray, rl.length]; exact hl
    rw [e1, (names_len hn c.env).2]
    refine wpAny_bind (wpAny_holding (kun_itemsOf c.hand ht' fun h2 he => ?_))
    have k2 := extBut_kp he
    exact stores_go hL es xs vs.toArray.toList ds hn (fun x hm => kind_of hs (of_decide_eq_true (List.all_eq_true.mp hx x hm))) (S1.mono k2) (rl.mono (c.view_mono k2)) hl fun h3 t3 S3 k3 => ⟨h3, t3, rfl, fun b o e => k3 b o (c.view_mono k2 b o (c.view_mono k1 b o e)), _, S3, q⟩) hsw hss
theorem EE_and3 {a b d : PySem.Expr} (h : EE c σ a (fun x => Tru c σ x (fun y => (y = false → Q x) ∧ (y = true → EE c σ (.BoolOp .And [b, d] pos) Q)))) : EE c σ (.BoolOp .And [a, b, d] pos) Q := fun s E S =>
  BoolOp_and (seqV h S fun v1 h1 t1 d1 k1 S1 r1 q1 => wpAny_mono (q1 _ E v1 S1 r1) (fun x s' o => by
    obtain ⟨h2, t2, rfl, k2, q2⟩ := o
    cases x with
    | false => exact ⟨h2, t2, d1, rfl, fun b o e => k2 b o (k1 b o e), r1.mono (c.view_mono k2), q2.1 rfl⟩
    | true => exact fin (c := c) (t1 := t2) (fun b o e => k2 b o (k1 b o e)) (q2.2 rfl _ E (S1.mono k2))) fun _ _ x => x)
theorem CompL_nil {T : D → (D → Prop) → Prop} {acc : List D} {Q : List D → Prop} (h : Q acc) : CompL T [] acc Q := h
theorem CompL_cons {T : D → (D → Prop) → Prop} {d : D} {ds acc : List D} {Q : List D → Prop} (h : T d (fun r => CompL T ds (acc ++ [r]) Q)) : CompL T (d :: ds) acc Q := h
end
end Mine
end
section
open PySem.Calls PySem.Spec
namespace Mine
section
variable {c : Cx} {σ σf : Lo} {Q : D → Prop} {N : Lo → Prop} {R : D → Prop} {pos spos : Pos} {elt iter : PySem.Expr} {x y : Str} {px py : Pos} {scope scL : Scope} {cl : List (Str × Addr)}
theorem sto_cell {sc : Scope} {a : Addr} (hs : c.env.scope = sc) (hx : sc.names.lookup x = some .cell) (hc : c.env.cells.lookup x = some a) (hh : a ∈ c.hid) (hg : c.g.get? a = none)
    (hap : ∀ z b, z ≠ x → c.env.cells.lookup z = some b → b ≠ a) (hi : ∀ h, c.inv h → ∃ o v, h.get? a = some o ∧ o.data = .cell v) : Sto c x := fun s E v P S k => by
  obtain ⟨o, v0, ho, hd⟩ := hi _ S.inv
  have hx' := kind_of hs hx
  refine wpAny_storeName_cell c.ekind hx' hc ⟨o, ho, hd⟩ fun h' hv hsb => ?_
  obtain ⟨o', ho', hd'⟩ := hv
  have hns : ∀ (b : Addr) (m : Vp), s.heap.Ns b m → b ≠ a := fun b m hn q => by
    obtain ⟨o1, es, ep, e1, e2, _⟩ := hn
    rw [q, ho] at e1; cases e1
    rw [hd] at e2; cases e2
  refine k h' _ ⟨fun ⟨m, F⟩ => ⟨m, F.change hsb (Ne.symm (hns _ _ F.ns)) hg⟩, fun ⟨m, N⟩ => ⟨m, N.sameBut hsb (hns _ _ N)⟩, ⟨fun b o1 e hcl => (hsb.2 b fun q => ?_).trans e, fun b o1 v1 e hcl => ?_⟩, fun b o1 e => hideAll_get _ ((hsb.2 b (fun q => c.view_not e (q ▸ hh))).trans (c.view_sub e)) (c.view_not e), fun b ⟨o1, e⟩ => ?_, .inr ⟨.inl hx', a, o', hc, ho', hd'⟩, fun z u q hv => ?_⟩
  · rw [q, ho] at e; cases e
    rcases hcl with ⟨_, _, q⟩ | ⟨_, _, q⟩ <;> (rw [hd] at q; cases q)
  · by_cases q : b = a
    · exact ⟨o', _, q ▸ ho', hd'⟩
    · exact ⟨o1, v1, (hsb.2 b q).trans e, hcl⟩
  · by_cases q : b = a
    · exact ⟨o', q ▸ ho'⟩
    · exact ⟨o1, (hsb.2 b q).trans e⟩
  · rcases hv with ⟨hy, m1, hn1, e1⟩ | ⟨hy, cc, o1, h1, h2, h3⟩
    · exact .inl ⟨hy, m1, hn1.sameBut hsb (hns _ _ hn1), e1⟩
    · exact .inr ⟨hy, cc, o1, h1, (hsb.2 cc (hap z cc q h1)).trans h2, h3⟩
theorem S_setG {e : PySem.Expr} {p' : Pos} (hy : Sto c x) (hsw : swapsWith e (some (.Name x p')) pos.line c.env = pure false) (h : EE c σ e (fun d => N ((x, d) :: σ))) : S1 c σ (.Assign [.Name x p'] e pos) N R := fun s E S =>
  wpAny_Assign_Name (seqV h S fun v h1 t1 d k1 S1 r q => hy { s with heap := h1, toks := t1 } E v _ (S1.sub .nil) fun h2 t2 U => ⟨h2, t2, rfl, fun b o e => U.kv b o (c.view_mono k1 b o e), _, S1.upd U (r.mono U.kv), q⟩) hsw
end
theorem Cal_all {c : Cx} {σ : Lo} {Q : D → Prop} {ds : List D} (h : ∀ d ∈ ds, d = .bool true) (q : Q (.bool true)) : Cal c σ (.builtin "all") [.list ds] Q := fun s E ws S r => by
  obtain ⟨v1, rfl, r1⟩ := repL1 r
  obtain ⟨a, vs, rfl, hl, rl⟩ := rep_list r1
  have hl' := view_list hl
  have hlt : a < s.heap.objs.size := by obtain ⟨o, e, _⟩ := hl'; exact Heap.lt_size e
  have tv : ∀ (i : Nat) (v : Value), vs.toArray[i]? = some v → v = .bool true := fun i v e => by
    have e' : vs[i]? = some v := by simpa using e
    have hi : i < ds.length := by rw [← rl.length]; exact (List.getElem?_eq_some_iff.mp e').1
    obtain ⟨d, hd⟩ : ∃ d, ds[i]? = some d := ⟨ds[i], by simp [hi]⟩
    obtain ⟨v', e2, r'⟩ := rl.get hd
    rw [e'] at e2; cases e2
    have := h d (List.mem_of_getElem? hd)
    subst this
    cases r'; rfl
  refine call_all_walk (wpAny_pyIter_list hl' ?_)
  refine ⟨_, _, _, _, _, _, fun _ => true, rfl, Walks.list (prog := PR) (w := c.w) (A := c.A.in1) c.hand s.heap.objs.size a (Nat.ne_of_lt hlt) vs.toArray, ⟨⟨_, Heap.get?_push_size _ rfl, rfl, rfl⟩, islist_mono kp_push hl'⟩, fun i v s' Q' E' hP hQ => ?_, fun h' tk hk => ?_⟩
  · have := tv i v hP
    subst this
    exact wpAny_truthy_bool hQ
  · have e1 : ((List.range vs.toArray.size).all fun _ => true) = true := by simp
    rw [e1]
    refine ⟨h', tk, .bool true, rfl, fun b o e => hk b o (fun hm => ?_) (Heap.get?_push_of_some _ e), .bool true, q⟩
    have := Heap.lt_size e
    rw [List.mem_singleton.mp hm] at this
    exact absurd this (Nat.lt_irrefl _)
end Mine
end
section
open PySem.Calls PySem.Spec
namespace Mine
local macro_rules | `(tactic| walk_at "DS") => `(tactic| first
  | with_reducible refine' SS_cons ?_
  | with_reducible refine' SS_nil ?_)
local macro_rules | `(tactic| walk_at "DT") => `(tactic| first
  | with_reducible refine' S_ret ?_
  | ((with_reducible refine' S_set ?hs ?hL ?hx ?hsw ?_); (case hs => assumption); (case hL => assumption); (case hx => rfl); (case hsw => rfl))
  | with_reducible refine' S_if ?_
  | ((with_reducible refine' S_aug ?hs ?hL ?hx ?hl ?_); (case hs => assumption); (case hL => assumption); (case hx => rfl); (case hl => rfl))
  | ((with_reducible refine' S_swapped ?hs ?hL ?hss ?hx ?hsw ?_); (case hs => assumption); (case hL => assumption); (case hss => (intro env h; cases env; cases h; rfl)); (case hx => decide); (case hsw => rfl))
  | ((with_reducible refine' S_unpack ?hs ?hL ?hn ?hx ?hsw ?hss ?_); (case hs => assumption); (case hL => assumption); (case hn => rfl); (case hx => decide); (case hsw => rfl); (case hss => rfl))
  | with_reducible refine' S_assert ?_
  | ((with_reducible refine' S_set2 ?hs ?hL ?hx ?ha ?hss ?_); (case hs => assumption); (case hL => assumption); (case hx => decide); (case ha => rfl); (case hss => rfl))
  | ((with_reducible refine' S_for ?hs ?hL ?hx ?hf ?_); (case hs => assumption); (case hL => assumption); (case hx => rfl); (case hf => exact fun _ => rfl)))
local macro_rules | `(tactic| walk_at "DE") => `(tactic| first
  | with_reducible refine' EE_int ?_
  | with_reducible refine' EE_str ?_
  | with_reducible refine' EE_boolc ?_
  | ((with_reducible refine' EE_loc ?hl ?hd ?_); (case hl => rfl); (case hd => rfl))
  | ((with_reducible refine' EE_gint ?hs ?hx ?he ?hd ?_); (case hs => assumption); (case hx => rfl); (case he => exact fun w => rfl); (case hd => rfl))
  | ((with_reducible refine' EE_gstr ?hs ?hx ?he ?hd ?_); (case hs => assumption); (case hx => rfl); (case he => exact fun w => rfl); (case hd => rfl))
  | ((with_reducible refine' EE_g4 ?hs ?hx ?he ?he2 ?hd ?_); (case hs => assumption); (case hx => rfl); (case he => exact fun w => rfl); (case he2 => exact fun w => rfl); (case hd => rfl))
  | ((with_reducible refine' EE_raw ?hs ?hx ?he ?hd ?_); (case hs => assumption); (case hx => rfl); (case he => exact fun w => rfl); (case hd => rfl))
  | with_reducible refine' EE_bin ?_
  | with_reducible refine' EE_un ?_
  | ((with_reducible refine' EE_cmp ?hb ?_); (case hb => rfl))
  | with_reducible refine' EE_ifexp ?_
  | with_reducible refine' EE_or ?_
  | with_reducible refine' EE_and ?_
  | ((with_reducible refine' EE_tail ?ht ?_); (case ht => exact fun _ _ => rfl))
  | with_reducible refine' EE_sub ?_
  | ((with_reducible refine' EE_call ?hs ?hx ?he ?hk ?hd ?hne ?hc ?_); (case hs => assumption); (case hx => rfl); (case he => exact fun w => rfl); (case hk => exact fun w => rfl); (case hd => rfl); (case hne => rfl); (case hc => rfl))
  | ((with_reducible refine' EE_tup ?hn ?_); (case hn => rfl))
  | ((with_reducible refine' EE_lst ?hn ?_); (case hn => rfl))
  | ((with_reducible refine' EE_bl ?hc ?_); (case hc => exact ⟨_, rfl⟩)))
local macro_rules | `(tactic| walk_at "DB") => `(tactic| first
  | ((with_reducible refine' EB_cmp ?hb ?_); (case hb => rfl))
  | ((with_reducible refine' EB_cmp2 ?hb ?_); (case hb => rfl))
  | with_reducible refine' EB_not ?_
  | with_reducible refine' all_and ?_
  | with_reducible refine' all_or ?_
  | ((with_reducible refine' EB_plain ?he ?_); (case he => rfl)))
local macro_rules | `(tactic| walk_at "DO") => `(tactic| first
  | with_reducible refine' Bop_add ?_
  | with_reducible refine' Bop_sub ?_
  | with_reducible refine' Bop_and ?_
  | ((with_reducible refine' Bop_mul ?hm ?_); (case hm => first | assumption | (refine' mulOk ?_; omega)))
  | ((with_reducible refine' Bop_pow ?h0 ?hs ?_); (case h0 => first | decide | omega); (case hs => decide))
  | ((with_reducible refine' Bop_shr ?h0 ?_); (case h0 => omega))
  | ((with_reducible refine' Bop_shl ?h0 ?hs ?_); (case h0 => omega); (case hs => omega))
  | ((with_reducible refine' Iop_shl ?h0 ?hs ?_); (case h0 => omega); (case hs => omega))
  | ((with_reducible refine' Iop_shr ?h0 ?_); (case h0 => omega))
  | ((with_reducible refine' Bop_xorT ?h0 ?_); (case h0 => assumption))
  | with_reducible refine' Bop_xor ?_
  | with_reducible refine' Iop_add ?_
  | with_reducible refine' Iop_sub ?_
  | ((with_reducible refine' Iop_xorT ?h0 ?_); (case h0 => assumption))
  | with_reducible refine' Iop_xor ?_
  | with_reducible refine' Uop_neg ?_
  | with_reducible refine' Uop_not ?_
  | with_reducible refine' Tru_int ?_
  | with_reducible refine' Tru_bool ?_
  | with_reducible refine' Cop_eq ?_
  | with_reducible refine' Cop_ne ?_
  | with_reducible refine' Cop_lt ?_
  | with_reducible refine' Cop_le ?_
  | with_reducible refine' Cop_gt ?_
  | with_reducible refine' Cop_ge ?_
  | with_reducible refine' Cop_eqs ?_
  | with_reducible refine' Cop_eq4 ?_
  | ((with_reducible refine' Gop_shifts _ ?hs ?_); (case hs => exact fun _ _ _ => rfl))
  | ((with_reducible refine' Gop_list ?h1 ?h2 ?hd ?hs ?_); (case h1 => decide); (case h2 => decide); (case hd => exact rfl); (case hs => exact fun _ _ _ => rfl))
  | ((with_reducible refine' Gop_tup ?h1 ?h2 ?hj ?hd ?hs ?_); (case h1 => decide); (case h2 => decide); (case hj => exact rfl); (case hd => exact rfl); (case hs => exact fun _ _ _ => rfl)))
local macro_rules | `(tactic| walk_at "DI") => `(tactic| ((refine' And.intro (fun hb => ?_) (fun hb => ?_)) <;> (try simp only [Bool.not_eq_true', Bool.not_eq_false', bne_iff_ne, beq_iff_eq, beq_eq_false_iff_ne, bne_eq_false_iff_eq, decide_eq_true_eq, decide_eq_false_iff_not, ne_eq, Bool.and_eq_true, Bool.or_eq_true, gt_iff_lt, ge_iff_le, Int.not_lt, Int.not_le, Bool.not_eq_eq_eq_not, Bool.not_true, Bool.not_false, Decidable.not_not, reduceCtorEq, if_true, if_false, Bool.false_eq_true, ↓reduceIte] at hb) <;> (first | done | (exfalso; omega) | (exfalso; revert hb; decide) | skip)))
local macro_rules | `(tactic| walk_at "D1") => `(tactic| first
  | ((with_reducible show SS _ _ _ _ _); walk_at "DS")
  | ((with_reducible show S1 _ _ _ _ _); walk_at "DT")
  | ((with_reducible show EE _ _ _ _); walk_at "DE")
  | ((with_reducible show EB _ _ _ _); walk_at "DB")
  | ((with_reducible show EL _ _ _ _); (first | with_reducible refine' EL_cons ?_ | with_reducible refine' EL_nil ?_))
  | ((with_reducible show ForL _ _ _ _ _ _ _); first | refine' ForL_cons ?_ | refine' ForL_nil ?_)
  | ((with_reducible show And _ _); walk_at "DI")
  | refine' And.intro (Eq.refl _) ?_
  | ((with_reducible refine' And.intro ?ka ?_); (case ka => (simp only [beq_iff_eq, decide_eq_true_eq, ge_iff_le]; first | done | assumption | omega)))
  | ((with_reducible refine' And.intro ?ka ?_); (case ka => first | assumption | exact Or.inl rfl | exact Or.inr rfl))
  | with_reducible refine' Exists.intro _ (And.intro rfl ?_)
  | walk_at "DO")
theorem trailing_ok (n : Int) (h : n ≠ 0) : FnOK 21 1 [.int n] (fun d => d = .int (tz n)) := by
  refine FnOK_intro ["n"] (σ0 := [("n", .int n)]) (fun w => rfl) (fun w => rfl) (fun s vs w X hl => ⟨[], ?_, fun h => .nil⟩) (by decide) (by decide) rfl rfl rfl rfl (by decide) (fun c hr hs hL => ?_)
  · match vs, hl with
    | [a], _ => exact BindsTo.of_eq rfl
  · repeat' (walk_at "D1")
    rfl
theorem tr_use {c : Cx} {M : Int} {Q : D → Prop} (h : 0 < M) (hr : 1 ≤ c.rk) (k : ∀ t, t = tz M → 0 ≤ t → Q (.int t)) : Fn c 21 [.int M] Q :=
  Fn.use (trailing_ok M (by omega)) hr fun d hd => by
    subst hd
    obtain ⟨o, t, _, _, e, _⟩ := tz_odd h
    exact k _ rfl (by omega)
theorem shift_pos {m b p : Int} (hm : 0 < m) (hb : b = ib m) (hp : 1 ≤ p) (h : 0 < b - p) : 0 < m.fdiv (2 ^ (b - p).toNat) ∧ 0 < -((-m).fdiv (2 ^ (b - p).toNat)) := by
  obtain ⟨nn, hnn⟩ : ∃ nn : Nat, b - p = nn := ⟨(b - p).toNat, by omega⟩
  obtain ⟨pp, hpp⟩ : ∃ pp : Nat, p = (pp + 1 : Nat) := ⟨(p - 1).toNat, by omega⟩
  obtain ⟨m1, m2⟩ := bits_between (nn := nn) (pp := pp) hm (by omega)
  have hn := pow_pos nn
  have hpw := pow_pos pp
  rw [hnn, Int.toNat_natCast, fdiv_pow, fdiv_pow]
  have f1 : 2 ^ pp ≤ m / 2 ^ nn := (Int.le_ediv_iff_mul_le hn).mpr (by rw [Int.mul_comm]; exact m2)
  have f4 : (-m) / 2 ^ nn < -(2 ^ pp) + 1 := (Int.ediv_lt_iff_lt_mul hn).mpr (by rw [Int.add_mul, Int.neg_mul, Int.mul_comm (2 ^ pp)]; omega)
  omega
theorem ex_mpf {P : Mpf → Prop} {s m e b : Int} (h : P ⟨s, m, e, b⟩) : ∃ y : Mpf, D.tup [.int s, .int m, .int e, .int b] = y.D ∧ P y := ⟨_, rfl, h⟩
theorem normalize1_ok (s m e b p : Int) (up : Bool) (h1 : s = 0 ∨ s = 1) (h2 : 0 ≤ m) (h3 : b = ib m) (h4 : m ≠ 0 → 1 ≤ p) : FnOK 37 2 [.int s, .int m, .int e, .int b, .int p, .str (rs up)] (fun d => ∃ y : Mpf, d = y.D ∧ NormPost p up s m e y) := by
  refine FnOK_intro ["sign", "man", "exp", "bc", "prec", "rnd"] (σ0 := [("sign", .int s), ("man", .int m), ("exp", .int e), ("bc", .int b), ("prec", .int p), ("rnd", .str (rs up))]) (fun w => rfl) (fun w => rfl) (fun s vs w X hl => ⟨[], ?_, fun h => .nil⟩) (by decide) (by decide) rfl rfl rfl rfl (by decide) (fun c hr hs hL => ?_)
  · match vs, hl with
    | [_, _, _, _, _, _], _ => exact BindsTo.of_eq rfl
  · by_cases hm : m = 0
    · subst hm
      repeat' (walk_at "D1")
      exact ⟨_, rfl, norm_zero⟩
    · have hp := h4 hm
      have hm' : 0 < m := by omega
      have h5 := shift_pos hm' h3 hp
      rcases h1 with rfl | rfl <;> cases up <;> repeat' (walk_at "D1")
      all_goals (try ((refine tr_use ?_ (by omega) (fun t ht ht0 => ?_)); (focus (first | omega | exact (h5 (by assumption)).1 | exact (h5 (by assumption)).2)); repeat' (walk_at "D1")))
      all_goals (with_reducible refine' ex_mpf ?_)
      all_goals (
        refine' norm_leaf ?ks hm' h3 hp ?k1 ?k2 ?k3 ?k4
        case ks => decide
        case k1 => first | exact .inl ⟨by omega, rfl, rfl, rfl⟩ | exact .inr ⟨by omega, rfl, rfl, .inl ⟨rfl, by decide⟩⟩ | exact .inr ⟨by omega, rfl, rfl, .inr ⟨rfl, by decide⟩⟩
        case k2 => first | exact .inl ⟨by assumption, rfl, rfl⟩ | exact .inr ⟨by assumption, by assumption, rfl⟩
        case k3 => first | exact .inl ⟨by assumption, rfl⟩ | exact .inr ⟨by assumption, by omega⟩
        case k4 => omega)
theorem normalize_ok (s m e b p : Int) (up : Bool) (h1 : s = 0 ∨ s = 1) (h2 : 0 ≤ m) (h3 : b = ib m) (h4 : m ≠ 0 → 1 ≤ p) : FnOK 44 3 [.int s, .int m, .int e, .int b, .int p, .str (rs up)] (fun d => ∃ y : Mpf, d = y.D ∧ NormPost p up s m e y) := by
  refine FnOK_intro ["sign", "man", "exp", "bc", "prec", "rnd"] (σ0 := [("sign", .int s), ("man", .int m), ("exp", .int e), ("bc", .int b), ("prec", .int p), ("rnd", .str (rs up))]) (fun w => rfl) (fun w => rfl) (fun s vs w X hl => ⟨[], ?_, fun h => .nil⟩) (by decide) (by decide) rfl rfl rfl rfl (by decide) (fun c hr hs hL => ?_)
  · match vs, hl with
    | [_, _, _, _, _, _], _ => exact BindsTo.of_eq rfl
  · repeat' (walk_at "D1")
    exact Fn.use (normalize1_ok s m e b p up h1 h2 h3 h4) hr fun d hd => hd
end Mine
end
section
open PySem.Calls PySem.Spec
namespace Mine
local macro_rules | `(tactic| walk_at "DS") => `(tactic| first
  | with_reducible refine' SS_cons ?_
  | with_reducible refine' SS_nil ?_)
local macro_rules | `(tactic| walk_at "DT") => `(tactic| first
  | with_reducible refine' S_ret ?_
  | ((with_reducible refine' S_set ?hs ?hL ?hx ?hsw ?_); (case hs => assumption); (case hL => assumption); (case hx => rfl); (case hsw => rfl))
  | with_reducible refine' S_if ?_
  | ((with_reducible refine' S_aug ?hs ?hL ?hx ?hl ?_); (case hs => assumption); (case hL => assumption); (case hx => rfl); (case hl => rfl))
  | ((with_reducible refine' S_swapped ?hs ?hL ?hss ?hx ?hsw ?_); (case hs => assumption); (case hL => assumption); (case hss => (intro env h; cases env; cases h; rfl)); (case hx => decide); (case hsw => rfl))
  | ((with_reducible refine' S_unpack ?hs ?hL ?hn ?hx ?hsw ?hss ?_); (case hs => assumption); (case hL => assumption); (case hn => rfl); (case hx => decide); (case hsw => rfl); (case hss => rfl))
  | with_reducible refine' S_assert ?_
  | ((with_reducible refine' S_set2 ?hs ?hL ?hx ?ha ?hss ?_); (case hs => assumption); (case hL => assumption); (case hx => decide); (case ha => rfl); (case hss => rfl))
  | ((with_reducible refine' S_for ?hs ?hL ?hx ?hf ?_); (case hs => assumption); (case hL => assumption); (case hx => rfl); (case hf => exact fun _ => rfl)))
local macro_rules | `(tactic| walk_at "DE") => `(tactic| first
  | with_reducible refine' EE_int ?_
  | with_reducible refine' EE_str ?_
  | with_reducible refine' EE_boolc ?_
  | ((with_reducible refine' EE_loc ?hl ?hd ?_); (case hl => rfl); (case hd => rfl))
  | ((with_reducible refine' EE_gint ?hs ?hx ?he ?hd ?_); (case hs => assumption); (case hx => rfl); (case he => exact fun w => rfl); (case hd => rfl))
  | ((with_reducible refine' EE_gstr ?hs ?hx ?he ?hd ?_); (case hs => assumption); (case hx => rfl); (case he => exact fun w => rfl); (case hd => rfl))
  | ((with_reducible refine' EE_g4 ?hs ?hx ?he ?he2 ?hd ?_); (case hs => assumption); (case hx => rfl); (case he => exact fun w => rfl); (case he2 => exact fun w => rfl); (case hd => rfl))
  | ((with_reducible refine' EE_raw ?hs ?hx ?he ?hd ?_); (case hs => assumption); (case hx => rfl); (case he => exact fun w => rfl); (case hd => rfl))
  | with_reducible refine' EE_bin ?_
  | with_reducible refine' EE_un ?_
  | ((with_reducible refine' EE_cmp ?hb ?_); (case hb => rfl))
  | with_reducible refine' EE_ifexp ?_
  | with_reducible refine' EE_or ?_
  | with_reducible refine' EE_and ?_
  | ((with_reducible refine' EE_tail ?ht ?_); (case ht => exact fun _ _ => rfl))
  | with_reducible refine' EE_sub ?_
  | ((with_reducible refine' EE_call ?hs ?hx ?he ?hk ?hd ?hne ?hc ?_); (case hs => assumption); (case hx => rfl); (case he => exact fun w => rfl); (case hk => exact fun w => rfl); (case hd => rfl); (case hne => rfl); (case hc => rfl))
  | ((with_reducible refine' EE_tup ?hn ?_); (case hn => rfl))
  | ((with_reducible refine' EE_lst ?hn ?_); (case hn => rfl))
  | ((with_reducible refine' EE_bl ?hc ?_); (case hc => exact ⟨_, rfl⟩)))
local macro_rules | `(tactic| walk_at "DB") => `(tactic| first
  | ((with_reducible refine' EB_cmp ?hb ?_); (case hb => rfl))
  | ((with_reducible refine' EB_cmp2 ?hb ?_); (case hb => rfl))
  | with_reducible refine' EB_not ?_
  | with_reducible refine' all_and ?_
  | with_reducible refine' all_or ?_
  | ((with_reducible refine' EB_plain ?he ?_); (case he => rfl)))
local macro_rules | `(tactic| walk_at "DO") => `(tactic| first
  | with_reducible refine' Bop_add ?_
  | with_reducible refine' Bop_sub ?_
  | with_reducible refine' Bop_and ?_
  | ((with_reducible refine' Bop_mul ?hm ?_); (case hm => first | assumption | (refine' mulOk ?_; omega)))
  | ((with_reducible refine' Bop_pow ?h0 ?hs ?_); (case h0 => first | decide | omega); (case hs => decide))
  | ((with_reducible refine' Bop_shr ?h0 ?_); (case h0 => omega))
  | ((with_reducible refine' Bop_shl ?h0 ?hs ?_); (case h0 => omega); (case hs => omega))
  | ((with_reducible refine' Iop_shl ?h0 ?hs ?_); (case h0 => omega); (case hs => omega))
  | ((with_reducible refine' Iop_shr ?h0 ?_); (case h0 => omega))
  | ((with_reducible refine' Bop_xorT ?h0 ?_); (case h0 => assumption))
  | with_reducible refine' Bop_xor ?_
  | with_reducible refine' Iop_add ?_
  | with_reducible refine' Iop_sub ?_
  | ((with_reducible refine' Iop_xorT ?h0 ?_); (case h0 => assumption))
  | with_reducible refine' Iop_xor ?_
  | with_reducible refine' Uop_neg ?_
  | with_reducible refine' Uop_not ?_
  | with_reducible refine' Tru_int ?_
  | with_reducible refine' Tru_bool ?_
  | with_reducible refine' Cop_eq ?_
  | with_reducible refine' Cop_ne ?_
  | with_reducible refine' Cop_lt ?_
  | with_reducible refine' Cop_le ?_
  | with_reducible refine' Cop_gt ?_
  | with_reducible refine' Cop_ge ?_
  | with_reducible refine' Cop_eqs ?_
  | with_reducible refine' Cop_eq4 ?_
  | ((with_reducible refine' Gop_shifts _ ?hs ?_); (case hs => exact fun _ _ _ => rfl))
  | ((with_reducible refine' Gop_list ?h1 ?h2 ?hd ?hs ?_); (case h1 => decide); (case h2 => decide); (case hd => exact rfl); (case hs => exact fun _ _ _ => rfl))
  | ((with_reducible refine' Gop_tup ?h1 ?h2 ?hj ?hd ?hs ?_); (case h1 => decide); (case h2 => decide); (case hj => exact rfl); (case hd => exact rfl); (case hs => exact fun _ _ _ => rfl)))
local macro_rules | `(tactic| walk_at "DI") => `(tactic| ((refine' And.intro (fun hb => ?_) (fun hb => ?_)) <;> (try simp only [Bool.not_eq_true', Bool.not_eq_false', bne_iff_ne, beq_iff_eq, beq_eq_false_iff_ne, bne_eq_false_iff_eq, decide_eq_true_eq, decide_eq_false_iff_not, ne_eq, Bool.and_eq_true, Bool.or_eq_true, gt_iff_lt, ge_iff_le, Int.not_lt, Int.not_le, Bool.not_eq_eq_eq_not, Bool.not_true, Bool.not_false, Decidable.not_not, reduceCtorEq, if_true, if_false, Bool.false_eq_true, ↓reduceIte] at hb) <;> (first | done | (exfalso; omega) | (exfalso; revert hb; decide) | skip)))
local macro_rules | `(tactic| walk_at "D1") => `(tactic| first
  | ((with_reducible show SS _ _ _ _ _); walk_at "DS")
  | ((with_reducible show S1 _ _ _ _ _); walk_at "DT")
  | ((with_reducible show EE _ _ _ _); walk_at "DE")
  | ((with_reducible show EB _ _ _ _); walk_at "DB")
  | ((with_reducible show EL _ _ _ _); (first | with_reducible refine' EL_cons ?_ | with_reducible refine' EL_nil ?_))
  | ((with_reducible show ForL _ _ _ _ _ _ _); first | refine' ForL_cons ?_ | refine' ForL_nil ?_)
  | ((with_reducible show And _ _); walk_at "DI")
  | refine' And.intro (Eq.refl _) ?_
  | ((with_reducible refine' And.intro ?ka ?_); (case ka => (simp only [beq_iff_eq, decide_eq_true_eq, ge_iff_le]; first | done | assumption | omega)))
  | ((with_reducible refine' And.intro ?ka ?_); (case ka => first | assumption | exact Or.inl rfl | exact Or.inr rfl))
  | with_reducible refine' Exists.intro _ (And.intro rfl ?_)
  | walk_at "DO")
theorem mpf_sign_ok (x : Mpf) (h : x.Ok) : FnOK 109 1 [x.D] (fun d => d = .int x.sign) := by
  obtain ⟨s, m, e, b⟩ := x
  obtain ⟨h1, h2, h3, h4, h5⟩ := h
  dsimp only at h1 h2 h3 h4 h5
  refine FnOK_intro ["s"] (σ0 := [("s", mD s m e b)]) (fun w => rfl) (fun w => rfl) (fun s vs w X hl => ⟨[], ?_, fun h => .nil⟩) (by decide) (by decide) rfl rfl rfl rfl (by decide) (fun c hr hs hL => ?_)
  · match vs, hl with
    | [_], _ => exact BindsTo.of_eq rfl
  · rcases h1 with rfl | rfl <;> repeat' (walk_at "D1")
    all_goals simp_all [Mpf.sign]

theorem res_pos {p : Int} {up : Bool} {x y : Mpf} {N : Int} (h : NormPost p up x.s x.m x.e y) (hx : x.Ok) (hp : 1 ≤ p) (hb : Bd N x) : Res p up x.val (2 * N) y := by
  have h1 := hx.bc
  have h2 := hb.b
  have h3 := hb.lo
  have h4 := hb.hi
  exact norm_res h (.inl ⟨rfl, hp⟩) rfl (by omega)
theorem res_same {x : Mpf} {up : Bool} {N : Int} (hx : x.Ok) (hb : Bd N x) (hN : 0 ≤ N) : Res 0 up x.val (2 * N) x :=
  ⟨hx, Rnd.exact (.inl rfl) rfl, ⟨by have := hb.b; omega, by have := hb.lo; omega, by have := hb.hi; omega⟩⟩

theorem mpf_pos_ok (x : Mpf) (h : x.Ok) (p N : Int) (up : Bool) (hp : 0 ≤ p) (hb : Bd N x) (hN : 0 ≤ N) : FnOK 94 4 [x.D, .int p, .str (rs up)] (fun d => ∃ y : Mpf, d = y.D ∧ Res p up x.val (2 * N) y) := by
  obtain ⟨s, m, e, b⟩ := x
  have hx := h
  obtain ⟨h1, h2, h3, h4, h5⟩ := h
  dsimp only at h1 h2 h3 h4 h5
  refine FnOK_intro ["s", "prec", "rnd"] (σ0 := [("s", mD s m e b), ("prec", .int p), ("rnd", .str (rs up))]) (fun w => rfl) (fun w => rfl) (fun s vs w X hl => ⟨[], ?_, fun h => .nil⟩) (by decide) (by decide) rfl rfl rfl rfl (by decide) (fun c hr hs hL => ?_)
  · match vs, hl with
    | [_, _, _], _ => exact binds_K X rfl rfl rfl rfl rfl
  · repeat' (walk_at "D1")
    all_goals first
      | (refine Fn.use (normalize_ok s m e b p up h1 h2 h3 (by omega)) (by omega) fun d hd => ?_
         obtain ⟨y, rfl, hy⟩ := hd
         exact ⟨y, rfl, res_pos hy hx (by omega) hb⟩)
      | (obtain rfl : p = 0 := by omega
         exact ⟨_, rfl, res_same hx hb hN⟩)

def Mpf.neg (x : Mpf) : Mpf := if x.m = 0 then x else ⟨1 - x.s, x.m, x.e, x.b⟩
theorem Mpf.neg_ok {x : Mpf} (h : x.Ok) : x.neg.Ok := by
  obtain ⟨s, m, e, b⟩ := x
  unfold Mpf.neg
  split
  · exact h
  · rename_i q
    obtain ⟨h1, h2, h3, h4, h5⟩ := h
    dsimp only at *
    exact ⟨by show 1 - s = 0 ∨ 1 - s = 1; omega, h2, h3, fun h => absurd h q, h5⟩
theorem Mpf.neg_val {x : Mpf} (h : x.Ok) : x.neg.val = -x.val := by
  obtain ⟨s, m, e, b⟩ := x
  unfold Mpf.neg Mpf.val
  split
  · rename_i q
    have q : m = 0 := q
    subst q
    show rv s 0 e = - rv s 0 e
    unfold rv sg
    simp [Rat.zero_mul]
  · show rv (1 - s) m e = - rv s m e
    unfold rv
    rw [sg_neg h.sg, neg_mul_p2]
theorem Mpf.neg_bd {x : Mpf} {N : Int} (h : Bd N x) : Bd N x.neg := by
  unfold Mpf.neg
  split
  · exact h
  · exact ⟨h.b, h.lo, h.hi⟩
theorem mpf_neg1_ok (x : Mpf) (h : x.Ok) : FnOK 102 4 [x.D] (fun d => d = x.neg.D) := by
  obtain ⟨s, m, e, b⟩ := x
  obtain ⟨h1, h2, h3, h4, h5⟩ := h
  dsimp only at h1 h2 h3 h4 h5
  refine FnOK_intro ["s", "prec", "rnd"] (σ0 := [("s", mD s m e b), ("prec", .int 0), ("rnd", .str "d")]) (dd := [.int 0, .str "d"]) (fun w => rfl) (fun w => rfl) (fun s vs w X hl => ⟨[  .int 0 349, .str "d" 210], ?_, fun h => .cons (.int _ _) (.cons (.str _ _) .nil)⟩) (by decide) (by decide) rfl rfl rfl rfl (by decide) (fun c hr hs hL => ?_)
  · match vs, hl with
    | [_], _ => exact binds_K X rfl rfl rfl rfl rfl
  · repeat' (walk_at "D1")
    all_goals simp_all [Mpf.neg]

theorem res_neg {p : Int} {up : Bool} {x y : Mpf} {N : Int} (h : NormPost p up (1 - x.s) x.m x.e y) (hx : x.Ok) (hp : 1 ≤ p) (hb : Bd N x) : Res p up (-x.val) (2 * N) y := by
  have h1 := hx.bc
  have h2 := hb.b
  have h3 := hb.lo
  have h4 := hb.hi
  refine norm_res h (.inl ⟨rfl, hp⟩) ?_ (by omega)
  unfold Mpf.val rv
  rw [sg_neg hx.sg, neg_mul_p2]
theorem mpf_neg_ok (x : Mpf) (h : x.Ok) (p N : Int) (up : Bool) (hp : 0 ≤ p) (hb : Bd N x) (hN : 0 ≤ N) : FnOK 102 4 [x.D, .int p, .str (rs up)] (fun d => ∃ y : Mpf, d = y.D ∧ Res p up (-x.val) (2 * N) y) := by
  obtain ⟨s, m, e, b⟩ := x
  have hx := h
  obtain ⟨h1, h2, h3, h4, h5⟩ := h
  dsimp only at h1 h2 h3 h4 h5
  refine FnOK_intro ["s", "prec", "rnd"] (σ0 := [("s", mD s m e b), ("prec", .int p), ("rnd", .str (rs up))]) (fun w => rfl) (fun w => rfl) (fun s vs w X hl => ⟨[], ?_, fun h => .nil⟩) (by decide) (by decide) rfl rfl rfl rfl (by decide) (fun c hr hs hL => ?_)
  · match vs, hl with
    | [_, _, _], _ => exact binds_K X rfl rfl rfl rfl rfl
  · repeat' (walk_at "D1")
    · obtain rfl : m = 0 := by omega
      obtain ⟨rfl, rfl⟩ := h4 rfl
      refine ⟨_, rfl, hx, Rnd.exact (.inr (pow_pos _)) ?_, ⟨?_, ?_, ?_⟩⟩
      · show rv 0 0 0 = - rv 0 0 0
        unfold rv sg
        simp [Rat.zero_mul]
      · have : b ≤ N := hb.b
        show b ≤ 2 * N; omega
      · show _ ≤ (0 : Int); omega
      · show (0 : Int) ≤ _; omega
    · obtain rfl : p = 0 := by omega
      refine ⟨(Mpf.mk s m e b).neg, ?_, Mpf.neg_ok hx, Rnd.exact (.inl rfl) (Mpf.neg_val hx), ?_⟩
      · simp_all [Mpf.neg]
      · have := Mpf.neg_bd hb; exact ⟨by have := this.b; omega, by have := this.lo; omega, by have := this.hi; omega⟩
    · refine Fn.use (normalize_ok (1 - s) m e b p up (by omega) h2 h3 (by omega)) (by omega) fun d hd => ?_
      obtain ⟨y, rfl, hy⟩ := hd
      exact ⟨y, rfl, res_neg hy hx (by omega) hb⟩
end Mine
end
section
open PySem.Calls PySem.Spec
namespace Mine
local macro_rules | `(tactic| walk_at "DS") => `(tactic| first
  | with_reducible refine' SS_cons ?_
  | with_reducible refine' SS_nil ?_)
local macro_rules | `(tactic| walk_at "DT") => `(tactic| first
  | with_reducible refine' S_ret ?_
  | ((with_reducible refine' S_set ?hs ?hL ?hx ?hsw ?_); (case hs => assumption); (case hL => assumption); (case hx => rfl); (case hsw => rfl))
  | with_reducible refine' S_if ?_
  | ((with_reducible refine' S_aug ?hs ?hL ?hx ?hl ?_); (case hs => assumption); (case hL => assumption); (case hx => rfl); (case hl => rfl))
  | ((with_reducible refine' S_swapped ?hs ?hL ?hss ?hx ?hsw ?_); (case hs => assumption); (case hL => assumption); (case hss => (intro env h; cases env; cases h; rfl)); (case hx => decide); (case hsw => rfl))
  | ((with_reducible refine' S_unpack ?hs ?hL ?hn ?hx ?hsw ?hss ?_); (case hs => assumption); (case hL => assumption); (case hn => rfl); (case hx => decide); (case hsw => rfl); (case hss => rfl))
  | with_reducible refine' S_assert ?_
  | ((with_reducible refine' S_set2 ?hs ?hL ?hx ?ha ?hss ?_); (case hs => assumption); (case hL => assumption); (case hx => decide); (case ha => rfl); (case hss => rfl))
  | ((with_reducible refine' S_for ?hs ?hL ?hx ?hf ?_); (case hs => assumption); (case hL => assumption); (case hx => rfl); (case hf => exact fun _ => rfl)))
local macro_rules | `(tactic| walk_at "DE") => `(tactic| first
  | with_reducible refine' EE_int ?_
  | with_reducible refine' EE_str ?_
  | with_reducible refine' EE_boolc ?_
  | ((with_reducible refine' EE_loc ?hl ?hd ?_); (case hl => rfl); (case hd => rfl))
  | ((with_reducible refine' EE_gint ?hs ?hx ?he ?hd ?_); (case hs => assumption); (case hx => rfl); (case he => exact fun w => rfl); (case hd => rfl))
  | ((with_reducible refine' EE_gstr ?hs ?hx ?he ?hd ?_); (case hs => assumption); (case hx => rfl); (case he => exact fun w => rfl); (case hd => rfl))
  | ((with_reducible refine' EE_g4 ?hs ?hx ?he ?he2 ?hd ?_); (case hs => assumption); (case hx => rfl); (case he => exact fun w => rfl); (case he2 => exact fun w => rfl); (case hd => rfl))
  | ((with_reducible refine' EE_raw ?hs ?hx ?he ?hd ?_); (case hs => assumption); (case hx => rfl); (case he => exact fun w => rfl); (case hd => rfl))
  | with_reducible refine' EE_bin ?_
  | with_reducible refine' EE_un ?_
  | ((with_reducible refine' EE_cmp ?hb ?_); (case hb => rfl))
  | with_reducible refine' EE_ifexp ?_
  | with_reducible refine' EE_or ?_
  | with_reducible refine' EE_and ?_
  | ((with_reducible refine' EE_tail ?ht ?_); (case ht => exact fun _ _ => rfl))
  | with_reducible refine' EE_sub ?_
  | ((with_reducible refine' EE_call ?hs ?hx ?he ?hk ?hd ?hne ?hc ?_); (case hs => assumption); (case hx => rfl); (case he => exact fun w => rfl); (case hk => exact fun w => rfl); (case hd => rfl); (case hne => rfl); (case hc => rfl))
  | ((with_reducible refine' EE_tup ?hn ?_); (case hn => rfl))
  | ((with_reducible refine' EE_lst ?hn ?_); (case hn => rfl))
  | ((with_reducible refine' EE_bl ?hc ?_); (case hc => exact ⟨_, rfl⟩)))
local macro_rules | `(tactic| walk_at "DB") => `(tactic| first
  | ((with_reducible refine' EB_cmp ?hb ?_); (case hb => rfl))
  | ((with_reducible refine' EB_cmp2 ?hb ?_); (case hb => rfl))
  | with_reducible refine' EB_not ?_
  | with_reducible refine' all_and ?_
  | with_reducible refine' all_or ?_
  | ((with_reducible refine' EB_plain ?he ?_); (case he => rfl)))
local macro_rules | `(tactic| walk_at "DO") => `(tactic| first
  | with_reducible refine' Bop_add ?_
  | with_reducible refine' Bop_sub ?_
  | with_reducible refine' Bop_and ?_
  | ((with_reducible refine' Bop_mul ?hm ?_); (case hm => first | assumption | (refine' mulOk ?_; omega)))
  | ((with_reducible refine' Bop_pow ?h0 ?hs ?_); (case h0 => first | decide | omega); (case hs => decide))
  | ((with_reducible refine' Bop_shr ?h0 ?_); (case h0 => omega))
  | ((with_reducible refine' Bop_shl ?h0 ?hs ?_); (case h0 => omega); (case hs => omega))
  | ((with_reducible refine' Iop_shl ?h0 ?hs ?_); (case h0 => omega); (case hs => omega))
  | ((with_reducible refine' Iop_shr ?h0 ?_); (case h0 => omega))
  | ((with_reducible refine' Bop_xorT ?h0 ?_); (case h0 => assumption))
  | with_reducible refine' Bop_xor ?_
  | with_reducible refine' Iop_add ?_
  | with_reducible refine' Iop_sub ?_
  | ((with_reducible refine' Iop_xorT ?h0 ?_); (case h0 => assumption))
  | with_reducible refine' Iop_xor ?_
  | with_reducible refine' Uop_neg ?_
  | with_reducible refine' Uop_not ?_
  | with_reducible refine' Tru_int ?_
  | with_reducible refine' Tru_bool ?_
  | with_reducible refine' Cop_eq ?_
  | with_reducible refine' Cop_ne ?_
  | with_reducible refine' Cop_lt ?_
  | with_reducible refine' Cop_le ?_
  | with_reducible refine' Cop_gt ?_
  | with_reducible refine' Cop_ge ?_
  | with_reducible refine' Cop_eqs ?_
  | with_reducible refine' Cop_eq4 ?_
  | ((with_reducible refine' Gop_shifts _ ?hs ?_); (case hs => exact fun _ _ _ => rfl))
  | ((with_reducible refine' Gop_list ?h1 ?h2 ?hd ?hs ?_); (case h1 => decide); (case h2 => decide); (case hd => exact rfl); (case hs => exact fun _ _ _ => rfl))
  | ((with_reducible refine' Gop_tup ?h1 ?h2 ?hj ?hd ?hs ?_); (case h1 => decide); (case h2 => decide); (case hj => exact rfl); (case hd => exact rfl); (case hs => exact fun _ _ _ => rfl)))
local macro_rules | `(tactic| walk_at "DI") => `(tactic| ((refine' And.intro (fun hb => ?_) (fun hb => ?_)) <;> (try simp only [Bool.not_eq_true', Bool.not_eq_false', bne_iff_ne, beq_iff_eq, beq_eq_false_iff_ne, bne_eq_false_iff_eq, decide_eq_true_eq, decide_eq_false_iff_not, ne_eq, Bool.and_eq_true, Bool.or_eq_true, gt_iff_lt, ge_iff_le, Int.not_lt, Int.not_le, Bool.not_eq_eq_eq_not, Bool.not_true, Bool.not_false, Decidable.not_not, reduceCtorEq, if_true, if_false, Bool.false_eq_true, ↓reduceIte] at hb) <;> (first | done | (exfalso; omega) | (exfalso; revert hb; decide) | skip)))
local macro_rules | `(tactic| walk_at "D1") => `(tactic| first
  | ((with_reducible show SS _ _ _ _ _); walk_at "DS")
  | ((with_reducible show S1 _ _ _ _ _); walk_at "DT")
  | ((with_reducible show EE _ _ _ _); walk_at "DE")
  | ((with_reducible show EB _ _ _ _); walk_at "DB")
  | ((with_reducible show EL _ _ _ _); (first | with_reducible refine' EL_cons ?_ | with_reducible refine' EL_nil ?_))
  | ((with_reducible show ForL _ _ _ _ _ _ _); first | refine' ForL_cons ?_ | refine' ForL_nil ?_)
  | ((with_reducible show And _ _); walk_at "DI")
  | refine' And.intro (Eq.refl _) ?_
  | ((with_reducible refine' And.intro ?ka ?_); (case ka => (simp only [beq_iff_eq, decide_eq_true_eq, ge_iff_le]; first | done | assumption | omega)))
  | ((with_reducible refine' And.intro ?ka ?_); (case ka => first | assumption | exact Or.inl rfl | exact Or.inr rfl))
  | with_reducible refine' Exists.intro _ (And.intro rfl ?_)
  | walk_at "DO")
theorem add_use {c : Cx} {s m e T m' e' p N S M E pb : Int} {up : Bool} (hr : 3 ≤ c.rk) (hS : S = 0 ∨ S = 1) (hM : 0 ≤ M)
    (hk : (E = e' ∧ e' ≤ e ∧ sg S M = sg s (m * 2 ^ (e - e').toNat) + sg T m') ∨ (E = e ∧ e ≤ e' ∧ sg S M = sg s m + sg T (m' * 2 ^ (-(e - e')).toNat)) ∨ (E = e' ∧ e = e' ∧ sg S M = sg s m + sg T m'))
    (hpb : (pb = p ∧ p ≠ 0) ∨ (pb = ib M ∧ p = 0)) (hp : 0 ≤ p) (hN : 100 ≤ N) (b1 : ib m ≤ N) (b2 : -N ≤ e) (b3 : e ≤ N) (c1 : ib m' ≤ N) (c2 : -N ≤ e') (c3 : e' ≤ N) :
    Fn c 44 [.int S, .int M, .int E, .int (ib M), .int pb, .str (rs up)] (fun d => ∃ z : Mpf, d = z.D ∧ Res p up (rv s m e + rv T m' e') (5 * N) z) := by
  have hib : M ≠ 0 → 1 ≤ ib M := fun h => by rw [ib_pos h]; omega
  have hk : (E = e' ∧ e' ≤ e ∧ sg S M = sg s (m * 2 ^ (e - e').toNat) + sg T m') ∨ (E = e ∧ e ≤ e' ∧ sg S M = sg s m + sg T (m' * 2 ^ (-(e - e')).toNat)) := by
    rcases hk with h | h | ⟨h1, h2, h3⟩
    · exact .inl h
    · exact .inr h
    · exact .inl ⟨h1, by omega, by rw [h3, show (e - e').toNat = 0 by omega]; simp⟩
  refine Fn.use (normalize_ok S M E (ib M) pb up hS hM rfl ?_) hr fun d hd => ?_
  · intro h
    have := hib h
    rcases hpb with ⟨rfl, h⟩ | ⟨rfl, h⟩ <;> omega
  obtain ⟨y, rfl, hy⟩ := hd
  refine ⟨y, rfl, norm_res hy ?_ ?_ ?_⟩
  · rcases hpb with ⟨rfl, h⟩ | ⟨rfl, h⟩
    · exact .inl ⟨rfl, by omega⟩
    · exact .inr ⟨h, Int.le_refl _⟩
  · rcases hk with ⟨rfl, h1, h2⟩ | ⟨rfl, h1, h2⟩
    · refine rv_sum h1 (Int.le_refl _) ?_
      rw [h2]; simp
    · refine rv_sum (Int.le_refl _) h1 ?_
      rw [h2, show (-(E - e')).toNat = (e' - E).toNat by omega]; simp
  · have hM2 : ib M ≤ (3 * N + 1).toNat := by
      rw [← ib_sg S M]
      have k1 : ∀ {a : Int} {k : Nat} {q : Int}, (ib a : Int) ≤ N → (k : Int) ≤ 2 * N → ib (sg q (a * 2 ^ k)) ≤ (3 * N).toNat := fun {a k q} h1 h2 => by
        rw [ib_sg]
        have := ib_mul_le a k
        omega
      have k2 : ∀ {a q : Int}, (ib a : Int) ≤ N → ib (sg q a) ≤ (3 * N).toNat := fun {a q} h1 => by rw [ib_sg]; omega
      have e1 : (3 * N + 1).toNat = (3 * N).toNat + 1 := by omega
      rw [e1]
      rcases hk with ⟨rfl, h1, h2⟩ | ⟨rfl, h1, h2⟩
      · rw [h2]; exact ib_sum (k1 (by omega) (by omega)) (k2 (by omega))
      · rw [h2]; exact ib_sum (k2 (by omega)) (k1 (by omega) (by omega))
    rcases hk with ⟨rfl, h1, h2⟩ | ⟨rfl, h1, h2⟩ <;> omega
theorem cut_use {c : Cx} {s m e T m' e' p N M d : Int} {up : Bool} {v : Rat} (hr : 3 ≤ c.rk) (hs : s = 0 ∨ s = 1) (hT : T = 0 ∨ T = 1) (hm : 0 < m) (hm' : 0 < m') (hp : 0 < p ∧ p ≤ 100) (hcut : p + 4 < ib m + e - ib m' - e') (hlow : ib m' + e' < e)
    (hd : (s = T ∧ d = 1) ∨ (s ≠ T ∧ d = -1)) (hM : M = m * 2 ^ (p + 4).toNat + d) (hN : 100 ≤ N) (b1 : ib m ≤ N) (b2 : -N ≤ e) (b3 : e ≤ N) (hv : v = rv s m e + rv T m' e') :
    Fn c 44 [.int s, .int M, .int (e - (p + 4)), .int (ib M), .int p, .str (rs up)] (fun d => ∃ z : Mpf, d = z.D ∧ Res p up v (5 * N) z) := by
  subst hv
  obtain ⟨q, rfl⟩ : ∃ q : Nat, p = q := ⟨p.toNat, by omega⟩
  have e0 : ((q : Int) + 4).toNat = q + 4 := by omega
  rw [e0] at hM
  have hP := pow_pos (q + 4)
  have hmP : m * 1 ≤ m * 2 ^ (q + 4) := Int.mul_le_mul_of_nonneg_left (by omega) (by omega)
  refine Fn.use (normalize_ok s M (e - (q + 4)) (ib M) q up hs (by omega) rfl (fun _ => by omega)) hr fun d hd => ?_
  obtain ⟨y, rfl, hy⟩ := hd
  have hibM : ib M ≤ (N + 105).toNat := by
    have h1 : ib (m * 2 ^ (q + 4)) ≤ (N + 104).toNat := by have := ib_mul_le m (q + 4); omega
    have h2 : ib d ≤ (N + 104).toNat := by
      rcases hd with ⟨_, rfl⟩ | ⟨_, rfl⟩
      · rw [ib_one]; omega
      · rw [ib_neg, ib_one]; omega
    rw [hM]
    have := ib_sum h1 h2
    omega
  refine ⟨y, rfl, hy.ok, ?_, ⟨by have := hy.bb; omega, ?_, ?_⟩⟩
  · have h1 := hy.rnd
    rw [hM] at h1
    exact cut_rnd hs hT hm rfl hm' rfl (by omega) (by omega) hlow hd hy.ok h1
  · rcases hy.bd with ⟨_, h⟩ | ⟨h, _⟩ <;> omega
  · rcases hy.bd with ⟨_, h⟩ | ⟨_, h⟩ <;> omega
theorem nrm_use {c : Cx} {p N S M E pb : Int} {up : Bool} {v : Rat} (hr : 3 ≤ c.rk) (hS : S = 0 ∨ S = 1) (hM : 0 ≤ M)
    (hpb : (pb = p ∧ p ≠ 0) ∨ (pb = ib M ∧ p = 0)) (hp : 0 ≤ p) (hN : 0 ≤ N) (b1 : ib M ≤ N) (b2 : -N ≤ E) (b3 : E ≤ N) (hv : rv S M E = v) :
    Fn c 44 [.int S, .int M, .int E, .int (ib M), .int pb, .str (rs up)] (fun d => ∃ z : Mpf, d = z.D ∧ Res p up v (5 * N) z) := by
  have hib : M ≠ 0 → 1 ≤ ib M := fun h => by rw [ib_pos h]; omega
  refine Fn.use (normalize_ok S M E (ib M) pb up hS hM rfl ?_) hr fun d hd => ?_
  · intro h
    have := hib h
    rcases hpb with ⟨rfl, h⟩ | ⟨rfl, h⟩ <;> omega
  obtain ⟨y, rfl, hy⟩ := hd
  refine ⟨y, rfl, norm_res hy ?_ hv (by omega)⟩
  rcases hpb with ⟨rfl, h⟩ | ⟨rfl, h⟩
  · exact .inl ⟨rfl, by omega⟩
  · exact .inr ⟨h, Int.le_refl _⟩
theorem res_zero {p : Int} {up : Bool} {N : Int} {v : Rat} {z : Mpf} (hz : z.Ok) (hm : z.m = 0) (hv : v = 0) (hN : 0 ≤ N) : Res p up v N z := by
  obtain ⟨h1, h2⟩ := hz.zz hm
  have h3 := hz.bc
  rw [hm, ib_zero] at h3
  refine ⟨hz, Rnd.exact (.inr (by rw [hm]; exact pow_pos _)) ?_, ⟨by omega, by omega, by omega⟩⟩
  subst hv
  unfold Mpf.val
  rw [hm]; exact rv_zero _ _
end Mine
end
section
open PySem.Calls PySem.Spec
namespace Mine
local macro_rules | `(tactic| walk_at "DS") => `(tactic| first
  | with_reducible refine' SS_cons ?_
  | with_reducible refine' SS_nil ?_)
local macro_rules | `(tactic| walk_at "DT") => `(tactic| first
  | with_reducible refine' S_ret ?_
  | ((with_reducible refine' S_set ?hs ?hL ?hx ?hsw ?_); (case hs => assumption); (case hL => assumption); (case hx => rfl); (case hsw => rfl))
  | with_reducible refine' S_if ?_
  | ((with_reducible refine' S_aug ?hs ?hL ?hx ?hl ?_); (case hs => assumption); (case hL => assumption); (case hx => rfl); (case hl => rfl))
  | ((with_reducible refine' S_swapped ?hs ?hL ?hss ?hx ?hsw ?_); (case hs => assumption); (case hL => assumption); (case hss => (intro env h; cases env; cases h; rfl)); (case hx => decide); (case hsw => rfl))
  | ((with_reducible refine' S_unpack ?hs ?hL ?hn ?hx ?hsw ?hss ?_); (case hs => assumption); (case hL => assumption); (case hn => rfl); (case hx => decide); (case hsw => rfl); (case hss => rfl))
  | with_reducible refine' S_assert ?_
  | ((with_reducible refine' S_set2 ?hs ?hL ?hx ?ha ?hss ?_); (case hs => assumption); (case hL => assumption); (case hx => decide); (case ha => rfl); (case hss => rfl))
  | ((with_reducible refine' S_for ?hs ?hL ?hx ?hf ?_); (case hs => assumption); (case hL => assumption); (case hx => rfl); (case hf => exact fun _ => rfl)))
local macro_rules | `(tactic| walk_at "DE") => `(tactic| first
  | with_reducible refine' EE_int ?_
  | with_reducible refine' EE_str ?_
  | with_reducible refine' EE_boolc ?_
  | ((with_reducible refine' EE_loc ?hl ?hd ?_); (case hl => rfl); (case hd => rfl))
  | ((with_reducible refine' EE_gint ?hs ?hx ?he ?hd ?_); (case hs => assumption); (case hx => rfl); (case he => exact fun w => rfl); (case hd => rfl))
  | ((with_reducible refine' EE_gstr ?hs ?hx ?he ?hd ?_); (case hs => assumption); (case hx => rfl); (case he => exact fun w => rfl); (case hd => rfl))
  | ((with_reducible refine' EE_g4 ?hs ?hx ?he ?he2 ?hd ?_); (case hs => assumption); (case hx => rfl); (case he => exact fun w => rfl); (case he2 => exact fun w => rfl); (case hd => rfl))
  | ((with_reducible refine' EE_raw ?hs ?hx ?he ?hd ?_); (case hs => assumption); (case hx => rfl); (case he => exact fun w => rfl); (case hd => rfl))
  | with_reducible refine' EE_bin ?_
  | with_reducible refine' EE_un ?_
  | ((with_reducible refine' EE_cmp ?hb ?_); (case hb => rfl))
  | with_reducible refine' EE_ifexp ?_
  | with_reducible refine' EE_or ?_
  | with_reducible refine' EE_and ?_
  | ((with_reducible refine' EE_tail ?ht ?_); (case ht => exact fun _ _ => rfl))
  | with_reducible refine' EE_sub ?_
  | ((with_reducible refine' EE_call ?hs ?hx ?he ?hk ?hd ?hne ?hc ?_); (case hs => assumption); (case hx => rfl); (case he => exact fun w => rfl); (case hk => exact fun w => rfl); (case hd => rfl); (case hne => rfl); (case hc => rfl))
  | ((with_reducible refine' EE_tup ?hn ?_); (case hn => rfl))
  | ((with_reducible refine' EE_lst ?hn ?_); (case hn => rfl))
  | ((with_reducible refine' EE_bl ?hc ?_); (case hc => exact ⟨_, rfl⟩)))
local macro_rules | `(tactic| walk_at "DB") => `(tactic| first
  | ((with_reducible refine' EB_cmp ?hb ?_); (case hb => rfl))
  | ((with_reducible refine' EB_cmp2 ?hb ?_); (case hb => rfl))
  | with_reducible refine' EB_not ?_
  | with_reducible refine' all_and ?_
  | with_reducible refine' all_or ?_
  | ((with_reducible refine' EB_plain ?he ?_); (case he => rfl)))
local macro_rules | `(tactic| walk_at "DO") => `(tactic| first
  | with_reducible refine' Bop_add ?_
  | with_reducible refine' Bop_sub ?_
  | with_reducible refine' Bop_and ?_
  | ((with_reducible refine' Bop_mul ?hm ?_); (case hm => first | assumption | (refine' mulOk ?_; omega)))
  | ((with_reducible refine' Bop_pow ?h0 ?hs ?_); (case h0 => first | decide | omega); (case hs => decide))
  | ((with_reducible refine' Bop_shr ?h0 ?_); (case h0 => omega))
  | ((with_reducible refine' Bop_shl ?h0 ?hs ?_); (case h0 => omega); (case hs => omega))
  | ((with_reducible refine' Iop_shl ?h0 ?hs ?_); (case h0 => omega); (case hs => omega))
  | ((with_reducible refine' Iop_shr ?h0 ?_); (case h0 => omega))
  | ((with_reducible refine' Bop_xorT ?h0 ?_); (case h0 => assumption))
  | with_reducible refine' Bop_xor ?_
  | with_reducible refine' Iop_add ?_
  | with_reducible refine' Iop_sub ?_
  | ((with_reducible refine' Iop_xorT ?h0 ?_); (case h0 => assumption))
  | with_reducible refine' Iop_xor ?_
  | with_reducible refine' Uop_neg ?_
  | with_reducible refine' Uop_not ?_
  | with_reducible refine' Tru_int ?_
  | with_reducible refine' Tru_bool ?_
  | with_reducible refine' Cop_eq ?_
  | with_reducible refine' Cop_ne ?_
  | with_reducible refine' Cop_lt ?_
  | with_reducible refine' Cop_le ?_
  | with_reducible refine' Cop_gt ?_
  | with_reducible refine' Cop_ge ?_
  | with_reducible refine' Cop_eqs ?_
  | with_reducible refine' Cop_eq4 ?_
  | ((with_reducible refine' Gop_shifts _ ?hs ?_); (case hs => exact fun _ _ _ => rfl))
  | ((with_reducible refine' Gop_list ?h1 ?h2 ?hd ?hs ?_); (case h1 => decide); (case h2 => decide); (case hd => exact rfl); (case hs => exact fun _ _ _ => rfl))
  | ((with_reducible refine' Gop_tup ?h1 ?h2 ?hj ?hd ?hs ?_); (case h1 => decide); (case h2 => decide); (case hj => exact rfl); (case hd => exact rfl); (case hs => exact fun _ _ _ => rfl)))
local macro_rules | `(tactic| walk_at "DI") => `(tactic| ((refine' And.intro (fun hb => ?_) (fun hb => ?_)) <;> (try simp only [Bool.not_eq_true', Bool.not_eq_false', bne_iff_ne, beq_iff_eq, beq_eq_false_iff_ne, bne_eq_false_iff_eq, decide_eq_true_eq, decide_eq_false_iff_not, ne_eq, Bool.and_eq_true, Bool.or_eq_true, gt_iff_lt, ge_iff_le, Int.not_lt, Int.not_le, Bool.not_eq_eq_eq_not, Bool.not_true, Bool.not_false, Decidable.not_not, reduceCtorEq, if_true, if_false, Bool.false_eq_true, ↓reduceIte] at hb) <;> (first | done | (exfalso; omega) | (exfalso; revert hb; decide) | skip)))
local macro_rules | `(tactic| walk_at "D1") => `(tactic| first
  | ((with_reducible show SS _ _ _ _ _); walk_at "DS")
  | ((with_reducible show S1 _ _ _ _ _); walk_at "DT")
  | ((with_reducible show EE _ _ _ _); walk_at "DE")
  | ((with_reducible show EB _ _ _ _); walk_at "DB")
  | ((with_reducible show EL _ _ _ _); (first | with_reducible refine' EL_cons ?_ | with_reducible refine' EL_nil ?_))
  | ((with_reducible show ForL _ _ _ _ _ _ _); first | refine' ForL_cons ?_ | refine' ForL_nil ?_)
  | ((with_reducible show And _ _); walk_at "DI")
  | refine' And.intro (Eq.refl _) ?_
  | ((with_reducible refine' And.intro ?ka ?_); (case ka => (simp only [beq_iff_eq, decide_eq_true_eq, ge_iff_le]; first | done | assumption | omega)))
  | ((with_reducible refine' And.intro ?ka ?_); (case ka => first | assumption | exact Or.inl rfl | exact Or.inr rfl))
  | with_reducible refine' Exists.intro _ (And.intro rfl ?_)
  | walk_at "DO")
theorem mpf_add_core (x y : Mpf) (hx : x.Ok) (hy : y.Ok) (p N sub T : Int) (up : Bool) (hp : 0 ≤ p ∧ p ≤ 100) (hbx : Bd N x) (hby : Bd N y) (hN : 100 ≤ N ∧ N ≤ 10000000) (hsub : sub = 0 ∨ sub = 1) (hT : Builtin.bitXor y.s sub = T) (hT01 : T = 0 ∨ T = 1)
    (hcut : 0 < p → (x.b ≤ 100 ∧ y.b ≤ 100) ∨ x.b + x.e = y.b + y.e) :
    ∀ args dd : List D, ((args = [x.D, y.D, .int p, .str (rs up), .int sub] ∧ dd = []) ∨ (args = [x.D, y.D, .int p, .str (rs up)] ∧ dd = [.int 0] ∧ sub = 0)) →
    FnOK 117 5 args (fun d => ∃ z : Mpf, d = z.D ∧ Res p up (x.val + rv T y.m y.e) (5 * N) z) := by
  intro args dd hargs
  obtain ⟨s, m, e, b⟩ := x
  obtain ⟨s', m', e', b'⟩ := y
  have hx0 := hx
  have hy0 := hy
  obtain ⟨h1, h2, h3, h4, h5⟩ := hx
  obtain ⟨g1, g2, g3, g4, g5⟩ := hy
  obtain ⟨b1, b2, b3⟩ := hbx
  obtain ⟨c1, c2, c3⟩ := hby
  dsimp only at h1 h2 h3 h4 h5 g1 g2 g3 g4 g5 b1 b2 b3 c1 c2 c3 hT hcut
  subst h3 g3
  obtain ⟨hN1, hN2⟩ := hN
  have hP1 : 0 ≤ m * 2 ^ (e - e').toNat := Int.mul_nonneg h2 (Int.le_of_lt (pow_pos _))
  have hP2 : 0 ≤ m' * 2 ^ (-(e - e')).toNat := Int.mul_nonneg g2 (Int.le_of_lt (pow_pos _))
  show FnOK 117 5 args (fun d => ∃ z : Mpf, d = z.D ∧ Res p up (rv s m e + rv T m' e') (5 * N) z)
  refine FnOK_intro ["s", "t", "prec", "rnd", "_sub"] (args := args) (dd := dd) (σ0 := [("s", mD s m e (ib m)), ("t", mD s' m' e' (ib m')), ("prec", .int p), ("rnd", .str (rs up)), ("_sub", .int sub)]) (fun w => rfl) (fun w => rfl) (fun s vs w X hl => ?_) (by decide) (by decide) (by rcases hargs with ⟨rfl, rfl⟩ | ⟨rfl, rfl, rfl⟩ <;> rfl) rfl rfl rfl (by decide) (fun c hr hs hL => ?_)
  · rcases hargs with ⟨rfl, rfl⟩ | ⟨rfl, rfl, rfl⟩
    · refine ⟨[], ?_, fun h => .nil⟩
      match vs, hl with
      | [_, _, _, _, _], _ => exact binds_K X rfl rfl rfl rfl rfl
    · refine ⟨[.int 0 375], ?_, fun h => .cons (.int _ _) .nil⟩
      match vs, hl with
      | [_, _, _, _], _ => exact binds_K X rfl rfl rfl rfl rfl
  · repeat' (walk_at "D1")
    all_goals (try ((refine Fn.use (mpf_neg1_ok ⟨s', m', e', ib m'⟩ hy0) (by omega) (fun d hd => ?_)); subst hd; repeat' (walk_at "D1")))
    all_goals first
      | (refine' add_use ?a1 ?a2 ?a3 ?a4 ?a5 hp.1 hN1 b1 b2 b3 c1 c2 c3
         case a1 => omega
         case a2 => omega
         case a3 => omega
         case a4 => first
           | (refine' Or.inl (And.intro rfl (And.intro ?_ ?_)); (focus omega); (unfold sg; (repeat' split) <;> omega))
           | (refine' Or.inr (Or.inl (And.intro rfl (And.intro ?_ ?_))); (focus omega); (unfold sg; (repeat' split) <;> omega))
           | (refine' Or.inr (Or.inr (And.intro rfl (And.intro ?_ ?_))); (focus omega); (unfold sg; (repeat' split) <;> omega))
         case a5 => first
           | (refine' Or.inl (And.intro rfl ?_); omega)
           | (refine' Or.inr (And.intro rfl ?_); omega))
      | (refine' cut_use ?a1 h1 hT01 ?a2 ?a3 ?a4 ?a5 ?a6 ?a7 ?a8 hN1 b1 b2 b3 rfl
         case a1 => omega
         case a2 => omega
         case a3 => omega
         case a4 => omega
         case a5 => omega
         case a6 => omega
         case a7 => first
           | (refine' Or.inl (And.intro ?_ rfl); omega)
           | (refine' Or.inr (And.intro ?_ rfl); omega)
         case a8 => omega)
      | (refine' cut_use ?a1 hT01 h1 ?a2 ?a3 ?a4 ?a5 ?a6 ?a7 ?a8 hN1 c1 c2 c3 (Rat.add_comm _ _)
         case a1 => omega
         case a2 => omega
         case a3 => omega
         case a4 => omega
         case a5 => omega
         case a6 => omega
         case a7 => first
           | (refine' Or.inl (And.intro ?_ rfl); omega)
           | (refine' Or.inr (And.intro ?_ rfl); omega)
         case a8 => omega)
      | (obtain rfl : m = 0 := by assumption
         refine' nrm_use ?a1 hT01 ?a3 ?a5 hp.1 ?a6 c1 c2 c3 ?a7
         case a1 => omega
         case a3 => omega
         case a5 => first
           | (refine' Or.inl (And.intro rfl ?_); omega)
           | (refine' Or.inr (And.intro rfl ?_); omega)
         case a6 => omega
         case a7 => rw [rv_zero, Rat.zero_add])
      | (obtain rfl : m' = 0 := by assumption
         refine' nrm_use ?a1 h1 ?a3 ?a5 hp.1 ?a6 b1 b2 b3 ?a7
         case a1 => omega
         case a3 => omega
         case a5 => first
           | (refine' Or.inl (And.intro rfl ?_); omega)
           | (refine' Or.inr (And.intro rfl ?_); omega)
         case a6 => omega
         case a7 => rw [rv_zero, Rat.add_zero])
      | (obtain rfl : m = 0 := by assumption
         obtain rfl : m' = 0 := by assumption
         first
         | exact ⟨_, rfl, res_zero hy0 rfl (by rw [rv_zero, rv_zero, Rat.add_zero]) (by omega)⟩
         | exact res_zero (Mpf.neg_ok hy0) rfl (by rw [rv_zero, rv_zero, Rat.add_zero]) (by omega))
theorem bitXor_0 {s : Int} (h : s = 0 ∨ s = 1) : Builtin.bitXor s 0 = s := by rcases h with rfl | rfl <;> rfl
theorem bitXor_1 {s : Int} (h : s = 0 ∨ s = 1) : Builtin.bitXor s 1 = 1 - s := by rcases h with rfl | rfl <;> rfl
theorem mpf_add_ok (x y : Mpf) (hx : x.Ok) (hy : y.Ok) (p N : Int) (up : Bool) (hp : 0 ≤ p ∧ p ≤ 100) (hbx : Bd N x) (hby : Bd N y) (hN : 100 ≤ N ∧ N ≤ 10000000)
    (hcut : 0 < p → (x.b ≤ 100 ∧ y.b ≤ 100) ∨ x.b + x.e = y.b + y.e) : FnOK 117 5 [x.D, y.D, .int p, .str (rs up)] (fun d => ∃ z : Mpf, d = z.D ∧ Res p up (x.val + y.val) (5 * N) z) :=
  mpf_add_core x y hx hy p N 0 y.s up hp hbx hby hN (.inl rfl) (bitXor_0 hy.sg) hy.sg hcut _ _ (.inr ⟨rfl, rfl, rfl⟩)
theorem mpf_sub_ok (x y : Mpf) (hx : x.Ok) (hy : y.Ok) (p N : Int) (up : Bool) (hp : 0 ≤ p ∧ p ≤ 100) (hbx : Bd N x) (hby : Bd N y) (hN : 100 ≤ N ∧ N ≤ 10000000)
    (hcut : 0 < p → (x.b ≤ 100 ∧ y.b ≤ 100) ∨ x.b + x.e = y.b + y.e) : FnOK 125 6 [x.D, y.D, .int p, .str (rs up)] (fun d => ∃ z : Mpf, d = z.D ∧ Res p up (x.val - y.val) (5 * N) z) := by
  have key := mpf_add_core x y hx hy p N 1 (1 - y.s) up hp hbx hby hN (.inr rfl) (bitXor_1 hy.sg) (by have := hy.sg; omega) hcut _ _ (.inl ⟨rfl, rfl⟩)
  have e : x.val + rv (1 - y.s) y.m y.e = x.val - y.val := by
    have : rv (1 - y.s) y.m y.e = -y.val := by
      unfold Mpf.val rv
      rw [sg_neg hy.sg, neg_mul_p2]
    rw [this, Rat.sub_eq_add_neg]
  rw [e] at key
  refine FnOK_intro ["s", "t", "prec", "rnd"] (σ0 := [("s", x.D), ("t", y.D), ("prec", .int p), ("rnd", .str (rs up))]) (fun w => rfl) (fun w => rfl) (fun s vs w X hl => ⟨[], ?_, fun h => .nil⟩) (by decide) (by decide) rfl rfl rfl rfl (by decide) (fun c hr hs hL => ?_)
  · match vs, hl with
    | [_, _, _, _], _ => exact binds_K X rfl rfl rfl rfl rfl
  · repeat' (walk_at "D1")
    exact Fn.use key (by omega) fun d hd => hd
end Mine
end
section
open PySem.Calls PySem.Spec
namespace Mine
local macro_rules | `(tactic| walk_at "DS") => `(tactic| first
  | with_reducible refine' SS_cons ?_
  | with_reducible refine' SS_nil ?_)
local macro_rules | `(tactic| walk_at "DT") => `(tactic| first
  | with_reducible refine' S_ret ?_
  | ((with_reducible refine' S_set ?hs ?hL ?hx ?hsw ?_); (case hs => assumption); (case hL => assumption); (case hx => rfl); (case hsw => rfl))
  | with_reducible refine' S_if ?_
  | ((with_reducible refine' S_aug ?hs ?hL ?hx ?hl ?_); (case hs => assumption); (case hL => assumption); (case hx => rfl); (case hl => rfl))
  | ((with_reducible refine' S_swapped ?hs ?hL ?hss ?hx ?hsw ?_); (case hs => assumption); (case hL => assumption); (case hss => (intro env h; cases env; cases h; rfl)); (case hx => decide); (case hsw => rfl))
  | ((with_reducible refine' S_unpack ?hs ?hL ?hn ?hx ?hsw ?hss ?_); (case hs => assumption); (case hL => assumption); (case hn => rfl); (case hx => decide); (case hsw => rfl); (case hss => rfl))
  | with_reducible refine' S_assert ?_
  | ((with_reducible refine' S_set2 ?hs ?hL ?hx ?ha ?hss ?_); (case hs => assumption); (case hL => assumption); (case hx => decide); (case ha => rfl); (case hss => rfl))
  | ((with_reducible refine' S_for ?hs ?hL ?hx ?hf ?_); (case hs => assumption); (case hL => assumption); (case hx => rfl); (case hf => exact fun _ => rfl)))
local macro_rules | `(tactic| walk_at "DE") => `(tactic| first
  | with_reducible refine' EE_int ?_
  | with_reducible refine' EE_str ?_
  | with_reducible refine' EE_boolc ?_
  | ((with_reducible refine' EE_loc ?hl ?hd ?_); (case hl => rfl); (case hd => rfl))
  | ((with_reducible refine' EE_gint ?hs ?hx ?he ?hd ?_); (case hs => assumption); (case hx => rfl); (case he => exact fun w => rfl); (case hd => rfl))
  | ((with_reducible refine' EE_gstr ?hs ?hx ?he ?hd ?_); (case hs => assumption); (case hx => rfl); (case he => exact fun w => rfl); (case hd => rfl))
  | ((with_reducible refine' EE_g4 ?hs ?hx ?he ?he2 ?hd ?_); (case hs => assumption); (case hx => rfl); (case he => exact fun w => rfl); (case he2 => exact fun w => rfl); (case hd => rfl))
  | ((with_reducible refine' EE_raw ?hs ?hx ?he ?hd ?_); (case hs => assumption); (case hx => rfl); (case he => exact fun w => rfl); (case hd => rfl))
  | with_reducible refine' EE_bin ?_
  | with_reducible refine' EE_un ?_
  | ((with_reducible refine' EE_cmp ?hb ?_); (case hb => rfl))
  | with_reducible refine' EE_ifexp ?_
  | with_reducible refine' EE_or ?_
  | with_reducible refine' EE_and ?_
  | ((with_reducible refine' EE_tail ?ht ?_); (case ht => exact fun _ _ => rfl))
  | with_reducible refine' EE_sub ?_
  | ((with_reducible refine' EE_call ?hs ?hx ?he ?hk ?hd ?hne ?hc ?_); (case hs => assumption); (case hx => rfl); (case he => exact fun w => rfl); (case hk => exact fun w => rfl); (case hd => rfl); (case hne => rfl); (case hc => rfl))
  | ((with_reducible refine' EE_tup ?hn ?_); (case hn => rfl))
  | ((with_reducible refine' EE_lst ?hn ?_); (case hn => rfl))
  | ((with_reducible refine' EE_bl ?hc ?_); (case hc => exact ⟨_, rfl⟩)))
local macro_rules | `(tactic| walk_at "DB") => `(tactic| first
  | ((with_reducible refine' EB_cmp ?hb ?_); (case hb => rfl))
  | ((with_reducible refine' EB_cmp2 ?hb ?_); (case hb => rfl))
  | with_reducible refine' EB_not ?_
  | with_reducible refine' all_and ?_
  | with_reducible refine' all_or ?_
  | ((with_reducible refine' EB_plain ?he ?_); (case he => rfl)))
local macro_rules | `(tactic| walk_at "DO") => `(tactic| first
  | with_reducible refine' Bop_add ?_
  | with_reducible refine' Bop_sub ?_
  | with_reducible refine' Bop_and ?_
  | ((with_reducible refine' Bop_mul ?hm ?_); (case hm => first | assumption | (refine' mulOk ?_; omega)))
  | ((with_reducible refine' Bop_pow ?h0 ?hs ?_); (case h0 => first | decide | omega); (case hs => decide))
  | ((with_reducible refine' Bop_shr ?h0 ?_); (case h0 => omega))
  | ((with_reducible refine' Bop_shl ?h0 ?hs ?_); (case h0 => omega); (case hs => omega))
  | ((with_reducible refine' Iop_shl ?h0 ?hs ?_); (case h0 => omega); (case hs => omega))
  | ((with_reducible refine' Iop_shr ?h0 ?_); (case h0 => omega))
  | ((with_reducible refine' Bop_xorT ?h0 ?_); (case h0 => assumption))
  | with_reducible refine' Bop_xor ?_
  | with_reducible refine' Iop_add ?_
  | with_reducible refine' Iop_sub ?_
  | ((with_reducible refine' Iop_xorT ?h0 ?_); (case h0 => assumption))
  | with_reducible refine' Iop_xor ?_
  | with_reducible refine' Uop_neg ?_
  | with_reducible refine' Uop_not ?_
  | with_reducible refine' Tru_int ?_
  | with_reducible refine' Tru_bool ?_
  | with_reducible refine' Cop_eq ?_
  | with_reducible refine' Cop_ne ?_
  | with_reducible refine' Cop_lt ?_
  | with_reducible refine' Cop_le ?_
  | with_reducible refine' Cop_gt ?_
  | with_reducible refine' Cop_ge ?_
  | with_reducible refine' Cop_eqs ?_
  | with_reducible refine' Cop_eq4 ?_
  | ((with_reducible refine' Gop_shifts _ ?hs ?_); (case hs => exact fun _ _ _ => rfl))
  | ((with_reducible refine' Gop_list ?h1 ?h2 ?hd ?hs ?_); (case h1 => decide); (case h2 => decide); (case hd => exact rfl); (case hs => exact fun _ _ _ => rfl))
  | ((with_reducible refine' Gop_tup ?h1 ?h2 ?hj ?hd ?hs ?_); (case h1 => decide); (case h2 => decide); (case hj => exact rfl); (case hd => exact rfl); (case hs => exact fun _ _ _ => rfl)))
local macro_rules | `(tactic| walk_at "DI") => `(tactic| ((refine' And.intro (fun hb => ?_) (fun hb => ?_)) <;> (try simp only [Bool.not_eq_true', Bool.not_eq_false', bne_iff_ne, beq_iff_eq, beq_eq_false_iff_ne, bne_eq_false_iff_eq, decide_eq_true_eq, decide_eq_false_iff_not, ne_eq, Bool.and_eq_true, Bool.or_eq_true, gt_iff_lt, ge_iff_le, Int.not_lt, Int.not_le, Bool.not_eq_eq_eq_not, Bool.not_true, Bool.not_false, Decidable.not_not, reduceCtorEq, if_true, if_false, Bool.false_eq_true, ↓reduceIte] at hb) <;> (first | done | (exfalso; omega) | (exfalso; revert hb; decide) | skip)))
local macro_rules | `(tactic| walk_at "D1") => `(tactic| first
  | ((with_reducible show SS _ _ _ _ _); walk_at "DS")
  | ((with_reducible show S1 _ _ _ _ _); walk_at "DT")
  | ((with_reducible show EE _ _ _ _); walk_at "DE")
  | ((with_reducible show EB _ _ _ _); walk_at "DB")
  | ((with_reducible show EL _ _ _ _); (first | with_reducible refine' EL_cons ?_ | with_reducible refine' EL_nil ?_))
  | ((with_reducible show ForL _ _ _ _ _ _ _); first | refine' ForL_cons ?_ | refine' ForL_nil ?_)
  | ((with_reducible show And _ _); walk_at "DI")
  | refine' And.intro (Eq.refl _) ?_
  | ((with_reducible refine' And.intro ?ka ?_); (case ka => (simp only [beq_iff_eq, decide_eq_true_eq, ge_iff_le]; first | done | assumption | omega)))
  | ((with_reducible refine' And.intro ?ka ?_); (case ka => first | assumption | exact Or.inl rfl | exact Or.inr rfl))
  | with_reducible refine' Exists.intro _ (And.intro rfl ?_)
  | walk_at "DO")
def xr (s s' : Int) : Int := if s = s' then 0 else 1
theorem xr_01 (s s' : Int) : xr s s' = 0 ∨ xr s s' = 1 := by unfold xr; split <;> simp
theorem bitXor_xr {s s' : Int} (h : s = 0 ∨ s = 1) (h' : s' = 0 ∨ s' = 1) : Builtin.bitXor s s' = xr s s' := by
  rcases h with rfl | rfl <;> rcases h' with rfl | rfl <;> rfl
theorem rv_mul {s m e s' m' e' : Int} (h : s = 0 ∨ s = 1) (h' : s' = 0 ∨ s' = 1) : rv (xr s s') (m * m') (e + e') = rv s m e * rv s' m' e' := by
  have : sg (xr s s') (m * m') = sg s m * sg s' m' := by
    rcases h with rfl | rfl <;> rcases h' with rfl | rfl <;> simp [sg, xr, Int.neg_mul, Int.mul_neg]
  unfold rv
  rw [this, p2_add, Rat.intCast_mul]
  grind
theorem ib_mul (a b : Int) : ib (a * b) ≤ ib a + ib b := by
  refine ib_le ?_
  rw [Int.natAbs_mul, Nat.pow_add]
  exact Nat.mul_lt_mul'' (ib_lt a) (ib_lt b)
theorem mul_odd {m m' : Int} (h : m % 2 = 1) (h' : m' % 2 = 1) : (m * m') % 2 = 1 := by
  rw [Int.mul_emod, h, h']; rfl
theorem mul_exact {s m e s' m' e' N : Int} (hx : (Mpf.mk s m e (ib m)).Ok) (hy : (Mpf.mk s' m' e' (ib m')).Ok) (b1 : ib m ≤ N) (b2 : -N ≤ e) (b3 : e ≤ N) (c1 : ib m' ≤ N) (c2 : -N ≤ e') (c3 : e' ≤ N) (hN : 0 ≤ N) (hmm : m * m' ≠ 0) :
    Res 0 true (rv s m e * rv s' m' e') (5 * N) ⟨xr s s', m * m', e + e', ib (m * m')⟩ ∧ Res 0 false (rv s m e * rv s' m' e') (5 * N) ⟨xr s s', m * m', e + e', ib (m * m')⟩ := by
  have h1 : m ≠ 0 := fun h => hmm (by rw [h, Int.zero_mul])
  have h2 : m' ≠ 0 := fun h => hmm (by rw [h, Int.mul_zero])
  have ok : (Mpf.mk (xr s s') (m * m') (e + e') (ib (m * m'))).Ok := ⟨xr_01 _ _, Int.mul_nonneg hx.nn hy.nn, rfl, fun h => absurd h hmm, fun _ => mul_odd (hx.odd h1) (hy.odd h2)⟩
  have hv : (Mpf.mk (xr s s') (m * m') (e + e') (ib (m * m'))).val = rv s m e * rv s' m' e' := rv_mul hx.sg hy.sg
  have hb := ib_mul m m'
  have bd : Bd (5 * N) (Mpf.mk (xr s s') (m * m') (e + e') (ib (m * m'))) := ⟨by show ((ib (m * m') : Nat) : Int) ≤ _; omega, by show _ ≤ e + e'; omega, by show e + e' ≤ _; omega⟩
  exact ⟨⟨ok, Rnd.exact (.inl rfl) hv, bd⟩, ⟨ok, Rnd.exact (.inl rfl) hv, bd⟩⟩
theorem rv_mul0 {s m e s' m' e' : Int} (h : m * m' = 0) : rv s m e * rv s' m' e' = 0 := by
  rcases Int.mul_eq_zero.mp h with rfl | rfl
  · rw [rv_zero, Rat.zero_mul]
  · rw [rv_zero, Rat.mul_zero]
theorem zero_ok : (Mpf.mk 0 0 0 0).Ok := ⟨.inl rfl, Int.le_refl _, rfl, fun _ => ⟨rfl, rfl⟩, fun h => absurd rfl h⟩
theorem mpf_mul_core (x y : Mpf) (hx : x.Ok) (hy : y.Ok) (p N : Int) (up : Bool) (hp : 0 ≤ p) (hbx : Bd N x) (hby : Bd N y) (hN : 100 ≤ N ∧ N ≤ 10000000) (rnd : Str) (hrnd : p = 0 ∨ rnd = rs up) :
    ∀ args dd : List D, ((args = [x.D, y.D, .int p, .str rnd] ∧ dd = []) ∨ (args = [x.D, y.D] ∧ dd = [.int 0, .str "d"] ∧ p = 0 ∧ rnd = "d")) →
    FnOK 133 4 args (fun d => ∃ z : Mpf, d = z.D ∧ Res p up (x.val * y.val) (5 * N) z) := by
  intro args dd hargs
  obtain ⟨s, m, e, b⟩ := x
  obtain ⟨s', m', e', b'⟩ := y
  have hx0 := hx
  have hy0 := hy
  obtain ⟨h1, h2, h3, h4, h5⟩ := hx
  obtain ⟨g1, g2, g3, g4, g5⟩ := hy
  obtain ⟨b1, b2, b3⟩ := hbx
  obtain ⟨c1, c2, c3⟩ := hby
  dsimp only at h1 h2 h3 h4 h5 g1 g2 g3 g4 g5 b1 b2 b3 c1 c2 c3
  subst h3 g3
  obtain ⟨hN1, hN2⟩ := hN
  have hT := bitXor_xr h1 g1
  have hT01 := xr_01 s s'
  have hmn : 0 ≤ m * m' := Int.mul_nonneg h2 g2
  have hib := ib_mul m m'
  show FnOK 133 4 args (fun d => ∃ z : Mpf, d = z.D ∧ Res p up (rv s m e * rv s' m' e') (5 * N) z)
  refine FnOK_intro ["s", "t", "prec", "rnd"] (args := args) (dd := dd) (σ0 := [("s", mD s m e (ib m)), ("t", mD s' m' e' (ib m')), ("prec", .int p), ("rnd", .str rnd)]) (fun w => rfl) (fun w => rfl) (fun s vs w X hl => ?_) (by decide) (by decide) (by rcases hargs with ⟨rfl, rfl⟩ | ⟨rfl, rfl, rfl, rfl⟩ <;> rfl) rfl rfl rfl (by decide) (fun c hr hs hL => ?_)
  · rcases hargs with ⟨rfl, rfl⟩ | ⟨rfl, rfl, rfl, rfl⟩
    · refine ⟨[], ?_, fun h => .nil⟩
      match vs, hl with
      | [_, _, _, _], _ => exact binds_K X rfl rfl rfl rfl rfl
    · refine ⟨[.int 0 410, .str "d" 210], ?_, fun h => .cons (.int _ _) (.cons (.str _ _) .nil)⟩
      match vs, hl with
      | [_, _], _ => exact binds_K X rfl rfl rfl rfl rfl
  · repeat' (walk_at "D1")
    · obtain rfl : rnd = rs up := by
        rcases hrnd with h | h
        · omega
        · exact h
      refine Fn.use (normalize_ok (xr s s') (m * m') (e + e') (ib (m * m')) p up hT01 hmn rfl (fun _ => by omega)) (by omega) fun d hd => ?_
      obtain ⟨z, rfl, hz⟩ := hd
      exact ⟨z, rfl, norm_res hz (.inl ⟨rfl, by omega⟩) (rv_mul h1 g1) (by omega)⟩
    · obtain rfl : p = 0 := by assumption
      refine ⟨⟨_, _, _, _⟩, rfl, ?_⟩
      have := mul_exact hx0 hy0 b1 b2 b3 c1 c2 c3 (by omega) (by assumption)
      cases up
      · exact this.2
      · exact this.1
    all_goals exact ⟨⟨0, 0, 0, 0⟩, rfl, res_zero zero_ok rfl (rv_mul0 (by assumption)) (by omega)⟩
theorem mpf_mul_ok (x y : Mpf) (hx : x.Ok) (hy : y.Ok) (p N : Int) (up : Bool) (hp : 0 ≤ p) (hbx : Bd N x) (hby : Bd N y) (hN : 100 ≤ N ∧ N ≤ 10000000) :
    FnOK 133 4 [x.D, y.D, .int p, .str (rs up)] (fun d => ∃ z : Mpf, d = z.D ∧ Res p up (x.val * y.val) (5 * N) z) :=
  mpf_mul_core x y hx hy p N up hp hbx hby hN (rs up) (.inr rfl) _ _ (.inl ⟨rfl, rfl⟩)
theorem mpf_mul2_ok (x y : Mpf) (hx : x.Ok) (hy : y.Ok) (N : Int) (up : Bool) (hbx : Bd N x) (hby : Bd N y) (hN : 100 ≤ N ∧ N ≤ 10000000) :
    FnOK 133 4 [x.D, y.D] (fun d => ∃ z : Mpf, d = z.D ∧ Res 0 up (x.val * y.val) (5 * N) z) :=
  mpf_mul_core x y hx hy 0 N up (Int.le_refl _) hbx hby hN "d" (.inl rfl) _ _ (.inr ⟨rfl, rfl, rfl, rfl⟩)
end Mine
end
section
open PySem.Calls PySem.Spec
namespace Mine
local macro_rules | `(tactic| walk_at "DS") => `(tactic| first
  | with_reducible refine' SS_cons ?_
  | with_reducible refine' SS_nil ?_)
local macro_rules | `(tactic| walk_at "DT") => `(tactic| first
  | with_reducible refine' S_ret ?_
  | ((with_reducible refine' S_set ?hs ?hL ?hx ?hsw ?_); (case hs => assumption); (case hL => assumption); (case hx => rfl); (case hsw => rfl))
  | with_reducible refine' S_if ?_
  | ((with_reducible refine' S_aug ?hs ?hL ?hx ?hl ?_); (case hs => assumption); (case hL => assumption); (case hx => rfl); (case hl => rfl))
  | ((with_reducible refine' S_swapped ?hs ?hL ?hss ?hx ?hsw ?_); (case hs => assumption); (case hL => assumption); (case hss => (intro env h; cases env; cases h; rfl)); (case hx => decide); (case hsw => rfl))
  | ((with_reducible refine' S_unpack ?hs ?hL ?hn ?hx ?hsw ?hss ?_); (case hs => assumption); (case hL => assumption); (case hn => rfl); (case hx => decide); (case hsw => rfl); (case hss => rfl))
  | with_reducible refine' S_assert ?_
  | ((with_reducible refine' S_set2 ?hs ?hL ?hx ?ha ?hss ?_); (case hs => assumption); (case hL => assumption); (case hx => decide); (case ha => rfl); (case hss => rfl))
  | ((with_reducible refine' S_for ?hs ?hL ?hx ?hf ?_); (case hs => assumption); (case hL => assumption); (case hx => rfl); (case hf => exact fun _ => rfl)))
local macro_rules | `(tactic| walk_at "DE") => `(tactic| first
  | with_reducible refine' EE_int ?_
  | with_reducible refine' EE_str ?_
  | with_reducible refine' EE_boolc ?_
  | ((with_reducible refine' EE_loc ?hl ?hd ?_); (case hl => rfl); (case hd => rfl))
  | ((with_reducible refine' EE_gint ?hs ?hx ?he ?hd ?_); (case hs => assumption); (case hx => rfl); (case he => exact fun w => rfl); (case hd => rfl))
  | ((with_reducible refine' EE_gstr ?hs ?hx ?he ?hd ?_); (case hs => assumption); (case hx => rfl); (case he => exact fun w => rfl); (case hd => rfl))
  | ((with_reducible refine' EE_g4 ?hs ?hx ?he ?he2 ?hd ?_); (case hs => assumption); (case hx => rfl); (case he => exact fun w => rfl); (case he2 => exact fun w => rfl); (case hd => rfl))
  | ((with_reducible refine' EE_raw ?hs ?hx ?he ?hd ?_); (case hs => assumption); (case hx => rfl); (case he => exact fun w => rfl); (case hd => rfl))
  | with_reducible refine' EE_bin ?_
  | with_reducible refine' EE_un ?_
  | ((with_reducible refine' EE_cmp ?hb ?_); (case hb => rfl))
  | with_reducible refine' EE_ifexp ?_
  | with_reducible refine' EE_or ?_
  | with_reducible refine' EE_and ?_
  | ((with_reducible refine' EE_tail ?ht ?_); (case ht => exact fun _ _ => rfl))
  | with_reducible refine' EE_sub ?_
  | ((with_reducible refine' EE_call ?hs ?hx ?he ?hk ?hd ?hne ?hc ?_); (case hs => assumption); (case hx => rfl); (case he => exact fun w => rfl); (case hk => exact fun w => rfl); (case hd => rfl); (case hne => rfl); (case hc => rfl))
  | ((with_reducible refine' EE_tup ?hn ?_); (case hn => rfl))
  | ((with_reducible refine' EE_lst ?hn ?_); (case hn => rfl))
  | ((with_reducible refine' EE_bl ?hc ?_); (case hc => exact ⟨_, rfl⟩)))
local macro_rules | `(tactic| walk_at "DB") => `(tactic| first
  | ((with_reducible refine' EB_cmp ?hb ?_); (case hb => rfl))
  | ((with_reducible refine' EB_cmp2 ?hb ?_); (case hb => rfl))
  | with_reducible refine' EB_not ?_
  | with_reducible refine' all_and ?_
  | with_reducible refine' all_or ?_
  | ((with_reducible refine' EB_plain ?he ?_); (case he => rfl)))
local macro_rules | `(tactic| walk_at "DO") => `(tactic| first
  | with_reducible refine' Bop_add ?_
  | with_reducible refine' Bop_sub ?_
  | with_reducible refine' Bop_and ?_
  | ((with_reducible refine' Bop_mul ?hm ?_); (case hm => first | assumption | (refine' mulOk ?_; omega)))
  | ((with_reducible refine' Bop_pow ?h0 ?hs ?_); (case h0 => first | decide | omega); (case hs => decide))
  | ((with_reducible refine' Bop_shr ?h0 ?_); (case h0 => omega))
  | ((with_reducible refine' Bop_shl ?h0 ?hs ?_); (case h0 => omega); (case hs => omega))
  | ((with_reducible refine' Iop_shl ?h0 ?hs ?_); (case h0 => omega); (case hs => omega))
  | ((with_reducible refine' Iop_shr ?h0 ?_); (case h0 => omega))
  | ((with_reducible refine' Bop_xorT ?h0 ?_); (case h0 => assumption))
  | with_reducible refine' Bop_xor ?_
  | with_reducible refine' Iop_add ?_
  | with_reducible refine' Iop_sub ?_
  | ((with_reducible refine' Iop_xorT ?h0 ?_); (case h0 => assumption))
  | with_reducible refine' Iop_xor ?_
  | with_reducible refine' Uop_neg ?_
  | with_reducible refine' Uop_not ?_
  | with_reducible refine' Tru_int ?_
  | with_reducible refine' Tru_bool ?_
  | with_reducible refine' Cop_eq ?_
  | with_reducible refine' Cop_ne ?_
  | with_reducible refine' Cop_lt ?_
  | with_reducible refine' Cop_le ?_
  | with_reducible refine' Cop_gt ?_
  | with_reducible refine' Cop_ge ?_
  | with_reducible refine' Cop_eqs ?_
  | with_reducible refine' Cop_eq4 ?_
  | ((with_reducible refine' Gop_shifts _ ?hs ?_); (case hs => exact fun _ _ _ => rfl))
  | ((with_reducible refine' Gop_list ?h1 ?h2 ?hd ?hs ?_); (case h1 => decide); (case h2 => decide); (case hd => exact rfl); (case hs => exact fun _ _ _ => rfl))
  | ((with_reducible refine' Gop_tup ?h1 ?h2 ?hj ?hd ?hs ?_); (case h1 => decide); (case h2 => decide); (case hj => exact rfl); (case hd => exact rfl); (case hs => exact fun _ _ _ => rfl)))
local macro_rules | `(tactic| walk_at "DI") => `(tactic| ((refine' And.intro (fun hb => ?_) (fun hb => ?_)) <;> (try simp only [Bool.not_eq_true', Bool.not_eq_false', bne_iff_ne, beq_iff_eq, beq_eq_false_iff_ne, bne_eq_false_iff_eq, decide_eq_true_eq, decide_eq_false_iff_not, ne_eq, Bool.and_eq_true, Bool.or_eq_true, gt_iff_lt, ge_iff_le, Int.not_lt, Int.not_le, Bool.not_eq_eq_eq_not, Bool.not_true, Bool.not_false, Decidable.not_not, reduceCtorEq, if_true, if_false, Bool.false_eq_true, ↓reduceIte] at hb) <;> (first | done | (exfalso; omega) | (exfalso; revert hb; decide) | skip)))
local macro_rules | `(tactic| walk_at "D1") => `(tactic| first
  | ((with_reducible show SS _ _ _ _ _); walk_at "DS")
  | ((with_reducible show S1 _ _ _ _ _); walk_at "DT")
  | ((with_reducible show EE _ _ _ _); walk_at "DE")
  | ((with_reducible show EB _ _ _ _); walk_at "DB")
  | ((with_reducible show EL _ _ _ _); (first | with_reducible refine' EL_cons ?_ | with_reducible refine' EL_nil ?_))
  | ((with_reducible show ForL _ _ _ _ _ _ _); first | refine' ForL_cons ?_ | refine' ForL_nil ?_)
  | ((with_reducible show And _ _); walk_at "DI")
  | refine' And.intro (Eq.refl _) ?_
  | ((with_reducible refine' And.intro ?ka ?_); (case ka => (simp only [beq_iff_eq, decide_eq_true_eq, ge_iff_le]; first | done | assumption | omega)))
  | ((with_reducible refine' And.intro ?ka ?_); (case ka => first | assumption | exact Or.inl rfl | exact Or.inr rfl))
  | with_reducible refine' Exists.intro _ (And.intro rfl ?_)
  | walk_at "DO")
theorem np_lt {m m' e e' : Int} (h : 0 < m) (h' : 0 < m') : rv 1 m e < rv 0 m' e' := by
  have a := rv_neg (e := e) h
  have b := rv_pos (e := e') h'
  grind
theorem cmp_same' {s m m' e e' r : Int} (he : e = e') (hs : s = 0 ∨ s = 1) (h : (m = m' ∧ r = 0) ∨ (m < m' ∧ s = 0 ∧ r = -1) ∨ (m < m' ∧ s = 1 ∧ r = 1) ∨ (m' < m ∧ s = 0 ∧ r = 1) ∨ (m' < m ∧ s = 1 ∧ r = -1)) : CmpR (rv s m e) (rv s m' e') r := by subst he; exact cmp_same hs h
theorem mpf_cmp_ok (x y : Mpf) (hx : x.Ok) (hy : y.Ok) (N : Int) (hbx : Bd N x) (hby : Bd N y) (hN : 100 ≤ N ∧ N ≤ 10000000) : FnOK 51 7 [x.D, y.D] (fun d => ∃ r, d = .int r ∧ CmpR x.val y.val r) := by
  obtain ⟨s, m, e, b⟩ := x
  obtain ⟨s', m', e', b'⟩ := y
  have hx0 := hx
  have hy0 := hy
  have hbx0 := hbx
  have hby0 := hby
  obtain ⟨h1, h2, h3, h4, h5⟩ := hx
  obtain ⟨g1, g2, g3, g4, g5⟩ := hy
  obtain ⟨b1, b2, b3⟩ := hbx
  obtain ⟨c1, c2, c3⟩ := hby
  dsimp only at h1 h2 h3 h4 h5 g1 g2 g3 g4 g5 b1 b2 b3 c1 c2 c3
  subst h3 g3
  have hzx := @cmp_zl ⟨s, m, e, ib m⟩ ⟨s', m', e', ib m'⟩ hy0
  have hzy := @cmp_zr ⟨s, m, e, ib m⟩ ⟨s', m', e', ib m'⟩ hx0
  have hnx := mpf_sign_ok ⟨s, m, e, ib m⟩ hx0
  have hny := mpf_sign_ok ⟨s', m', e', ib m'⟩ hy0
  have i1 : m = 0 → (ib m : Int) = 0 := fun q => by rw [q]; rfl
  have i2 : m' = 0 → (ib m' : Int) = 0 := fun q => by rw [q]; rfl
  show FnOK 51 7 [mD s m e (ib m), mD s' m' e' (ib m')] (fun d => ∃ r, d = .int r ∧ CmpR (rv s m e) (rv s' m' e') r)
  refine FnOK_intro ["s", "t"] (σ0 := [("s", mD s m e (ib m)), ("t", mD s' m' e' (ib m'))]) (fun w => rfl) (fun w => rfl) (fun s vs w X hl => ⟨[], ?_, fun h => .nil⟩) (by decide) (by decide) rfl rfl rfl rfl (by decide) (fun c hr hs hL => ?_)
  · match vs, hl with
    | [_, _], _ => exact BindsTo.of_eq rfl
  · by_cases hm : m = 0
    · -- the first is nought
      subst hm
      obtain ⟨rfl, rfl⟩ := h4 rfl
      repeat' (walk_at "D1")
      refine Fn.use hny (by omega) fun d hd => ?_
      subst hd
      repeat' (walk_at "D1")
      exact hzx (rv_zero _ _)
    by_cases hm' : m' = 0
    · subst hm'
      obtain ⟨rfl, rfl⟩ := g4 rfl
      repeat' (walk_at "D1")
      exact Fn.use hnx (by omega) fun d hd => ⟨_, hd, hzy (rv_zero _ _)⟩
    by_cases hs' : s = s'
    · subst hs'
      repeat' (walk_at "D1")
      all_goals (try (
        first
        | (refine' cmp_same' ?k1 h1 ?k2
           case k1 => omega
           case k2 => omega)
        | (refine' cmp_mag ?k1 ?k2 ?k3
           case k1 => omega
           case k2 => omega
           case k3 => omega)))
      all_goals (
        refine Fn.use (mpf_sub_ok ⟨s, m, e, ib m⟩ ⟨s, m', e', ib m'⟩ hx0 hy0 5 N false (by decide) hbx0 hby0 hN (fun _ => .inr (by show (ib m : Int) + e = ib m' + e'; omega))) (by omega) fun d hd => ?_
        obtain ⟨z, rfl, hz⟩ := hd
        repeat' (walk_at "D1")
        all_goals exact cmp_delta h1 (h5 (by omega)) (g5 (by omega)) (by omega) hz (by omega))
    · repeat' (walk_at "D1")
      · obtain rfl : s = 0 := by omega
        obtain rfl : s' = 1 := by omega
        exact CmpR.of_gt (np_lt (by omega) (by omega)) (by decide)
      · obtain rfl : s = 1 := by omega
        obtain rfl : s' = 0 := by omega
        exact CmpR.of_lt (np_lt (by omega) (by omega)) (by decide)
end Mine
end
section
open PySem.Calls PySem.Spec
namespace Mine
local macro_rules | `(tactic| walk_at "DS") => `(tactic| first
  | with_reducible refine' SS_cons ?_
  | with_reducible refine' SS_nil ?_)
local macro_rules | `(tactic| walk_at "DT") => `(tactic| first
  | with_reducible refine' S_ret ?_
  | ((with_reducible refine' S_set ?hs ?hL ?hx ?hsw ?_); (case hs => assumption); (case hL => assumption); (case hx => rfl); (case hsw => rfl))
  | with_reducible refine' S_if ?_
  | ((with_reducible refine' S_aug ?hs ?hL ?hx ?hl ?_); (case hs => assumption); (case hL => assumption); (case hx => rfl); (case hl => rfl))
  | ((with_reducible refine' S_swapped ?hs ?hL ?hss ?hx ?hsw ?_); (case hs => assumption); (case hL => assumption); (case hss => (intro env h; cases env; cases h; rfl)); (case hx => decide); (case hsw => rfl))
  | ((with_reducible refine' S_unpack ?hs ?hL ?hn ?hx ?hsw ?hss ?_); (case hs => assumption); (case hL => assumption); (case hn => rfl); (case hx => decide); (case hsw => rfl); (case hss => rfl))
  | with_reducible refine' S_assert ?_
  | ((with_reducible refine' S_set2 ?hs ?hL ?hx ?ha ?hss ?_); (case hs => assumption); (case hL => assumption); (case hx => decide); (case ha => rfl); (case hss => rfl))
  | ((with_reducible refine' S_for ?hs ?hL ?hx ?hf ?_); (case hs => assumption); (case hL => assumption); (case hx => rfl); (case hf => exact fun _ => rfl)))
local macro_rules | `(tactic| walk_at "DE") => `(tactic| first
  | with_reducible refine' EE_int ?_
  | with_reducible refine' EE_str ?_
  | with_reducible refine' EE_boolc ?_
  | ((with_reducible refine' EE_loc ?hl ?hd ?_); (case hl => rfl); (case hd => rfl))
  | ((with_reducible refine' EE_gint ?hs ?hx ?he ?hd ?_); (case hs => assumption); (case hx => rfl); (case he => exact fun w => rfl); (case hd => rfl))
  | ((with_reducible refine' EE_gstr ?hs ?hx ?he ?hd ?_); (case hs => assumption); (case hx => rfl); (case he => exact fun w => rfl); (case hd => rfl))
  | ((with_reducible refine' EE_g4 ?hs ?hx ?he ?he2 ?hd ?_); (case hs => assumption); (case hx => rfl); (case he => exact fun w => rfl); (case he2 => exact fun w => rfl); (case hd => rfl))
  | ((with_reducible refine' EE_raw ?hs ?hx ?he ?hd ?_); (case hs => assumption); (case hx => rfl); (case he => exact fun w => rfl); (case hd => rfl))
  | with_reducible refine' EE_bin ?_
  | with_reducible refine' EE_un ?_
  | ((with_reducible refine' EE_cmp ?hb ?_); (case hb => rfl))
  | with_reducible refine' EE_ifexp ?_
  | with_reducible refine' EE_or ?_
  | with_reducible refine' EE_and ?_
  | ((with_reducible refine' EE_tail ?ht ?_); (case ht => exact fun _ _ => rfl))
  | with_reducible refine' EE_sub ?_
  | ((with_reducible refine' EE_call ?hs ?hx ?he ?hk ?hd ?hne ?hc ?_); (case hs => assumption); (case hx => rfl); (case he => exact fun w => rfl); (case hk => exact fun w => rfl); (case hd => rfl); (case hne => rfl); (case hc => rfl))
  | ((with_reducible refine' EE_tup ?hn ?_); (case hn => rfl))
  | ((with_reducible refine' EE_lst ?hn ?_); (case hn => rfl))
  | ((with_reducible refine' EE_bl ?hc ?_); (case hc => exact ⟨_, rfl⟩)))
local macro_rules | `(tactic| walk_at "DB") => `(tactic| first
  | ((with_reducible refine' EB_cmp ?hb ?_); (case hb => rfl))
  | ((with_reducible refine' EB_cmp2 ?hb ?_); (case hb => rfl))
  | with_reducible refine' EB_not ?_
  | with_reducible refine' all_and ?_
  | with_reducible refine' all_or ?_
  | ((with_reducible refine' EB_plain ?he ?_); (case he => rfl)))
local macro_rules | `(tactic| walk_at "DO") => `(tactic| first
  | with_reducible refine' Bop_add ?_
  | with_reducible refine' Bop_sub ?_
  | with_reducible refine' Bop_and ?_
  | ((with_reducible refine' Bop_mul ?hm ?_); (case hm => first | assumption | (refine' mulOk ?_; omega)))
  | ((with_reducible refine' Bop_pow ?h0 ?hs ?_); (case h0 => first | decide | omega); (case hs => decide))
  | ((with_reducible refine' Bop_shr ?h0 ?_); (case h0 => omega))
  | ((with_reducible refine' Bop_shl ?h0 ?hs ?_); (case h0 => omega); (case hs => omega))
  | ((with_reducible refine' Iop_shl ?h0 ?hs ?_); (case h0 => omega); (case hs => omega))
  | ((with_reducible refine' Iop_shr ?h0 ?_); (case h0 => omega))
  | ((with_reducible refine' Bop_xorT ?h0 ?_); (case h0 => assumption))
  | with_reducible refine' Bop_xor ?_
  | with_reducible refine' Iop_add ?_
  | with_reducible refine' Iop_sub ?_
  | ((with_reducible refine' Iop_xorT ?h0 ?_); (case h0 => assumption))
  | with_reducible refine' Iop_xor ?_
  | with_reducible refine' Uop_neg ?_
  | with_reducible refine' Uop_not ?_
  | with_reducible refine' Tru_int ?_
  | with_reducible refine' Tru_bool ?_
  | with_reducible refine' Cop_eq ?_
  | with_reducible refine' Cop_ne ?_
  | with_reducible refine' Cop_lt ?_
  | with_reducible refine' Cop_le ?_
  | with_reducible refine' Cop_gt ?_
  | with_reducible refine' Cop_ge ?_
  | with_reducible refine' Cop_eqs ?_
  | with_reducible refine' Cop_eq4 ?_
  | ((with_reducible refine' Gop_shifts _ ?hs ?_); (case hs => exact fun _ _ _ => rfl))
  | ((with_reducible refine' Gop_list ?h1 ?h2 ?hd ?hs ?_); (case h1 => decide); (case h2 => decide); (case hd => exact rfl); (case hs => exact fun _ _ _ => rfl))
  | ((with_reducible refine' Gop_tup ?h1 ?h2 ?hj ?hd ?hs ?_); (case h1 => decide); (case h2 => decide); (case hj => exact rfl); (case hd => exact rfl); (case hs => exact fun _ _ _ => rfl)))
local macro_rules | `(tactic| walk_at "DI") => `(tactic| ((refine' And.intro (fun hb => ?_) (fun hb => ?_)) <;> (try simp only [Bool.not_eq_true', Bool.not_eq_false', bne_iff_ne, beq_iff_eq, beq_eq_false_iff_ne, bne_eq_false_iff_eq, decide_eq_true_eq, decide_eq_false_iff_not, ne_eq, Bool.and_eq_true, Bool.or_eq_true, gt_iff_lt, ge_iff_le, Int.not_lt, Int.not_le, Bool.not_eq_eq_eq_not, Bool.not_true, Bool.not_false, Decidable.not_not, reduceCtorEq, if_true, if_false, Bool.false_eq_true, ↓reduceIte] at hb) <;> (first | done | (exfalso; omega) | (exfalso; revert hb; decide) | skip)))
local macro_rules | `(tactic| walk_at "D1") => `(tactic| first
  | ((with_reducible show SS _ _ _ _ _); walk_at "DS")
  | ((with_reducible show S1 _ _ _ _ _); walk_at "DT")
  | ((with_reducible show EE _ _ _ _); walk_at "DE")
  | ((with_reducible show EB _ _ _ _); walk_at "DB")
  | ((with_reducible show EL _ _ _ _); (first | with_reducible refine' EL_cons ?_ | with_reducible refine' EL_nil ?_))
  | ((with_reducible show ForL _ _ _ _ _ _ _); first | refine' ForL_cons ?_ | refine' ForL_nil ?_)
  | ((with_reducible show And _ _); walk_at "DI")
  | refine' And.intro (Eq.refl _) ?_
  | ((with_reducible refine' And.intro ?ka ?_); (case ka => (simp only [beq_iff_eq, decide_eq_true_eq, ge_iff_le]; first | done | assumption | omega)))
  | ((with_reducible refine' And.intro ?ka ?_); (case ka => first | assumption | exact Or.inl rfl | exact Or.inr rfl))
  | with_reducible refine' Exists.intro _ (And.intro rfl ?_)
  | walk_at "DO")
theorem mpf_lt_ok (x y : Mpf) (hx : x.Ok) (hy : y.Ok) (N : Int) (hbx : Bd N x) (hby : Bd N y) (hN : 100 ≤ N ∧ N ≤ 10000000) : FnOK 58 8 [x.D, y.D] (fun d => d = .bool (decide (x.val < y.val))) := by
  have hc := mpf_cmp_ok x y hx hy N hbx hby hN
  obtain ⟨s, m, e, b⟩ := x
  obtain ⟨s', m', e', b'⟩ := y
  obtain ⟨h1, h2, h3, h4, h5⟩ := hx
  obtain ⟨g1, g2, g3, g4, g5⟩ := hy
  dsimp only at h1 h2 h3 h4 h5 g1 g2 g3 g4 g5
  refine FnOK_intro ["s", "t"] (σ0 := [("s", mD s m e b), ("t", mD s' m' e' b')]) (fun w => rfl) (fun w => rfl) (fun s vs w X hl => ⟨[], ?_, fun h => .nil⟩) (by decide) (by decide) rfl rfl rfl rfl (by decide) (fun c hr hs hL => ?_)
  · match vs, hl with
    | [_, _], _ => exact BindsTo.of_eq rfl
  · repeat' (walk_at "D1")
    refine Fn.use hc (by omega) fun d hd => ?_
    obtain ⟨r, rfl, hr'⟩ := hd
    repeat' (walk_at "D1")
    refine congrArg D.bool (decide_eq_decide.mpr ?_)
    have k1 := hr'.eq
    have k2 := hr'.lt
    generalize (Mpf.mk s m e b).val = u at *
    generalize (Mpf.mk s' m' e' b').val = v at *
    exact k2
theorem mpf_le_ok (x y : Mpf) (hx : x.Ok) (hy : y.Ok) (N : Int) (hbx : Bd N x) (hby : Bd N y) (hN : 100 ≤ N ∧ N ≤ 10000000) : FnOK 65 8 [x.D, y.D] (fun d => d = .bool (decide (x.val ≤ y.val))) := by
  have hc := mpf_cmp_ok x y hx hy N hbx hby hN
  obtain ⟨s, m, e, b⟩ := x
  obtain ⟨s', m', e', b'⟩ := y
  obtain ⟨h1, h2, h3, h4, h5⟩ := hx
  obtain ⟨g1, g2, g3, g4, g5⟩ := hy
  dsimp only at h1 h2 h3 h4 h5 g1 g2 g3 g4 g5
  refine FnOK_intro ["s", "t"] (σ0 := [("s", mD s m e b), ("t", mD s' m' e' b')]) (fun w => rfl) (fun w => rfl) (fun s vs w X hl => ⟨[], ?_, fun h => .nil⟩) (by decide) (by decide) rfl rfl rfl rfl (by decide) (fun c hr hs hL => ?_)
  · match vs, hl with
    | [_, _], _ => exact BindsTo.of_eq rfl
  · repeat' (walk_at "D1")
    refine Fn.use hc (by omega) fun d hd => ?_
    obtain ⟨r, rfl, hr'⟩ := hd
    repeat' (walk_at "D1")
    refine congrArg D.bool (decide_eq_decide.mpr ?_)
    have k1 := hr'.eq
    have k2 := hr'.lt
    generalize (Mpf.mk s m e b).val = u at *
    generalize (Mpf.mk s' m' e' b').val = v at *
    constructor <;> intro q <;> (rcases Int.lt_trichotomy r 0 with q1 | q1 | q1 <;> grind)
theorem mpf_gt_ok (x y : Mpf) (hx : x.Ok) (hy : y.Ok) (N : Int) (hbx : Bd N x) (hby : Bd N y) (hN : 100 ≤ N ∧ N ≤ 10000000) : FnOK 72 8 [x.D, y.D] (fun d => d = .bool (decide (y.val < x.val))) := by
  have hc := mpf_cmp_ok x y hx hy N hbx hby hN
  obtain ⟨s, m, e, b⟩ := x
  obtain ⟨s', m', e', b'⟩ := y
  obtain ⟨h1, h2, h3, h4, h5⟩ := hx
  obtain ⟨g1, g2, g3, g4, g5⟩ := hy
  dsimp only at h1 h2 h3 h4 h5 g1 g2 g3 g4 g5
  refine FnOK_intro ["s", "t"] (σ0 := [("s", mD s m e b), ("t", mD s' m' e' b')]) (fun w => rfl) (fun w => rfl) (fun s vs w X hl => ⟨[], ?_, fun h => .nil⟩) (by decide) (by decide) rfl rfl rfl rfl (by decide) (fun c hr hs hL => ?_)
  · match vs, hl with
    | [_, _], _ => exact BindsTo.of_eq rfl
  · repeat' (walk_at "D1")
    refine Fn.use hc (by omega) fun d hd => ?_
    obtain ⟨r, rfl, hr'⟩ := hd
    repeat' (walk_at "D1")
    refine congrArg D.bool (decide_eq_decide.mpr ?_)
    have k1 := hr'.eq
    have k2 := hr'.lt
    generalize (Mpf.mk s m e b).val = u at *
    generalize (Mpf.mk s' m' e' b').val = v at *
    constructor <;> intro q <;> (rcases Int.lt_trichotomy r 0 with q1 | q1 | q1 <;> grind)
theorem mpf_ge_ok (x y : Mpf) (hx : x.Ok) (hy : y.Ok) (N : Int) (hbx : Bd N x) (hby : Bd N y) (hN : 100 ≤ N ∧ N ≤ 10000000) : FnOK 79 8 [x.D, y.D] (fun d => d = .bool (decide (y.val ≤ x.val))) := by
  have hc := mpf_cmp_ok x y hx hy N hbx hby hN
  obtain ⟨s, m, e, b⟩ := x
  obtain ⟨s', m', e', b'⟩ := y
  obtain ⟨h1, h2, h3, h4, h5⟩ := hx
  obtain ⟨g1, g2, g3, g4, g5⟩ := hy
  dsimp only at h1 h2 h3 h4 h5 g1 g2 g3 g4 g5
  refine FnOK_intro ["s", "t"] (σ0 := [("s", mD s m e b), ("t", mD s' m' e' b')]) (fun w => rfl) (fun w => rfl) (fun s vs w X hl => ⟨[], ?_, fun h => .nil⟩) (by decide) (by decide) rfl rfl rfl rfl (by decide) (fun c hr hs hL => ?_)
  · match vs, hl with
    | [_, _], _ => exact BindsTo.of_eq rfl
  · repeat' (walk_at "D1")
    refine Fn.use hc (by omega) fun d hd => ?_
    obtain ⟨r, rfl, hr'⟩ := hd
    repeat' (walk_at "D1")
    refine congrArg D.bool (decide_eq_decide.mpr ?_)
    have k1 := hr'.eq
    have k2 := hr'.lt
    generalize (Mpf.mk s m e b).val = u at *
    generalize (Mpf.mk s' m' e' b').val = v at *
    constructor <;> intro q <;> (rcases Int.lt_trichotomy r 0 with q1 | q1 | q1 <;> grind)
end Mine
end
section
open PySem.Calls PySem.Spec
namespace Mine
local macro_rules | `(tactic| walk_at "DS") => `(tactic| first
  | with_reducible refine' SS_cons ?_
  | with_reducible refine' SS_nil ?_)
local macro_rules | `(tactic| walk_at "DT") => `(tactic| first
  | with_reducible refine' S_ret ?_
  | ((with_reducible refine' S_set ?hs ?hL ?hx ?hsw ?_); (case hs => assumption); (case hL => assumption); (case hx => rfl); (case hsw => rfl))
  | with_reducible refine' S_if ?_
  | ((with_reducible refine' S_aug ?hs ?hL ?hx ?hl ?_); (case hs => assumption); (case hL => assumption); (case hx => rfl); (case hl => rfl))
  | ((with_reducible refine' S_swapped ?hs ?hL ?hss ?hx ?hsw ?_); (case hs => assumption); (case hL => assumption); (case hss => (intro env h; cases env; cases h; rfl)); (case hx => decide); (case hsw => rfl))
  | ((with_reducible refine' S_unpack ?hs ?hL ?hn ?hx ?hsw ?hss ?_); (case hs => assumption); (case hL => assumption); (case hn => rfl); (case hx => decide); (case hsw => rfl); (case hss => rfl))
  | with_reducible refine' S_assert ?_
  | ((with_reducible refine' S_set2 ?hs ?hL ?hx ?ha ?hss ?_); (case hs => assumption); (case hL => assumption); (case hx => decide); (case ha => rfl); (case hss => rfl))
  | ((with_reducible refine' S_for ?hs ?hL ?hx ?hf ?_); (case hs => assumption); (case hL => assumption); (case hx => rfl); (case hf => exact fun _ => rfl)))
local macro_rules | `(tactic| walk_at "DE") => `(tactic| first
  | with_reducible refine' EE_int ?_
  | with_reducible refine' EE_str ?_
  | with_reducible refine' EE_boolc ?_
  | ((with_reducible refine' EE_loc ?hl ?hd ?_); (case hl => rfl); (case hd => rfl))
  | ((with_reducible refine' EE_gint ?hs ?hx ?he ?hd ?_); (case hs => assumption); (case hx => rfl); (case he => exact fun w => rfl); (case hd => rfl))
  | ((with_reducible refine' EE_gstr ?hs ?hx ?he ?hd ?_); (case hs => assumption); (case hx => rfl); (case he => exact fun w => rfl); (case hd => rfl))
  | ((with_reducible refine' EE_g4 ?hs ?hx ?he ?he2 ?hd ?_); (case hs => assumption); (case hx => rfl); (case he => exact fun w => rfl); (case he2 => exact fun w => rfl); (case hd => rfl))
  | ((with_reducible refine' EE_raw ?hs ?hx ?he ?hd ?_); (case hs => assumption); (case hx => rfl); (case he => exact fun w => rfl); (case hd => rfl))
  | with_reducible refine' EE_bin ?_
  | with_reducible refine' EE_un ?_
  | ((with_reducible refine' EE_cmp ?hb ?_); (case hb => rfl))
  | with_reducible refine' EE_ifexp ?_
  | with_reducible refine' EE_or ?_
  | with_reducible refine' EE_and ?_
  | ((with_reducible refine' EE_tail ?ht ?_); (case ht => exact fun _ _ => rfl))
  | with_reducible refine' EE_sub ?_
  | ((with_reducible refine' EE_call ?hs ?hx ?he ?hk ?hd ?hne ?hc ?_); (case hs => assumption); (case hx => rfl); (case he => exact fun w => rfl); (case hk => exact fun w => rfl); (case hd => rfl); (case hne => rfl); (case hc => rfl))
  | ((with_reducible refine' EE_tup ?hn ?_); (case hn => rfl))
  | ((with_reducible refine' EE_lst ?hn ?_); (case hn => rfl))
  | ((with_reducible refine' EE_bl ?hc ?_); (case hc => exact ⟨_, rfl⟩)))
local macro_rules | `(tactic| walk_at "DB") => `(tactic| first
  | ((with_reducible refine' EB_cmp ?hb ?_); (case hb => rfl))
  | ((with_reducible refine' EB_cmp2 ?hb ?_); (case hb => rfl))
  | with_reducible refine' EB_not ?_
  | with_reducible refine' all_and ?_
  | with_reducible refine' all_or ?_
  | ((with_reducible refine' EB_plain ?he ?_); (case he => rfl)))
local macro_rules | `(tactic| walk_at "DO") => `(tactic| first
  | with_reducible refine' Bop_add ?_
  | with_reducible refine' Bop_sub ?_
  | with_reducible refine' Bop_and ?_
  | ((with_reducible refine' Bop_mul ?hm ?_); (case hm => first | assumption | (refine' mulOk ?_; omega)))
  | ((with_reducible refine' Bop_pow ?h0 ?hs ?_); (case h0 => first | decide | omega); (case hs => decide))
  | ((with_reducible refine' Bop_shr ?h0 ?_); (case h0 => omega))
  | ((with_reducible refine' Bop_shl ?h0 ?hs ?_); (case h0 => omega); (case hs => omega))
  | ((with_reducible refine' Iop_shl ?h0 ?hs ?_); (case h0 => omega); (case hs => omega))
  | ((with_reducible refine' Iop_shr ?h0 ?_); (case h0 => omega))
  | ((with_reducible refine' Bop_xorT ?h0 ?_); (case h0 => assumption))
  | with_reducible refine' Bop_xor ?_
  | with_reducible refine' Iop_add ?_
  | with_reducible refine' Iop_sub ?_
  | ((with_reducible refine' Iop_xorT ?h0 ?_); (case h0 => assumption))
  | with_reducible refine' Iop_xor ?_
  | with_reducible refine' Uop_neg ?_
  | with_reducible refine' Uop_not ?_
  | with_reducible refine' Tru_int ?_
  | with_reducible refine' Tru_bool ?_
  | with_reducible refine' Cop_eq ?_
  | with_reducible refine' Cop_ne ?_
  | with_reducible refine' Cop_lt ?_
  | with_reducible refine' Cop_le ?_
  | with_reducible refine' Cop_gt ?_
  | with_reducible refine' Cop_ge ?_
  | with_reducible refine' Cop_eqs ?_
  | with_reducible refine' Cop_eq4 ?_
  | ((with_reducible refine' Gop_shifts _ ?hs ?_); (case hs => exact fun _ _ _ => rfl))
  | ((with_reducible refine' Gop_list ?h1 ?h2 ?hd ?hs ?_); (case h1 => decide); (case h2 => decide); (case hd => exact rfl); (case hs => exact fun _ _ _ => rfl))
  | ((with_reducible refine' Gop_tup ?h1 ?h2 ?hj ?hd ?hs ?_); (case h1 => decide); (case h2 => decide); (case hj => exact rfl); (case hd => exact rfl); (case hs => exact fun _ _ _ => rfl)))
local macro_rules | `(tactic| walk_at "DI") => `(tactic| ((refine' And.intro (fun hb => ?_) (fun hb => ?_)) <;> (try simp only [Bool.not_eq_true', Bool.not_eq_false', bne_iff_ne, beq_iff_eq, beq_eq_false_iff_ne, bne_eq_false_iff_eq, decide_eq_true_eq, decide_eq_false_iff_not, ne_eq, Bool.and_eq_true, Bool.or_eq_true, gt_iff_lt, ge_iff_le, Int.not_lt, Int.not_le, Bool.not_eq_eq_eq_not, Bool.not_true, Bool.not_false, Decidable.not_not, reduceCtorEq, if_true, if_false, Bool.false_eq_true, ↓reduceIte] at hb) <;> (first | done | (exfalso; omega) | (exfalso; revert hb; decide) | skip)))
local macro_rules | `(tactic| walk_at "D1") => `(tactic| first
  | ((with_reducible show SS _ _ _ _ _); walk_at "DS")
  | ((with_reducible show S1 _ _ _ _ _); walk_at "DT")
  | ((with_reducible show EE _ _ _ _); walk_at "DE")
  | ((with_reducible show EB _ _ _ _); walk_at "DB")
  | ((with_reducible show EL _ _ _ _); (first | with_reducible refine' EL_cons ?_ | with_reducible refine' EL_nil ?_))
  | ((with_reducible show ForL _ _ _ _ _ _ _); first | refine' ForL_cons ?_ | refine' ForL_nil ?_)
  | ((with_reducible show And _ _); walk_at "DI")
  | refine' And.intro (Eq.refl _) ?_
  | ((with_reducible refine' And.intro ?ka ?_); (case ka => (simp only [beq_iff_eq, decide_eq_true_eq, ge_iff_le]; first | done | assumption | omega)))
  | ((with_reducible refine' And.intro ?ka ?_); (case ka => first | assumption | exact Or.inl rfl | exact Or.inr rfl))
  | with_reducible refine' Exists.intro _ (And.intro rfl ?_)
  | walk_at "DO")
theorem mpf_min_max_ok (a : Mpf) (r : List Mpf) (hok : ∀ z ∈ a :: r, z.Ok) (N : Int) (hbd : ∀ z ∈ a :: r, Bd N z) (hN : 100 ≤ N ∧ N ≤ 10000000) (hlen : (a.D :: r.map Mpf.D).length = 2 ∨ (a.D :: r.map Mpf.D).length = 4) :
    FnOK 86 9 [.list (a.D :: r.map Mpf.D)] (fun d => ∃ x y : Mpf, d = .tup [x.D, y.D] ∧ x ∈ a :: r ∧ y ∈ a :: r ∧ ∀ z ∈ a :: r, x.val ≤ z.val ∧ z.val ≤ y.val) := by
  refine FnOK_intro ["seq"] (σ0 := [("seq", .list (a.D :: r.map Mpf.D))]) (fun w => rfl) (fun w => rfl) (fun s vs w X hl => ⟨[], ?_, fun h => .nil⟩) (by decide) (by decide) rfl rfl rfl rfl (by decide) (fun c hr hs hL => ?_)
  · match vs, hl with
    | [_], _ => exact BindsTo.of_eq rfl
  · repeat' (walk_at "D1")
    refine ForL_ind (α := Mpf) (β := Mpf × Mpf) Mpf.D (fun b => [("min", b.1.D), ("max", b.2.D)]) (fun pre b => b.1 ∈ a :: r ∧ b.2 ∈ a :: r ∧ ∀ z ∈ a :: pre, b.1.val ≤ z.val ∧ z.val ≤ b.2.val) r ?_ ?_ ?_
    · rintro pre z ⟨x, y⟩ hz ⟨hx, hy, hP⟩
      dsimp only at hx hy hP
      have hz' : z ∈ a :: r := .tail _ hz
      have hPz : ∀ x' y' : Mpf, (∀ q ∈ a :: pre, x'.val ≤ q.val ∧ q.val ≤ y'.val) → x'.val ≤ z.val → z.val ≤ y'.val → ∀ q ∈ a :: (pre ++ [z]), x'.val ≤ q.val ∧ q.val ≤ y'.val := fun x' y' h1 h2 h3 q hq => by
        rw [← List.cons_append, List.mem_append] at hq
        rcases hq with hq | hq
        · exact h1 q hq
        · rw [List.mem_singleton.mp hq]; exact ⟨h2, h3⟩
      repeat' (walk_at "D1")
      refine Fn.use (mpf_lt_ok z x (hok z hz') (hok x hx) N (hbd z hz') (hbd x hx) hN) (by omega) fun d hd => ?_
      subst hd
      repeat' (walk_at "D1")
      all_goals (
        refine Fn.use (mpf_gt_ok z y (hok z hz') (hok y hy) N (hbd z hz') (hbd y hy) hN) (by omega) fun d hd => ?_
        subst hd
        repeat' (walk_at "D1"))
      · rename_i q1 q2
        exact ⟨(z, z), ⟨hz', hz', hPz z z (fun q hq => ⟨by have := (hP q hq).1; grind, by have := (hP q hq).2; grind⟩) Rat.le_refl Rat.le_refl⟩, Sub.cons rfl (Sub.cons rfl Sub.nil)⟩
      · rename_i q1 q2
        exact ⟨(z, y), ⟨hz', hy, hPz z y (fun q hq => ⟨by have := (hP q hq).1; grind, (hP q hq).2⟩) Rat.le_refl (by grind)⟩, Sub.cons rfl (Sub.cons rfl Sub.nil)⟩
      · rename_i q1 q2
        exact ⟨(x, z), ⟨hx, hz', hPz x z (fun q hq => ⟨(hP q hq).1, by have := (hP q hq).2; grind⟩) (by grind) Rat.le_refl⟩, Sub.cons rfl (Sub.cons rfl Sub.nil)⟩
      · rename_i q1 q2
        exact ⟨(x, y), ⟨hx, hy, hPz x y hP (by grind) (by grind)⟩, Sub.cons rfl (Sub.cons rfl Sub.nil)⟩
    · rintro ⟨x, y⟩ σ' ⟨hx, hy, hP⟩ hsub
      refine SS_sub hsub ?_
      repeat' (walk_at "D1")
      exact ⟨x, y, rfl, hx, hy, hP⟩
    · exact ⟨(a, a), ⟨.head _, .head _, fun z hz => by rw [List.mem_singleton.mp hz]; exact ⟨Rat.le_refl, Rat.le_refl⟩⟩, Sub.cons rfl (Sub.cons rfl Sub.nil)⟩
end Mine
end
section
open PySem.Calls PySem.Spec
namespace Mine
local macro_rules | `(tactic| walk_at "DS") => `(tactic| first
  | with_reducible refine' SS_cons ?_
  | with_reducible refine' SS_nil ?_)
local macro_rules | `(tactic| walk_at "DT") => `(tactic| first
  | with_reducible refine' S_ret ?_
  | ((with_reducible refine' S_set ?hs ?hL ?hx ?hsw ?_); (case hs => assumption); (case hL => assumption); (case hx => rfl); (case hsw => rfl))
  | with_reducible refine' S_if ?_
  | ((with_reducible refine' S_aug ?hs ?hL ?hx ?hl ?_); (case hs => assumption); (case hL => assumption); (case hx => rfl); (case hl => rfl))
  | ((with_reducible refine' S_swapped ?hs ?hL ?hss ?hx ?hsw ?_); (case hs => assumption); (case hL => assumption); (case hss => (intro env h; cases env; cases h; rfl)); (case hx => decide); (case hsw => rfl))
  | ((with_reducible refine' S_unpack ?hs ?hL ?hn ?hx ?hsw ?hss ?_); (case hs => assumption); (case hL => assumption); (case hn => rfl); (case hx => decide); (case hsw => rfl); (case hss => rfl))
  | with_reducible refine' S_assert ?_
  | ((with_reducible refine' S_set2 ?hs ?hL ?hx ?ha ?hss ?_); (case hs => assumption); (case hL => assumption); (case hx => decide); (case ha => rfl); (case hss => rfl))
  | ((with_reducible refine' S_for ?hs ?hL ?hx ?hf ?_); (case hs => assumption); (case hL => assumption); (case hx => rfl); (case hf => exact fun _ => rfl)))
local macro_rules | `(tactic| walk_at "DE") => `(tactic| first
  | with_reducible refine' EE_int ?_
  | with_reducible refine' EE_str ?_
  | with_reducible refine' EE_boolc ?_
  | ((with_reducible refine' EE_loc ?hl ?hd ?_); (case hl => rfl); (case hd => rfl))
  | ((with_reducible refine' EE_gint ?hs ?hx ?he ?hd ?_); (case hs => assumption); (case hx => rfl); (case he => exact fun w => rfl); (case hd => rfl))
  | ((with_reducible refine' EE_gstr ?hs ?hx ?he ?hd ?_); (case hs => assumption); (case hx => rfl); (case he => exact fun w => rfl); (case hd => rfl))
  | ((with_reducible refine' EE_g4 ?hs ?hx ?he ?he2 ?hd ?_); (case hs => assumption); (case hx => rfl); (case he => exact fun w => rfl); (case he2 => exact fun w => rfl); (case hd => rfl))
  | ((with_reducible refine' EE_raw ?hs ?hx ?he ?hd ?_); (case hs => assumption); (case hx => rfl); (case he => exact fun w => rfl); (case hd => rfl))
  | with_reducible refine' EE_bin ?_
  | with_reducible refine' EE_un ?_
  | ((with_reducible refine' EE_cmp ?hb ?_); (case hb => rfl))
  | with_reducible refine' EE_ifexp ?_
  | with_reducible refine' EE_or ?_
  | with_reducible refine' EE_and ?_
  | ((with_reducible refine' EE_tail ?ht ?_); (case ht => exact fun _ _ => rfl))
  | with_reducible refine' EE_sub ?_
  | ((with_reducible refine' EE_call ?hs ?hx ?he ?hk ?hd ?hne ?hc ?_); (case hs => assumption); (case hx => rfl); (case he => exact fun w => rfl); (case hk => exact fun w => rfl); (case hd => rfl); (case hne => rfl); (case hc => rfl))
  | ((with_reducible refine' EE_tup ?hn ?_); (case hn => rfl))
  | ((with_reducible refine' EE_lst ?hn ?_); (case hn => rfl))
  | ((with_reducible refine' EE_bl ?hc ?_); (case hc => exact ⟨_, rfl⟩)))
local macro_rules | `(tactic| walk_at "DB") => `(tactic| first
  | ((with_reducible refine' EB_cmp ?hb ?_); (case hb => rfl))
  | ((with_reducible refine' EB_cmp2 ?hb ?_); (case hb => rfl))
  | with_reducible refine' EB_not ?_
  | with_reducible refine' all_and ?_
  | with_reducible refine' all_or ?_
  | ((with_reducible refine' EB_plain ?he ?_); (case he => rfl)))
local macro_rules | `(tactic| walk_at "DO") => `(tactic| first
  | with_reducible refine' Bop_add ?_
  | with_reducible refine' Bop_sub ?_
  | with_reducible refine' Bop_and ?_
  | ((with_reducible refine' Bop_mul ?hm ?_); (case hm => first | assumption | (refine' mulOk ?_; omega)))
  | ((with_reducible refine' Bop_pow ?h0 ?hs ?_); (case h0 => first | decide | omega); (case hs => decide))
  | ((with_reducible refine' Bop_shr ?h0 ?_); (case h0 => omega))
  | ((with_reducible refine' Bop_shl ?h0 ?hs ?_); (case h0 => omega); (case hs => omega))
  | ((with_reducible refine' Iop_shl ?h0 ?hs ?_); (case h0 => omega); (case hs => omega))
  | ((with_reducible refine' Iop_shr ?h0 ?_); (case h0 => omega))
  | ((with_reducible refine' Bop_xorT ?h0 ?_); (case h0 => assumption))
  | with_reducible refine' Bop_xor ?_
  | with_reducible refine' Iop_add ?_
  | with_reducible refine' Iop_sub ?_
  | ((with_reducible refine' Iop_xorT ?h0 ?_); (case h0 => assumption))
  | with_reducible refine' Iop_xor ?_
  | with_reducible refine' Uop_neg ?_
  | with_reducible refine' Uop_not ?_
  | with_reducible refine' Tru_int ?_
  | with_reducible refine' Tru_bool ?_
  | with_reducible refine' Cop_eq ?_
  | with_reducible refine' Cop_ne ?_
  | with_reducible refine' Cop_lt ?_
  | with_reducible refine' Cop_le ?_
  | with_reducible refine' Cop_gt ?_
  | with_reducible refine' Cop_ge ?_
  | with_reducible refine' Cop_eqs ?_
  | with_reducible refine' Cop_eq4 ?_
  | ((with_reducible refine' Gop_shifts _ ?hs ?_); (case hs => exact fun _ _ _ => rfl))
  | ((with_reducible refine' Gop_list ?h1 ?h2 ?hd ?hs ?_); (case h1 => decide); (case h2 => decide); (case hd => exact rfl); (case hs => exact fun _ _ _ => rfl))
  | ((with_reducible refine' Gop_tup ?h1 ?h2 ?hj ?hd ?hs ?_); (case h1 => decide); (case h2 => decide); (case hj => exact rfl); (case hd => exact rfl); (case hs => exact fun _ _ _ => rfl)))
local macro_rules | `(tactic| walk_at "DI") => `(tactic| ((refine' And.intro (fun hb => ?_) (fun hb => ?_)) <;> (try simp only [Bool.not_eq_true', Bool.not_eq_false', bne_iff_ne, beq_iff_eq, beq_eq_false_iff_ne, bne_eq_false_iff_eq, decide_eq_true_eq, decide_eq_false_iff_not, ne_eq, Bool.and_eq_true, Bool.or_eq_true, gt_iff_lt, ge_iff_le, Int.not_lt, Int.not_le, Bool.not_eq_eq_eq_not, Bool.not_true, Bool.not_false, Decidable.not_not, reduceCtorEq, if_true, if_false, Bool.false_eq_true, ↓reduceIte] at hb) <;> (first | done | (exfalso; omega) | (exfalso; revert hb; decide) | skip)))
local macro_rules | `(tactic| walk_at "D1") => `(tactic| first
  | ((with_reducible show SS _ _ _ _ _); walk_at "DS")
  | ((with_reducible show S1 _ _ _ _ _); walk_at "DT")
  | ((with_reducible show EE _ _ _ _); walk_at "DE")
  | ((with_reducible show EB _ _ _ _); walk_at "DB")
  | ((with_reducible show EL _ _ _ _); (first | with_reducible refine' EL_cons ?_ | with_reducible refine' EL_nil ?_))
  | ((with_reducible show ForL _ _ _ _ _ _ _); first | refine' ForL_cons ?_ | refine' ForL_nil ?_)
  | ((with_reducible show And _ _); walk_at "DI")
  | refine' And.intro (Eq.refl _) ?_
  | ((with_reducible refine' And.intro ?ka ?_); (case ka => (simp only [beq_iff_eq, decide_eq_true_eq, ge_iff_le]; first | done | assumption | omega)))
  | ((with_reducible refine' And.intro ?ka ?_); (case ka => first | assumption | exact Or.inl rfl | exact Or.inr rfl))
  | with_reducible refine' Exists.intro _ (And.intro rfl ?_)
  | walk_at "DO")
theorem Res.more {p : Int} {up : Bool} {v : Rat} {N N' : Int} {y : Mpf} (h : Res p up v N y) (k : N ≤ N') : Res p up v N' y :=
  ⟨h.ok, h.rnd, ⟨by have := h.bd.b; omega, by have := h.bd.lo; omega, by have := h.bd.hi; omega⟩⟩
/-- two ends -/
abbrev iD (a b : Mpf) : D := .tup [a.D, b.D]
structure In (N p : Int) (a b : Mpf) : Prop where
  oa : a.Ok
  ob : b.Ok
  le : a.val ≤ b.val
  ba : Bd N a
  bb : Bd N b
  cut : 0 < p → a.b ≤ 100 ∧ b.b ≤ 100
theorem mpi_add_ok (a b a' b' : Mpf) (p N : Int) (hp : 0 ≤ p ∧ p ≤ 100) (hN : 100 ≤ N ∧ N ≤ 2000000) (I : In N p a b) (J : In N p a' b') :
    FnOK 141 10 [iD a b, iD a' b', .int p] (fun d => ∃ u v : Mpf, d = iD u v ∧ Res p false (a.val + a'.val) (10 * N) u ∧ Res p true (b.val + b'.val) (10 * N) v) := by
  have hN2 : 100 ≤ N ∧ N ≤ 10000000 := by omega
  refine FnOK_intro ["s", "t", "prec"] (σ0 := [("s", iD a b), ("t", iD a' b'), ("prec", .int p)]) (fun w => rfl) (fun w => rfl) (fun s vs w X hl => ⟨[], ?_, fun h => .nil⟩) (by decide) (by decide) rfl rfl rfl rfl (by decide) (fun c hr hs hL => ?_)
  · match vs, hl with
    | [_, _, _], _ => exact binds_K X rfl rfl rfl rfl rfl
  · repeat' (walk_at "D1")
    refine Fn.use (mpf_add_ok a a' I.oa J.oa p N false hp I.ba J.ba hN2 (fun q => .inl ⟨(I.cut q).1, (J.cut q).1⟩)) (by omega) fun d hd => ?_
    obtain ⟨u, rfl, hu⟩ := hd
    repeat' (walk_at "D1")
    refine Fn.use (mpf_add_ok b b' I.ob J.ob p N true hp I.bb J.bb hN2 (fun q => .inl ⟨(I.cut q).2, (J.cut q).2⟩)) (by omega) fun d hd => ?_
    obtain ⟨v, rfl, hv⟩ := hd
    have zu := hu.ok.zz
    have zv := hv.ok.zz
    repeat' (walk_at "D1")
    exact ⟨u, v, rfl, hu.more (by omega), hv.more (by omega)⟩
theorem mpi_sub_ok (a b a' b' : Mpf) (p N : Int) (hp : 0 ≤ p ∧ p ≤ 100) (hN : 100 ≤ N ∧ N ≤ 2000000) (I : In N p a b) (J : In N p a' b') :
    FnOK 149 10 [iD a b, iD a' b', .int p] (fun d => ∃ u v : Mpf, d = iD u v ∧ Res p false (a.val - b'.val) (10 * N) u ∧ Res p true (b.val - a'.val) (10 * N) v) := by
  have hN2 : 100 ≤ N ∧ N ≤ 10000000 := by omega
  refine FnOK_intro ["s", "t", "prec"] (σ0 := [("s", iD a b), ("t", iD a' b'), ("prec", .int p)]) (fun w => rfl) (fun w => rfl) (fun s vs w X hl => ⟨[], ?_, fun h => .nil⟩) (by decide) (by decide) rfl rfl rfl rfl (by decide) (fun c hr hs hL => ?_)
  · match vs, hl with
    | [_, _, _], _ => exact binds_K X rfl rfl rfl rfl rfl
  · repeat' (walk_at "D1")
    refine Fn.use (mpf_sub_ok a b' I.oa J.ob p N false hp I.ba J.bb hN2 (fun q => .inl ⟨(I.cut q).1, (J.cut q).2⟩)) (by omega) fun d hd => ?_
    obtain ⟨u, rfl, hu⟩ := hd
    repeat' (walk_at "D1")
    refine Fn.use (mpf_sub_ok b a' I.ob J.oa p N true hp I.bb J.ba hN2 (fun q => .inl ⟨(I.cut q).2, (J.cut q).1⟩)) (by omega) fun d hd => ?_
    obtain ⟨v, rfl, hv⟩ := hd
    have zu := hu.ok.zz
    have zv := hv.ok.zz
    repeat' (walk_at "D1")
    exact ⟨u, v, rfl, hu.more (by omega), hv.more (by omega)⟩
theorem mpi_pos_ok (a b : Mpf) (p N : Int) (hp : 0 ≤ p ∧ p ≤ 100) (hN : 100 ≤ N ∧ N ≤ 2000000) (I : In N p a b) :
    FnOK 156 10 [iD a b, .int p] (fun d => ∃ u v : Mpf, d = iD u v ∧ Res p false a.val (10 * N) u ∧ Res p true b.val (10 * N) v) := by
  have hN2 : 100 ≤ N ∧ N ≤ 10000000 := by omega
  refine FnOK_intro ["s", "prec"] (σ0 := [("s", iD a b), ("prec", .int p)]) (fun w => rfl) (fun w => rfl) (fun s vs w X hl => ⟨[], ?_, fun h => .nil⟩) (by decide) (by decide) rfl rfl rfl rfl (by decide) (fun c hr hs hL => ?_)
  · match vs, hl with
    | [_, _], _ => exact BindsTo.of_eq rfl
  · repeat' (walk_at "D1")
    refine Fn.use (mpf_pos_ok a I.oa p N false hp.1 I.ba (by omega)) (by omega) fun d hd => ?_
    obtain ⟨u, rfl, hu⟩ := hd
    repeat' (walk_at "D1")
    refine Fn.use (mpf_pos_ok b I.ob p N true hp.1 I.bb (by omega)) (by omega) fun d hd => ?_
    obtain ⟨v, rfl, hv⟩ := hd
    repeat' (walk_at "D1")
    exact ⟨u, v, rfl, hu.more (by omega), hv.more (by omega)⟩
theorem mpi_neg_ok (a b : Mpf) (p N : Int) (hp : 0 ≤ p ∧ p ≤ 100) (hN : 100 ≤ N ∧ N ≤ 2000000) (I : In N p a b) :
    FnOK 164 10 [iD a b, .int p] (fun d => ∃ u v : Mpf, d = iD u v ∧ Res p false (-b.val) (10 * N) u ∧ Res p true (-a.val) (10 * N) v) := by
  have hN2 : 100 ≤ N ∧ N ≤ 10000000 := by omega
  refine FnOK_intro ["s", "prec"] (σ0 := [("s", iD a b), ("prec", .int p)]) (fun w => rfl) (fun w => rfl) (fun s vs w X hl => ⟨[], ?_, fun h => .nil⟩) (by decide) (by decide) rfl rfl rfl rfl (by decide) (fun c hr hs hL => ?_)
  · match vs, hl with
    | [_, _], _ => exact binds_K X rfl rfl rfl rfl rfl
  · repeat' (walk_at "D1")
    refine Fn.use (mpf_neg_ok b I.ob p N false hp.1 I.bb (by omega)) (by omega) fun d hd => ?_
    obtain ⟨u, rfl, hu⟩ := hd
    repeat' (walk_at "D1")
    refine Fn.use (mpf_neg_ok a I.oa p N true hp.1 I.ba (by omega)) (by omega) fun d hd => ?_
    obtain ⟨v, rfl, hv⟩ := hd
    repeat' (walk_at "D1")
    exact ⟨u, v, rfl, hu.more (by omega), hv.more (by omega)⟩
end Mine
end
section
open PySem.Calls PySem.Spec
namespace Mine
local macro_rules | `(tactic| walk_at "DS") => `(tactic| first
  | with_reducible refine' SS_cons ?_
  | with_reducible refine' SS_nil ?_)
local macro_rules | `(tactic| walk_at "DT") => `(tactic| first
  | with_reducible refine' S_ret ?_
  | ((with_reducible refine' S_set ?hs ?hL ?hx ?hsw ?_); (case hs => assumption); (case hL => assumption); (case hx => rfl); (case hsw => rfl))
  | with_reducible refine' S_if ?_
  | ((with_reducible refine' S_aug ?hs ?hL ?hx ?hl ?_); (case hs => assumption); (case hL => assumption); (case hx => rfl); (case hl => rfl))
  | ((with_reducible refine' S_swapped ?hs ?hL ?hss ?hx ?hsw ?_); (case hs => assumption); (case hL => assumption); (case hss => (intro env h; cases env; cases h; rfl)); (case hx => decide); (case hsw => rfl))
  | ((with_reducible refine' S_unpack ?hs ?hL ?hn ?hx ?hsw ?hss ?_); (case hs => assumption); (case hL => assumption); (case hn => rfl); (case hx => decide); (case hsw => rfl); (case hss => rfl))
  | with_reducible refine' S_assert ?_
  | ((with_reducible refine' S_set2 ?hs ?hL ?hx ?ha ?hss ?_); (case hs => assumption); (case hL => assumption); (case hx => decide); (case ha => rfl); (case hss => rfl))
  | ((with_reducible refine' S_for ?hs ?hL ?hx ?hf ?_); (case hs => assumption); (case hL => assumption); (case hx => rfl); (case hf => exact fun _ => rfl)))
local macro_rules | `(tactic| walk_at "DE") => `(tactic| first
  | with_reducible refine' EE_int ?_
  | with_reducible refine' EE_str ?_
  | with_reducible refine' EE_boolc ?_
  | ((with_reducible refine' EE_loc ?hl ?hd ?_); (case hl => rfl); (case hd => rfl))
  | ((with_reducible refine' EE_gint ?hs ?hx ?he ?hd ?_); (case hs => assumption); (case hx => rfl); (case he => exact fun w => rfl); (case hd => rfl))
  | ((with_reducible refine' EE_gstr ?hs ?hx ?he ?hd ?_); (case hs => assumption); (case hx => rfl); (case he => exact fun w => rfl); (case hd => rfl))
  | ((with_reducible refine' EE_g4 ?hs ?hx ?he ?he2 ?hd ?_); (case hs => assumption); (case hx => rfl); (case he => exact fun w => rfl); (case he2 => exact fun w => rfl); (case hd => rfl))
  | ((with_reducible refine' EE_raw ?hs ?hx ?he ?hd ?_); (case hs => assumption); (case hx => rfl); (case he => exact fun w => rfl); (case hd => rfl))
  | with_reducible refine' EE_bin ?_
  | with_reducible refine' EE_un ?_
  | ((with_reducible refine' EE_cmp ?hb ?_); (case hb => rfl))
  | with_reducible refine' EE_ifexp ?_
  | with_reducible refine' EE_or ?_
  | with_reducible refine' EE_and ?_
  | ((with_reducible refine' EE_tail ?ht ?_); (case ht => exact fun _ _ => rfl))
  | with_reducible refine' EE_sub ?_
  | ((with_reducible refine' EE_call ?hs ?hx ?he ?hk ?hd ?hne ?hc ?_); (case hs => assumption); (case hx => rfl); (case he => exact fun w => rfl); (case hk => exact fun w => rfl); (case hd => rfl); (case hne => rfl); (case hc => rfl))
  | ((with_reducible refine' EE_tup ?hn ?_); (case hn => rfl))
  | ((with_reducible refine' EE_lst ?hn ?_); (case hn => rfl))
  | ((with_reducible refine' EE_bl ?hc ?_); (case hc => exact ⟨_, rfl⟩)))
local macro_rules | `(tactic| walk_at "DB") => `(tactic| first
  | ((with_reducible refine' EB_cmp ?hb ?_); (case hb => rfl))
  | ((with_reducible refine' EB_cmp2 ?hb ?_); (case hb => rfl))
  | with_reducible refine' EB_not ?_
  | with_reducible refine' all_and ?_
  | with_reducible refine' all_or ?_
  | ((with_reducible refine' EB_plain ?he ?_); (case he => rfl)))
local macro_rules | `(tactic| walk_at "DO") => `(tactic| first
  | with_reducible refine' Bop_add ?_
  | with_reducible refine' Bop_sub ?_
  | with_reducible refine' Bop_and ?_
  | ((with_reducible refine' Bop_mul ?hm ?_); (case hm => first | assumption | (refine' mulOk ?_; omega)))
  | ((with_reducible refine' Bop_pow ?h0 ?hs ?_); (case h0 => first | decide | omega); (case hs => decide))
  | ((with_reducible refine' Bop_shr ?h0 ?_); (case h0 => omega))
  | ((with_reducible refine' Bop_shl ?h0 ?hs ?_); (case h0 => omega); (case hs => omega))
  | ((with_reducible refine' Iop_shl ?h0 ?hs ?_); (case h0 => omega); (case hs => omega))
  | ((with_reducible refine' Iop_shr ?h0 ?_); (case h0 => omega))
  | ((with_reducible refine' Bop_xorT ?h0 ?_); (case h0 => assumption))
  | with_reducible refine' Bop_xor ?_
  | with_reducible refine' Iop_add ?_
  | with_reducible refine' Iop_sub ?_
  | ((with_reducible refine' Iop_xorT ?h0 ?_); (case h0 => assumption))
  | with_reducible refine' Iop_xor ?_
  | with_reducible refine' Uop_neg ?_
  | with_reducible refine' Uop_not ?_
  | with_reducible refine' Tru_int ?_
  | with_reducible refine' Tru_bool ?_
  | with_reducible refine' Cop_eq ?_
  | with_reducible refine' Cop_ne ?_
  | with_reducible refine' Cop_lt ?_
  | with_reducible refine' Cop_le ?_
  | with_reducible refine' Cop_gt ?_
  | with_reducible refine' Cop_ge ?_
  | with_reducible refine' Cop_eqs ?_
  | with_reducible refine' Cop_eq4 ?_
  | ((with_reducible refine' Gop_shifts _ ?hs ?_); (case hs => exact fun _ _ _ => rfl))
  | ((with_reducible refine' Gop_list ?h1 ?h2 ?hd ?hs ?_); (case h1 => decide); (case h2 => decide); (case hd => exact rfl); (case hs => exact fun _ _ _ => rfl))
  | ((with_reducible refine' Gop_tup ?h1 ?h2 ?hj ?hd ?hs ?_); (case h1 => decide); (case h2 => decide); (case hj => exact rfl); (case hd => exact rfl); (case hs => exact fun _ _ _ => rfl)))
local macro_rules | `(tactic| walk_at "DI") => `(tactic| ((refine' And.intro (fun hb => ?_) (fun hb => ?_)) <;> (try simp only [Bool.not_eq_true', Bool.not_eq_false', bne_iff_ne, beq_iff_eq, beq_eq_false_iff_ne, bne_eq_false_iff_eq, decide_eq_true_eq, decide_eq_false_iff_not, ne_eq, Bool.and_eq_true, Bool.or_eq_true, gt_iff_lt, ge_iff_le, Int.not_lt, Int.not_le, Bool.not_eq_eq_eq_not, Bool.not_true, Bool.not_false, Decidable.not_not, reduceCtorEq, if_true, if_false, Bool.false_eq_true, ↓reduceIte] at hb) <;> (first | done | (exfalso; omega) | (exfalso; revert hb; decide) | skip)))
local macro_rules | `(tactic| walk_at "D1") => `(tactic| first
  | ((with_reducible show SS _ _ _ _ _); walk_at "DS")
  | ((with_reducible show S1 _ _ _ _ _); walk_at "DT")
  | ((with_reducible show EE _ _ _ _); walk_at "DE")
  | ((with_reducible show EB _ _ _ _); walk_at "DB")
  | ((with_reducible show EL _ _ _ _); (first | with_reducible refine' EL_cons ?_ | with_reducible refine' EL_nil ?_))
  | ((with_reducible show ForL _ _ _ _ _ _ _); first | refine' ForL_cons ?_ | refine' ForL_nil ?_)
  | ((with_reducible show And _ _); walk_at "DI")
  | refine' And.intro (Eq.refl _) ?_
  | ((with_reducible refine' And.intro ?ka ?_); (case ka => (simp only [beq_iff_eq, decide_eq_true_eq, ge_iff_le]; first | done | assumption | omega)))
  | ((with_reducible refine' And.intro ?ka ?_); (case ka => first | assumption | exact Or.inl rfl | exact Or.inr rfl))
  | with_reducible refine' Exists.intro _ (And.intro rfl ?_)
  | walk_at "DO")
theorem zero_val : (Mpf.mk 0 0 0 0).val = 0 := rv_zero 0 0
theorem zero_res {p N : Int} {up : Bool} (hN : 0 ≤ N) : Res p up 0 N ⟨0, 0, 0, 0⟩ := res_zero zero_ok rfl rfl hN
theorem mpi_abs_ok (a b : Mpf) (a' b' : Rat) (h' : a' ≤ b') (p N : Int) (hp : 0 ≤ p ∧ p ≤ 100) (hN : 100 ≤ N ∧ N ≤ 2000000) (I : In N p a b) :
    FnOK 172 10 [iD a b, .int p] (fun d => ∃ u v : Mpf, ∃ L H : Rat, d = iD u v ∧ Res p false L (10 * N) u ∧ Res p true H (10 * N) v ∧ Hull (fun x _ => qabs x) a.val b.val a' b' L H) := by
  have hN2 : 100 ≤ N ∧ N ≤ 10000000 := by omega
  have sa := sign_val I.oa
  have sb := sign_val I.ob
  have na := Mpf.neg_ok I.oa
  have nv := Mpf.neg_val I.oa
  have nb := Mpf.neg_bd I.ba
  have hle := I.le
  refine FnOK_intro ["s", "prec"] (σ0 := [("s", iD a b), ("prec", .int p)]) (fun w => rfl) (fun w => rfl) (fun s vs w X hl => ⟨[], ?_, fun h => .nil⟩) (by decide) (by decide) rfl rfl rfl rfl (by decide) (fun c hr hs hL => ?_)
  · match vs, hl with
    | [_, _], _ => exact binds_K X rfl rfl rfl rfl rfl
  · repeat' (walk_at "D1")
    refine Fn.use (mpf_sign_ok a I.oa) (by omega) fun d hd => ?_
    subst hd
    repeat' (walk_at "D1")
    refine Fn.use (mpf_sign_ok b I.ob) (by omega) fun d hd => ?_
    subst hd
    repeat' (walk_at "D1")
    · rename_i q
      have q' : 0 ≤ a.val := by rcases sa with ⟨k, _⟩ | ⟨_, k⟩ | ⟨k, _⟩ <;> first | grind | omega
      refine Fn.use (mpf_pos_ok a I.oa p N false hp.1 I.ba (by omega)) (by omega) fun d hd => ?_
      obtain ⟨u, rfl, hu⟩ := hd
      repeat' (walk_at "D1")
      refine Fn.use (mpf_pos_ok b I.ob p N true hp.1 I.bb (by omega)) (by omega) fun d hd => ?_
      obtain ⟨v, rfl, hv⟩ := hd
      repeat' (walk_at "D1")
      exact ⟨u, v, _, _, rfl, hu.more (by omega), hv.more (by omega), abs_hull hle h' (.inl ⟨q', rfl, rfl⟩)⟩
    · rename_i q1 q2
      have q1' : a.val < 0 := by rcases sa with ⟨_, k⟩ | ⟨k, _⟩ | ⟨_, k⟩ <;> first | exact k | omega
      have q2' : 0 ≤ b.val := by rcases sb with ⟨k, _⟩ | ⟨_, k⟩ | ⟨k, _⟩ <;> first | grind | omega
      refine Fn.use (mpf_neg1_ok a I.oa) (by omega) fun d hd => ?_
      subst hd
      repeat' (walk_at "D1")
      refine Fn.use (mpf_lt_ok a.neg b na I.ob N nb I.bb hN2) (by omega) fun d hd => ?_
      subst hd
      repeat' (walk_at "D1")
      · rename_i q3
        rw [nv] at q3
        refine Fn.use (mpf_pos_ok b I.ob p N true hp.1 I.bb (by omega)) (by omega) fun d hd => ?_
        obtain ⟨v, rfl, hv⟩ := hd
        repeat' (walk_at "D1")
        exact ⟨⟨0, 0, 0, 0⟩, v, 0, _, rfl, zero_res (by omega), hv.more (by omega), abs_hull hle h' (.inr (.inl ⟨q1', q2', rfl, .inl ⟨rfl, Rat.le_of_lt q3⟩⟩))⟩
      · rename_i q3
        rw [nv] at q3
        refine Fn.use (mpf_pos_ok a.neg na p N true hp.1 nb (by omega)) (by omega) fun d hd => ?_
        obtain ⟨v, rfl, hv⟩ := hd
        repeat' (walk_at "D1")
        exact ⟨⟨0, 0, 0, 0⟩, v, 0, _, rfl, zero_res (by omega), hv.more (by omega), abs_hull hle h' (.inr (.inl ⟨q1', q2', rfl, .inr ⟨nv, by grind⟩⟩))⟩
    · rename_i q1 q2
      have q2' : b.val < 0 := by rcases sb with ⟨_, k⟩ | ⟨k, _⟩ | ⟨_, k⟩ <;> first | exact k | omega
      refine Fn.use (mpf_neg_ok b I.ob p N false hp.1 I.bb (by omega)) (by omega) fun d hd => ?_
      obtain ⟨u, rfl, hu⟩ := hd
      repeat' (walk_at "D1")
      refine Fn.use (mpf_neg_ok a I.oa p N true hp.1 I.ba (by omega)) (by omega) fun d hd => ?_
      obtain ⟨v, rfl, hv⟩ := hd
      repeat' (walk_at "D1")
      exact ⟨u, v, _, _, rfl, hu.more (by omega), hv.more (by omega), abs_hull hle h' (.inr (.inr ⟨q2', rfl, rfl⟩))⟩
theorem mpi_square_ok (a b : Mpf) (a' b' : Rat) (h' : a' ≤ b') (p N : Int) (hp : 0 ≤ p ∧ p ≤ 100) (hN : 100 ≤ N ∧ N ≤ 2000000) (I : In N p a b) :
    FnOK 188 10 [iD a b, .int p] (fun d => ∃ u v : Mpf, ∃ L H : Rat, d = iD u v ∧ Res p false L (10 * N) u ∧ Res p true H (10 * N) v ∧ Hull (fun x _ => x * x) a.val b.val a' b' L H) := by
  have hN2 : 100 ≤ N ∧ N ≤ 10000000 := by omega
  have na := Mpf.neg_ok I.oa
  have nv := Mpf.neg_val I.oa
  have nb := Mpf.neg_bd I.ba
  have hle := I.le
  have zb : Bd N ⟨0, 0, 0, 0⟩ := ⟨by show (0 : Int) ≤ N; omega, by show -N ≤ (0 : Int); omega, by show (0 : Int) ≤ N; omega⟩
  refine FnOK_intro ["s", "prec"] (σ0 := [("s", iD a b), ("prec", .int p)]) (fun w => rfl) (fun w => rfl) (fun s vs w X hl => ⟨[], ?_, fun h => .nil⟩) (by decide) (by decide) rfl rfl rfl rfl (by decide) (fun c hr hs hL => ?_)
  · match vs, hl with
    | [_, _], _ => exact binds_K X rfl rfl rfl rfl rfl
  · repeat' (walk_at "D1")
    refine Fn.use (mpf_ge_ok a ⟨0, 0, 0, 0⟩ I.oa zero_ok N I.ba zb hN2) (by omega) fun d hd => ?_
    subst hd
    repeat' (walk_at "D1")
    · rename_i q
      rw [zero_val] at q
      refine Fn.use (mpf_mul_ok a a I.oa I.oa p N false hp.1 I.ba I.ba hN2) (by omega) fun d hd => ?_
      obtain ⟨u, rfl, hu⟩ := hd
      repeat' (walk_at "D1")
      refine Fn.use (mpf_mul_ok b b I.ob I.ob p N true hp.1 I.bb I.bb hN2) (by omega) fun d hd => ?_
      obtain ⟨v, rfl, hv⟩ := hd
      repeat' (walk_at "D1")
      exact ⟨u, v, _, _, rfl, hu.more (by omega), hv.more (by omega), sq_hull hle h' (.inl ⟨q, rfl, rfl⟩)⟩
    · rename_i q
      rw [zero_val] at q
      refine Fn.use (mpf_le_ok b ⟨0, 0, 0, 0⟩ I.ob zero_ok N I.bb zb hN2) (by omega) fun d hd => ?_
      subst hd
      repeat' (walk_at "D1")
      · rename_i q2
        rw [zero_val] at q2
        refine Fn.use (mpf_mul_ok b b I.ob I.ob p N false hp.1 I.bb I.bb hN2) (by omega) fun d hd => ?_
        obtain ⟨u, rfl, hu⟩ := hd
        repeat' (walk_at "D1")
        refine Fn.use (mpf_mul_ok a a I.oa I.oa p N true hp.1 I.ba I.ba hN2) (by omega) fun d hd => ?_
        obtain ⟨v, rfl, hv⟩ := hd
        repeat' (walk_at "D1")
        exact ⟨u, v, _, _, rfl, hu.more (by omega), hv.more (by omega), sq_hull hle h' (.inr (.inl ⟨q2, rfl, rfl⟩))⟩
      · rename_i q2
        rw [zero_val] at q2
        refine Fn.use (mpf_neg1_ok a I.oa) (by omega) fun d hd => ?_
        subst hd
        repeat' (walk_at "D1")
        refine Fn.use (mpf_min_max_ok a.neg [b] (fun z hz => ?_) N (fun z hz => ?_) hN2 (.inl rfl)) (by omega) fun d hd => ?_
        · rcases List.mem_cons.mp hz with rfl | hz
          · exact na
          · rw [List.mem_singleton.mp hz]; exact I.ob
        · rcases List.mem_cons.mp hz with rfl | hz
          · exact nb
          · rw [List.mem_singleton.mp hz]; exact I.bb
        obtain ⟨x, y, rfl, hx, hy, hall⟩ := hd
        have y1 := (hall a.neg (.head _)).2
        have y2 := (hall b (.tail _ (.head _))).2
        have oy : y.Ok := by
          rcases List.mem_cons.mp hy with rfl | hz
          · exact na
          · rw [List.mem_singleton.mp hz]; exact I.ob
        have by' : Bd N y := by
          rcases List.mem_cons.mp hy with rfl | hz
          · exact nb
          · rw [List.mem_singleton.mp hz]; exact I.bb
        repeat' (walk_at "D1")
        refine Fn.use (mpf_mul_ok y y oy oy p N true hp.1 by' by' hN2) (by omega) fun d hd => ?_
        obtain ⟨v, rfl, hv⟩ := hd
        repeat' (walk_at "D1")
        refine ⟨⟨0, 0, 0, 0⟩, v, 0, _, rfl, zero_res (by omega), hv.more (by omega), sq_hull hle h' (.inr (.inr ⟨by grind, by grind, rfl, ?_⟩))⟩
        rw [nv] at y1
        rcases List.mem_cons.mp hy with rfl | hz
        · refine .inr ⟨?_, ?_⟩
          · rw [nv]; exact sq_neg _
          · rw [nv] at y2; exact y2
        · rw [List.mem_singleton.mp hz] at y1 ⊢
          exact .inl ⟨rfl, y1⟩
end Mine
end
section
open PySem.Calls PySem.Spec
namespace Mine
local macro_rules | `(tactic| walk_at "DS") => `(tactic| first
  | with_reducible refine' SS_cons ?_
  | with_reducible refine' SS_nil ?_)
local macro_rules | `(tactic| walk_at "DT") => `(tactic| first
  | with_reducible refine' S_ret ?_
  | ((with_reducible refine' S_set ?hs ?hL ?hx ?hsw ?_); (case hs => assumption); (case hL => assumption); (case hx => rfl); (case hsw => rfl))
  | with_reducible refine' S_if ?_
  | ((with_reducible refine' S_aug ?hs ?hL ?hx ?hl ?_); (case hs => assumption); (case hL => assumption); (case hx => rfl); (case hl => rfl))
  | ((with_reducible refine' S_swapped ?hs ?hL ?hss ?hx ?hsw ?_); (case hs => assumption); (case hL => assumption); (case hss => (intro env h; cases env; cases h; rfl)); (case hx => decide); (case hsw => rfl))
  | ((with_reducible refine' S_unpack ?hs ?hL ?hn ?hx ?hsw ?hss ?_); (case hs => assumption); (case hL => assumption); (case hn => rfl); (case hx => decide); (case hsw => rfl); (case hss => rfl))
  | with_reducible refine' S_assert ?_
  | ((with_reducible refine' S_set2 ?hs ?hL ?hx ?ha ?hss ?_); (case hs => assumption); (case hL => assumption); (case hx => decide); (case ha => rfl); (case hss => rfl))
  | ((with_reducible refine' S_for ?hs ?hL ?hx ?hf ?_); (case hs => assumption); (case hL => assumption); (case hx => rfl); (case hf => exact fun _ => rfl)))
local macro_rules | `(tactic| walk_at "DE") => `(tactic| first
  | with_reducible refine' EE_int ?_
  | with_reducible refine' EE_str ?_
  | with_reducible refine' EE_boolc ?_
  | ((with_reducible refine' EE_loc ?hl ?hd ?_); (case hl => rfl); (case hd => rfl))
  | ((with_reducible refine' EE_gint ?hs ?hx ?he ?hd ?_); (case hs => assumption); (case hx => rfl); (case he => exact fun w => rfl); (case hd => rfl))
  | ((with_reducible refine' EE_gstr ?hs ?hx ?he ?hd ?_); (case hs => assumption); (case hx => rfl); (case he => exact fun w => rfl); (case hd => rfl))
  | ((with_reducible refine' EE_g4 ?hs ?hx ?he ?he2 ?hd ?_); (case hs => assumption); (case hx => rfl); (case he => exact fun w => rfl); (case he2 => exact fun w => rfl); (case hd => rfl))
  | ((with_reducible refine' EE_raw ?hs ?hx ?he ?hd ?_); (case hs => assumption); (case hx => rfl); (case he => exact fun w => rfl); (case hd => rfl))
  | with_reducible refine' EE_bin ?_
  | with_reducible refine' EE_un ?_
  | ((with_reducible refine' EE_cmp ?hb ?_); (case hb => rfl))
  | with_reducible refine' EE_ifexp ?_
  | with_reducible refine' EE_or ?_
  | with_reducible refine' EE_and ?_
  | ((with_reducible refine' EE_tail ?ht ?_); (case ht => exact fun _ _ => rfl))
  | with_reducible refine' EE_sub ?_
  | ((with_reducible refine' EE_call ?hs ?hx ?he ?hk ?hd ?hne ?hc ?_); (case hs => assumption); (case hx => rfl); (case he => exact fun w => rfl); (case hk => exact fun w => rfl); (case hd => rfl); (case hne => rfl); (case hc => rfl))
  | ((with_reducible refine' EE_tup ?hn ?_); (case hn => rfl))
  | ((with_reducible refine' EE_lst ?hn ?_); (case hn => rfl))
  | ((with_reducible refine' EE_bl ?hc ?_); (case hc => exact ⟨_, rfl⟩)))
local macro_rules | `(tactic| walk_at "DB") => `(tactic| first
  | ((with_reducible refine' EB_cmp ?hb ?_); (case hb => rfl))
  | ((with_reducible refine' EB_cmp2 ?hb ?_); (case hb => rfl))
  | with_reducible refine' EB_not ?_
  | with_reducible refine' all_and ?_
  | with_reducible refine' all_or ?_
  | ((with_reducible refine' EB_plain ?he ?_); (case he => rfl)))
local macro_rules | `(tactic| walk_at "DO") => `(tactic| first
  | with_reducible refine' Bop_add ?_
  | with_reducible refine' Bop_sub ?_
  | with_reducible refine' Bop_and ?_
  | ((with_reducible refine' Bop_mul ?hm ?_); (case hm => first | assumption | (refine' mulOk ?_; omega)))
  | ((with_reducible refine' Bop_pow ?h0 ?hs ?_); (case h0 => first | decide | omega); (case hs => decide))
  | ((with_reducible refine' Bop_shr ?h0 ?_); (case h0 => omega))
  | ((with_reducible refine' Bop_shl ?h0 ?hs ?_); (case h0 => omega); (case hs => omega))
  | ((with_reducible refine' Iop_shl ?h0 ?hs ?_); (case h0 => omega); (case hs => omega))
  | ((with_reducible refine' Iop_shr ?h0 ?_); (case h0 => omega))
  | ((with_reducible refine' Bop_xorT ?h0 ?_); (case h0 => assumption))
  | with_reducible refine' Bop_xor ?_
  | with_reducible refine' Iop_add ?_
  | with_reducible refine' Iop_sub ?_
  | ((with_reducible refine' Iop_xorT ?h0 ?_); (case h0 => assumption))
  | with_reducible refine' Iop_xor ?_
  | with_reducible refine' Uop_neg ?_
  | with_reducible refine' Uop_not ?_
  | with_reducible refine' Tru_int ?_
  | with_reducible refine' Tru_bool ?_
  | with_reducible refine' Cop_eq ?_
  | with_reducible refine' Cop_ne ?_
  | with_reducible refine' Cop_lt ?_
  | with_reducible refine' Cop_le ?_
  | with_reducible refine' Cop_gt ?_
  | with_reducible refine' Cop_ge ?_
  | with_reducible refine' Cop_eqs ?_
  | with_reducible refine' Cop_eq4 ?_
  | ((with_reducible refine' Gop_shifts _ ?hs ?_); (case hs => exact fun _ _ _ => rfl))
  | ((with_reducible refine' Gop_list ?h1 ?h2 ?hd ?hs ?_); (case h1 => decide); (case h2 => decide); (case hd => exact rfl); (case hs => exact fun _ _ _ => rfl))
  | ((with_reducible refine' Gop_tup ?h1 ?h2 ?hj ?hd ?hs ?_); (case h1 => decide); (case h2 => decide); (case hj => exact rfl); (case hd => exact rfl); (case hs => exact fun _ _ _ => rfl)))
local macro_rules | `(tactic| walk_at "DI") => `(tactic| ((refine' And.intro (fun hb => ?_) (fun hb => ?_)) <;> (try simp only [Bool.not_eq_true', Bool.not_eq_false', bne_iff_ne, beq_iff_eq, beq_eq_false_iff_ne, bne_eq_false_iff_eq, decide_eq_true_eq, decide_eq_false_iff_not, ne_eq, Bool.and_eq_true, Bool.or_eq_true, gt_iff_lt, ge_iff_le, Int.not_lt, Int.not_le, Bool.not_eq_eq_eq_not, Bool.not_true, Bool.not_false, Decidable.not_not, reduceCtorEq, if_true, if_false, Bool.false_eq_true, ↓reduceIte] at hb) <;> (first | done | (exfalso; omega) | (exfalso; revert hb; decide) | skip)))
local macro_rules | `(tactic| walk_at "D1") => `(tactic| first
  | ((with_reducible show SS _ _ _ _ _); walk_at "DS")
  | ((with_reducible show S1 _ _ _ _ _); walk_at "DT")
  | ((with_reducible show EE _ _ _ _); walk_at "DE")
  | ((with_reducible show EB _ _ _ _); walk_at "DB")
  | ((with_reducible show EL _ _ _ _); (first | with_reducible refine' EL_cons ?_ | with_reducible refine' EL_nil ?_))
  | ((with_reducible show ForL _ _ _ _ _ _ _); first | refine' ForL_cons ?_ | refine' ForL_nil ?_)
  | ((with_reducible show And _ _); walk_at "DI")
  | refine' And.intro (Eq.refl _) ?_
  | ((with_reducible refine' And.intro ?ka ?_); (case ka => (simp only [beq_iff_eq, decide_eq_true_eq, ge_iff_le]; first | done | assumption | omega)))
  | ((with_reducible refine' And.intro ?ka ?_); (case ka => first | assumption | exact Or.inl rfl | exact Or.inr rfl))
  | with_reducible refine' Exists.intro _ (And.intro rfl ?_)
  | walk_at "DO")
theorem mpi_mul_ok (a b a' b' : Mpf) (p N : Int) (hp : 0 ≤ p ∧ p ≤ 100) (hN : 100 ≤ N ∧ N ≤ 2000000) (I : In N p a b) (J : In N p a' b') :
    FnOK 180 10 [iD a b, iD a' b', .int p] (fun d => ∃ u v : Mpf, ∃ L H : Rat, d = iD u v ∧ Res p false L (10 * N) u ∧ Res p true H (10 * N) v ∧ Hull (fun x y => x * y) a.val b.val a'.val b'.val L H) := by
  have hN2 : 100 ≤ N ∧ N ≤ 10000000 := by omega
  have sa := sgn_iff I.oa
  have sb := sgn_iff I.ob
  have ta := sgn_iff J.oa
  have tb := sgn_iff J.ob
  have za := J.oa.zz
  have zb := J.ob.zz
  have za2 := I.oa.zz
  have zb2 := I.ob.zz
  have hle := I.le
  have hle' := J.le
  refine FnOK_intro ["s", "t", "prec"] (σ0 := [("s", iD a b), ("t", iD a' b'), ("prec", .int p)]) (fun w => rfl) (fun w => rfl) (fun s vs w X hl => ⟨[], ?_, fun h => .nil⟩) (by decide) (by decide) rfl rfl rfl rfl (by decide) (fun c hr hs hL => ?_)
  · match vs, hl with
    | [_, _, _], _ => exact binds_K X rfl rfl rfl rfl rfl
  · repeat' (walk_at "D1")
    refine Fn.use (mpf_sign_ok a I.oa) (by omega) fun d hd => ?_
    subst hd
    repeat' (walk_at "D1")
    refine Fn.use (mpf_sign_ok b I.ob) (by omega) fun d hd => ?_
    subst hd
    repeat' (walk_at "D1")
    refine Fn.use (mpf_sign_ok a' J.oa) (by omega) fun d hd => ?_
    subst hd
    repeat' (walk_at "D1")
    refine Fn.use (mpf_sign_ok b' J.ob) (by omega) fun d hd => ?_
    subst hd
    repeat' (walk_at "D1")
    all_goals (try (
      (first
        | refine Fn.use (mpf_mul_ok a a' I.oa J.oa p N false hp.1 I.ba J.ba hN2) (by omega) (fun d hd => ?_)
        | refine Fn.use (mpf_mul_ok a b' I.oa J.ob p N false hp.1 I.ba J.bb hN2) (by omega) (fun d hd => ?_)
        | refine Fn.use (mpf_mul_ok b a' I.ob J.oa p N false hp.1 I.bb J.ba hN2) (by omega) (fun d hd => ?_)
        | refine Fn.use (mpf_mul_ok b b' I.ob J.ob p N false hp.1 I.bb J.bb hN2) (by omega) (fun d hd => ?_))
      (obtain ⟨u, rfl, hu⟩ := hd)
      (repeat' (walk_at "D1"))
      (first
        | refine Fn.use (mpf_mul_ok a a' I.oa J.oa p N true hp.1 I.ba J.ba hN2) (by omega) (fun d hd => ?_)
        | refine Fn.use (mpf_mul_ok a b' I.oa J.ob p N true hp.1 I.ba J.bb hN2) (by omega) (fun d hd => ?_)
        | refine Fn.use (mpf_mul_ok b a' I.ob J.oa p N true hp.1 I.bb J.ba hN2) (by omega) (fun d hd => ?_)
        | refine Fn.use (mpf_mul_ok b b' I.ob J.ob p N true hp.1 I.bb J.bb hN2) (by omega) (fun d hd => ?_))
      (obtain ⟨v, rfl, hv⟩ := hd)
      (have zu := hu.ok.zz)
      (have zv := hv.ok.zz)
      (repeat' (walk_at "D1"))
      refine' ⟨u, v, _, _, rfl, hu.more ?m1, hv.more ?m2, mul_case hle hle' ?k⟩
      case m1 => omega
      case m2 => omega
      case k => first
        | (refine' Or.inl ⟨sa.1.mp ?g1, ta.1.mp ?g2, ?g3, ?g4⟩
           case g1 => omega
           case g2 => omega
           case g3 => rfl
           case g4 => rfl)
        | (refine' Or.inr (Or.inl ⟨sa.1.mp ?g1, tb.2.1.mp ?g2, ?g3, ?g4⟩)
           case g1 => omega
           case g2 => omega
           case g3 => rfl
           case g4 => rfl)
        | (refine' Or.inr (Or.inr (Or.inl ⟨sa.1.mp ?g1, ta.2.1.mp ?g2, tb.1.mp ?g5, ?g3, ?g4⟩))
           case g1 => omega
           case g2 => omega
           case g5 => omega
           case g3 => rfl
           case g4 => rfl)
        | (refine' Or.inr (Or.inr (Or.inr (Or.inl ⟨sb.2.1.mp ?g1, ta.1.mp ?g2, ?g3, ?g4⟩)))
           case g1 => omega
           case g2 => omega
           case g3 => rfl
           case g4 => rfl)
        | (refine' Or.inr (Or.inr (Or.inr (Or.inr (Or.inl ⟨sb.2.1.mp ?g1, tb.2.1.mp ?g2, ?g3, ?g4⟩))))
           case g1 => omega
           case g2 => omega
           case g3 => rfl
           case g4 => rfl)
        | (refine' Or.inr (Or.inr (Or.inr (Or.inr (Or.inr ⟨sb.2.1.mp ?g1, ta.2.1.mp ?g2, tb.1.mp ?g5, ?g3, ?g4⟩))))
           case g1 => omega
           case g2 => omega
           case g5 => omega
           case g3 => rfl
           case g4 => rfl)))
    all_goals (try (
      refine' ⟨⟨0, 0, 0, 0⟩, ⟨0, 0, 0, 0⟩, 0, 0, rfl, zero_res ?m1, zero_res ?m1', ?k⟩
      case m1 => omega
      case m1' => omega
      case k => first
        | (refine' mul_zero1 hle' (sa.2.2 ?g1) (sb.2.2 ?g2)
           case g1 => omega
           case g2 => omega)
        | (refine' mul_zero2 hle (ta.2.2 ?g1) (tb.2.2 ?g2)
           case g1 => omega
           case g2 => omega)))
    all_goals (
      refine Fn.use (mpf_mul2_ok a a' I.oa J.oa N false I.ba J.ba hN2) (by omega) (fun d hd => ?_)
      obtain ⟨z1, rfl, h1⟩ := hd
      (repeat' (walk_at "D1"))
      refine Fn.use (mpf_mul2_ok a b' I.oa J.ob N false I.ba J.bb hN2) (by omega) (fun d hd => ?_)
      obtain ⟨z2, rfl, h2⟩ := hd
      (repeat' (walk_at "D1"))
      refine Fn.use (mpf_mul2_ok b a' I.ob J.oa N false I.bb J.ba hN2) (by omega) (fun d hd => ?_)
      obtain ⟨z3, rfl, h3⟩ := hd
      (repeat' (walk_at "D1"))
      refine Fn.use (mpf_mul2_ok b b' I.ob J.ob N false I.bb J.bb hN2) (by omega) (fun d hd => ?_)
      obtain ⟨z4, rfl, h4⟩ := hd
      (repeat' (walk_at "D1")))
    all_goals (
      refine Cop_in4 (xs := [z1, z2, z3, z4]) ?_
      refine Tru_bool ⟨fun hb => ?_, fun hb => ?_⟩)
    all_goals (try (
      exfalso
      have e1 := h1.ok.zz
      have e2 := h2.ok.zz
      have e3 := h3.ok.zz
      have e4 := h4.ok.zz
      simp only [List.any_cons, List.any_nil, Bool.or_false, Bool.or_eq_true, Bool.and_eq_true, beq_iff_eq, Bool.and_true] at hb
      omega))
    all_goals (
      have hok : ∀ z ∈ [z1, z2, z3, z4], z.Ok := by
        intro z hz
        simp only [List.mem_cons, List.not_mem_nil, or_false] at hz
        rcases hz with rfl | rfl | rfl | rfl
        · exact h1.ok
        · exact h2.ok
        · exact h3.ok
        · exact h4.ok
      have hbd : ∀ z ∈ [z1, z2, z3, z4], Bd (5 * N) z := by
        intro z hz
        simp only [List.mem_cons, List.not_mem_nil, or_false] at hz
        rcases hz with rfl | rfl | rfl | rfl
        · exact h1.bd
        · exact h2.bd
        · exact h3.bd
        · exact h4.bd
      (repeat' (walk_at "D1"))
      refine Fn.use (mpf_min_max_ok z1 [z2, z3, z4] hok (5 * N) hbd (by omega) (.inr rfl)) (by omega) (fun d hd => ?_)
      obtain ⟨x, y, rfl, hx, hy, hxy⟩ := hd
      (repeat' (walk_at "D1"))
      refine Fn.use (mpf_pos_ok x (hok x hx) p (5 * N) false hp.1 (hbd x hx) (by omega)) (by omega) (fun d hd => ?_)
      obtain ⟨u, rfl, hu⟩ := hd
      (repeat' (walk_at "D1"))
      refine Fn.use (mpf_pos_ok y (hok y hy) p (5 * N) true hp.1 (hbd y hy) (by omega)) (by omega) (fun d hd => ?_)
      obtain ⟨v, rfl, hv⟩ := hd
      (repeat' (walk_at "D1"))
      have v1 := h1.rnd.exact0 rfl
      have v2 := h2.rnd.exact0 rfl
      have v3 := h3.rnd.exact0 rfl
      have v4 := h4.rnd.exact0 rfl
      have k1 := hxy z1 (by simp)
      have k2 := hxy z2 (by simp)
      have k3 := hxy z3 (by simp)
      have k4 := hxy z4 (by simp)
      simp only [List.mem_cons, List.not_mem_nil, or_false] at hx hy
      rw [v1] at k1
      rw [v2] at k2
      rw [v3] at k3
      rw [v4] at k4
      refine ⟨u, v, _, _, rfl, hu.more (by omega), hv.more (by omega), mul_hull hle hle' k1.1 k2.1 k3.1 k4.1 k1.2 k2.2 k3.2 k4.2 ?_ ?_⟩
      · rcases hx with rfl | rfl | rfl | rfl
        · exact .inl v1
        · exact .inr (.inl v2)
        · exact .inr (.inr (.inl v3))
        · exact .inr (.inr (.inr v4))
      · rcases hy with rfl | rfl | rfl | rfl
        · exact .inl v1
        · exact .inr (.inl v2)
        · exact .inr (.inr (.inl v3))
        · exact .inr (.inr (.inr v4)))
end Mine
end
section
open PySem.Calls PySem.Spec
namespace Mine
local macro_rules | `(tactic| walk_at "DS") => `(tactic| first
  | with_reducible refine' SS_cons ?_
  | with_reducible refine' SS_nil ?_)
local macro_rules | `(tactic| walk_at "DT") => `(tactic| first
  | with_reducible refine' S_ret ?_
  | ((with_reducible refine' S_set ?hs ?hL ?hx ?hsw ?_); (case hs => assumption); (case hL => assumption); (case hx => rfl); (case hsw => rfl))
  | with_reducible refine' S_if ?_
  | ((with_reducible refine' S_aug ?hs ?hL ?hx ?hl ?_); (case hs => assumption); (case hL => assumption); (case hx => rfl); (case hl => rfl))
  | ((with_reducible refine' S_swapped ?hs ?hL ?hss ?hx ?hsw ?_); (case hs => assumption); (case hL => assumption); (case hss => (intro env h; cases env; cases h; rfl)); (case hx => decide); (case hsw => rfl))
  | ((with_reducible refine' S_swapped2 ?hs ?hL ?hn ?hss ?hx ?hsw ?_); (case hs => assumption); (case hL => assumption); (case hn => rfl); (case hss => (intro env h; cases env; cases h; unfold swappedStores; dsimp only [List.filterMap, Env.kindOf, Env.blockKind, List.lookup]; simp (config := {decide := true}); done)); (case hx => decide); (case hsw => rfl))
  | ((with_reducible refine' S_unpack ?hs ?hL ?hn ?hx ?hsw ?hss ?_); (case hs => assumption); (case hL => assumption); (case hn => rfl); (case hx => decide); (case hsw => rfl); (case hss => rfl))
  | with_reducible refine' S_assert ?_
  | ((with_reducible refine' S_set2 ?hs ?hL ?hx ?ha ?hss ?_); (case hs => assumption); (case hL => assumption); (case hx => decide); (case ha => rfl); (case hss => rfl))
  | ((with_reducible refine' S_for ?hs ?hL ?hx ?hf ?_); (case hs => assumption); (case hL => assumption); (case hx => rfl); (case hf => exact fun _ => rfl)))
local macro_rules | `(tactic| walk_at "DE") => `(tactic| first
  | with_reducible refine' EE_int ?_
  | with_reducible refine' EE_str ?_
  | with_reducible refine' EE_boolc ?_
  | ((with_reducible refine' EE_loc ?hl ?hd ?_); (case hl => rfl); (case hd => rfl))
  | ((with_reducible refine' EE_gint ?hs ?hx ?he ?hd ?_); (case hs => assumption); (case hx => rfl); (case he => exact fun w => rfl); (case hd => rfl))
  | ((with_reducible refine' EE_gstr ?hs ?hx ?he ?hd ?_); (case hs => assumption); (case hx => rfl); (case he => exact fun w => rfl); (case hd => rfl))
  | ((with_reducible refine' EE_g4 ?hs ?hx ?he ?he2 ?hd ?_); (case hs => assumption); (case hx => rfl); (case he => exact fun w => rfl); (case he2 => exact fun w => rfl); (case hd => rfl))
  | ((with_reducible refine' EE_raw ?hs ?hx ?he ?hd ?_); (case hs => assumption); (case hx => rfl); (case he => exact fun w => rfl); (case hd => rfl))
  | with_reducible refine' EE_bin ?_
  | with_reducible refine' EE_un ?_
  | ((with_reducible refine' EE_cmp ?hb ?_); (case hb => rfl))
  | with_reducible refine' EE_ifexp ?_
  | with_reducible refine' EE_or ?_
  | with_reducible refine' EE_and ?_
  | ((with_reducible refine' EE_tail ?ht ?_); (case ht => exact fun _ _ => rfl))
  | with_reducible refine' EE_sub ?_
  | ((with_reducible refine' EE_call ?hs ?hx ?he ?hk ?hd ?hne ?hc ?_); (case hs => assumption); (case hx => rfl); (case he => exact fun w => rfl); (case hk => exact fun w => rfl); (case hd => rfl); (case hne => rfl); (case hc => rfl))
  | ((with_reducible refine' EE_bic ?hs ?hx ?he ?hv ?hn ?hd ?hne ?hc ?_); (case hs => assumption); (case hx => rfl); (case he => exact fun w => rfl); (case hv => first | exact PyProof.Rows.boot_min | exact PyProof.Rows.boot_abs | exact PyProof.Rows.boot_all | exact boot_len'); (case hn => decide); (case hd => rfl); (case hne => rfl); (case hc => rfl))
  | ((with_reducible refine' EE_tup ?hn ?_); (case hn => rfl))
  | ((with_reducible refine' EE_lst ?hn ?_); (case hn => rfl))
  | ((with_reducible refine' EE_bl ?hc ?_); (case hc => exact ⟨_, rfl⟩)))
local macro_rules | `(tactic| walk_at "DB") => `(tactic| first
  | ((with_reducible refine' EB_cmp ?hb ?_); (case hb => rfl))
  | ((with_reducible refine' EB_cmp2 ?hb ?_); (case hb => rfl))
  | with_reducible refine' EB_not ?_
  | with_reducible refine' all_and ?_
  | with_reducible refine' all_or ?_
  | ((with_reducible refine' EB_plain ?he ?_); (case he => rfl)))
local macro_rules | `(tactic| walk_at "DO") => `(tactic| first
  | with_reducible refine' Bop_add ?_
  | with_reducible refine' Bop_sub ?_
  | with_reducible refine' Bop_and ?_
  | ((with_reducible refine' Bop_mul ?hm ?_); (case hm => first | assumption | (refine' mulOk ?_; omega)))
  | ((with_reducible refine' Bop_pow2 ?h0 ?hs ?_); (case h0 => first | decide | omega); (case hs => first | decide | omega))
  | ((with_reducible refine' Bop_modp ?h0 ?_); (case h0 => first | with_reducible exact Mine.pow_pos _ | decide | omega))
  | ((with_reducible refine' Bop_divp ?h0 ?hp ?_); (case h0 => first | with_reducible exact Mine.pow_pos _ | decide | omega); (case hp => first | decide +kernel | (refine' log2_pow ?_; omega)))
  | with_reducible refine' Cal_min ?_
  | with_reducible refine' Cal_abs ?_
  | ((with_reducible refine' Cal_len ?h0 ?_); (case h0 => first | assumption | omega))
  | ((with_reducible refine' Bop_pow ?h0 ?hs ?_); (case h0 => first | decide | omega); (case hs => first | assumption | decide))
  | ((with_reducible refine' Bop_shr ?h0 ?_); (case h0 => omega))
  | ((with_reducible refine' Bop_shl ?h0 ?hs ?_); (case h0 => omega); (case hs => omega))
  | ((with_reducible refine' Iop_shl ?h0 ?hs ?_); (case h0 => omega); (case hs => omega))
  | ((with_reducible refine' Iop_shr ?h0 ?_); (case h0 => omega))
  | ((with_reducible refine' Bop_xorT ?h0 ?_); (case h0 => assumption))
  | with_reducible refine' Bop_xor ?_
  | with_reducible refine' Iop_add ?_
  | with_reducible refine' Iop_sub ?_
  | ((with_reducible refine' Iop_xorT ?h0 ?_); (case h0 => assumption))
  | with_reducible refine' Iop_xor ?_
  | with_reducible refine' Uop_neg ?_
  | with_reducible refine' Uop_not ?_
  | with_reducible refine' Tru_int ?_
  | with_reducible refine' Tru_bool ?_
  | with_reducible refine' Cop_eq ?_
  | with_reducible refine' Cop_ne ?_
  | with_reducible refine' Cop_lt ?_
  | with_reducible refine' Cop_le ?_
  | with_reducible refine' Cop_gt ?_
  | with_reducible refine' Cop_ge ?_
  | with_reducible refine' Cop_eqs ?_
  | with_reducible refine' Cop_eq4 ?_
  | ((with_reducible refine' Gop_shifts _ ?hs ?_); (case hs => exact fun _ _ _ => rfl))
  | ((with_reducible refine' Gop_list ?h1 ?h2 ?hd ?hs ?_); (case h1 => decide); (case h2 => decide); (case hd => exact rfl); (case hs => exact fun _ _ _ => rfl))
  | ((with_reducible refine' Gop_tup ?h1 ?h2 ?hj ?hd ?hs ?_); (case h1 => decide); (case h2 => decide); (case hj => exact rfl); (case hd => exact rfl); (case hs => exact fun _ _ _ => rfl)))
local macro_rules | `(tactic| walk_at "DI") => `(tactic| ((refine' And.intro (fun hb => ?_) (fun hb => ?_)) <;> (try simp only [Bool.not_eq_true', Bool.not_eq_false', bne_iff_ne, beq_iff_eq, beq_eq_false_iff_ne, bne_eq_false_iff_eq, decide_eq_true_eq, decide_eq_false_iff_not, ne_eq, Bool.and_eq_true, Bool.or_eq_true, gt_iff_lt, ge_iff_le, Int.not_lt, Int.not_le, Bool.not_eq_eq_eq_not, Bool.not_true, Bool.not_false, Decidable.not_not, reduceCtorEq, if_true, if_false, Bool.false_eq_true, ↓reduceIte] at hb) <;> (first | done | (exfalso; omega) | (exfalso; revert hb; decide) | skip)))
local macro_rules | `(tactic| walk_at "D1") => `(tactic| first
  | ((with_reducible show SS _ _ _ _ _); walk_at "DS")
  | ((with_reducible show S1 _ _ _ _ _); walk_at "DT")
  | ((with_reducible show EE _ _ _ _); walk_at "DE")
  | ((with_reducible show EB _ _ _ _); walk_at "DB")
  | ((with_reducible show EL _ _ _ _); (first | with_reducible refine' EL_cons ?_ | with_reducible refine' EL_nil ?_))
  | ((with_reducible show ForL _ _ _ _ _ _ _); first | refine' ForL_cons ?_ | refine' ForL_nil ?_)
  | ((with_reducible show And _ _); walk_at "DI")
  | refine' And.intro (Eq.refl _) ?_
  | ((with_reducible refine' And.intro ?ka ?_); (case ka => (simp only [beq_iff_eq, decide_eq_true_eq, ge_iff_le]; first | done | assumption | omega)))
  | ((with_reducible refine' And.intro ?ka ?_); (case ka => first | assumption | exact Or.inl rfl | exact Or.inr rfl))
  | with_reducible refine' Exists.intro _ (And.intro rfl ?_)
  | walk_at "DO")
theorem made_val {n e : Int} {s M o : Int} {t : Nat} (hs : (n < 0 ∧ s = 1 ∧ M = -n) ∨ (0 ≤ n ∧ s = 0 ∧ M = n)) (hM : M = o * 2 ^ t) : rv s o (e + t) = (n : Rat) * p2 e := by
  have h1 : sg s M = n := by unfold sg; rcases hs with ⟨_, rfl, rfl⟩ | ⟨_, rfl, rfl⟩ <;> simp
  unfold rv
  rw [scale (sg s o) (e := e + t) (k := e) (by omega), ← h1, hM, sg_mul]
  rw [show (e + (t : Int) - e).toNat = t by omega]
theorem made_fin {n e s M o : Int} {t : Nat} (hn : ib n ≤ 90) (he : -100 ≤ e ∧ e ≤ 100) (hs : (n < 0 ∧ s = 1 ∧ M = -n) ∨ (0 ≤ n ∧ s = 0 ∧ M = n)) (hM : M = o * 2 ^ t) (ho : o % 2 = 1) (hp : 0 < o) :
    ∃ y : Mpf, D.tup [.int s, .int (M / 2 ^ (t : Int).toNat), .int (e + t), .int (ib (M / 2 ^ (t : Int).toNat))] = y.D ∧ y.Ok ∧ y.val = (n : Rat) * p2 e ∧ Bd 200 y ∧ y.b ≤ ib n := by
  have e1 : M / 2 ^ (t : Int).toNat = o := by rw [hM, Int.toNat_natCast, Int.mul_ediv_cancel _ (by have := pow_pos t; omega)]
  rw [e1]
  have e2 : ib M = ib n := by rcases hs with ⟨_, _, rfl⟩ | ⟨_, _, rfl⟩ <;> first | exact ib_neg _ | rfl
  have e3 : ib M = ib o + t := by rw [hM]; exact ib_mul_pow (by omega) t
  refine ⟨⟨s, o, e + t, ib o⟩, rfl, ⟨?_, by show 0 ≤ o; omega, rfl, fun q => ?_, fun _ => ho⟩, made_val hs hM, ⟨?_, ?_, ?_⟩, ?_⟩
  · rcases hs with ⟨_, q, _⟩ | ⟨_, q, _⟩ <;> first | exact .inl q | exact .inr q
  · exact absurd q (by show o ≠ 0; omega)
  · show (ib o : Int) ≤ 200; omega
  · show -200 ≤ e + (t : Int); omega
  · show e + (t : Int) ≤ 200; omega
  · show (ib o : Int) ≤ ib n; omega
theorem law_made_ok (n e : Int) (hn : ib n ≤ 90) (he : -100 ≤ e ∧ e ≤ 100) : FnOK 202 1 [.int n, .int e] (fun d => ∃ y : Mpf, d = y.D ∧ y.Ok ∧ y.val = (n : Rat) * p2 e ∧ Bd 200 y ∧ y.b ≤ ib n) := by
  refine FnOK_intro ["n", "e"] (σ0 := [("n", .int n), ("e", .int e)]) (fun w => rfl) (fun w => rfl) (fun s vs w X hl => ⟨[], ?_, fun h => .nil⟩) (by decide) (by decide) rfl rfl rfl rfl (by decide) (fun c hr hs hL => ?_)
  · match vs, hl with
    | [_, _], _ => exact BindsTo.of_eq rfl
  · repeat' (walk_at "D1")
    · have q : n < 0 := by assumption
      obtain ⟨o, t, hM, ho, ht, hp⟩ := tz_odd (M := -n) (by omega)
      have e2 : ib (-n) = ib n := ib_neg _
      have e3 : ib (-n) = ib o + t := by rw [hM]; exact ib_mul_pow (by omega) t
      have ht' : (↑(ib (Builtin.bitAnd (-n) (- -n))) - 1 : Int) = t := ht
      rw [ht']
      repeat' (walk_at "D1")
      exact made_fin hn he (.inl ⟨q, rfl, rfl⟩) hM ho hp
    · have q : n = 0 := by assumption
      subst q
      exact ⟨⟨0, 0, 0, 0⟩, rfl, zero_ok, by rw [show (Mpf.mk 0 0 0 0).val = 0 from rv_zero 0 0]; simp, ⟨by decide, by decide, by decide⟩, by decide⟩
    · have q : 0 ≤ n := by assumption
      have q2 : ¬n = 0 := by assumption
      obtain ⟨o, t, hM, ho, ht, hp⟩ := tz_odd (M := n) (by omega)
      have e3 : ib n = ib o + t := by rw [hM]; exact ib_mul_pow (by omega) t
      have ht' : (↑(ib (Builtin.bitAnd n (-n))) - 1 : Int) = t := ht
      rw [ht']
      repeat' (walk_at "D1")
      exact made_fin hn he (.inr ⟨q, rfl, rfl⟩) hM ho hp
theorem law_value_ok (x : Mpf) : FnOK 209 1 [x.D] (fun d => d = .tup [.int (sg x.s x.m), .int x.e]) := by
  refine FnOK_intro ["s"] (σ0 := [("s", x.D)]) (fun w => rfl) (fun w => rfl) (fun s vs w X hl => ⟨[], ?_, fun h => .nil⟩) (by decide) (by decide) rfl rfl rfl rfl (by decide) (fun c hr hs hL => ?_)
  · match vs, hl with
    | [_], _ => exact BindsTo.of_eq rfl
  · repeat' (walk_at "D1")
    all_goals (unfold sg)
    · rw [if_pos (by assumption)]
    · rw [if_neg (by assumption)]
/-- a pair: a whole number by a power of two -/
abbrev vD (m e : Int) : D := .tup [.int m, .int e]
def qv (m e : Int) : Rat := (m : Rat) * p2 e
structure Pt (N m e : Int) : Prop where
  b : (ib m : Int) ≤ N
  lo : -N ≤ e
  hi : e ≤ N
theorem Pt.more {N N' m e : Int} (h : Pt N m e) (k : N ≤ N') : Pt N' m e := ⟨by have := h.b; omega, by have := h.lo; omega, by have := h.hi; omega⟩
theorem min_case (a b : Int) : ∃ L : Int, (if b < a then b else a) = L ∧ L ≤ a ∧ L ≤ b ∧ (L = a ∨ L = b) := by
  split
  · exact ⟨b, rfl, by omega, by omega, .inr rfl⟩
  · exact ⟨a, rfl, by omega, by omega, .inl rfl⟩
theorem qv_low {m e L : Int} (h : L ≤ e) : qv m e = ((m * 2 ^ (e - L).toNat : Int) : Rat) * p2 L := scale m h
theorem ib_two : ib 2 = 2 := by decide
theorem ib_pow2 (k : Nat) : ib (2 ^ k) = k + 1 := by
  have := ib_mul_pow (o := 1) (by decide) k
  rw [Int.one_mul, ib_one] at this
  omega
theorem law_sum_ok (m e m' e' N : Int) (h : Pt N m e) (h' : Pt N m' e') (hN : 0 ≤ N ∧ N ≤ 10000000) : FnOK 216 1 [vD m e, vD m' e'] (fun d => ∃ M E : Int, d = vD M E ∧ qv M E = qv m e + qv m' e' ∧ Pt (4 * N + 1) M E) := by
  obtain ⟨L, e1, l1, l2, l3⟩ := min_case e e'
  obtain ⟨b1, b2, b3⟩ := h
  obtain ⟨c1, c2, c3⟩ := h'
  refine FnOK_intro ["x", "y"] (σ0 := [("x", vD m e), ("y", vD m' e')]) (fun w => rfl) (fun w => rfl) (fun s vs w X hl => ⟨[], ?_, fun h => .nil⟩) (by decide) (by decide) rfl rfl rfl rfl (by decide) (fun c hr hs hL => ?_)
  · match vs, hl with
    | [_, _], _ => exact BindsTo.of_eq rfl
  · repeat' (walk_at "D1")
    rw [e1]
    have p1 := ib_pow2 (e - L).toNat
    have p2' := ib_pow2 (e' - L).toNat
    repeat' (walk_at "D1")
    refine ⟨_, _, rfl, ?_, ?_⟩
    · rw [qv_low l1, qv_low l2, ← Rat.add_mul, ← Rat.intCast_add]; rfl
    · have i1 := ib_mul_le m (e - L).toNat
      have i2 := ib_mul_le m' (e' - L).toNat
      have i3 := ib_sum (a := m * 2 ^ (e - L).toNat) (b := m' * 2 ^ (e' - L).toNat) (A := 3 * N.toNat) (by omega) (by omega)
      exact ⟨by omega, by omega, by omega⟩
theorem law_times_ok (m e m' e' N : Int) (h : Pt N m e) (h' : Pt N m' e') (hN : 0 ≤ N ∧ N ≤ 10000000) : FnOK 223 1 [vD m e, vD m' e'] (fun d => ∃ M E : Int, d = vD M E ∧ qv M E = qv m e * qv m' e' ∧ Pt (4 * N + 1) M E) := by
  obtain ⟨b1, b2, b3⟩ := h
  obtain ⟨c1, c2, c3⟩ := h'
  refine FnOK_intro ["x", "y"] (σ0 := [("x", vD m e), ("y", vD m' e')]) (fun w => rfl) (fun w => rfl) (fun s vs w X hl => ⟨[], ?_, fun h => .nil⟩) (by decide) (by decide) rfl rfl rfl rfl (by decide) (fun c hr hs hL => ?_)
  · match vs, hl with
    | [_, _], _ => exact BindsTo.of_eq rfl
  · repeat' (walk_at "D1")
    refine ⟨_, _, rfl, ?_, ?_⟩
    · unfold qv; rw [p2_add, Rat.intCast_mul]; grind
    · have i1 := ib_mul m m'
      exact ⟨by omega, by omega, by omega⟩
theorem law_less_ok (m e m' e' N : Int) (h : Pt N m e) (h' : Pt N m' e') (hN : 0 ≤ N ∧ N ≤ 20000000) : FnOK 230 1 [vD m e, vD m' e'] (fun d => d = .bool (decide (qv m e < qv m' e'))) := by
  obtain ⟨L, e1, l1, l2, l3⟩ := min_case e e'
  obtain ⟨b1, b2, b3⟩ := h
  obtain ⟨c1, c2, c3⟩ := h'
  refine FnOK_intro ["x", "y"] (σ0 := [("x", vD m e), ("y", vD m' e')]) (fun w => rfl) (fun w => rfl) (fun s vs w X hl => ⟨[], ?_, fun h => .nil⟩) (by decide) (by decide) rfl rfl rfl rfl (by decide) (fun c hr hs hL => ?_)
  · match vs, hl with
    | [_, _], _ => exact BindsTo.of_eq rfl
  · repeat' (walk_at "D1")
    rw [e1]
    have p1 := ib_pow2 (e - L).toNat
    have p2' := ib_pow2 (e' - L).toNat
    repeat' (walk_at "D1")
    refine congrArg D.bool ?_
    rw [decide_eq_decide, qv_low l1, qv_low l2, lt_same]
theorem ib_emod {x : Int} {k : Nat} : 0 ≤ x % 2 ^ k ∧ ib (x % 2 ^ k) ≤ k := by
  have hp := pow_pos k
  have h1 := Int.emod_nonneg x (b := 2 ^ k) (by omega)
  have h2 := Int.emod_lt_of_pos x hp
  refine ⟨h1, ib_le ?_⟩
  have : ((x % 2 ^ k).natAbs : Int) < ((2 ^ k : Nat) : Int) := by rw [pow_nat]; omega
  exact_mod_cast this
/-- a rich whole number -/
def Rich (d : D) : Prop := ∃ i : Int, d = .int i ∧ 0 ≤ i ∧ ib i ≤ 2 ^ 20
theorem law_mixed_ok (xs : List Int) (k : Int) (hk : 0 ≤ k ∧ k ≤ 100) (hlen : xs.length ≤ 1000) (hx : ∀ x ∈ xs, ib x ≤ 2 ^ 20) : FnOK 195 1 [.list (xs.map D.int), .int k] Rich := by
  have hl0 : ((xs.map D.int).length : Int) < 2 ^ 63 := by rw [List.length_map]; omega
  refine FnOK_intro ["script", "k"] (σ0 := [("script", .list (xs.map D.int)), ("k", .int k)]) (fun w => rfl) (fun w => rfl) (fun s vs w X hl => ⟨[], ?_, fun h => .nil⟩) (by decide) (by decide) rfl rfl rfl rfl (by decide) (fun c hr hs hL => ?_)
  · match vs, hl with
    | [_, _], _ => exact BindsTo.of_eq rfl
  · have c1 : ib 6364136223846793005 = 63 := by decide +kernel
    have c2 : ib 1442695040888963407 = 61 := by decide +kernel
    have c3 : ib (k + 1) ≤ 7 := ib_le (by omega)
    have tail : ∀ n : Int, ib n ≤ 2 ^ 20 → ib n + ib 6364136223846793005 ≤ 2 ^ 27 ∧ ib (k + 1) + ib 1442695040888963407 ≤ 2 ^ 27 ∧ (ib (n * 6364136223846793005 + (k + 1) * 1442695040888963407) : Int) * 3 ≤ 2 ^ 27 := fun n hn => by
      have i1 := ib_mul n 6364136223846793005
      have i2 := ib_mul (k + 1) 1442695040888963407
      have i3 := ib_sum (a := n * 6364136223846793005) (b := (k + 1) * 1442695040888963407) (A := 2 ^ 20 + 63) (by omega) (by omega)
      omega
    repeat' (walk_at "D1")
    · have q : k < ((xs.map D.int).length : Int) := by assumption
      rw [List.length_map] at q
      have q2 : k.toNat < xs.length := by omega
      refine Gop_list (d := .int (xs[k.toNat]'q2)) hk.1 (by omega) ?_ (fun _ _ _ => rfl) ?_
      · simp [q2]
      have t0 := hx _ (List.getElem_mem q2)
      generalize xs[k.toNat]'q2 = n at t0
      obtain ⟨t1, t2, t3⟩ := tail n t0
      have t4 := mulOk t1
      have t5 := mulOk t2
      repeat' (walk_at "D1")
      · have q3 : 2 ^ Int.toNat 64 ≤ n := by assumption
        exact ⟨n, rfl, by have := pow_pos (Int.toNat 64); omega, t0⟩
      · have z := ib_emod (x := (n * 6364136223846793005 + (k + 1) * 1442695040888963407) ^ Int.toNat 3 / 2 ^ Int.toNat 40) (k := Int.toNat 190)
        exact ⟨_, rfl, z.1, Nat.le_trans z.2 (by decide)⟩
    · obtain ⟨t1, t2, t3⟩ := tail 0 (by decide)
      have t4 := mulOk t1
      have t5 := mulOk t2
      repeat' (walk_at "D1")
      have z := ib_emod (x := (0 * 6364136223846793005 + (k + 1) * 1442695040888963407) ^ Int.toNat 3 / 2 ^ Int.toNat 40) (k := Int.toNat 190)
      exact ⟨_, rfl, z.1, Nat.le_trans z.2 (by decide)⟩
end Mine
end
section
open PySem.Calls PySem.Spec
namespace Mine
local macro_rules | `(tactic| walk_at "DS") => `(tactic| first
  | with_reducible refine' SS_cons ?_
  | with_reducible refine' SS_nil ?_)
local macro_rules | `(tactic| walk_at "DT") => `(tactic| first
  | with_reducible refine' S_ret ?_
  | ((with_reducible refine' S_set ?hs ?hL ?hx ?hsw ?_); (case hs => assumption); (case hL => assumption); (case hx => rfl); (case hsw => rfl))
  | with_reducible refine' S_if ?_
  | ((with_reducible refine' S_aug ?hs ?hL ?hx ?hl ?_); (case hs => assumption); (case hL => assumption); (case hx => rfl); (case hl => rfl))
  | ((with_reducible refine' S_swapped ?hs ?hL ?hss ?hx ?hsw ?_); (case hs => assumption); (case hL => assumption); (case hss => (intro env h; cases env; cases h; rfl)); (case hx => decide); (case hsw => rfl))
  | ((with_reducible refine' S_swapped2 ?hs ?hL ?hn ?hss ?hx ?hsw ?_); (case hs => assumption); (case hL => assumption); (case hn => rfl); (case hss => (intro env h; cases env; cases h; unfold swappedStores; dsimp only [List.filterMap, Env.kindOf, Env.blockKind, List.lookup]; simp (config := {decide := true}); done)); (case hx => decide); (case hsw => rfl))
  | ((with_reducible refine' S_unpack ?hs ?hL ?hn ?hx ?hsw ?hss ?_); (case hs => assumption); (case hL => assumption); (case hn => rfl); (case hx => decide); (case hsw => rfl); (case hss => rfl))
  | with_reducible refine' S_assert ?_
  | ((with_reducible refine' S_set2 ?hs ?hL ?hx ?ha ?hss ?_); (case hs => assumption); (case hL => assumption); (case hx => decide); (case ha => rfl); (case hss => rfl))
  | ((with_reducible refine' S_for ?hs ?hL ?hx ?hf ?_); (case hs => assumption); (case hL => assumption); (case hx => rfl); (case hf => exact fun _ => rfl)))
local macro_rules | `(tactic| walk_at "DE") => `(tactic| first
  | with_reducible refine' EE_int ?_
  | with_reducible refine' EE_str ?_
  | with_reducible refine' EE_boolc ?_
  | ((with_reducible refine' EE_loc ?hl ?hd ?_); (case hl => rfl); (case hd => rfl))
  | ((with_reducible refine' EE_gint ?hs ?hx ?he ?hd ?_); (case hs => assumption); (case hx => rfl); (case he => exact fun w => rfl); (case hd => rfl))
  | ((with_reducible refine' EE_gstr ?hs ?hx ?he ?hd ?_); (case hs => assumption); (case hx => rfl); (case he => exact fun w => rfl); (case hd => rfl))
  | ((with_reducible refine' EE_g4 ?hs ?hx ?he ?he2 ?hd ?_); (case hs => assumption); (case hx => rfl); (case he => exact fun w => rfl); (case he2 => exact fun w => rfl); (case hd => rfl))
  | ((with_reducible refine' EE_raw ?hs ?hx ?he ?hd ?_); (case hs => assumption); (case hx => rfl); (case he => exact fun w => rfl); (case hd => rfl))
  | with_reducible refine' EE_bin ?_
  | with_reducible refine' EE_un ?_
  | ((with_reducible refine' EE_cmp ?hb ?_); (case hb => rfl))
  | with_reducible refine' EE_ifexp ?_
  | with_reducible refine' EE_or ?_
  | with_reducible refine' EE_and ?_
  | ((with_reducible refine' EE_tail ?ht ?_); (case ht => exact fun _ _ => rfl))
  | with_reducible refine' EE_sub ?_
  | ((with_reducible refine' EE_call ?hs ?hx ?he ?hk ?hd ?hne ?hc ?_); (case hs => assumption); (case hx => rfl); (case he => exact fun w => rfl); (case hk => exact fun w => rfl); (case hd => rfl); (case hne => rfl); (case hc => rfl))
  | ((with_reducible refine' EE_bic ?hs ?hx ?he ?hv ?hn ?hd ?hne ?hc ?_); (case hs => assumption); (case hx => rfl); (case he => exact fun w => rfl); (case hv => first | exact PyProof.Rows.boot_min | exact PyProof.Rows.boot_abs | exact PyProof.Rows.boot_all | exact boot_len'); (case hn => decide); (case hd => rfl); (case hne => rfl); (case hc => rfl))
  | ((with_reducible refine' EE_tup ?hn ?_); (case hn => rfl))
  | ((with_reducible refine' EE_lst ?hn ?_); (case hn => rfl))
  | ((with_reducible refine' EE_bl ?hc ?_); (case hc => exact ⟨_, rfl⟩)))
local macro_rules | `(tactic| walk_at "DB") => `(tactic| first
  | ((with_reducible refine' EB_cmp ?hb ?_); (case hb => rfl))
  | ((with_reducible refine' EB_cmp2 ?hb ?_); (case hb => rfl))
  | with_reducible refine' EB_not ?_
  | with_reducible refine' all_and ?_
  | with_reducible refine' all_or ?_
  | ((with_reducible refine' EB_plain ?he ?_); (case he => rfl)))
local macro_rules | `(tactic| walk_at "DO") => `(tactic| first
  | with_reducible refine' Bop_add ?_
  | with_reducible refine' Bop_sub ?_
  | with_reducible refine' Bop_and ?_
  | ((with_reducible refine' Bop_mul ?hm ?_); (case hm => first | assumption | (refine' mulOk ?_; omega)))
  | ((with_reducible refine' Bop_pow2 ?h0 ?hs ?_); (case h0 => first | decide | omega); (case hs => first | decide | omega))
  | ((with_reducible refine' Bop_modp ?h0 ?_); (case h0 => first | with_reducible exact Mine.pow_pos _ | decide | omega))
  | ((with_reducible refine' Bop_divp ?h0 ?hp ?_); (case h0 => first | with_reducible exact Mine.pow_pos _ | decide | omega); (case hp => first | decide +kernel | (refine' log2_pow ?_; omega)))
  | with_reducible refine' Cal_min ?_
  | with_reducible refine' Cal_abs ?_
  | ((with_reducible refine' Cal_len ?h0 ?_); (case h0 => first | assumption | omega))
  | ((with_reducible refine' Bop_pow ?h0 ?hs ?_); (case h0 => first | decide | omega); (case hs => first | assumption | decide))
  | ((with_reducible refine' Bop_shr ?h0 ?_); (case h0 => omega))
  | ((with_reducible refine' Bop_shl ?h0 ?hs ?_); (case h0 => omega); (case hs => omega))
  | ((with_reducible refine' Iop_shl ?h0 ?hs ?_); (case h0 => omega); (case hs => omega))
  | ((with_reducible refine' Iop_shr ?h0 ?_); (case h0 => omega))
  | ((with_reducible refine' Bop_xorT ?h0 ?_); (case h0 => assumption))
  | with_reducible refine' Bop_xor ?_
  | with_reducible refine' Iop_add ?_
  | with_reducible refine' Iop_sub ?_
  | ((with_reducible refine' Iop_xorT ?h0 ?_); (case h0 => assumption))
  | with_reducible refine' Iop_xor ?_
  | with_reducible refine' Uop_neg ?_
  | with_reducible refine' Uop_not ?_
  | with_reducible refine' Tru_int ?_
  | with_reducible refine' Tru_bool ?_
  | with_reducible refine' Cop_eq ?_
  | with_reducible refine' Cop_ne ?_
  | with_reducible refine' Cop_lt ?_
  | with_reducible refine' Cop_le ?_
  | with_reducible refine' Cop_gt ?_
  | with_reducible refine' Cop_ge ?_
  | with_reducible refine' Cop_eqs ?_
  | with_reducible refine' Cop_eq4 ?_
  | ((with_reducible refine' Gop_shifts _ ?hs ?_); (case hs => exact fun _ _ _ => rfl))
  | ((with_reducible refine' Gop_list ?h1 ?h2 ?hd ?hs ?_); (case h1 => decide); (case h2 => decide); (case hd => exact rfl); (case hs => exact fun _ _ _ => rfl))
  | ((with_reducible refine' Gop_tup ?h1 ?h2 ?hj ?hd ?hs ?_); (case h1 => decide); (case h2 => decide); (case hj => exact rfl); (case hd => exact rfl); (case hs => exact fun _ _ _ => rfl)))
local macro_rules | `(tactic| walk_at "DI") => `(tactic| ((refine' And.intro (fun hb => ?_) (fun hb => ?_)) <;> (try simp only [Bool.not_eq_true', Bool.not_eq_false', bne_iff_ne, beq_iff_eq, beq_eq_false_iff_ne, bne_eq_false_iff_eq, decide_eq_true_eq, decide_eq_false_iff_not, ne_eq, Bool.and_eq_true, Bool.or_eq_true, gt_iff_lt, ge_iff_le, Int.not_lt, Int.not_le, Bool.not_eq_eq_eq_not, Bool.not_true, Bool.not_false, Decidable.not_not, reduceCtorEq, if_true, if_false, Bool.false_eq_true, ↓reduceIte] at hb) <;> (first | done | (exfalso; omega) | (exfalso; revert hb; decide) | skip)))
local macro_rules | `(tactic| walk_at "D1") => `(tactic| first
  | ((with_reducible show SS _ _ _ _ _); walk_at "DS")
  | ((with_reducible show S1 _ _ _ _ _); walk_at "DT")
  | ((with_reducible show EE _ _ _ _); walk_at "DE")
  | ((with_reducible show EB _ _ _ _); walk_at "DB")
  | ((with_reducible show EL _ _ _ _); (first | with_reducible refine' EL_cons ?_ | with_reducible refine' EL_nil ?_))
  | ((with_reducible show ForL _ _ _ _ _ _ _); first | refine' ForL_cons ?_ | refine' ForL_nil ?_)
  | ((with_reducible show And _ _); walk_at "DI")
  | refine' And.intro (Eq.refl _) ?_
  | ((with_reducible refine' And.intro ?ka ?_); (case ka => (simp only [beq_iff_eq, decide_eq_true_eq, ge_iff_le]; first | done | assumption | omega)))
  | ((with_reducible refine' And.intro ?ka ?_); (case ka => first | assumption | exact Or.inl rfl | exact Or.inr rfl))
  | with_reducible refine' Exists.intro _ (And.intro rfl ?_)
  | walk_at "DO")
/-- a grid: from, to, power -/
abbrev gD (l h e : Int) : D := .tup [.int l, .int h, .int e]
structure Gr (l h e : Int) : Prop where
  le : l ≤ h
  lo : -2 ^ 26 ≤ l
  hi : h ≤ 2 ^ 26
  e1 : -12 ≤ e
  e2 : e ≤ 12
theorem pow_le {a b : Nat} (h : a ≤ b) : (2 : Int) ^ a ≤ 2 ^ b := by
  rw [show b = a + (b - a) by omega, Int.pow_add]
  have := pow_pos a
  have := pow_pos (b - a)
  have h2 : (2 : Int) ^ a * 1 ≤ 2 ^ a * 2 ^ (b - a) := Int.mul_le_mul_of_nonneg_left (by omega) (by omega)
  omega
theorem md {x k : Int} (h : 1 ≤ k ∧ k ≤ 24) : 0 ≤ x % 2 ^ k.toNat ∧ x % 2 ^ k.toNat < 2 ^ 24 := by
  have hp := pow_pos k.toNat
  have h1 := Int.emod_nonneg x (b := 2 ^ k.toNat) (by omega)
  have h2 := Int.emod_lt_of_pos x hp
  have h3 := pow_le (a := k.toNat) (b := 24) (by omega)
  omega
def GridR (d : D) : Prop := ∃ l h e : Int, d = gD l h e ∧ Gr l h e
theorem law_grid_ok (r : Int) (hr0 : 0 ≤ r) : FnOK 237 1 [.int r] GridR := by
  refine FnOK_intro ["rich"] (σ0 := [("rich", .int r)]) (fun w => rfl) (fun w => rfl) (fun s vs w X hl => ⟨[], ?_, fun h => .nil⟩) (by decide) (by decide) rfl rfl rfl rfl (by decide) (fun c hr hs hL => ?_)
  · match vs, hl with
    | [_], _ => exact BindsTo.of_eq rfl
  · repeat' (walk_at "D1")
    all_goals (
      refine ⟨_, _, _, rfl, ?_⟩
      have m1 := md (x := r / 2 ^ Int.toNat 13) (k := 1 + r / 150 % 24) (by omega)
      have m2 := md (x := r / 2 ^ Int.toNat 40) (k := 1 + r / 2 ^ Int.toNat 66 % 24) (by omega)
      have m3 := pow_le (a := (1 + r / 150 % 24 - 1).toNat) (b := 24) (by omega)
      have m4 := pow_pos (1 + r / 150 % 24 - 1).toNat
      generalize 2 ^ (1 + r / 150 % 24 - 1).toNat = P at *
      generalize r / 2 ^ Int.toNat 13 % 2 ^ (1 + r / 150 % 24).toNat = X at *
      generalize r / 2 ^ Int.toNat 40 % 2 ^ (1 + r / 2 ^ Int.toNat 66 % 24).toNat = Y at *
      exact ⟨by omega, by omega, by omega, by omega, by omega⟩)
theorem law_span_ok (l h e : Int) (g : Gr l h e) : FnOK 244 2 [gD l h e] (fun d => ∃ u v : Mpf, d = iD u v ∧ u.Ok ∧ v.Ok ∧ u.val = (l : Rat) * p2 e ∧ v.val = (h : Rat) * p2 e ∧ Bd 200 u ∧ Bd 200 v ∧ u.b ≤ 27 ∧ v.b ≤ 27) := by
  have i1 : ib l ≤ 27 := ib_le (by have := g.lo; have := g.hi; have := g.le; omega)
  have i2 : ib h ≤ 27 := ib_le (by have := g.lo; have := g.hi; have := g.le; omega)
  have e1 := g.e1
  have e2 := g.e2
  refine FnOK_intro ["grid"] (σ0 := [("grid", gD l h e)]) (fun w => rfl) (fun w => rfl) (fun s vs w X hl => ⟨[], ?_, fun h => .nil⟩) (by decide) (by decide) rfl rfl rfl rfl (by decide) (fun c hr hs hL => ?_)
  · match vs, hl with
    | [_], _ => exact BindsTo.of_eq rfl
  · repeat' (walk_at "D1")
    refine Fn.use (law_made_ok l e (by omega) (by omega)) (by omega) fun d hd => ?_
    obtain ⟨u, rfl, u1, u2, u3, u4⟩ := hd
    repeat' (walk_at "D1")
    refine Fn.use (law_made_ok h e (by omega) (by omega)) (by omega) fun d hd => ?_
    obtain ⟨v, rfl, v1, v2, v3, v4⟩ := hd
    repeat' (walk_at "D1")
    exact ⟨u, v, rfl, u1, v1, u2, v2, u3, v3, by omega, by omega⟩
theorem law_holds_ok (a b : Mpf) (m e N : Int) (ha : Pt N (sg a.s a.m) a.e) (hb : Pt N (sg b.s b.m) b.e) (h : Pt N m e) (hN : 0 ≤ N ∧ N ≤ 20000000) : FnOK 256 2 [iD a b, vD m e] (fun d => d = .bool (decide (a.val ≤ qv m e ∧ qv m e ≤ b.val))) := by
  refine FnOK_intro ["whole", "x"] (σ0 := [("whole", iD a b), ("x", vD m e)]) (fun w => rfl) (fun w => rfl) (fun s vs w X hl => ⟨[], ?_, fun h => .nil⟩) (by decide) (by decide) rfl rfl rfl rfl (by decide) (fun c hr hs hL => ?_)
  · match vs, hl with
    | [_, _], _ => exact BindsTo.of_eq rfl
  · repeat' (walk_at "D1")
    refine Fn.use (law_value_ok a) (by omega) fun d hd => ?_
    subst hd
    repeat' (walk_at "D1")
    refine Fn.use (law_less_ok m e _ _ N h ha hN) (by omega) fun d hd => ?_
    subst hd
    repeat' (walk_at "D1")
    · have q : qv m e < qv (sg a.s a.m) a.e := by assumption
      refine congrArg D.bool ?_
      rw [decide_eq_true q]
      exact (decide_eq_false (fun q1 : a.val ≤ qv m e ∧ qv m e ≤ b.val => absurd q (Rat.not_lt.mpr q1.1))).symm
    · refine Fn.use (law_value_ok b) (by omega) fun d hd => ?_
      subst hd
      repeat' (walk_at "D1")
      refine Fn.use (law_less_ok _ _ m e N hb h hN) (by omega) fun d hd => ?_
      subst hd
      repeat' (walk_at "D1")
      have q : ¬qv m e < qv (sg a.s a.m) a.e := by assumption
      refine congrArg D.bool ?_
      have q1 : a.val ≤ qv m e := Rat.not_lt.mp q
      by_cases q2 : qv (sg b.s b.m) b.e < qv m e
      · rw [decide_eq_true q2]
        exact (decide_eq_false (fun q3 : a.val ≤ qv m e ∧ qv m e ≤ b.val => absurd q2 (Rat.not_lt.mpr q3.2))).symm
      · rw [decide_eq_false q2]
        exact (decide_eq_true ⟨q1, Rat.not_lt.mp q2⟩).symm
theorem mul_rng {W p n : Int} (hW : 0 ≤ W) (h : 0 ≤ p ∧ p ≤ n) : 0 ≤ W * p ∧ W * p ≤ n * W := by
  refine ⟨Int.mul_nonneg hW h.1, ?_⟩
  rw [Int.mul_comm n W]
  exact Int.mul_le_mul_of_nonneg_left h.2 hW
theorem law_part_ok (l h e r : Int) (g : Gr l h e) (hr0 : 0 ≤ r) : FnOK 263 1 [gD l h e, .int r] (fun d => ∃ l' h' x : Int, d = .tup [gD l' h' e, .tup [.int x, .int e]] ∧ Gr l' h' e ∧ l ≤ l' ∧ h' ≤ h ∧ l' ≤ x ∧ x ≤ h') := by
  have g1 := g.le
  have g2 := g.lo
  have g3 := g.hi
  have e1 := g.e1
  have e2 := g.e2
  refine FnOK_intro ["grid", "rich"] (σ0 := [("grid", gD l h e), ("rich", .int r)]) (fun w => rfl) (fun w => rfl) (fun s vs w X hl => ⟨[], ?_, fun h => .nil⟩) (by decide) (by decide) rfl rfl rfl rfl (by decide) (fun c hr hs hL => ?_)
  · match vs, hl with
    | [_, _], _ => exact BindsTo.of_eq rfl
  · have k1 : ib (h - l) ≤ 28 := ib_le (by omega)
    have p1 : 0 ≤ r / 2 ^ Int.toNat 100 % 5 ∧ r / 2 ^ Int.toNat 100 % 5 ≤ 4 := by omega
    have p2 : 0 ≤ r / 2 ^ Int.toNat 104 % 5 ∧ r / 2 ^ Int.toNat 104 % 5 ≤ 4 := by omega
    have p3 : 0 ≤ r / 2 ^ Int.toNat 108 % 9 ∧ r / 2 ^ Int.toNat 108 % 9 ≤ 8 := by omega
    have k2 : ib (r / 2 ^ Int.toNat 100 % 5) ≤ 3 := ib_le (by omega)
    have k3 : ib (r / 2 ^ Int.toNat 104 % 5) ≤ 3 := ib_le (by omega)
    have k4 : ib (r / 2 ^ Int.toNat 108 % 9) ≤ 4 := ib_le (by omega)
    have m1 := mul_rng (W := h - l) (by omega) p1
    have m2 := mul_rng (W := h - l) (by omega) p2
    have gg : Gr (l + (h - l) * (r / 2 ^ Int.toNat 100 % 5) / 8) (h - (h - l) * (r / 2 ^ Int.toNat 104 % 5) / 8) e := by
      generalize (h - l) * (r / 2 ^ Int.toNat 100 % 5) = T1 at *
      generalize (h - l) * (r / 2 ^ Int.toNat 104 % 5) = T2 at *
      exact ⟨by omega, by omega, by omega, by omega, by omega⟩
    have j1 := gg.le
    have j2 := gg.lo
    have j3 := gg.hi
    have k5 : ib (h - (h - l) * (r / 2 ^ Int.toNat 104 % 5) / 8 - (l + (h - l) * (r / 2 ^ Int.toNat 100 % 5) / 8)) ≤ 28 := ib_le (by omega)
    have m3 := mul_rng (W := h - (h - l) * (r / 2 ^ Int.toNat 104 % 5) / 8 - (l + (h - l) * (r / 2 ^ Int.toNat 100 % 5) / 8)) (by omega) p3
    repeat' (walk_at "D1")
    exact ⟨_, _, _, rfl, gg, by omega, by omega, by omega, by omega⟩
/-- a step's operation on numbers -/
def opf (k : Int) (x y : Rat) : Rat := if k = 0 then x + y else if k = 1 then x - y else if k = 2 then x * y else if k = 3 then x * x else if k = 4 then qabs x else if k = 5 then -x else x
theorem opf_0 : opf 0 = fun x y => x + y := rfl
theorem opf_1 : opf 1 = fun x y => x - y := rfl
theorem opf_2 : opf 2 = fun x y => x * y := rfl
theorem opf_3 : opf 3 = fun x y => x * x := rfl
theorem opf_4 : opf 4 = fun x y => qabs x := rfl
theorem opf_5 : opf 5 = fun x y => -x := rfl
theorem opf_6 : opf 6 = fun x y => x := rfl
theorem law_done_ok (k : Int) (a b a' b' : Mpf) (p N : Int) (hk : 0 ≤ k ∧ k < 7) (hp : 0 ≤ p ∧ p ≤ 100) (hN : 100 ≤ N ∧ N ≤ 2000000) (I : In N p a b) (J : In N p a' b') :
    FnOK 270 11 [.int k, iD a b, iD a' b', .int p] (fun d => ∃ u v : Mpf, ∃ L H : Rat, d = iD u v ∧ Res p false L (10 * N) u ∧ Res p true H (10 * N) v ∧ Hull (opf k) a.val b.val a'.val b'.val L H) := by
  refine FnOK_intro ["kind", "s", "t", "prec"] (σ0 := [("kind", .int k), ("s", iD a b), ("t", iD a' b'), ("prec", .int p)]) (fun w => rfl) (fun w => rfl) (fun s vs w X hl => ⟨[], ?_, fun h => .nil⟩) (by decide) (by decide) rfl rfl rfl rfl (by decide) (fun c hr hs hL => ?_)
  · match vs, hl with
    | [_, _, _, _], _ => exact BindsTo.of_eq rfl
  · repeat' (walk_at "D1")
    · have q : k = 0 := by assumption
      subst q
      refine Fn.use (mpi_add_ok a b a' b' p N hp hN I J) (by omega) fun d hd => ?_
      obtain ⟨u, v, rfl, hu, hv⟩ := hd
      exact ⟨u, v, _, _, rfl, hu, hv, opf_0 ▸ add_hull I.le J.le⟩
    · have q : k = 1 := by assumption
      subst q
      refine Fn.use (mpi_sub_ok a b a' b' p N hp hN I J) (by omega) fun d hd => ?_
      obtain ⟨u, v, rfl, hu, hv⟩ := hd
      exact ⟨u, v, _, _, rfl, hu, hv, opf_1 ▸ sub_hull I.le J.le⟩
    · have q : k = 2 := by assumption
      subst q
      refine Fn.use (mpi_mul_ok a b a' b' p N hp hN I J) (by omega) fun d hd => ?_
      obtain ⟨u, v, L, H, rfl, hu, hv, hh⟩ := hd
      exact ⟨u, v, _, _, rfl, hu, hv, opf_2 ▸ hh⟩
    · have q : k = 3 := by assumption
      subst q
      refine Fn.use (mpi_square_ok a b a'.val b'.val J.le p N hp hN I) (by omega) fun d hd => ?_
      obtain ⟨u, v, L, H, rfl, hu, hv, hh⟩ := hd
      exact ⟨u, v, _, _, rfl, hu, hv, opf_3 ▸ hh⟩
    · have q : k = 4 := by assumption
      subst q
      refine Fn.use (mpi_abs_ok a b a'.val b'.val J.le p N hp hN I) (by omega) fun d hd => ?_
      obtain ⟨u, v, L, H, rfl, hu, hv, hh⟩ := hd
      exact ⟨u, v, _, _, rfl, hu, hv, opf_4 ▸ hh⟩
    · have q : k = 5 := by assumption
      subst q
      refine Fn.use (mpi_neg_ok a b p N hp hN I) (by omega) fun d hd => ?_
      obtain ⟨u, v, rfl, hu, hv⟩ := hd
      exact ⟨u, v, _, _, rfl, hu, hv, opf_5 ▸ neg_hull I.le J.le⟩
    · have q : k = 6 := by omega
      subst q
      refine Fn.use (mpi_pos_ok a b p N hp hN I) (by omega) fun d hd => ?_
      obtain ⟨u, v, rfl, hu, hv⟩ := hd
      exact ⟨u, v, _, _, rfl, hu, hv, opf_6 ▸ pos_hull I.le J.le⟩
theorem qv_neg (m e : Int) : qv (-m) e = -(qv m e) := neg_mul_p2 m e
theorem qv_abs (m e : Int) : qv (if m < 0 then -m else m) e = qabs (qv m e) := by
  have hz : qv 0 e = 0 := by unfold qv; simp
  unfold qabs
  by_cases h : m < 0
  · rw [if_pos h, qv_neg]
    have h2 : qv m e < qv 0 e := lt_same.mpr h
    rw [hz] at h2
    rw [if_neg (Rat.not_le.mpr h2)]
  · rw [if_neg h]
    have h2 : qv 0 e ≤ qv m e := le_same.mpr (by omega)
    rw [hz] at h2
    rw [if_pos h2]
theorem law_exact_ok (k m e m' e' N : Int) (hk : 0 ≤ k ∧ k < 7) (h : Pt N m e) (h' : Pt N m' e') (hN : 0 ≤ N ∧ N ≤ 10000000) : FnOK 277 2 [.int k, vD m e, vD m' e'] (fun d => ∃ M E : Int, d = vD M E ∧ qv M E = opf k (qv m e) (qv m' e') ∧ Pt (4 * N + 1) M E) := by
  have hm : Pt N (-m) e := ⟨by rw [ib_neg]; exact h.b, h.lo, h.hi⟩
  have hm' : Pt N (-m') e' := ⟨by rw [ib_neg]; exact h'.b, h'.lo, h'.hi⟩
  refine FnOK_intro ["kind", "x", "y"] (σ0 := [("kind", .int k), ("x", vD m e), ("y", vD m' e')]) (fun w => rfl) (fun w => rfl) (fun s vs w X hl => ⟨[], ?_, fun h => .nil⟩) (by decide) (by decide) rfl rfl rfl rfl (by decide) (fun c hr hs hL => ?_)
  · match vs, hl with
    | [_, _, _], _ => exact BindsTo.of_eq rfl
  · repeat' (walk_at "D1")
    · have q : k = 0 := by assumption
      subst q
      exact Fn.use (law_sum_ok m e m' e' N h h' hN) (by omega) fun d hd => hd
    · have q : k = 1 := by assumption
      subst q
      refine Fn.use (law_sum_ok m e (-m') e' N h hm' hN) (by omega) fun d hd => ?_
      obtain ⟨M, E, rfl, h1, h2⟩ := hd
      exact ⟨M, E, rfl, by rw [h1, qv_neg, opf_1]; exact (Rat.sub_eq_add_neg _ _).symm, h2⟩
    · have q : k = 2 := by assumption
      subst q
      exact Fn.use (law_times_ok m e m' e' N h h' hN) (by omega) fun d hd => hd
    · have q : k = 3 := by assumption
      subst q
      exact Fn.use (law_times_ok m e m e N h h hN) (by omega) fun d hd => hd
    · have q : k = 4 := by assumption
      subst q
      refine ⟨_, _, rfl, qv_abs m e, ?_⟩
      split
      · exact hm.more (by omega)
      · exact h.more (by omega)
    · have q : k = 5 := by assumption
      subst q
      exact ⟨_, _, rfl, qv_neg m e, hm.more (by omega)⟩
    · have q : k = 6 := by omega
      subst q
      exact ⟨_, _, rfl, rfl, h.more (by omega)⟩
end Mine
end
section
open PySem.Calls PySem.Spec
namespace Mine
abbrev Row := Mpf × Mpf
abbrev rD (r : Row) : D := iD r.1 r.2
abbrev pairD (s : Int × Int) : D := .tup [.int s.1, .int s.2]
abbrev gridD (g : Int × Int × Int) : D := gD g.1 g.2.1 g.2.2
/-- one row is sound -/
def RowOk (p N : Int) (r : Row) : Prop := In N p r.1 r.2
def Steps (p : Int) : Int → List (Int × Int) → List Row → List Row → Prop
  | N, [], rows, fin => fin = rows
  | N, (k, o) :: pl, rows, fin => ∃ (a b a' b' u v : Mpf) (L H : Rat), rows[rows.length - 1]? = some (a, b) ∧ rows[(o % rows.length).toNat]? = some (a', b') ∧ Res p false L (10 * N) u ∧ Res p true H (10 * N) v ∧ Hull (opf k) a.val b.val a'.val b'.val L H ∧
      Steps p (10 * N) pl (rows ++ [(u, v)]) fin
/-- what a grid's span is -/
def SpanR (g : Int × Int × Int) (r : Row) : Prop := r.1.Ok ∧ r.2.Ok ∧ r.1.val = (g.1 : Rat) * p2 g.2.2 ∧ r.2.val = (g.2.1 : Rat) * p2 g.2.2 ∧ Bd 200 r.1 ∧ Bd 200 r.2 ∧ r.1.b ≤ 27 ∧ r.2.b ≤ 27
inductive All2 {α β : Type} (P : α → β → Prop) : List α → List β → Prop
  | nil : All2 P [] []
  | cons {a : α} {b : β} {as : List α} {bs : List β} : P a b → All2 P as bs → All2 P (a :: as) (b :: bs)
theorem All2.length {α β : Type} {P : α → β → Prop} : ∀ {as : List α} {bs : List β}, All2 P as bs → as.length = bs.length
  | _, _, .nil => rfl
  | _, _, .cons _ h => by simp [h.length]
theorem All2.get {α β : Type} {P : α → β → Prop} : ∀ {as : List α} {bs : List β}, All2 P as bs → ∀ {i : Nat} {a : α} {b : β}, as[i]? = some a → bs[i]? = some b → P a b
  | _, _, .nil, _, _, _, e, _ => by simp at e
  | _, _, .cons h _, 0, _, _, e, f => by simp at e f; subst e f; exact h
  | _, _, .cons _ h, i + 1, _, _, e, f => h.get (by simpa using e) (by simpa using f)
theorem All2.snoc {α β : Type} {P : α → β → Prop} {a : α} {b : β} (h : P a b) : ∀ {as : List α} {bs : List β}, All2 P as bs → All2 P (as ++ [a]) (bs ++ [b])
  | _, _, .nil => .cons h .nil
  | _, _, .cons x y => .cons x (All2.snoc h y)
theorem All2.imp {α β : Type} {P Q : α → β → Prop} (k : ∀ a b, P a b → Q a b) : ∀ {as : List α} {bs : List β}, All2 P as bs → All2 Q as bs
  | _, _, .nil => .nil
  | _, _, .cons x y => .cons (k _ _ x) (y.imp k)

theorem Res.le_lo {p N : Int} {v : Rat} {y : Mpf} (h : Res p false v N y) : y.val ≤ v := (h.rnd.dn rfl).1
theorem Res.ge_hi {p N : Int} {v : Rat} {y : Mpf} (h : Res p true v N y) : v ≤ y.val := (h.rnd.hi rfl).1
/-- p' is at least as fine as p -/
def Finer (p p' : Int) : Prop := p' = 0 ∨ (1 ≤ p ∧ p ≤ p')
theorem Fits.finer {p p' : Int} {z : Mpf} (h : Finer p p') (f : Fits p z) : Fits p' z := by
  rcases h with rfl | ⟨h1, h2⟩
  · exact .inl rfl
  · rcases f with rfl | f
    · omega
    · exact .inr (Int.lt_of_lt_of_le f (pow_le (by omega)))
theorem finer_lo {p p' N N' : Int} {L L' : Rat} {u u' : Mpf} (h : Finer p p') (hL : L ≤ L') (hu : Res p false L N u) (hu' : Res p' false L' N' u') : u.val ≤ u'.val :=
  (hu'.rnd.dn rfl).2 u hu.ok (hu.rnd.fits.finer h) (Rat.le_trans hu.le_lo hL)
theorem finer_hi {p p' N N' : Int} {L L' : Rat} {u u' : Mpf} (h : Finer p p') (hL : L' ≤ L) (hu : Res p true L N u) (hu' : Res p' true L' N' u') : u'.val ≤ u.val :=
  (hu'.rnd.hi rfl).2 u hu.ok (hu.rnd.fits.finer h) (Rat.le_trans hL hu.ge_hi)
/-- one row lies within the other -/
def Wi (r r' : Row) : Prop := r.1.val ≤ r'.1.val ∧ r'.2.val ≤ r.2.val
theorem hull_sub {f : Rat → Rat → Rat} {a b a' b' c d c' d' L H L' H' : Rat} (h : Hull f a b a' b' L H) (h' : Hull f c d c' d' L' H') (k1 : a ≤ c) (k2 : d ≤ b) (k3 : a' ≤ c') (k4 : d' ≤ b') : L ≤ L' ∧ H' ≤ H := by
  constructor
  · obtain ⟨x, y, x1, x2, y1, y2, rfl⟩ := h'.lo
    exact (h.all x y (Rat.le_trans k1 x1) (Rat.le_trans x2 k2) (Rat.le_trans k3 y1) (Rat.le_trans y2 k4)).1
  · obtain ⟨x, y, x1, x2, y1, y2, rfl⟩ := h'.hi
    exact (h.all x y (Rat.le_trans k1 x1) (Rat.le_trans x2 k2) (Rat.le_trans k3 y1) (Rat.le_trans y2 k4)).2
theorem steps_within {p p' : Int} (h : Finer p p') : ∀ {pl : List (Int × Int)} {N N' : Int} {rows rows' fin fin' : List Row}, Steps p N pl rows fin → Steps p' N' pl rows' fin' → All2 Wi rows rows' → All2 Wi fin fin'
  | [], _, _, _, _, _, _, rfl, rfl, w => w
  | (k, o) :: pl, N, N', rows, rows', fin, fin', ⟨a, b, a', b', u, v, L, H, e1, e2, hu, hv, hh, st⟩, ⟨c, d, c', d', u', v', L', H', f1, f2, hu', hv', hh', st'⟩, w => by
    rw [← w.length] at f1 f2
    have w1 := w.get e1 f1
    have w2 := w.get e2 f2
    obtain ⟨l1, l2⟩ := hull_sub hh hh' w1.1 w1.2 w2.1 w2.2
    exact steps_within h st st' (w.snoc ⟨finer_lo h l1 hu hu', finer_hi h l2 hv hv'⟩)
/-- rows of numbers -/
def PSteps : List (Int × Int) → List Rat → List Rat → Prop
  | [], rows, fin => fin = rows
  | (k, o) :: pl, rows, fin => ∃ x y : Rat, rows[rows.length - 1]? = some x ∧ rows[(o % rows.length).toNat]? = some y ∧ PSteps pl (rows ++ [opf k x y]) fin
def Hol (r : Row) (x : Rat) : Prop := r.1.val ≤ x ∧ x ≤ r.2.val
theorem steps_holds {p : Int} : ∀ {pl : List (Int × Int)} {N : Int} {rows fin : List Row} {xs xf : List Rat}, Steps p N pl rows fin → PSteps pl xs xf → All2 Hol rows xs → All2 Hol fin xf
  | [], _, _, _, _, _, rfl, rfl, w => w
  | (k, o) :: pl, N, rows, fin, xs, xf, ⟨a, b, a', b', u, v, L, H, e1, e2, hu, hv, hh, st⟩, ⟨x, y, f1, f2, st'⟩, w => by
    rw [← w.length] at f1 f2
    have w1 := w.get e1 f1
    have w2 := w.get e2 f2
    have l := hh.all x y w1.1 w1.2 w2.1 w2.2
    exact steps_holds st st' (w.snoc ⟨Rat.le_trans hu.le_lo l.1, Rat.le_trans l.2 hv.ge_hi⟩)
/-- the last row after at least one step -/
structure Last (p : Int) (u v : Mpf) : Prop where
  ou : u.Ok
  ov : v.Ok
  fu : Fits p u
  fv : Fits p v
  le : u.val ≤ v.val
  bu : Bd 20000000 u
  bv : Bd 20000000 v
theorem hull_le {f : Rat → Rat → Rat} {a b a' b' L H : Rat} (h : Hull f a b a' b' L H) : L ≤ H := by
  obtain ⟨x, y, x1, x2, y1, y2, rfl⟩ := h.lo
  exact (h.all x y x1 x2 y1 y2).2
theorem steps_last {p : Int} : ∀ {pl : List (Int × Int)} {N : Int} {rows fin : List Row}, pl ≠ [] → Steps p N pl rows fin → 0 ≤ N → N * 10 ^ pl.length ≤ 20000000 → ∃ u v, fin[fin.length - 1]? = some (u, v) ∧ Last p u v
  | [(k, o)], N, rows, fin, _, ⟨a, b, a', b', u, v, L, H, e1, e2, hu, hv, hh, st⟩, h0, hN => by
    have st' : fin = rows ++ [(u, v)] := st
    subst st'
    refine ⟨u, v, by simp, hu.ok, hv.ok, hu.rnd.fits, hv.rnd.fits, Rat.le_trans hu.le_lo (Rat.le_trans (hull_le hh) hv.ge_hi), ?_, ?_⟩
    · exact (hu.more (N' := 20000000) (by simp at hN; omega)).bd
    · exact (hv.more (N' := 20000000) (by simp at hN; omega)).bd
  | (k, o) :: (q :: pl), N, rows, fin, _, ⟨a, b, a', b', u, v, L, H, e1, e2, hu, hv, hh, st⟩, h0, hN =>
    steps_last (by simp) st (by omega) (by
      rw [List.length_cons, Int.pow_succ] at hN
      rw [Int.mul_comm 10 N, Int.mul_assoc, Int.mul_comm 10 _]
      exact hN)
end Mine
end
section
open PySem.Calls PySem.Spec
namespace Mine
local macro_rules | `(tactic| walk_at "DS") => `(tactic| first
  | with_reducible refine' SS_cons ?_
  | with_reducible refine' SS_nil ?_)
local macro_rules | `(tactic| walk_at "DT") => `(tactic| first
  | with_reducible refine' S_ret ?_
  | ((with_reducible refine' S_set ?hs ?hL ?hx ?hsw ?_); (case hs => assumption); (case hL => assumption); (case hx => rfl); (case hsw => rfl))
  | with_reducible refine' S_if ?_
  | ((with_reducible refine' S_aug ?hs ?hL ?hx ?hl ?_); (case hs => assumption); (case hL => assumption); (case hx => rfl); (case hl => rfl))
  | ((with_reducible refine' S_swapped ?hs ?hL ?hss ?hx ?hsw ?_); (case hs => assumption); (case hL => assumption); (case hss => (intro env h; cases env; cases h; rfl)); (case hx => decide); (case hsw => rfl))
  | ((with_reducible refine' S_swapped2 ?hs ?hL ?hn ?hss ?hx ?hsw ?_); (case hs => assumption); (case hL => assumption); (case hn => rfl); (case hss => (intro env h; cases env; cases h; unfold swappedStores; dsimp only [List.filterMap, Env.kindOf, Env.blockKind, List.lookup]; simp (config := {decide := true}); done)); (case hx => decide); (case hsw => rfl))
  | ((with_reducible refine' S_unpack ?hs ?hL ?hn ?hx ?hsw ?hss ?_); (case hs => assumption); (case hL => assumption); (case hn => rfl); (case hx => decide); (case hsw => rfl); (case hss => rfl))
  | with_reducible refine' S_assert ?_
  | ((with_reducible refine' S_set2 ?hs ?hL ?hx ?ha ?hss ?_); (case hs => assumption); (case hL => assumption); (case hx => decide); (case ha => rfl); (case hss => rfl))
  | ((with_reducible refine' S_for ?hs ?hL ?hx ?hf ?_); (case hs => assumption); (case hL => assumption); (case hx => rfl); (case hf => exact fun _ => rfl)))
local macro_rules | `(tactic| walk_at "DE") => `(tactic| first
  | with_reducible refine' EE_int ?_
  | with_reducible refine' EE_str ?_
  | with_reducible refine' EE_boolc ?_
  | ((with_reducible refine' EE_loc ?hl ?hd ?_); (case hl => rfl); (case hd => rfl))
  | ((with_reducible refine' EE_gint ?hs ?hx ?he ?hd ?_); (case hs => assumption); (case hx => rfl); (case he => exact fun w => rfl); (case hd => rfl))
  | ((with_reducible refine' EE_gstr ?hs ?hx ?he ?hd ?_); (case hs => assumption); (case hx => rfl); (case he => exact fun w => rfl); (case hd => rfl))
  | ((with_reducible refine' EE_g4 ?hs ?hx ?he ?he2 ?hd ?_); (case hs => assumption); (case hx => rfl); (case he => exact fun w => rfl); (case he2 => exact fun w => rfl); (case hd => rfl))
  | ((with_reducible refine' EE_raw ?hs ?hx ?he ?hd ?_); (case hs => assumption); (case hx => rfl); (case he => exact fun w => rfl); (case hd => rfl))
  | with_reducible refine' EE_bin ?_
  | with_reducible refine' EE_un ?_
  | ((with_reducible refine' EE_cmp ?hb ?_); (case hb => rfl))
  | with_reducible refine' EE_ifexp ?_
  | with_reducible refine' EE_or ?_
  | with_reducible refine' EE_and ?_
  | ((with_reducible refine' EE_tail ?ht ?_); (case ht => exact fun _ _ => rfl))
  | with_reducible refine' EE_sub ?_
  | ((with_reducible refine' EE_call ?hs ?hx ?he ?hk ?hd ?hne ?hc ?_); (case hs => assumption); (case hx => rfl); (case he => exact fun w => rfl); (case hk => exact fun w => rfl); (case hd => rfl); (case hne => rfl); (case hc => rfl))
  | ((with_reducible refine' EE_bic ?hs ?hx ?he ?hv ?hn ?hd ?hne ?hc ?_); (case hs => assumption); (case hx => rfl); (case he => exact fun w => rfl); (case hv => first | exact PyProof.Rows.boot_min | exact PyProof.Rows.boot_abs | exact PyProof.Rows.boot_all | exact boot_len'); (case hn => decide); (case hd => rfl); (case hne => rfl); (case hc => rfl))
  | ((with_reducible refine' EE_tup ?hn ?_); (case hn => rfl))
  | ((with_reducible refine' EE_lst ?hn ?_); (case hn => rfl))
  | ((with_reducible refine' EE_bl ?hc ?_); (case hc => exact ⟨_, rfl⟩)))
local macro_rules | `(tactic| walk_at "DB") => `(tactic| first
  | ((with_reducible refine' EB_cmp ?hb ?_); (case hb => rfl))
  | ((with_reducible refine' EB_cmp2 ?hb ?_); (case hb => rfl))
  | with_reducible refine' EB_not ?_
  | with_reducible refine' all_and ?_
  | with_reducible refine' all_or ?_
  | ((with_reducible refine' EB_plain ?he ?_); (case he => rfl)))
local macro_rules | `(tactic| walk_at "DO") => `(tactic| first
  | with_reducible refine' Bop_add ?_
  | with_reducible refine' Bop_sub ?_
  | with_reducible refine' Bop_and ?_
  | ((with_reducible refine' Bop_mul ?hm ?_); (case hm => first | assumption | (refine' mulOk ?_; omega)))
  | ((with_reducible refine' Bop_pow2 ?h0 ?hs ?_); (case h0 => first | decide | omega); (case hs => first | decide | omega))
  | ((with_reducible refine' Bop_modp ?h0 ?_); (case h0 => first | with_reducible assumption | with_reducible exact Mine.pow_pos _ | decide | omega))
  | ((with_reducible refine' Bop_divp ?h0 ?hp ?_); (case h0 => first | with_reducible assumption | with_reducible exact Mine.pow_pos _ | decide | omega); (case hp => first | decide +kernel | (refine' log2_pow ?_; omega)))
  | with_reducible refine' Cal_min ?_
  | with_reducible refine' Cal_abs ?_
  | ((with_reducible refine' Cal_lenO ?hi ?h0 ?_); (case hi => with_reducible assumption); (case h0 => first | with_reducible assumption | omega))
  | ((with_reducible refine' Cal_len ?h0 ?_); (case h0 => first | assumption | omega))
  | ((with_reducible refine' Bop_pow ?h0 ?hs ?_); (case h0 => first | decide | omega); (case hs => first | assumption | decide))
  | ((with_reducible refine' Bop_shr ?h0 ?_); (case h0 => omega))
  | ((with_reducible refine' Bop_shl ?h0 ?hs ?_); (case h0 => omega); (case hs => omega))
  | ((with_reducible refine' Iop_shl ?h0 ?hs ?_); (case h0 => omega); (case hs => omega))
  | ((with_reducible refine' Iop_shr ?h0 ?_); (case h0 => omega))
  | ((with_reducible refine' Bop_xorT ?h0 ?_); (case h0 => assumption))
  | with_reducible refine' Bop_xor ?_
  | with_reducible refine' Iop_add ?_
  | with_reducible refine' Iop_sub ?_
  | ((with_reducible refine' Iop_xorT ?h0 ?_); (case h0 => assumption))
  | with_reducible refine' Iop_xor ?_
  | with_reducible refine' Uop_neg ?_
  | with_reducible refine' Uop_not ?_
  | with_reducible refine' Tru_int ?_
  | with_reducible refine' Tru_bool ?_
  | with_reducible refine' Cop_eq ?_
  | with_reducible refine' Cop_ne ?_
  | with_reducible refine' Cop_lt ?_
  | with_reducible refine' Cop_le ?_
  | with_reducible refine' Cop_gt ?_
  | with_reducible refine' Cop_ge ?_
  | with_reducible refine' Cop_eqs ?_
  | with_reducible refine' Cop_eq4 ?_
  | ((with_reducible refine' Gop_shifts _ ?hs ?_); (case hs => exact fun _ _ _ => rfl))
  | ((with_reducible refine' Gop_list ?h1 ?h2 ?hd ?hs ?_); (case h1 => decide); (case h2 => decide); (case hd => exact rfl); (case hs => exact fun _ _ _ => rfl))
  | ((with_reducible refine' Gop_tup ?h1 ?h2 ?hj ?hd ?hs ?_); (case h1 => decide); (case h2 => decide); (case hj => exact rfl); (case hd => exact rfl); (case hs => exact fun _ _ _ => rfl)))
local macro_rules | `(tactic| walk_at "DI") => `(tactic| ((refine' And.intro (fun hb => ?_) (fun hb => ?_)) <;> (try simp only [Bool.not_eq_true', Bool.not_eq_false', bne_iff_ne, beq_iff_eq, beq_eq_false_iff_ne, bne_eq_false_iff_eq, decide_eq_true_eq, decide_eq_false_iff_not, ne_eq, Bool.and_eq_true, Bool.or_eq_true, gt_iff_lt, ge_iff_le, Int.not_lt, Int.not_le, Bool.not_eq_eq_eq_not, Bool.not_true, Bool.not_false, Decidable.not_not, reduceCtorEq, if_true, if_false, Bool.false_eq_true, ↓reduceIte] at hb) <;> (first | done | (exfalso; omega) | (exfalso; revert hb; decide) | skip)))
local macro_rules | `(tactic| walk_at "D1") => `(tactic| first
  | ((with_reducible show SS _ _ _ _ _); walk_at "DS")
  | ((with_reducible show S1 _ _ _ _ _); walk_at "DT")
  | ((with_reducible show EE _ _ _ _); walk_at "DE")
  | ((with_reducible show EB _ _ _ _); walk_at "DB")
  | ((with_reducible show EL _ _ _ _); (first | with_reducible refine' EL_cons ?_ | with_reducible refine' EL_nil ?_))
  | ((with_reducible show ForL _ _ _ _ _ _ _); first | refine' ForL_cons ?_ | refine' ForL_nil ?_)
  | ((with_reducible show And _ _); walk_at "DI")
  | refine' And.intro (Eq.refl _) ?_
  | ((with_reducible refine' And.intro ?ka ?_); (case ka => (simp only [beq_iff_eq, decide_eq_true_eq, ge_iff_le]; first | done | assumption | omega)))
  | ((with_reducible refine' And.intro ?ka ?_); (case ka => first | assumption | exact Or.inl rfl | exact Or.inr rfl))
  | with_reducible refine' Exists.intro _ (And.intro rfl ?_)
  | walk_at "DO")
def ThrR (pl : List (Int × Int)) (gs : List (Int × Int × Int)) (p : Int) (d : D) : Prop := ∃ (r0 fin : List Row) (r : Row), All2 SpanR gs r0 ∧ Steps p 200 pl r0 fin ∧ fin[fin.length - 1]? = some r ∧ d = rD r
theorem span_in {p : Int} {g : Int × Int × Int} {r : Row} (hg : Gr g.1 g.2.1 g.2.2) (h : SpanR g r) : In 200 p r.1 r.2 := by
  obtain ⟨h1, h2, h3, h4, h5, h6, h7, h8⟩ := h
  exact ⟨h1, h2, by rw [h3, h4]; exact le_same.mpr hg.le, h5, h6, fun _ => ⟨by omega, by omega⟩⟩
/-- spans, one by one -/
theorem spans_comp {c : Cx} {sc scL : Scope} {Fin : List D → Prop} {elt : PySem.Expr} (step : ∀ (g : Int × Int × Int) (Q : D → Prop), Gr g.1 g.2.1 g.2.2 → (∀ r, SpanR g r → Q (rD r)) → CT c sc scL "grid" [] elt (gridD g) Q) :
    ∀ (gs done : List (Int × Int × Int)) (rs : List Row), (∀ g ∈ gs, Gr g.1 g.2.1 g.2.2) → All2 SpanR done rs → (∀ rs', All2 SpanR (done ++ gs) rs' → Fin (rs'.map rD)) → CompL (CT c sc scL "grid" [] elt) (gs.map gridD) (rs.map rD) Fin
  | [], done, rs, _, h, k => by
    have := k rs (by simpa using h)
    exact this
  | g :: gs, done, rs, hg, h, k => by
    refine step g _ (hg g (.head _)) fun r hr => ?_
    have := spans_comp step gs (done ++ [g]) (rs ++ [r]) (fun g' h' => hg g' (.tail _ h')) (h.snoc hr) (fun rs' h' => k rs' (by simpa using h'))
    simpa using this
theorem In.more {N N' p : Int} {a b : Mpf} (h : In N p a b) (k : N ≤ N') : In N' p a b :=
  ⟨h.oa, h.ob, h.le, ⟨by have := h.ba.b; omega, by have := h.ba.lo; omega, by have := h.ba.hi; omega⟩, ⟨by have := h.bb.b; omega, by have := h.bb.lo; omega, by have := h.bb.hi; omega⟩, h.cut⟩
theorem fits_bits {p : Int} {u : Mpf} (hu : u.Ok) (h : Fits p u) (hp : 0 < p ∧ p ≤ 100) : u.b ≤ 100 := by
  rcases h with h | h
  · omega
  · have := ib_le (n := u.m) (k := p.toNat) (by
      have h1 : ((u.m.natAbs : Nat) : Int) < ((2 ^ p.toNat : Nat) : Int) := by rw [pow_nat]; have := hu.nn; omega
      exact_mod_cast h1)
    have := hu.bc
    omega
theorem step_in {p N : Int} {L H : Rat} {u v : Mpf} (hp : 0 ≤ p ∧ p ≤ 100) (hu : Res p false L N u) (hv : Res p true H N v) (h : L ≤ H) : In N p u v :=
  ⟨hu.ok, hv.ok, Rat.le_trans hu.le_lo (Rat.le_trans h hv.ge_hi), hu.bd, hv.bd, fun q => ⟨fits_bits hu.ok hu.rnd.fits ⟨q, hp.2⟩, fits_bits hv.ok hv.rnd.fits ⟨q, hp.2⟩⟩⟩
theorem row_get {rows : List Row} {r : Row} {i : Int} {j : Nat} (e : rows[j]? = some r) (h : i.toNat = j) : (rows.map rD)[i.toNat]? = some (rD r) := by rw [h, List.getElem?_map, e]; rfl
/-- the loop over the plan -/
theorem plan_loop {c : Cx} {ρ : Addr} {hk : ∀ o, (KF c.w).lookup ρ = some o → False} {σ : Lo} {e : PySem.Expr} {rest : List Stmt} {R : D → Prop} {p : Int} (hp : 0 ≤ p ∧ p ≤ 100)
    (step : ∀ (k o N : Int) (rows : List Row) (a b a' b' : Mpf) (Q : D → Prop), (0 ≤ k ∧ k < 7) → 0 ≤ o → 0 < rows.length → rows.length ≤ 100 → 100 ≤ N ∧ N ≤ 2000000 → rows[rows.length - 1]? = some (a, b) → rows[(o % rows.length).toNat]? = some (a', b') → In N p a b → In N p a' b' →
      (∀ d, (∃ u v : Mpf, ∃ L H : Rat, d = iD u v ∧ Res p false L (10 * N) u ∧ Res p true H (10 * N) v ∧ Hull (opf k) a.val b.val a'.val b'.val L H) → Q d) → EE (c.own ρ hk (rows.map rD)) (("other", .int o) :: ("kind", .int k) :: σ) e Q)
    (last : ∀ (rows : List Row) (r : Row), 0 < rows.length → rows.length ≤ 100 → rows[rows.length - 1]? = some r → R (rD r) → SW (c.own ρ hk (rows.map rD)) σ rest R) :
    ∀ (pl : List (Int × Int)) (N : Int) (rows : List Row), (∀ q ∈ pl, (0 ≤ q.1 ∧ q.1 < 7) ∧ 0 ≤ q.2) → 100 ≤ N ∧ N * 10 ^ pl.length ≤ 20000000 → (∀ r ∈ rows, In N p r.1 r.2) → 0 < rows.length → rows.length + pl.length ≤ 100 →
      (∀ fin r, Steps p N pl rows fin → fin[fin.length - 1]? = some r → R (rD r)) → OwnL c ρ hk σ "kind" "other" e rest R (pl.map pairD) (rows.map rD)
  | [], N, rows, hpl, hN, hrows, h0, h1, K => by
    obtain ⟨r, hr⟩ : ∃ r, rows[rows.length - 1]? = some r := ⟨rows[rows.length - 1], by simp [h0]⟩
    exact last rows r h0 (by simpa using h1) hr (K rows r rfl hr)
  | (k, o) :: pl, N, rows, hpl, hN, hrows, h0, h1, K => by
    have hko := hpl (k, o) (.head _)
    have ho := Int.emod_nonneg o (b := rows.length) (by omega)
    have ho' := Int.emod_lt_of_pos o (b := rows.length) (by omega)
    obtain ⟨⟨a, b⟩, hr⟩ : ∃ r, rows[rows.length - 1]? = some r := ⟨rows[rows.length - 1], by simp [h0]⟩
    have hi2 : (o % rows.length).toNat < rows.length := by omega
    obtain ⟨⟨a', b'⟩, hr'⟩ : ∃ r, rows[(o % rows.length).toNat]? = some r := ⟨rows[(o % rows.length).toNat]'hi2, by simp [hi2]⟩
    have hN2 : N * 10 ≤ 20000000 := by
      have h3 : (10 : Int) ^ (pl.length + 1) = 10 * 10 ^ pl.length := by rw [Int.pow_succ, Int.mul_comm]
      have h4 : (0 : Int) < 10 ^ pl.length := Int.pow_pos (by decide)
      have h5 : N * 10 * 1 ≤ N * 10 * 10 ^ pl.length := Int.mul_le_mul_of_nonneg_left (by omega) (by omega)
      have h6 := hN.2
      rw [List.length_cons, h3, ← Int.mul_assoc] at h6
      omega
    have hlen2 : (rows.map rD).length ≤ 1000 := by rw [List.length_map]; simp at h1; omega
    refine ⟨.int k, .int o, rfl, step k o N rows a b a' b' _ hko.1 hko.2 h0 (by simp at h1; omega) (by omega) hr hr' (hrows _ (List.mem_of_getElem? hr)) (hrows _ (List.mem_of_getElem? hr')) fun d hd => ?_⟩
    obtain ⟨u, v, L, H, rfl, hu, hv, hh⟩ := hd
    refine ⟨hlen2, ?_⟩
    have hI := step_in hp hu hv (hull_le hh)
    have e1 : rows.map rD ++ [iD u v] = (rows ++ [(u, v)]).map rD := by simp
    rw [e1]
    refine plan_loop hp step last pl (10 * N) (rows ++ [(u, v)]) (fun q h => hpl q (.tail _ h)) ⟨by omega, ?_⟩ (fun r hm => ?_) (by simp) (by simp at h1 ⊢; omega) (fun fin r h2 h3 => K fin r ⟨a, b, a', b', u, v, L, H, hr, hr', hu, hv, hh, h2⟩ h3)
    · have h6 := hN.2
      rw [List.length_cons, Int.pow_succ] at h6
      rw [Int.mul_comm 10 N, Int.mul_assoc, Int.mul_comm 10 _]
      exact h6
    · rcases List.mem_append.mp hm with hm | hm
      · exact (hrows r hm).more (by omega)
      · rw [List.mem_singleton.mp hm]; exact hI
theorem law_through_ok (pl : List (Int × Int)) (gs : List (Int × Int × Int)) (p : Int) (hp : 0 ≤ p ∧ p ≤ 100) (hpl : ∀ q ∈ pl, (0 ≤ q.1 ∧ q.1 < 7) ∧ 0 ≤ q.2) (hlen : pl.length ≤ 5) (hg : ∀ g ∈ gs, Gr g.1 g.2.1 g.2.2) (hgl : 0 < gs.length ∧ gs.length ≤ 10) :
    FnOK 282 13 [.list (pl.map pairD), .list (gs.map gridD), .int p] (ThrR pl gs p) := by
  refine FnOK_intro2 ["plan", "grids", "prec"] (σ0 := [("plan", .list (pl.map pairD)), ("grids", .list (gs.map gridD)), ("prec", .int p)]) (fun w => rfl) (fun w => rfl) (fun s vs w X hl => ⟨[], ?_, fun h => .nil⟩) (by decide) (by decide) rfl rfl rfl rfl (by decide) (fun c hr hs hL htriv => ?_)
  · match vs, hl with
    | [_, _, _], _ => exact BindsTo.of_eq rfl
  · refine SS_ownComp htriv (sto_local hs hL rfl) ?hsw hs (closure_none rfl) rfl rfl rfl rfl (fun _ => rfl) (σf := []) (fun _ _ e => by cases e) ?_
    case hsw =>
      revert hs
      generalize c.env = env
      intro hs
      cases env
      cases hs
      rfl
    refine' EE_loc ?hl ?hd ?_
    case hl => rfl
    case hd => rfl
    refine ⟨gs.map gridD, .list _, by rw [List.length_map]; omega, ?_⟩
    refine spans_comp ?_ gs [] [] hg .nil ?_
    · intro g Q hgr k c2 hr2 hs2
      repeat' (walk_at "D1")
      refine Fn.use (law_span_ok g.1 g.2.1 g.2.2 hgr) (by omega) fun d hd => ?_
      obtain ⟨u, v, rfl, h⟩ := hd
      exact k (u, v) h
    · intro r0 h0 ρ hk hgn
      rw [List.nil_append] at h0
      refine SW_for hgn hs hL rfl rfl ⟨rfl, rfl⟩ (fun _ => rfl) ?hi ?hbase ?hfew ?hline ?htrees (fun _ _ => rfl) rfl ?_
      case hi => unfold interactive; rw [hs]; rfl
      case hbase => rfl
      case hfew => rfl
      case hline => rfl
      case htrees => rfl
      refine' EE_loc ?hl ?hd ?_
      case hl => rfl
      case hd => rfl
      have hl0 := h0.length
      refine ⟨_, rfl, plan_loop hp ?_ ?_ pl 200 r0 hpl ⟨by decide, ?_⟩ (fun r hr => ?_) (by omega) (by omega) (fun fin r h2 h3 => ⟨r0, fin, r, h0, h2, h3, rfl⟩)⟩
      · intro k o N rows a b a' b' Q hk' ho hr0 hr1 hN er er' I J J2
        have hi := own_is (c := c) (ρ := ρ) (hk := hk) (xs := rows.map rD)
        have hs' : (c.own ρ hk (rows.map rD)).env.scope = _ := hs
        have hr' : 12 ≤ (c.own ρ hk (rows.map rD)).rk := hr
        generalize c.own ρ hk (rows.map rD) = c' at *
        have q1 : 0 < ((rows.map rD).length : Int) := by rw [List.length_map]; omega
        have q2 : ((rows.map rD).length : Int) < 2 ^ 63 := by rw [List.length_map]; omega
        have w1 := Int.emod_nonneg o (b := (rows.map rD).length) (by omega)
        have w2 := Int.emod_lt_of_pos o q1
        repeat' (walk_at "D1")
        refine Gop_own hi (by omega) (by omega) (row_get er (by rw [List.length_map]; omega)) (fun _ _ _ => rfl) ?_
        repeat' (walk_at "D1")
        refine Gop_own hi w1 (by omega) (row_get er' (by rw [List.length_map])) (fun _ _ _ => rfl) ?_
        repeat' (walk_at "D1")
        exact Fn.use (law_done_ok k a b a' b' p N hk' hp hN I J) (by omega) J2
      · intro rows r hr0 hr1 er hR
        have hi := own_is (c := c) (ρ := ρ) (hk := hk) (xs := rows.map rD)
        have hs' : (c.own ρ hk (rows.map rD)).env.scope = _ := hs
        have hr' : 12 ≤ (c.own ρ hk (rows.map rD)).rk := hr
        generalize c.own ρ hk (rows.map rD) = c' at *
        have q1 : 0 < ((rows.map rD).length : Int) := by rw [List.length_map]; omega
        have q2 : ((rows.map rD).length : Int) < 2 ^ 63 := by rw [List.length_map]; omega
        refine SW_ret ?_
        repeat' (walk_at "D1")
        exact Gop_own hi (by omega) (by omega) (row_get er (by rw [List.length_map]; omega)) (fun _ _ _ => rfl) hR
      · have h4 : (10 : Int) ^ pl.length ≤ 10 ^ 5 := by
          match pl.length, hlen with
          | 0, _ => decide
          | 1, _ => decide
          | 2, _ => decide
          | 3, _ => decide
          | 4, _ => decide
          | 5, _ => decide
        omega
      · obtain ⟨i, hi⟩ := List.mem_iff_getElem?.mp hr
        have hlt : i < r0.length := (List.getElem?_eq_some_iff.mp hi).1
        obtain ⟨g, hgi⟩ : ∃ g, gs[i]? = some g := ⟨gs[i]'(by omega), by simp [show i < gs.length by omega]⟩
        exact span_in (hg g (List.mem_of_getElem? hgi)) (h0.get hgi hi)
end Mine
end
section
open PySem.Calls PySem.Spec
namespace Mine
local macro_rules | `(tactic| walk_at "DS") => `(tactic| first
  | with_reducible refine' SS_cons ?_
  | with_reducible refine' SS_nil ?_)
local macro_rules | `(tactic| walk_at "DT") => `(tactic| first
  | with_reducible refine' S_ret ?_
  | ((with_reducible refine' S_set ?hs ?hL ?hx ?hsw ?_); (case hs => assumption); (case hL => assumption); (case hx => rfl); (case hsw => rfl))
  | with_reducible refine' S_if ?_
  | ((with_reducible refine' S_aug ?hs ?hL ?hx ?hl ?_); (case hs => assumption); (case hL => assumption); (case hx => rfl); (case hl => rfl))
  | ((with_reducible refine' S_swapped ?hs ?hL ?hss ?hx ?hsw ?_); (case hs => assumption); (case hL => assumption); (case hss => (intro env h; cases env; cases h; rfl)); (case hx => decide); (case hsw => rfl))
  | ((with_reducible refine' S_swapped2 ?hs ?hL ?hn ?hss ?hx ?hsw ?_); (case hs => assumption); (case hL => assumption); (case hn => rfl); (case hss => (intro env h; cases env; cases h; unfold swappedStores; dsimp only [List.filterMap, Env.kindOf, Env.blockKind, List.lookup]; simp (config := {decide := true}); done)); (case hx => decide); (case hsw => rfl))
  | ((with_reducible refine' S_unpack ?hs ?hL ?hn ?hx ?hsw ?hss ?_); (case hs => assumption); (case hL => assumption); (case hn => rfl); (case hx => decide); (case hsw => rfl); (case hss => rfl))
  | with_reducible refine' S_assert ?_
  | ((with_reducible refine' S_set2 ?hs ?hL ?hx ?ha ?hss ?_); (case hs => assumption); (case hL => assumption); (case hx => decide); (case ha => rfl); (case hss => rfl))
  | ((with_reducible refine' S_for ?hs ?hL ?hx ?hf ?_); (case hs => assumption); (case hL => assumption); (case hx => rfl); (case hf => exact fun _ => rfl)))
local macro_rules | `(tactic| walk_at "DE") => `(tactic| first
  | with_reducible refine' EE_int ?_
  | with_reducible refine' EE_str ?_
  | with_reducible refine' EE_boolc ?_
  | ((with_reducible refine' EE_loc ?hl ?hd ?_); (case hl => rfl); (case hd => rfl))
  | ((with_reducible refine' EE_gint ?hs ?hx ?he ?hd ?_); (case hs => assumption); (case hx => rfl); (case he => exact fun w => rfl); (case hd => rfl))
  | ((with_reducible refine' EE_gstr ?hs ?hx ?he ?hd ?_); (case hs => assumption); (case hx => rfl); (case he => exact fun w => rfl); (case hd => rfl))
  | ((with_reducible refine' EE_g4 ?hs ?hx ?he ?he2 ?hd ?_); (case hs => assumption); (case hx => rfl); (case he => exact fun w => rfl); (case he2 => exact fun w => rfl); (case hd => rfl))
  | ((with_reducible refine' EE_raw ?hs ?hx ?he ?hd ?_); (case hs => assumption); (case hx => rfl); (case he => exact fun w => rfl); (case hd => rfl))
  | with_reducible refine' EE_bin ?_
  | with_reducible refine' EE_un ?_
  | ((with_reducible refine' EE_cmp ?hb ?_); (case hb => rfl))
  | with_reducible refine' EE_ifexp ?_
  | with_reducible refine' EE_or ?_
  | with_reducible refine' EE_and ?_
  | ((with_reducible refine' EE_tail ?ht ?_); (case ht => exact fun _ _ => rfl))
  | with_reducible refine' EE_sub ?_
  | ((with_reducible refine' EE_call ?hs ?hx ?he ?hk ?hd ?hne ?hc ?_); (case hs => assumption); (case hx => rfl); (case he => exact fun w => rfl); (case hk => exact fun w => rfl); (case hd => rfl); (case hne => rfl); (case hc => rfl))
  | ((with_reducible refine' EE_bic ?hs ?hx ?he ?hv ?hn ?hd ?hne ?hc ?_); (case hs => assumption); (case hx => rfl); (case he => exact fun w => rfl); (case hv => first | exact PyProof.Rows.boot_min | exact PyProof.Rows.boot_abs | exact PyProof.Rows.boot_all | exact boot_len'); (case hn => decide); (case hd => rfl); (case hne => rfl); (case hc => rfl))
  | ((with_reducible refine' EE_tup ?hn ?_); (case hn => rfl))
  | ((with_reducible refine' EE_lst ?hn ?_); (case hn => rfl))
  | ((with_reducible refine' EE_bl ?hc ?_); (case hc => exact ⟨_, rfl⟩)))
local macro_rules | `(tactic| walk_at "DB") => `(tactic| first
  | ((with_reducible refine' EB_cmp ?hb ?_); (case hb => rfl))
  | ((with_reducible refine' EB_cmp2 ?hb ?_); (case hb => rfl))
  | with_reducible refine' EB_not ?_
  | with_reducible refine' all_and ?_
  | with_reducible refine' all_or ?_
  | ((with_reducible refine' EB_plain ?he ?_); (case he => rfl)))
local macro_rules | `(tactic| walk_at "DO") => `(tactic| first
  | with_reducible refine' Bop_add ?_
  | with_reducible refine' Bop_sub ?_
  | with_reducible refine' Bop_and ?_
  | ((with_reducible refine' Bop_mul ?hm ?_); (case hm => first | assumption | (refine' mulOk ?_; omega)))
  | ((with_reducible refine' Bop_pow2 ?h0 ?hs ?_); (case h0 => first | decide | omega); (case hs => first | decide | omega))
  | ((with_reducible refine' Bop_modp ?h0 ?_); (case h0 => first | with_reducible assumption | with_reducible exact Mine.pow_pos _ | decide | omega))
  | ((with_reducible refine' Bop_divp ?h0 ?hp ?_); (case h0 => first | with_reducible assumption | with_reducible exact Mine.pow_pos _ | decide | omega); (case hp => first | decide +kernel | (refine' log2_pow ?_; omega)))
  | with_reducible refine' Cal_min ?_
  | with_reducible refine' Cal_abs ?_
  | ((with_reducible refine' Cal_lenO ?hi ?h0 ?_); (case hi => with_reducible assumption); (case h0 => first | with_reducible assumption | omega))
  | ((with_reducible refine' Cal_len ?h0 ?_); (case h0 => first | assumption | omega))
  | ((with_reducible refine' Bop_pow ?h0 ?hs ?_); (case h0 => first | decide | omega); (case hs => first | assumption | decide))
  | ((with_reducible refine' Bop_shr ?h0 ?_); (case h0 => omega))
  | ((with_reducible refine' Bop_shl ?h0 ?hs ?_); (case h0 => omega); (case hs => omega))
  | ((with_reducible refine' Iop_shl ?h0 ?hs ?_); (case h0 => omega); (case hs => omega))
  | ((with_reducible refine' Iop_shr ?h0 ?_); (case h0 => omega))
  | ((with_reducible refine' Bop_xorT ?h0 ?_); (case h0 => assumption))
  | with_reducible refine' Bop_xor ?_
  | with_reducible refine' Iop_add ?_
  | with_reducible refine' Iop_sub ?_
  | ((with_reducible refine' Iop_xorT ?h0 ?_); (case h0 => assumption))
  | with_reducible refine' Iop_xor ?_
  | with_reducible refine' Uop_neg ?_
  | with_reducible refine' Uop_not ?_
  | with_reducible refine' Tru_int ?_
  | with_reducible refine' Tru_bool ?_
  | with_reducible refine' Cop_eq ?_
  | with_reducible refine' Cop_ne ?_
  | with_reducible refine' Cop_lt ?_
  | with_reducible refine' Cop_le ?_
  | with_reducible refine' Cop_gt ?_
  | with_reducible refine' Cop_ge ?_
  | with_reducible refine' Cop_eqs ?_
  | with_reducible refine' Cop_eq4 ?_
  | ((with_reducible refine' Gop_shifts _ ?hs ?_); (case hs => exact fun _ _ _ => rfl))
  | ((with_reducible refine' Gop_list ?h1 ?h2 ?hd ?hs ?_); (case h1 => decide); (case h2 => decide); (case hd => exact rfl); (case hs => exact fun _ _ _ => rfl))
  | ((with_reducible refine' Gop_tup ?h1 ?h2 ?hj ?hd ?hs ?_); (case h1 => decide); (case h2 => decide); (case hj => exact rfl); (case hd => exact rfl); (case hs => exact fun _ _ _ => rfl)))
local macro_rules | `(tactic| walk_at "DI") => `(tactic| ((refine' And.intro (fun hb => ?_) (fun hb => ?_)) <;> (try simp only [Bool.not_eq_true', Bool.not_eq_false', bne_iff_ne, beq_iff_eq, beq_eq_false_iff_ne, bne_eq_false_iff_eq, decide_eq_true_eq, decide_eq_false_iff_not, ne_eq, Bool.and_eq_true, Bool.or_eq_true, gt_iff_lt, ge_iff_le, Int.not_lt, Int.not_le, Bool.not_eq_eq_eq_not, Bool.not_true, Bool.not_false, Decidable.not_not, reduceCtorEq, if_true, if_false, Bool.false_eq_true, ↓reduceIte] at hb) <;> (first | done | (exfalso; omega) | (exfalso; revert hb; decide) | skip)))
local macro_rules | `(tactic| walk_at "D1") => `(tactic| first
  | ((with_reducible show SS _ _ _ _ _); walk_at "DS")
  | ((with_reducible show S1 _ _ _ _ _); walk_at "DT")
  | ((with_reducible show EE _ _ _ _); walk_at "DE")
  | ((with_reducible show EB _ _ _ _); walk_at "DB")
  | ((with_reducible show EL _ _ _ _); (first | with_reducible refine' EL_cons ?_ | with_reducible refine' EL_nil ?_))
  | ((with_reducible show ForL _ _ _ _ _ _ _); first | refine' ForL_cons ?_ | refine' ForL_nil ?_)
  | ((with_reducible show And _ _); walk_at "DI")
  | refine' And.intro (Eq.refl _) ?_
  | ((with_reducible refine' And.intro ?ka ?_); (case ka => (simp only [beq_iff_eq, decide_eq_true_eq, ge_iff_le]; first | done | assumption | omega)))
  | ((with_reducible refine' And.intro ?ka ?_); (case ka => first | assumption | exact Or.inl rfl | exact Or.inr rfl))
  | with_reducible refine' Exists.intro _ (And.intro rfl ?_)
  | walk_at "DO")
def qvp (q : Int × Int) : Rat := qv q.1 q.2
theorem prow_get {rows : List (Int × Int)} {r : Int × Int} {i : Int} {j : Nat} (e : rows[j]? = some r) (h : i.toNat = j) : (rows.map pairD)[i.toNat]? = some (pairD r) := by rw [h, List.getElem?_map, e]; rfl
theorem point_loop {c : Cx} {ρ : Addr} {hk : ∀ o, (KF c.w).lookup ρ = some o → False} {σ : Lo} {e : PySem.Expr} {rest : List Stmt} {R : D → Prop}
    (step : ∀ (k o N : Int) (rows : List (Int × Int)) (a a' : Int × Int) (Q : D → Prop), (0 ≤ k ∧ k < 7) → 0 ≤ o → 0 < rows.length → rows.length ≤ 100 → 0 ≤ N ∧ N ≤ 10000000 → rows[rows.length - 1]? = some a → rows[(o % rows.length).toNat]? = some a' → Pt N a.1 a.2 → Pt N a'.1 a'.2 →
      (∀ d, (∃ M E : Int, d = vD M E ∧ qv M E = opf k (qv a.1 a.2) (qv a'.1 a'.2) ∧ Pt (4 * N + 1) M E) → Q d) → EE (c.own ρ hk (rows.map pairD)) (("other", .int o) :: ("kind", .int k) :: σ) e Q)
    (last : ∀ (rows : List (Int × Int)) (r : Int × Int), 0 < rows.length → rows.length ≤ 100 → rows[rows.length - 1]? = some r → R (pairD r) → SW (c.own ρ hk (rows.map pairD)) σ rest R) :
    ∀ (pl : List (Int × Int)) (N : Int) (rows : List (Int × Int)), (∀ q ∈ pl, (0 ≤ q.1 ∧ q.1 < 7) ∧ 0 ≤ q.2) → 1 ≤ N ∧ N * 5 ^ pl.length ≤ 1000000 → (∀ r ∈ rows, Pt N r.1 r.2) → 0 < rows.length → rows.length + pl.length ≤ 100 →
      (∀ xf r, PSteps pl (rows.map qvp) xf → xf[xf.length - 1]? = some (qvp r) → Pt 1000000 r.1 r.2 → R (pairD r)) → OwnL c ρ hk σ "kind" "other" e rest R (pl.map pairD) (rows.map pairD)
  | [], N, rows, hpl, hN, hrows, h0, h1, K => by
    obtain ⟨r, hr⟩ : ∃ r, rows[rows.length - 1]? = some r := ⟨rows[rows.length - 1], by simp⟩
    refine last rows r h0 (by simpa using h1) hr (K (rows.map qvp) r rfl ?_ ((hrows r (List.mem_of_getElem? hr)).more (by simpa using hN.2)))
    rw [List.length_map, List.getElem?_map, hr]; rfl
  | (k, o) :: pl, N, rows, hpl, hN, hrows, h0, h1, K => by
    have hko := hpl (k, o) (.head _)
    have ho := Int.emod_nonneg o (b := rows.length) (by omega)
    have ho' := Int.emod_lt_of_pos o (b := rows.length) (by omega)
    obtain ⟨a, hr⟩ : ∃ r, rows[rows.length - 1]? = some r := ⟨rows[rows.length - 1], by simp⟩
    have hi2 : (o % rows.length).toNat < rows.length := by omega
    obtain ⟨a', hr'⟩ : ∃ r, rows[(o % rows.length).toNat]? = some r := ⟨rows[(o % rows.length).toNat]'hi2, by simp [hi2]⟩
    have hN2 : N * 5 ≤ 1000000 := by
      have h3 : (5 : Int) ^ (pl.length + 1) = 5 * 5 ^ pl.length := by rw [Int.pow_succ, Int.mul_comm]
      have h4 : (0 : Int) < 5 ^ pl.length := Int.pow_pos (by decide)
      have h5 : N * 5 * 1 ≤ N * 5 * 5 ^ pl.length := Int.mul_le_mul_of_nonneg_left (by omega) (by omega)
      have h6 := hN.2
      rw [List.length_cons, h3, ← Int.mul_assoc] at h6
      omega
    have hlen2 : (rows.map pairD).length ≤ 1000 := by rw [List.length_map]; simp at h1; omega
    refine ⟨.int k, .int o, rfl, step k o N rows a a' _ hko.1 hko.2 h0 (by simp at h1; omega) (by omega) hr hr' (hrows _ (List.mem_of_getElem? hr)) (hrows _ (List.mem_of_getElem? hr')) fun d hd => ?_⟩
    obtain ⟨M, E, rfl, hq, hpt⟩ := hd
    refine ⟨hlen2, ?_⟩
    have e1 : rows.map pairD ++ [vD M E] = (rows ++ [(M, E)]).map pairD := by simp
    rw [e1]
    refine point_loop step last pl (5 * N) (rows ++ [(M, E)]) (fun q h => hpl q (.tail _ h)) ⟨by omega, ?_⟩ (fun r hm => ?_) (by simp) (by simp at h1 ⊢; omega) (fun xf r h2 h3 h4 => K xf r ⟨qvp a, qvp a', ?_, ?_, ?_⟩ h3 h4)
    · have h6 := hN.2
      rw [List.length_cons, Int.pow_succ] at h6
      rw [Int.mul_comm 5 N, Int.mul_assoc, Int.mul_comm 5 _]
      exact h6
    · rcases List.mem_append.mp hm with hm | hm
      · exact (hrows r hm).more (by omega)
      · rw [List.mem_singleton.mp hm]; exact hpt.more (by omega)
    · rw [List.length_map, List.getElem?_map, hr]; rfl
    · rw [List.length_map, List.getElem?_map, hr']; rfl
    · have : (rows ++ [(M, E)]).map qvp = rows.map qvp ++ [opf k (qvp a) (qvp a')] := by
        rw [List.map_append]
        exact congrArg _ (congrArg (fun z => [z]) hq)
      rw [this] at h2
      exact h2
def PtR (pl ps : List (Int × Int)) (d : D) : Prop := ∃ (xf : List Rat) (r : Int × Int), PSteps pl (ps.map qvp) xf ∧ xf[xf.length - 1]? = some (qvp r) ∧ Pt 1000000 r.1 r.2 ∧ d = pairD r
theorem law_point_ok (pl ps : List (Int × Int)) (hpl : ∀ q ∈ pl, (0 ≤ q.1 ∧ q.1 < 7) ∧ 0 ≤ q.2) (hlen : pl.length ≤ 5) (hg : ∀ g ∈ ps, Pt 100 g.1 g.2) (hgl : 0 < ps.length ∧ ps.length ≤ 10) :
    FnOK 289 13 [.list (pl.map pairD), .list (ps.map pairD)] (PtR pl ps) := by
  refine FnOK_intro2 ["plan", "points"] (σ0 := [("plan", .list (pl.map pairD)), ("points", .list (ps.map pairD))]) (fun w => rfl) (fun w => rfl) (fun s vs w X hl => ⟨[], ?_, fun h => .nil⟩) (by decide) (by decide) rfl rfl rfl rfl (by decide) (fun c hr hs hL htriv => ?_)
  · match vs, hl with
    | [_, _], _ => exact BindsTo.of_eq rfl
  · refine SS_ownList htriv (sto_local hs hL rfl) ?hsw hs ?hx ?he PyProof.Rows.boot_list (by decide) rfl rfl ?hc ?_
    case hsw => rfl
    case hx => rfl
    case he => exact fun w => rfl
    case hc => rfl
    refine' EE_loc ?hl ?hd ?_
    case hl => rfl
    case hd => rfl
    refine ⟨ps.map pairD, rfl, by rw [List.length_map]; omega, ?_⟩
    intro ρ hk hgn
    refine SW_for hgn hs hL rfl rfl ⟨rfl, rfl⟩ (fun _ => rfl) ?hi ?hbase ?hfew ?hline ?htrees (fun _ _ => rfl) rfl ?_
    case hi => unfold interactive; rw [hs]; rfl
    case hbase => rfl
    case hfew => rfl
    case hline => rfl
    case htrees => rfl
    refine' EE_loc ?hl ?hd ?_
    case hl => rfl
    case hd => rfl
    refine ⟨_, rfl, point_loop ?_ ?_ pl 100 ps hpl ⟨by decide, ?_⟩ hg (by omega) (by omega) (fun fin r h2 h3 h4 => ⟨fin, r, h2, h3, h4, rfl⟩)⟩
    · intro k o N rows a a' Q hk' ho hr0 hr1 hN er er' I J J2
      have hi := own_is (c := c) (ρ := ρ) (hk := hk) (xs := rows.map pairD)
      have hs' : (c.own ρ hk (rows.map pairD)).env.scope = _ := hs
      have hr' : 12 ≤ (c.own ρ hk (rows.map pairD)).rk := hr
      generalize c.own ρ hk (rows.map pairD) = c' at *
      have q1 : 0 < ((rows.map pairD).length : Int) := by rw [List.length_map]; omega
      have q2 : ((rows.map pairD).length : Int) < 2 ^ 63 := by rw [List.length_map]; omega
      have w1 := Int.emod_nonneg o (b := (rows.map pairD).length) (by omega)
      have w2 := Int.emod_lt_of_pos o q1
      repeat' (walk_at "D1")
      refine Gop_own hi (by omega) (by omega) (prow_get er (by rw [List.length_map]; omega)) (fun _ _ _ => rfl) ?_
      repeat' (walk_at "D1")
      refine Gop_own hi w1 (by omega) (prow_get er' (by rw [List.length_map])) (fun _ _ _ => rfl) ?_
      repeat' (walk_at "D1")
      exact Fn.use (law_exact_ok k a.1 a.2 a'.1 a'.2 N hk' I J hN) (by omega) J2
    · intro rows r hr0 hr1 er hR
      have hi := own_is (c := c) (ρ := ρ) (hk := hk) (xs := rows.map pairD)
      have hs' : (c.own ρ hk (rows.map pairD)).env.scope = _ := hs
      have hr' : 12 ≤ (c.own ρ hk (rows.map pairD)).rk := hr
      generalize c.own ρ hk (rows.map pairD) = c' at *
      have q1 : 0 < ((rows.map pairD).length : Int) := by rw [List.length_map]; omega
      have q2 : ((rows.map pairD).length : Int) < 2 ^ 63 := by rw [List.length_map]; omega
      refine SW_ret ?_
      repeat' (walk_at "D1")
      exact Gop_own hi (by omega) (by omega) (prow_get er (by rw [List.length_map]; omega)) (fun _ _ _ => rfl) hR
    · have h4 : (5 : Int) ^ pl.length ≤ 5 ^ 5 := by
        match pl.length, hlen with
        | 0, _ => decide
        | 1, _ => decide
        | 2, _ => decide
        | 3, _ => decide
        | 4, _ => decide
        | 5, _ => decide
      omega
end Mine
end
section
open PySem.Calls PySem.Spec
namespace Mine
local macro_rules | `(tactic| walk_at "DS") => `(tactic| first
  | with_reducible refine' SS_cons ?_
  | with_reducible refine' SS_nil ?_)
local macro_rules | `(tactic| walk_at "DT") => `(tactic| first
  | with_reducible refine' S_ret ?_
  | ((with_reducible refine' S_set ?hs ?hL ?hx ?hsw ?_); (case hs => assumption); (case hL => assumption); (case hx => rfl); (case hsw => rfl))
  | with_reducible refine' S_if ?_
  | ((with_reducible refine' S_aug ?hs ?hL ?hx ?hl ?_); (case hs => assumption); (case hL => assumption); (case hx => rfl); (case hl => rfl))
  | ((with_reducible refine' S_swapped ?hs ?hL ?hss ?hx ?hsw ?_); (case hs => assumption); (case hL => assumption); (case hss => (intro env h; cases env; cases h; rfl)); (case hx => decide); (case hsw => rfl))
  | ((with_reducible refine' S_swapped2 ?hs ?hL ?hn ?hss ?hx ?hsw ?_); (case hs => assumption); (case hL => assumption); (case hn => rfl); (case hss => (intro env h; cases env; cases h; unfold swappedStores; dsimp only [List.filterMap, Env.kindOf, Env.blockKind, List.lookup]; simp (config := {decide := true}); done)); (case hx => decide); (case hsw => rfl))
  | ((with_reducible refine' S_unpack ?hs ?hL ?hn ?hx ?hsw ?hss ?_); (case hs => assumption); (case hL => assumption); (case hn => rfl); (case hx => decide); (case hsw => rfl); (case hss => rfl))
  | with_reducible refine' S_assert ?_
  | ((with_reducible refine' S_set2 ?hs ?hL ?hx ?ha ?hss ?_); (case hs => assumption); (case hL => assumption); (case hx => decide); (case ha => rfl); (case hss => rfl))
  | ((with_reducible refine' S_for ?hs ?hL ?hx ?hf ?_); (case hs => assumption); (case hL => assumption); (case hx => rfl); (case hf => exact fun _ => rfl)))
local macro_rules | `(tactic| walk_at "DE") => `(tactic| first
  | with_reducible refine' EE_int ?_
  | with_reducible refine' EE_str ?_
  | with_reducible refine' EE_boolc ?_
  | ((with_reducible refine' EE_loc ?hl ?hd ?_); (case hl => rfl); (case hd => rfl))
  | ((with_reducible refine' EE_gint ?hs ?hx ?he ?hd ?_); (case hs => assumption); (case hx => rfl); (case he => exact fun w => rfl); (case hd => rfl))
  | ((with_reducible refine' EE_gstr ?hs ?hx ?he ?hd ?_); (case hs => assumption); (case hx => rfl); (case he => exact fun w => rfl); (case hd => rfl))
  | ((with_reducible refine' EE_g4 ?hs ?hx ?he ?he2 ?hd ?_); (case hs => assumption); (case hx => rfl); (case he => exact fun w => rfl); (case he2 => exact fun w => rfl); (case hd => rfl))
  | ((with_reducible refine' EE_raw ?hs ?hx ?he ?hd ?_); (case hs => assumption); (case hx => rfl); (case he => exact fun w => rfl); (case hd => rfl))
  | with_reducible refine' EE_bin ?_
  | with_reducible refine' EE_un ?_
  | ((with_reducible refine' EE_cmp ?hb ?_); (case hb => rfl))
  | with_reducible refine' EE_ifexp ?_
  | with_reducible refine' EE_or ?_
  | with_reducible refine' EE_and ?_
  | ((with_reducible refine' EE_tail ?ht ?_); (case ht => exact fun _ _ => rfl))
  | with_reducible refine' EE_sub ?_
  | ((with_reducible refine' EE_call ?hs ?hx ?he ?hk ?hd ?hne ?hc ?_); (case hs => assumption); (case hx => rfl); (case he => exact fun w => rfl); (case hk => exact fun w => rfl); (case hd => rfl); (case hne => rfl); (case hc => rfl))
  | ((with_reducible refine' EE_bic ?hs ?hx ?he ?hv ?hn ?hd ?hne ?hc ?_); (case hs => assumption); (case hx => rfl); (case he => exact fun w => rfl); (case hv => first | exact PyProof.Rows.boot_min | exact PyProof.Rows.boot_abs | exact PyProof.Rows.boot_all | exact boot_len'); (case hn => decide); (case hd => rfl); (case hne => rfl); (case hc => rfl))
  | ((with_reducible refine' EE_tup ?hn ?_); (case hn => rfl))
  | ((with_reducible refine' EE_lst ?hn ?_); (case hn => rfl))
  | ((with_reducible refine' EE_bl ?hc ?_); (case hc => exact ⟨_, rfl⟩)))
local macro_rules | `(tactic| walk_at "DB") => `(tactic| first
  | ((with_reducible refine' EB_cmp ?hb ?_); (case hb => rfl))
  | ((with_reducible refine' EB_cmp2 ?hb ?_); (case hb => rfl))
  | with_reducible refine' EB_not ?_
  | with_reducible refine' all_and ?_
  | with_reducible refine' all_or ?_
  | ((with_reducible refine' EB_plain ?he ?_); (case he => rfl)))
local macro_rules | `(tactic| walk_at "DO") => `(tactic| first
  | with_reducible refine' Bop_add ?_
  | with_reducible refine' Bop_sub ?_
  | with_reducible refine' Bop_and ?_
  | ((with_reducible refine' Bop_mul ?hm ?_); (case hm => first | assumption | (refine' mulOk ?_; omega)))
  | ((with_reducible refine' Bop_pow2 ?h0 ?hs ?_); (case h0 => first | decide | omega); (case hs => first | decide | omega))
  | ((with_reducible refine' Bop_modp ?h0 ?_); (case h0 => first | with_reducible assumption | with_reducible exact Mine.pow_pos _ | decide | omega))
  | ((with_reducible refine' Bop_divp ?h0 ?hp ?_); (case h0 => first | with_reducible assumption | with_reducible exact Mine.pow_pos _ | decide | omega); (case hp => first | decide +kernel | (refine' log2_pow ?_; omega)))
  | with_reducible refine' Cal_min ?_
  | with_reducible refine' Cal_abs ?_
  | ((with_reducible refine' Cal_lenO ?hi ?h0 ?_); (case hi => with_reducible assumption); (case h0 => first | with_reducible assumption | omega))
  | ((with_reducible refine' Cal_len ?h0 ?_); (case h0 => first | assumption | omega))
  | ((with_reducible refine' Bop_pow ?h0 ?hs ?_); (case h0 => first | decide | omega); (case hs => first | assumption | decide))
  | ((with_reducible refine' Bop_shr ?h0 ?_); (case h0 => omega))
  | ((with_reducible refine' Bop_shl ?h0 ?hs ?_); (case h0 => omega); (case hs => omega))
  | ((with_reducible refine' Iop_shl ?h0 ?hs ?_); (case h0 => omega); (case hs => omega))
  | ((with_reducible refine' Iop_shr ?h0 ?_); (case h0 => omega))
  | ((with_reducible refine' Bop_xorT ?h0 ?_); (case h0 => assumption))
  | with_reducible refine' Bop_xor ?_
  | with_reducible refine' Iop_add ?_
  | with_reducible refine' Iop_sub ?_
  | ((with_reducible refine' Iop_xorT ?h0 ?_); (case h0 => assumption))
  | with_reducible refine' Iop_xor ?_
  | with_reducible refine' Uop_neg ?_
  | with_reducible refine' Uop_not ?_
  | with_reducible refine' Tru_int ?_
  | with_reducible refine' Tru_bool ?_
  | with_reducible refine' Cop_eq ?_
  | with_reducible refine' Cop_ne ?_
  | with_reducible refine' Cop_lt ?_
  | with_reducible refine' Cop_le ?_
  | with_reducible refine' Cop_gt ?_
  | with_reducible refine' Cop_ge ?_
  | with_reducible refine' Cop_eqs ?_
  | with_reducible refine' Cop_eq4 ?_
  | ((with_reducible refine' Gop_shifts _ ?hs ?_); (case hs => exact fun _ _ _ => rfl))
  | ((with_reducible refine' Gop_list ?h1 ?h2 ?hd ?hs ?_); (case h1 => decide); (case h2 => decide); (case hd => exact rfl); (case hs => exact fun _ _ _ => rfl))
  | ((with_reducible refine' Gop_tup ?h1 ?h2 ?hj ?hd ?hs ?_); (case h1 => decide); (case h2 => decide); (case hj => exact rfl); (case hd => exact rfl); (case hs => exact fun _ _ _ => rfl)))
local macro_rules | `(tactic| walk_at "DI") => `(tactic| ((refine' And.intro (fun hb => ?_) (fun hb => ?_)) <;> (try simp only [Bool.not_eq_true', Bool.not_eq_false', bne_iff_ne, beq_iff_eq, beq_eq_false_iff_ne, bne_eq_false_iff_eq, decide_eq_true_eq, decide_eq_false_iff_not, ne_eq, Bool.and_eq_true, Bool.or_eq_true, gt_iff_lt, ge_iff_le, Int.not_lt, Int.not_le, Bool.not_eq_eq_eq_not, Bool.not_true, Bool.not_false, Decidable.not_not, reduceCtorEq, if_true, if_false, Bool.false_eq_true, ↓reduceIte] at hb) <;> (first | done | (exfalso; omega) | (exfalso; revert hb; decide) | skip)))
local macro_rules | `(tactic| walk_at "D1") => `(tactic| first
  | ((with_reducible show SS _ _ _ _ _); walk_at "DS")
  | ((with_reducible show S1 _ _ _ _ _); walk_at "DT")
  | ((with_reducible show EE _ _ _ _); walk_at "DE")
  | ((with_reducible show EB _ _ _ _); walk_at "DB")
  | ((with_reducible show EL _ _ _ _); (first | with_reducible refine' EL_cons ?_ | with_reducible refine' EL_nil ?_))
  | ((with_reducible show ForL _ _ _ _ _ _ _); first | refine' ForL_cons ?_ | refine' ForL_nil ?_)
  | ((with_reducible show And _ _); walk_at "DI")
  | refine' And.intro (Eq.refl _) ?_
  | ((with_reducible refine' And.intro ?ka ?_); (case ka => (simp only [beq_iff_eq, decide_eq_true_eq, ge_iff_le]; first | done | assumption | omega)))
  | ((with_reducible refine' And.intro ?ka ?_); (case ka => first | assumption | exact Or.inl rfl | exact Or.inr rfl))
  | with_reducible refine' Exists.intro _ (And.intro rfl ?_)
  | walk_at "DO")
theorem pt_of {x : Mpf} {N : Int} (h : x.Ok) (b : Bd N x) : Pt N (sg x.s x.m) x.e := ⟨by rw [ib_sg, ← h.bc]; exact b.b, b.lo, b.hi⟩
theorem law_within_ok (a b a' b' : Mpf) (N : Int) (ha : Pt N (sg a.s a.m) a.e) (hb : Pt N (sg b.s b.m) b.e) (ha' : Pt N (sg a'.s a'.m) a'.e) (hb' : Pt N (sg b'.s b'.m) b'.e) (hN : 0 ≤ N ∧ N ≤ 20000000)
    (h1 : a'.val ≤ a.val) (h2 : b.val ≤ b'.val) (h3 : a.val ≤ b.val) : FnOK 249 3 [iD a b, iD a' b'] (fun d => d = .bool true) := by
  have g1 : decide (qv (sg a.s a.m) a.e < qv (sg a'.s a'.m) a'.e) = false := decide_eq_false (Rat.not_lt.mpr h1)
  have g2 : decide (qv (sg b'.s b'.m) b'.e < qv (sg b.s b.m) b.e) = false := decide_eq_false (Rat.not_lt.mpr h2)
  have g3 : decide (qv (sg b.s b.m) b.e < qv (sg a.s a.m) a.e) = false := decide_eq_false (Rat.not_lt.mpr h3)
  refine FnOK_intro ["part", "whole"] (σ0 := [("part", iD a b), ("whole", iD a' b')]) (fun w => rfl) (fun w => rfl) (fun s vs w X hl => ⟨[], ?_, fun h => .nil⟩) (by decide) (by decide) rfl rfl rfl rfl (by decide) (fun c hr hs hL => ?_)
  · match vs, hl with
    | [_, _], _ => exact BindsTo.of_eq rfl
  · refine SS_cons ?_
    refine' S_unpackL ?hs ?hL ?hn ?hx ?hsw ?hss ?_
    case hs => exact hs
    case hL => exact hL
    case hn => rfl
    case hx => decide
    case hsw => rfl
    case hss => rfl
    refine EE_comp hs (closure_none rfl) rfl rfl rfl rfl (fun _ => rfl) (σf := []) (fun _ _ e => by cases e) ?_
    repeat' (walk_at "D1")
    refine Bop_addT (by simp) (by simp) (by simp) ?_
    refine ⟨[a.D, b.D, a'.D, b'.D], .tup _, by simp, ?_⟩
    refine CompL_cons fun c2 hr2 hs2 => ?_
    repeat' (walk_at "D1")
    refine Fn.use (law_value_ok a) (by omega) fun d hd => ?_
    subst hd
    clear hs2 hr2 c2
    refine CompL_cons fun c2 hr2 hs2 => ?_
    repeat' (walk_at "D1")
    refine Fn.use (law_value_ok b) (by omega) fun d hd => ?_
    subst hd
    clear hs2 hr2 c2
    refine CompL_cons fun c2 hr2 hs2 => ?_
    repeat' (walk_at "D1")
    refine Fn.use (law_value_ok a') (by omega) fun d hd => ?_
    subst hd
    clear hs2 hr2 c2
    refine CompL_cons fun c2 hr2 hs2 => ?_
    repeat' (walk_at "D1")
    refine Fn.use (law_value_ok b') (by omega) fun d hd => ?_
    subst hd
    clear hs2 hr2 c2
    refine CompL_nil ?_
    refine ⟨_, rfl, rfl, ?_⟩
    refine SS_cons ?_
    refine S_ret ?_
    refine EE_and3 ?_
    repeat' (walk_at "D1")
    refine Fn.use (law_less_ok _ _ _ _ N ha ha' hN) (by omega) fun d hd => ?_
    subst hd
    rw [g1]
    repeat' (walk_at "D1")
    refine Fn.use (law_less_ok _ _ _ _ N hb' hb hN) (by omega) fun d hd => ?_
    subst hd
    rw [g2]
    repeat' (walk_at "D1")
    refine Fn.use (law_less_ok _ _ _ _ N hb ha hN) (by omega) fun d hd => ?_
    subst hd
    rw [g3]
    repeat' (walk_at "D1")
    rfl
end Mine
end
section
open PySem.Calls PySem.Spec
namespace Mine
local macro_rules | `(tactic| walk_at "DS") => `(tactic| first
  | with_reducible refine' SS_cons ?_
  | with_reducible refine' SS_nil ?_)
local macro_rules | `(tactic| walk_at "DT") => `(tactic| first
  | with_reducible refine' S_ret ?_
  | ((with_reducible refine' S_set ?hs ?hL ?hx ?hsw ?_); (case hs => assumption); (case hL => assumption); (case hx => rfl); (case hsw => rfl))
  | ((with_reducible refine' S_setG ?hy ?hsw ?_); (case hy => with_reducible assumption); (case hsw => rfl))
  | with_reducible refine' S_if ?_
  | ((with_reducible refine' S_aug ?hs ?hL ?hx ?hl ?_); (case hs => assumption); (case hL => assumption); (case hx => rfl); (case hl => rfl))
  | ((with_reducible refine' S_swapped ?hs ?hL ?hss ?hx ?hsw ?_); (case hs => assumption); (case hL => assumption); (case hss => (intro env h; cases env; cases h; rfl)); (case hx => decide); (case hsw => rfl))
  | ((with_reducible refine' S_swapped2 ?hs ?hL ?hn ?hss ?hx ?hsw ?_); (case hs => assumption); (case hL => assumption); (case hn => rfl); (case hss => (intro env h; cases env; cases h; unfold swappedStores; dsimp only [List.filterMap, Env.kindOf, Env.blockKind, List.lookup]; simp (config := {decide := true}); done)); (case hx => decide); (case hsw => rfl))
  | ((with_reducible refine' S_unpack ?hs ?hL ?hn ?hx ?hsw ?hss ?_); (case hs => assumption); (case hL => assumption); (case hn => rfl); (case hx => decide); (case hsw => rfl); (case hss => rfl))
  | with_reducible refine' S_assert ?_
  | ((with_reducible refine' S_set2 ?hs ?hL ?hx ?ha ?hss ?_); (case hs => assumption); (case hL => assumption); (case hx => decide); (case ha => rfl); (case hss => rfl))
  | ((with_reducible refine' S_for ?hs ?hL ?hx ?hf ?_); (case hs => assumption); (case hL => assumption); (case hx => rfl); (case hf => exact fun _ => rfl)))
local macro_rules | `(tactic| walk_at "DE") => `(tactic| first
  | with_reducible refine' EE_int ?_
  | with_reducible refine' EE_str ?_
  | with_reducible refine' EE_boolc ?_
  | ((with_reducible refine' EE_loc ?hl ?hd ?_); (case hl => rfl); (case hd => rfl))
  | ((with_reducible refine' EE_gint ?hs ?hx ?he ?hd ?_); (case hs => assumption); (case hx => rfl); (case he => exact fun w => rfl); (case hd => rfl))
  | ((with_reducible refine' EE_gstr ?hs ?hx ?he ?hd ?_); (case hs => assumption); (case hx => rfl); (case he => exact fun w => rfl); (case hd => rfl))
  | ((with_reducible refine' EE_g4 ?hs ?hx ?he ?he2 ?hd ?_); (case hs => assumption); (case hx => rfl); (case he => exact fun w => rfl); (case he2 => exact fun w => rfl); (case hd => rfl))
  | ((with_reducible refine' EE_raw ?hs ?hx ?he ?hd ?_); (case hs => assumption); (case hx => rfl); (case he => exact fun w => rfl); (case hd => rfl))
  | with_reducible refine' EE_bin ?_
  | with_reducible refine' EE_un ?_
  | ((with_reducible refine' EE_cmp ?hb ?_); (case hb => rfl))
  | with_reducible refine' EE_ifexp ?_
  | with_reducible refine' EE_or ?_
  | with_reducible refine' EE_and ?_
  | ((with_reducible refine' EE_tail ?ht ?_); (case ht => exact fun _ _ => rfl))
  | with_reducible refine' EE_sub ?_
  | ((with_reducible refine' EE_call ?hs ?hx ?he ?hk ?hd ?hne ?hc ?_); (case hs => assumption); (case hx => rfl); (case he => exact fun w => rfl); (case hk => exact fun w => rfl); (case hd => rfl); (case hne => rfl); (case hc => rfl))
  | ((with_reducible refine' EE_bic ?hs ?hx ?he ?hv ?hn ?hd ?hne ?hc ?_); (case hs => assumption); (case hx => rfl); (case he => exact fun w => rfl); (case hv => first | exact PyProof.Rows.boot_min | exact PyProof.Rows.boot_abs | exact PyProof.Rows.boot_all | exact boot_len'); (case hn => decide); (case hd => rfl); (case hne => rfl); (case hc => rfl))
  | ((with_reducible refine' EE_tyc ?hs ?hx ?he ?hv ?hn ?hd ?hne ?hc ?_); (case hs => assumption); (case hx => rfl); (case he => exact fun w => rfl); (case hv => exact PyProof.Rows.boot_range); (case hn => decide); (case hd => rfl); (case hne => rfl); (case hc => rfl))
  | ((with_reducible refine' EE_tup ?hn ?_); (case hn => rfl))
  | ((with_reducible refine' EE_lst ?hn ?_); (case hn => rfl))
  | ((with_reducible refine' EE_bl ?hc ?_); (case hc => exact ⟨_, rfl⟩)))
local macro_rules | `(tactic| walk_at "DB") => `(tactic| first
  | ((with_reducible refine' EB_cmp ?hb ?_); (case hb => rfl))
  | ((with_reducible refine' EB_cmp2 ?hb ?_); (case hb => rfl))
  | with_reducible refine' EB_not ?_
  | with_reducible refine' all_and ?_
  | with_reducible refine' all_or ?_
  | ((with_reducible refine' EB_plain ?he ?_); (case he => rfl)))
local macro_rules | `(tactic| walk_at "DO") => `(tactic| first
  | with_reducible refine' Bop_add ?_
  | with_reducible refine' Bop_sub ?_
  | with_reducible refine' Bop_and ?_
  | ((with_reducible refine' Bop_mul ?hm ?_); (case hm => first | assumption | (refine' mulOk ?_; omega)))
  | ((with_reducible refine' Bop_pow2 ?h0 ?hs ?_); (case h0 => first | decide | omega); (case hs => first | decide | omega))
  | ((with_reducible refine' Bop_modp ?h0 ?_); (case h0 => first | with_reducible assumption | with_reducible exact Mine.pow_pos _ | decide | omega))
  | ((with_reducible refine' Bop_divp ?h0 ?hp ?_); (case h0 => first | with_reducible assumption | with_reducible exact Mine.pow_pos _ | decide | omega); (case hp => first | decide +kernel | (refine' log2_pow ?_; omega)))
  | with_reducible refine' Cal_range1 ?_
  | with_reducible refine' Cal_range2 ?_
  | with_reducible refine' Cal_min ?_
  | with_reducible refine' Cal_abs ?_
  | ((with_reducible refine' Cal_lenO ?hi ?h0 ?_); (case hi => with_reducible assumption); (case h0 => first | with_reducible assumption | omega))
  | ((with_reducible refine' Cal_len ?h0 ?_); (case h0 => first | assumption | omega))
  | ((with_reducible refine' Bop_pow ?h0 ?hs ?_); (case h0 => first | decide | omega); (case hs => first | assumption | decide))
  | ((with_reducible refine' Bop_shr ?h0 ?_); (case h0 => omega))
  | ((with_reducible refine' Bop_shl ?h0 ?hs ?_); (case h0 => omega); (case hs => omega))
  | ((with_reducible refine' Iop_shl ?h0 ?hs ?_); (case h0 => omega); (case hs => omega))
  | ((with_reducible refine' Iop_shr ?h0 ?_); (case h0 => omega))
  | ((with_reducible refine' Bop_xorT ?h0 ?_); (case h0 => assumption))
  | with_reducible refine' Bop_xor ?_
  | with_reducible refine' Iop_add ?_
  | with_reducible refine' Iop_sub ?_
  | ((with_reducible refine' Iop_xorT ?h0 ?_); (case h0 => assumption))
  | with_reducible refine' Iop_xor ?_
  | with_reducible refine' Uop_neg ?_
  | with_reducible refine' Uop_not ?_
  | with_reducible refine' Tru_int ?_
  | with_reducible refine' Tru_bool ?_
  | with_reducible refine' Cop_eq ?_
  | with_reducible refine' Cop_ne ?_
  | with_reducible refine' Cop_lt ?_
  | with_reducible refine' Cop_le ?_
  | with_reducible refine' Cop_gt ?_
  | with_reducible refine' Cop_ge ?_
  | with_reducible refine' Cop_eqs ?_
  | with_reducible refine' Cop_eq4 ?_
  | ((with_reducible refine' Gop_shifts _ ?hs ?_); (case hs => exact fun _ _ _ => rfl))
  | ((with_reducible refine' Gop_list ?h1 ?h2 ?hd ?hs ?_); (case h1 => decide); (case h2 => decide); (case hd => exact rfl); (case hs => exact fun _ _ _ => rfl))
  | ((with_reducible refine' Gop_tup ?h1 ?h2 ?hj ?hd ?hs ?_); (case h1 => decide); (case h2 => decide); (case hj => exact rfl); (case hd => exact rfl); (case hs => exact fun _ _ _ => rfl)))
local macro_rules | `(tactic| walk_at "DI") => `(tactic| ((refine' And.intro (fun hb => ?_) (fun hb => ?_)) <;> (try simp only [Bool.not_eq_true', Bool.not_eq_false', bne_iff_ne, beq_iff_eq, beq_eq_false_iff_ne, bne_eq_false_iff_eq, decide_eq_true_eq, decide_eq_false_iff_not, ne_eq, Bool.and_eq_true, Bool.or_eq_true, gt_iff_lt, ge_iff_le, Int.not_lt, Int.not_le, Bool.not_eq_eq_eq_not, Bool.not_true, Bool.not_false, Decidable.not_not, reduceCtorEq, if_true, if_false, Bool.false_eq_true, ↓reduceIte] at hb) <;> (first | done | (exfalso; omega) | (exfalso; revert hb; decide) | skip)))
local macro_rules | `(tactic| walk_at "D1") => `(tactic| first
  | ((with_reducible show SS _ _ _ _ _); walk_at "DS")
  | ((with_reducible show S1 _ _ _ _ _); walk_at "DT")
  | ((with_reducible show EE _ _ _ _); walk_at "DE")
  | ((with_reducible show EB _ _ _ _); walk_at "DB")
  | ((with_reducible show EL _ _ _ _); (first | with_reducible refine' EL_cons ?_ | with_reducible refine' EL_nil ?_))
  | ((with_reducible show ForL _ _ _ _ _ _ _); first | refine' ForL_cons ?_ | refine' ForL_nil ?_)
  | ((with_reducible show And _ _); walk_at "DI")
  | refine' And.intro (Eq.refl _) ?_
  | ((with_reducible refine' And.intro ?ka ?_); (case ka => (simp only [beq_iff_eq, decide_eq_true_eq, ge_iff_le]; first | done | assumption | omega)))
  | ((with_reducible refine' And.intro ?ka ?_); (case ka => first | assumption | exact Or.inl rfl | exact Or.inr rfl))
  | with_reducible refine' Exists.intro _ (And.intro rfl ?_)
  | walk_at "DO")
/-- a comprehension over known items -/
theorem CompL_all {T : D → (D → Prop) → Prop} {α β : Type} (dd : α → D) (rr : β → D) (Pre : α → Prop) (P : α → β → Prop) {Q : List D → Prop} (step : ∀ a, Pre a → ∀ Q' : D → Prop, (∀ b, P a b → Q' (rr b)) → T (dd a) Q') :
    ∀ (as done : List α) (bs : List β), (∀ a ∈ as, Pre a) → All2 P done bs → (∀ bs' : List β, All2 P (done ++ as) bs' → Q (bs'.map rr)) → CompL T (as.map dd) (bs.map rr) Q
  | [], done, bs, hp, h, k => by
    have := k bs (by simpa using h)
    exact this
  | a :: as, done, bs, hp, h, k => by
    refine step a (hp a (.head _)) _ fun r hr => ?_
    have := CompL_all dd rr Pre P step as (done ++ [a]) (bs ++ [r]) (fun g' h' => hp g' (.tail _ h')) (h.snoc hr) (fun rs' h' => k rs' (by simpa using h'))
    simpa using this
theorem All2.right {α β : Type} {P : α → β → Prop} {S : β → Prop} (k : ∀ a b, P a b → S b) : ∀ {as : List α} {bs : List β}, All2 P as bs → ∀ b ∈ bs, S b
  | _, _, .nil, b, h => by cases h
  | _, _, .cons x y, b, h => by
    rcases List.mem_cons.mp h with rfl | h
    · exact k _ _ x
    · exact All2.right k y b h
def LawAt (sc : Scope) (bd : List Stmt) : Prop := ∀ w, ∃ oc od name qual params dV kV doc pm an cdv ct osl, (KF w).lookup 294 = some ⟨oc, od, .func (fnOf name qual params bd sc dV kV doc pm an cdv ct), osl⟩
def LawGoal (scope : Scope) (body : List Stmt) : Prop := ∀ (c : Cx) (a1 a2 a3 : Addr) (xs : List Int), 13 ≤ c.rk → c.env.scope = scope → c.env.locals = c.L → c.env.cells = [(("grids" : Str), a3), (("prec" : Str), a2), (("script" : Str), a1)] →
  Sto c "prec" → Sto c "grids" → xs.length ≤ 63 → (∀ x ∈ xs, ib x ≤ 2 ^ 20) → SS c [("script", .list (xs.map D.int))] body (fun _ => False) (fun d => d = .bool true)
def planP (p : Int × Int) : Prop := (0 ≤ p.1 ∧ p.1 < 7) ∧ 0 ≤ p.2
theorem All2.of {α β : Type} {P : α → β → Prop} : ∀ {as : List α} {bs : List β}, as.length = bs.length → (∀ (i : Nat) (a : α) (b : β), as[i]? = some a → bs[i]? = some b → P a b) → All2 P as bs
  | [], [], _, _ => .nil
  | [], _ :: _, h, _ => by cases h
  | _ :: _, [], h, _ => by cases h
  | a :: as, b :: bs, h, k => .cons (k 0 a b rfl rfl) (All2.of (by simpa using h) fun i x y e f => k (i + 1) x y (by simpa using e) (by simpa using f))
theorem CompL_map {T : D → (D → Prop) → Prop} {α : Type} (dd rr : α → D) {Q : List D → Prop} : ∀ (as : List α) (acc : List D), (∀ a ∈ as, ∀ Q' : D → Prop, Q' (rr a) → T (dd a) Q') → Q (acc ++ as.map rr) → CompL T (as.map dd) acc Q
  | [], acc, _, q => by rw [List.map_nil, List.append_nil] at q; exact q
  | a :: as, acc, st, q => st a (.head _) _ (CompL_map dd rr as (acc ++ [rr a]) (fun b hb => st b (.tail _ hb)) (by simpa using q))
/-- a part: from, to, a number, power -/
abbrev Part := Int × Int × Int × Int
abbrev smG (q : Part) : Int × Int × Int := (q.1, q.2.1, q.2.2.2)
abbrev ptG (q : Part) : Int × Int := (q.2.2.1, q.2.2.2)
abbrev partD (q : Part) : D := .tup [gridD (smG q), pairD (ptG q)]
def PartR (g : Int × Int × Int) (q : Part) : Prop := g.2.2 = q.2.2.2 ∧ Gr q.1 q.2.1 q.2.2.2 ∧ g.1 ≤ q.1 ∧ q.2.1 ≤ g.2.1 ∧ q.1 ≤ q.2.2.1 ∧ q.2.2.1 ≤ q.2.1
theorem thr_last {pl : List (Int × Int)} {p : Int} {r0 fin : List Row} {r : Row} (hne : 0 < pl.length) (hlen : pl.length ≤ 5) (st : Steps p 200 pl r0 fin) (e : fin[fin.length - 1]? = some r) : Last p r.1 r.2 := by
  have h4 : (10 : Int) ^ pl.length ≤ 10 ^ 5 := by
    match pl.length, hlen with
    | 0, _ => decide
    | 1, _ => decide
    | 2, _ => decide
    | 3, _ => decide
    | 4, _ => decide
    | 5, _ => decide
  obtain ⟨u, v, e', h⟩ := steps_last (by intro q; subst q; exact absurd hne (by decide)) st (by decide) (by omega)
  rw [e] at e'; cases e'
  exact h
theorem thr_within {pl : List (Int × Int)} {p p' : Int} {r0 fin r0' fin' : List Row} {r r' : Row} (h : Finer p p') (st : Steps p 200 pl r0 fin) (st' : Steps p' 200 pl r0' fin') (w : All2 Wi r0 r0') (e : fin[fin.length - 1]? = some r) (e' : fin'[fin'.length - 1]? = some r') : Wi r r' := by
  have hw := steps_within h st st' w
  rw [← hw.length] at e'
  exact hw.get e e'
theorem thr_holds {pl : List (Int × Int)} {p : Int} {r0 fin : List Row} {xs xf : List Rat} {r : Row} {x : Rat} (st : Steps p 200 pl r0 fin) (st' : PSteps pl xs xf) (w : All2 Hol r0 xs) (e : fin[fin.length - 1]? = some r) (e' : xf[xf.length - 1]? = some x) : Hol r x := by
  have hw := steps_holds st st' w
  rw [← hw.length] at e'
  exact hw.get e e'
/-- spans of the same grids lie within each other -/
theorem span_wi {gs gs' : List (Int × Int × Int)} {r r' : List Row} (h : All2 SpanR gs r) (h' : All2 SpanR gs' r') (k : All2 (fun g g' : Int × Int × Int => g.2.2 = g'.2.2 ∧ g.1 ≤ g'.1 ∧ g'.2.1 ≤ g.2.1) gs gs') : All2 Wi r r' :=
  All2.of (by rw [← h.length, ← h'.length]; exact k.length) fun i a b e1 e2 => by
    have i1 : i < gs.length := by rw [h.length]; exact (List.getElem?_eq_some_iff.mp e1).1
    have i2 : i < gs'.length := by rw [h'.length]; exact (List.getElem?_eq_some_iff.mp e2).1
    have g1 := h.get (List.getElem?_eq_getElem i1) e1
    have g2 := h'.get (List.getElem?_eq_getElem i2) e2
    have g3 := k.get (List.getElem?_eq_getElem i1) (List.getElem?_eq_getElem i2)
    refine ⟨?_, ?_⟩
    · rw [g1.2.2.1, g2.2.2.1, g3.1]; exact le_same.mpr g3.2.1
    · rw [g1.2.2.2.1, g2.2.2.2.1, g3.1]; exact le_same.mpr g3.2.2
theorem law_ex : ∃ sc bd, LawAt sc bd ∧ LawGoal sc bd := ⟨_, _, fun w => ⟨_, _, _, _, _, _, _, _, _, _, _, _, _, rfl⟩, by
  intro c a1 a2 a3 xs hr hs hL hcl hsp hsg hlen hbits
  walk_at "D1"
  repeat' (walk_at "D1")
  refine Fn.use (law_mixed_ok xs 0 (by omega) (by omega) hbits) (by omega) fun d hd => ?_
  obtain ⟨f, rfl, hf0, hf1⟩ := hd
  repeat' (walk_at "D1")
  -- plan
  refine S_setcomp (cl := [(("script" : Str), a1)]) (σf := [("script", .list (xs.map D.int))]) (sto_local hs hL rfl) ?hsw hs ?hclos rfl rfl rfl rfl (fun _ => rfl) ?hfree ?_
  case hsw =>
    revert hs
    generalize c.env = env
    intro hs
    cases env
    cases hs
    rfl
  case hclos => simp only [closureFor, cellOf, hcl]; rfl
  case hfree =>
    intro y d e
    rw [List.lookup_cons] at e
    by_cases q : y = ("script" : Str)
    · subst q
      simp only [beq_self_eq_true] at e
      cases e
      rw [hcl]
      exact ⟨rfl, rfl, rfl, rfl⟩
    · rw [beq_eq_false_iff_ne.mpr q] at e
      cases e
  repeat' (walk_at "D1")
  refine ⟨_, .rng _ _ (by omega) (by omega), ?_, ?_⟩
  · unfold rngL
    rw [List.length_map, List.length_range]; omega
  refine CompL_all (α := Nat) (β := Int × Int) (fun i => .int (4 + (i : Int))) pairD (fun i => i < 10) (fun _ p => planP p) (fun a ha Q' hq c2 hr2 hs2 => ?_) (List.range _) [] [] (fun a ha => by have := List.mem_range.mp ha; omega) .nil (fun pl hpl => ?_)
  · repeat' (walk_at "D1")
    refine Fn.use (law_mixed_ok xs (4 + a) (by omega) (by omega) hbits) (by omega) fun d hd => ?_
    obtain ⟨i, rfl, hi0, hi1⟩ := hd
    repeat' (walk_at "D1")
    refine Fn.use (law_mixed_ok xs (4 + a) (by omega) (by omega) hbits) (by omega) fun d hd => ?_
    obtain ⟨j, rfl, hj0, hj1⟩ := hd
    repeat' (walk_at "D1")
    exact hq (i % 7, j / 7 % 64) ⟨⟨by omega, by omega⟩, by omega⟩
  have hpl1 : ∀ q ∈ pl, (0 ≤ q.1 ∧ q.1 < 7) ∧ 0 ≤ q.2 := fun q hq => All2.right (S := planP) (fun _ _ h => h) hpl q hq
  have hpl2 : pl.length ≤ 5 ∧ 0 < pl.length := by
    have := hpl.length
    rw [List.nil_append, List.length_range] at this
    omega
  clear hpl
  -- grids
  repeat' (walk_at "D1")
  refine S_setG hsg ?hsw ?_
  case hsw =>
    revert hs
    generalize c.env = env
    intro hs
    cases env
    cases hs
    rfl
  refine EE_comp (cl := [(("script" : Str), a1)]) (σf := [("script", .list (xs.map D.int))]) hs ?hclos rfl rfl rfl rfl (fun _ => rfl) ?hfree ?_
  case hclos => simp only [closureFor, cellOf, hcl]; rfl
  case hfree =>
    intro y d e
    rw [List.lookup_cons] at e
    by_cases q : y = ("script" : Str)
    · subst q
      simp only [beq_self_eq_true] at e
      cases e
      rw [hcl]
      exact ⟨rfl, rfl, rfl, rfl⟩
    · rw [beq_eq_false_iff_ne.mpr q] at e
      cases e
  repeat' (walk_at "D1")
  refine ⟨_, .rng _ _ (by omega) (by omega), by decide, ?_⟩
  refine CompL_all (α := Nat) (β := Int × Int × Int) (fun i => .int (1 + (i : Int))) gridD (fun i => i < 10) (fun _ g => Gr g.1 g.2.1 g.2.2) (fun a ha Q' hq c2 hr2 hs2 => ?_) (List.range _) [] [] (fun a ha => by have := List.mem_range.mp ha; omega) .nil (fun gs hgs => ?_)
  · repeat' (walk_at "D1")
    refine Fn.use (law_mixed_ok xs (1 + a) (by omega) (by omega) hbits) (by omega) fun d hd => ?_
    obtain ⟨i, rfl, hi0, hi1⟩ := hd
    repeat' (walk_at "D1")
    refine Fn.use (law_grid_ok i hi0) (by omega) fun d hd => ?_
    obtain ⟨l, h, e, rfl, hg⟩ := hd
    exact hq (l, h, e) hg
  have hgs1 : ∀ g ∈ gs, Gr g.1 g.2.1 g.2.2 := fun q hq => All2.right (S := fun g : Int × Int × Int => Gr g.1 g.2.1 g.2.2) (fun _ _ h => h) hgs q hq
  have hgs2 : gs.length = 3 := by
    have := hgs.length
    rw [List.nil_append, List.length_range] at this
    rw [← this]; decide
  clear hgs
  repeat' (walk_at "D1")
  -- parts
  refine S_setcomp (cl := [(("script" : Str), a1), (("grids" : Str), a3)]) (σf := [("grids", .list (gs.map gridD)), ("script", .list (xs.map D.int))]) (sto_local hs hL rfl) ?hsw hs ?hclos rfl rfl rfl rfl (fun _ => rfl) ?hfree ?_
  case hsw =>
    revert hs
    generalize c.env = env
    intro hs
    cases env
    cases hs
    rfl
  case hclos => simp only [closureFor, cellOf, hcl]; rfl
  case hfree =>
    intro y d e
    rw [List.lookup_cons] at e
    by_cases q : y = ("grids" : Str)
    · subst q
      simp only [beq_self_eq_true] at e
      cases e
      rw [hcl]
      exact ⟨rfl, rfl, rfl, rfl⟩
    · rw [beq_eq_false_iff_ne.mpr q] at e
      dsimp only at e
      rw [List.lookup_cons] at e
      by_cases q : y = ("script" : Str)
      · subst q
        simp only [beq_self_eq_true] at e
        cases e
        rw [hcl]
        exact ⟨rfl, rfl, rfl, rfl⟩
      · rw [beq_eq_false_iff_ne.mpr q] at e
        cases e
  repeat' (walk_at "D1")
  refine ⟨_, .rng _ _ (by omega) (by omega), by decide, ?_⟩
  refine CompL_all (α := Nat) (β := Part) (fun i => .int (0 + (i : Int))) partD (fun i => i < 3) (fun i q => ∃ g, gs[i]? = some g ∧ PartR g q) (fun a ha Q' hq c2 hr2 hs2 => ?_) (List.range _) [] [] (fun a ha => by have := List.mem_range.mp ha; simpa using this) .nil (fun ps hps => ?_)
  · obtain ⟨g, hg⟩ : ∃ g, gs[a]? = some g := ⟨gs[a]'(by omega), by simp [show a < gs.length by omega]⟩
    repeat' (walk_at "D1")
    refine Gop_list (d := gridD g) (by omega) (by omega) (by rw [List.getElem?_map, show (0 + (a : Int)).toNat = a by omega, hg]; rfl) (fun _ _ _ => rfl) ?_
    repeat' (walk_at "D1")
    refine Fn.use (law_mixed_ok xs (0 + a + 1) (by omega) (by omega) hbits) (by omega) fun d hd => ?_
    obtain ⟨i, rfl, hi0, hi1⟩ := hd
    repeat' (walk_at "D1")
    refine Fn.use (law_part_ok g.1 g.2.1 g.2.2 i (hgs1 g (List.mem_of_getElem? hg)) hi0) (by omega) fun d hd => ?_
    obtain ⟨l', h', x, rfl, p1, p2, p3, p4, p5⟩ := hd
    exact hq (l', h', x, g.2.2) ⟨g, hg, rfl, p1, p2, p3, p4, p5⟩
  have hps2 : ps.length = 3 := by
    have := hps.length
    rw [List.nil_append, List.length_range] at this
    rw [← this]; decide
  have hgp : All2 PartR gs ps := All2.of (by omega) fun i g q e1 e2 => by
    have hi : i < 3 := by rw [← hps2]; exact (List.getElem?_eq_some_iff.mp e2).1
    obtain ⟨g', e3, h⟩ := hps.get (i := i) (a := i) (by rw [List.nil_append]; exact List.getElem?_range (n := 3) hi) e2
    rw [e1] at e3; cases e3
    exact h
  clear hps
  -- small
  walk_at "D1"
  refine S_setcomp (cl := []) (σf := []) (sto_local hs hL rfl) ?hsw hs (closure_none rfl) rfl rfl rfl rfl (fun _ => rfl) (fun _ _ e => by cases e) ?_
  case hsw =>
    revert hs
    generalize c.env = env
    intro hs
    cases env
    cases hs
    rfl
  repeat' (walk_at "D1")
  refine ⟨_, .list _, by rw [List.length_map]; omega, ?_⟩
  refine CompL_map partD (fun q => gridD (smG q)) ps [] (fun q hq Q' h c2 hr2 hs2 => ?_) ?_
  · repeat' (walk_at "D1")
    exact h
  rw [List.nil_append]
  have esm : ps.map (fun q => gridD (smG q)) = (ps.map smG).map gridD := by rw [List.map_map]; rfl
  rw [esm]
  repeat' (walk_at "D1")
  -- facts of the grids
  have hp0 : 1 ≤ 1 + f % 60 ∧ 1 + f % 60 ≤ 60 := by omega
  have hm0 : 0 ≤ f / 60 % 41 ∧ f / 60 % 41 ≤ 40 := by omega
  generalize hpp : 1 + f % 60 = P at *
  generalize hmm : f / 60 % 41 = M at *
  have hsm1 : ∀ g ∈ ps.map smG, Gr g.1 g.2.1 g.2.2 := fun g hg => by
    obtain ⟨q, hq, rfl⟩ := List.mem_map.mp hg
    exact All2.right (S := fun q : Part => Gr q.1 q.2.1 q.2.2.2) (fun _ _ h => h.2.1) hgp q hq
  have hsm2 : (ps.map smG).length = 3 := by rw [List.length_map]; exact hps2
  have kgs : All2 (fun g g' : Int × Int × Int => g.2.2 = g'.2.2 ∧ g.1 ≤ g'.1 ∧ g'.2.1 ≤ g.2.1) gs (ps.map smG) := All2.of (by omega) fun i g g' e1 e2 => by
    rw [List.getElem?_map] at e2
    cases e3 : ps[i]? with
    | none => rw [e3] at e2; cases e2
    | some q =>
      rw [e3] at e2; cases e2
      have := hgp.get e1 e3
      exact ⟨this.1, this.2.2.1, this.2.2.2.1⟩
  refine Fn.use (law_through_ok pl gs P (by omega) hpl1 (by omega) hgs1 (by omega)) (by omega) fun d hd => ?_
  obtain ⟨r0, fW, rW, w0, wS, wL, rfl⟩ := hd
  repeat' (walk_at "D1")
  refine Fn.use (law_through_ok pl (ps.map smG) P (by omega) hpl1 (by omega) hsm1 (by omega)) (by omega) fun d hd => ?_
  obtain ⟨r1, fP, rP, p0, pS, pL, rfl⟩ := hd
  have lW := thr_last hpl2.2 hpl2.1 wS wL
  have lP := thr_last hpl2.2 hpl2.1 pS pL
  have wP := thr_within (.inr ⟨by omega, by omega⟩) wS pS (span_wi w0 p0 kgs) wL pL
  repeat' (walk_at "D1")
  refine Fn.use (law_within_ok rP.1 rP.2 rW.1 rW.2 20000000 (pt_of lP.ou lP.bu) (pt_of lP.ov lP.bv) (pt_of lW.ou lW.bu) (pt_of lW.ov lW.bv) (by omega) wP.1 wP.2 lP.le) (by omega) fun d hd => ?_
  subst hd
  repeat' (walk_at "D1")
  refine Fn.use (law_through_ok pl gs (P + f / 60 % 41) (by omega) hpl1 (by omega) hgs1 (by omega)) (by omega) fun d hd => ?_
  obtain ⟨r2, fM, rM, m0, mS, mL, rfl⟩ := hd
  have lM := thr_last hpl2.2 hpl2.1 mS mL
  have kgg : All2 (fun g g' : Int × Int × Int => g.2.2 = g'.2.2 ∧ g.1 ≤ g'.1 ∧ g'.2.1 ≤ g.2.1) gs gs := All2.of rfl fun i g g' e1 e2 => by
    rw [e1] at e2; cases e2
    exact ⟨rfl, Int.le_refl _, Int.le_refl _⟩
  have wM := thr_within (.inr ⟨by omega, by omega⟩) wS mS (span_wi w0 m0 kgg) wL mL
  repeat' (walk_at "D1")
  refine Fn.use (law_within_ok rM.1 rM.2 rW.1 rW.2 20000000 (pt_of lM.ou lM.bu) (pt_of lM.ov lM.bv) (pt_of lW.ou lW.bu) (pt_of lW.ov lW.bv) (by omega) wM.1 wM.2 lM.le) (by omega) fun d hd => ?_
  subst hd
  repeat' (walk_at "D1")
  refine Fn.use (law_through_ok pl (ps.map smG) 0 (by omega) hpl1 (by omega) hsm1 (by omega)) (by omega) fun d hd => ?_
  obtain ⟨r3, fE, rE, x0, xS, xL, rfl⟩ := hd
  have lE := thr_last hpl2.2 hpl2.1 xS xL
  have ksm : All2 (fun g g' : Int × Int × Int => g.2.2 = g'.2.2 ∧ g.1 ≤ g'.1 ∧ g'.2.1 ≤ g.2.1) (ps.map smG) (ps.map smG) := All2.of rfl fun i g g' e1 e2 => by
    rw [e1] at e2; cases e2
    exact ⟨rfl, Int.le_refl _, Int.le_refl _⟩
  have wE := thr_within (.inl rfl) pS xS (span_wi p0 x0 ksm) pL xL
  repeat' (walk_at "D1")
  refine EE_comp (cl := []) (σf := []) hs (closure_none rfl) rfl rfl rfl rfl (fun _ => rfl) (fun _ _ e => by cases e) ?_
  repeat' (walk_at "D1")
  refine ⟨_, .list _, by rw [List.length_map]; omega, ?_⟩
  refine CompL_map partD (fun q => pairD (ptG q)) ps [] (fun q hq Q' h c2 hr2 hs2 => ?_) ?_
  · repeat' (walk_at "D1")
    exact h
  rw [List.nil_append]
  have ept : ps.map (fun q => pairD (ptG q)) = (ps.map ptG).map pairD := by rw [List.map_map]; rfl
  rw [ept]
  repeat' (walk_at "D1")
  have hpt : ∀ g ∈ ps.map ptG, Pt 100 g.1 g.2 := fun g hg => by
    obtain ⟨q, hq, rfl⟩ := List.mem_map.mp hg
    have hr : Gr q.1 q.2.1 q.2.2.2 ∧ q.1 ≤ q.2.2.1 ∧ q.2.2.1 ≤ q.2.1 := All2.right (S := fun q : Part => Gr q.1 q.2.1 q.2.2.2 ∧ q.1 ≤ q.2.2.1 ∧ q.2.2.1 ≤ q.2.1) (fun _ _ h => ⟨h.2.1, h.2.2.2.2⟩) hgp q hq
    have g1 := hr.1.lo
    have g2 := hr.1.hi
    have g3 := hr.1.e1
    have g4 := hr.1.e2
    have : ib q.2.2.1 ≤ 27 := ib_le (by omega)
    exact ⟨by show (ib q.2.2.1 : Int) ≤ 100; omega, by show -100 ≤ q.2.2.2; omega, by show q.2.2.2 ≤ 100; omega⟩
  refine Fn.use (law_point_ok pl (ps.map ptG) hpl1 (by omega) hpt (by rw [List.length_map]; omega)) (by omega) fun d hd => ?_
  obtain ⟨xf, rX, tS, tL, tP, rfl⟩ := hd
  repeat' (walk_at "D1")
  refine Fn.use (law_within_ok rE.1 rE.2 rP.1 rP.2 20000000 (pt_of lE.ou lE.bu) (pt_of lE.ov lE.bv) (pt_of lP.ou lP.bu) (pt_of lP.ov lP.bv) (by omega) wE.1 wE.2 lE.le) (by omega) fun d hd => ?_
  subst hd
  repeat' (walk_at "D1")
  have hol : Hol rE (qvp rX) := by
    refine thr_holds xS tS (All2.of ?_ fun i a b e1 e2 => ?_) xL tL
    · rw [← x0.length, List.length_map, List.length_map, List.length_map]
    · rw [List.getElem?_map, List.getElem?_map] at e2
      cases e3 : ps[i]? with
      | none => rw [e3] at e2; cases e2
      | some q =>
        rw [e3] at e2; cases e2
        have h1 := x0.get (i := i) (a := smG q) (by rw [List.getElem?_map, e3]; rfl) e1
        have hr : q.1 ≤ q.2.2.1 ∧ q.2.2.1 ≤ q.2.1 := All2.right (S := fun q : Part => q.1 ≤ q.2.2.1 ∧ q.2.2.1 ≤ q.2.1) (fun _ _ h => h.2.2.2.2) hgp q (List.mem_of_getElem? e3)
        refine ⟨?_, ?_⟩
        · rw [h1.2.2.1]; exact le_same.mpr hr.1
        · rw [h1.2.2.2.1]; exact le_same.mpr hr.2
  refine Fn.use (law_holds_ok rE.1 rE.2 rX.1 rX.2 20000000 (pt_of lE.ou lE.bu) (pt_of lE.ov lE.bv) (tP.more (by omega)) (by omega)) (by omega) fun d hd => ?_
  have hol' : decide (rE.1.val ≤ qv rX.1 rX.2 ∧ qv rX.1 rX.2 ≤ rE.2.val) = true := decide_eq_true hol
  rw [hol'] at hd
  subst hd
  repeat' (walk_at "D1")
  refine EE_comp (cl := [(("prec" : Str), a2)]) (σf := [("prec", .int P)]) hs ?hclos rfl rfl rfl rfl (fun _ => rfl) ?hfree ?_
  case hclos => simp only [closureFor, cellOf, hcl]; rfl
  case hfree =>
    intro y d e
    rw [List.lookup_cons] at e
    by_cases q : y = ("prec" : Str)
    · subst q
      simp only [beq_self_eq_true] at e
      cases e
      rw [hcl]
      exact ⟨rfl, rfl, rfl, rfl⟩
    · rw [beq_eq_false_iff_ne.mpr q] at e
      cases e
  repeat' (walk_at "D1")
  refine Bop_addT (by simp) (by simp) (by simp) ?_
  refine ⟨[rW.1.D, rW.2.D, rP.1.D, rP.2.D], .tup _, by simp, ?_⟩
  have fit : ∀ z : Mpf, Fits P z → decide (z.m < 2 ^ P.toNat) = true := fun z h => by
    rcases h with h | h
    · omega
    · exact decide_eq_true h
  have f1 := fit _ lW.fu
  have f2 := fit _ lW.fv
  have f3 := fit _ lP.fu
  have f4 := fit _ lP.fv
  refine CompL_cons fun c2 hr2 hs2 => ?_
  repeat' (walk_at "D1")
  rw [f1]
  clear hs2 hr2 c2
  refine CompL_cons fun c2 hr2 hs2 => ?_
  repeat' (walk_at "D1")
  rw [f2]
  clear hs2 hr2 c2
  refine CompL_cons fun c2 hr2 hs2 => ?_
  repeat' (walk_at "D1")
  rw [f3]
  clear hs2 hr2 c2
  refine CompL_cons fun c2 hr2 hs2 => ?_
  repeat' (walk_at "D1")
  rw [f4]
  clear hs2 hr2 c2
  refine CompL_nil ?_
  refine EL_nil ?_
  refine Cal_all (fun d hd => ?_) rfl
  simp at hd
  exact hd⟩
end Mine
end
section
open PySem.Calls PySem.Spec
namespace Mine
theorem repL_ints {h : Heap} : ∀ {vs : List Value} {xs : List Int}, IntsAre vs xs → RepL h vs (xs.map D.int)
  | _, _, .nil => .nil
  | _, _, .cons n t r => .cons (.int n t) (repL_ints r)
theorem weight_mem : ∀ {xs : List Int}, ∀ x ∈ xs, ib x ≤ PyData.weightAll (xs.map PyData.int)
  | y :: ys, x, hx => by
    rw [List.map_cons]
    unfold PyData.weightAll
    rcases List.mem_cons.mp hx with rfl | hx
    · unfold PyData.weight ib Builtin.Int.intBits
      by_cases q : x = 0
      · subst q; exact Nat.zero_le _
      · have : (x == 0) = false := beq_eq_false_iff_ne.mpr q
        simp only [this]
        split <;> omega
    · have := weight_mem x hx
      omega
theorem bits_of {xs : List Int} (h : (PyData.list (xs.map PyData.int)).layable0 = true) : ∀ x ∈ xs, ib x ≤ 2 ^ 20 := fun x hx => by
  unfold PyData.layable0 at h
  have h2 := of_decide_eq_true (Bool.and_eq_true_iff.mp h).2
  unfold PyData.weight at h2
  exact Nat.le_trans (weight_mem x hx) h2
theorem law_same {sc sc' : Scope} {bd bd' : List Stmt} (w : World) (h : LawAt sc bd) (h' : LawAt sc' bd') : sc = sc' ∧ bd = bd' := by
  obtain ⟨_, _, _, _, _, _, _, _, _, _, _, _, _, e⟩ := h w
  obtain ⟨_, _, _, _, _, _, _, _, _, _, _, _, _, e'⟩ := h' w
  rw [e] at e'
  unfold fnOf at e'
  injection e' with e'
  injection e' with _ _ e' _
  injection e' with e'
  injection e' with _ _ _ e1 e2
  injection e1 with e1
  exact ⟨e2, e1⟩
theorem hid_ge {n b : Nat} (h : b ∈ [n, n + 1, n + 2, n + 3]) : n ≤ b := by
  simp only [List.mem_cons, List.not_mem_nil, or_false] at h
  omega
theorem look3 {n b : Nat} {x : Str} (e : List.lookup x [(("grids" : Str), n + 3), (("prec" : Str), n + 2), (("script" : Str), n + 1)] = some b) : (x = ("grids" : Str) ∧ b = n + 3) ∨ (x = ("prec" : Str) ∧ b = n + 2) ∨ (x = ("script" : Str) ∧ b = n + 1) := by
  rw [List.lookup_cons] at e
  by_cases q : x = ("grids" : Str)
  · subst q; simp only [beq_self_eq_true] at e; exact .inl ⟨rfl, (Option.some.inj e).symm⟩
  · rw [beq_eq_false_iff_ne.mpr q] at e
    dsimp only at e
    rw [List.lookup_cons] at e
    by_cases q : x = ("prec" : Str)
    · subst q; simp only [beq_self_eq_true] at e; exact .inr (.inl ⟨rfl, (Option.some.inj e).symm⟩)
    · rw [beq_eq_false_iff_ne.mpr q] at e
      dsimp only at e
      rw [List.lookup_cons] at e
      by_cases q : x = ("script" : Str)
      · subst q; simp only [beq_self_eq_true] at e; exact .inr (.inr ⟨rfl, (Option.some.inj e).symm⟩)
      · rw [beq_eq_false_iff_ne.mpr q] at e; cases e
theorem apart3 {n b b' : Nat} {x z : Str} (e : List.lookup x [(("grids" : Str), n + 3), (("prec" : Str), n + 2), (("script" : Str), n + 1)] = some b) (e' : List.lookup z [(("grids" : Str), n + 3), (("prec" : Str), n + 2), (("script" : Str), n + 1)] = some b') (h : z ≠ x) : b' ≠ b := by
  rcases look3 e with ⟨a1, a2⟩ | ⟨a1, a2⟩ | ⟨a1, a2⟩ <;> rcases look3 e' with ⟨b1, b2⟩ | ⟨b1, b2⟩ | ⟨b1, b2⟩ <;> first | omega | exact absurd (b1.trans a1.symm) h
theorem top_go {sc : Scope} {bd : List Stmt} (w : World) {g h₁ : Heap} {mg mb : Vp} {p : Program} {loose : List Str} {mean : ExcName → Option Value} {fa : Addr} {cd : Value} {name : Str} {o1 o2 o3 : Obj} {v1 v2 v3 : Option Value} {m : Vp} {a : Addr} {vs : List Value} {xs : List Int}
    (hat : LawAt sc bd) (hk : sc.kind = .function) (hc : ∀ n, cellsFrom (n + 1) sc.names [] = [(("grids" : Str), n + 3), (("prec" : Str), n + 2), (("script" : Str), n + 1)])
    (q1 : sc.names.lookup ("script" : Str) = some .cell) (q2 : sc.names.lookup ("prec" : Str) = some .cell) (q3 : sc.names.lookup ("grids" : Str) = some .cell)
    (KX : (KF w).In g) (T : Top p loose mean mg mb g) (F : Fr g g.objs.size h₁ m) (N : News g g.objs.size h₁ [(g.objs.size + 3, o3), (g.objs.size + 2, o2), (g.objs.size + 1, o1)])
    (d3 : o3.data = .cell v3) (d2 : o2.data = .cell v2) (d1 : o1.data = .cell v1) (e1 : v1 = some (.ref a)) (hL : g.IsList a vs.toArray) (hI : IntsAre vs xs) (hlen : xs.length ≤ 63) (hlay : (PyData.list (xs.map PyData.int)).layable0 = true)
    (s : Shared) (hs : s.heap = h₁) (E : Ex) :
    wpAny (model PR w) (callerA.deeper (envOfC name sc g.objs.size fa cd)) (execs bd (envOfC name sc g.objs.size fa cd)) (fun fl s' => ∃ h' tk m', s' = { s with heap := h', toks := tk } ∧ fl = .ret (.bool true) ∧ Fr g g.objs.size h' m') E s := by
  obtain ⟨sc', bd', hat', G⟩ := law_ex
  obtain ⟨rfl, rfl⟩ := law_same w hat hat'
  subst hs e1
  have r1 : s.heap.get? (g.objs.size + 1) = some o1 := N.get (.tail _ (.tail _ (.head _)))
  have r2 : s.heap.get? (g.objs.size + 2) = some o2 := N.get (.tail _ (.head _))
  have r3 : s.heap.get? (g.objs.size + 3) = some o3 := N.get (.head _)
  have gnew : ∀ b, g.objs.size ≤ b → g.get? b = none := fun b hb => by
    cases e : g.get? b with
    | none => rfl
    | some o => exact absurd (Heap.lt_size e) (Nat.not_lt.mpr hb)
  let inv : Heap → Prop := fun h => ∀ b, b = g.objs.size + 1 ∨ b = g.objs.size + 2 ∨ b = g.objs.size + 3 → ∃ o v, h.get? b = some o ∧ o.data = .cell v
  let c : Cx := {
    w := w
    A := callerA.deeper (envOfC name sc g.objs.size fa cd)
    env := envOfC name sc g.objs.size fa cd
    hid := [g.objs.size, g.objs.size + 1, g.objs.size + 2, g.objs.size + 3]
    g := g
    L := g.objs.size
    rk := 13
    p := p
    loose := loose
    mean := mean
    mg := mg
    mb := mb
    A₀ := callerA
    base := g
    outer := []
    fenv := envOfC name sc g.objs.size fa cd
    below := below_caller g
    frames := rfl
    frame := rfl
    fkind := hk
    kin := KX
    top := T
    hand := rfl
    depth := (by show 1 + 300 + 1 + 13 < 1000; omega)
    units := (by show 4 + 3 + 10 * 13 + 200 < 9900; omega)
    ekind := hk
    eglob := rfl
    ebuilt := rfl
    hidL := .head _
    hidE := .head _
    kvis := (by
      intro b hb o e
      have h1 := Heap.lt_size (KX _ _ e)
      have h2 : g.objs.size ≤ b := hid_ge hb
      exact absurd h1 (Nat.not_lt.mpr h2))
    inv := inv
    invk := (fun h h' k x b hb => by
      obtain ⟨o, v, e, hd⟩ := x b hb
      exact k.2 b o v e hd |>.elim fun o' x => x.elim fun v' x => ⟨o', v', x.1, x.2⟩) }
  have hcl : c.env.cells = [(("grids" : Str), g.objs.size + 3), (("prec" : Str), g.objs.size + 2), (("script" : Str), g.objs.size + 1)] := hc g.objs.size
  have hap : ∀ x b, c.env.cells.lookup x = some b → ∀ z b', z ≠ x → c.env.cells.lookup z = some b' → b' ≠ b := by
    intro x b e z b' hz e'
    rw [hcl] at e e'
    exact apart3 e e' hz
  have S0 : St c [("script", .list (xs.map D.int))] s.heap := by
    refine ⟨⟨m, F⟩, ⟨m, F.ns⟩, fun b hb => ?_, fun x d e => ?_, fun b hb => ?_⟩
    · simp only [c, List.mem_cons, List.not_mem_nil, or_false] at hb
      rcases hb with rfl | rfl | rfl | rfl
      · obtain ⟨o, _, _, e, _⟩ := F.ns; exact ⟨o, e⟩
      · exact ⟨_, r1⟩
      · exact ⟨_, r2⟩
      · exact ⟨_, r3⟩
    · rw [List.lookup_cons] at e
      by_cases q : x = ("script" : Str)
      · subst q
        simp only [beq_self_eq_true] at e
        cases e
        refine ⟨.ref a, .inr ⟨.inl (kind_of rfl q1), g.objs.size + 1, o1, by rw [hcl]; rfl, r1, d1⟩, .list (vs := vs) ?_ (repL_ints hI)⟩
        obtain ⟨o, ho, r⟩ := hL
        refine ⟨o, hideAll_get _ (F.keep _ _ ho) fun hm => ?_, r⟩
        have h2 : g.objs.size ≤ a := hid_ge hm
        exact absurd (Heap.lt_size ho) (Nat.not_lt.mpr h2)
      · rw [beq_eq_false_iff_ne.mpr q] at e
        cases e
    · rcases hb with rfl | rfl | rfl
      · exact ⟨_, _, r1, d1⟩
      · exact ⟨_, _, r2, d2⟩
      · exact ⟨_, _, r3, d3⟩
  have l2 : c.env.cells.lookup ("prec" : Str) = some (g.objs.size + 2) := by rw [hcl]; rfl
  have l3 : c.env.cells.lookup ("grids" : Str) = some (g.objs.size + 3) := by rw [hcl]; rfl
  have sp : Sto c "prec" := sto_cell rfl q2 l2 (.tail _ (.tail _ (.head _))) (gnew _ (by omega)) (hap _ _ l2) fun h x => x _ (.inr (.inl rfl))
  have sg : Sto c "grids" := sto_cell rfl q3 l3 (.tail _ (.tail _ (.tail _ (.head _)))) (gnew _ (by omega)) (hap _ _ l3) fun h x => x _ (.inr (.inr rfl))
  refine wpAny_mono (G c _ _ _ xs (Nat.le_refl _) rfl rfl hcl sp sg hlen (bits_of hlay) s E S0) (fun fl s' o => ?_) fun _ _ x => x
  obtain ⟨h', tk, rfl, k, x⟩ := o
  cases fl with
  | next => obtain ⟨_, _, x⟩ := x; exact x.elim
  | ret v =>
    obtain ⟨⟨σ', S'⟩, d, rv, q⟩ := x
    subst q
    cases rv
    obtain ⟨m', F'⟩ := S'.fr
    exact ⟨h', tk, m', rfl, rfl, F'⟩
  | brk => exact x.elim
  | cont => exact x.elim
end Mine
end
set_option maxRecDepth 100000 in
set_option maxHeartbeats 8000000 in
theorem PySem.Challenge.cw_aj5006_01_holds : PySem.Challenge.rw_aj5006_01.Holds := by
  refine Mine.hd ?_
  k_go0
  refine' wpAny_mono (Mine.top_go (sc := ?zsc) (bd := ?zbd) _ ?zhat ?zhk ?zhc ?zq1 ?zq2 ?zq3 ?zKX ?zT ?zF ?zN ?zd3 ?zd2 ?zd1 ?ze1 ?zhL ?zhI ?zhlen ?zhlay _ rfl _) ?zk (fun _ _ x => x)
  case zF => assumption
  case zN => assumption
  case zKX => assumption
  case zT => assumption
  case zd3 => assumption
  case zd2 => assumption
  case zd1 => assumption
  case zhL => assumption
  case zhI => assumption
  case ze1 => rfl
  case zhlay => assumption
  case zhlen => omega
  case zhk => rfl
  case zhc => intro n; rfl
  case zq1 => rfl
  case zq2 => rfl
  case zq3 => rfl
  case zhat => exact fun w => ⟨_, _, _, _, _, _, _, _, _, _, _, _, _, rfl⟩
  case zk =>
    intro fl s' o
    obtain ⟨h', tk, m', rfl, rfl, F'⟩ := o
    show GoodW _ _ _ _ _ (.ok (.ret (.bool true))) _
    refine goodW_bool F' (by assumption) (raisesW_false ?_) ?_
    · wrow_none_raised
    · kc_post
