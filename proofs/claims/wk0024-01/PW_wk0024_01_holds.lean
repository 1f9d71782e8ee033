import PyProof.Rows.All
import Wide.All
import OpenK.AllK
import Wide.FinOn
import Lean
import PySem.Challenge.RW_wk0024_01
set_option Elab.async false
set_option linter.all false
set_option maxRecDepth 100000
noncomputable section
open PySem PySem.W PySem.Calls PyProof.Rows
set_option maxRecDepth 100000
namespace Mine

noncomputable def Ext (H h : Heap) : Prop := ∀ b o, H.get? b = some o → h.get? b = some o
theorem Ext.refl (h : Heap) : Ext h h := fun _ _ e => e
theorem Ext.trans {a b c : Heap} (x : Ext a b) (y : Ext b c) : Ext a c := fun b o e => y b o (x b o e)

structure AOK (A : Around) (d : Nat) : Prop where
  hh : A.handled = none
  hd : A.depth + d < recursionLimit
  hu : A.units + 20 * d < cLine

theorem AOK.deeper {A : Around} {d : Nat} (x : AOK A (d + 1)) (env : Env) : AOK (A.deeper env) d :=
  ⟨x.hh, by have := x.hd; show A.depth + 1 + d < _; omega, by have := x.hu; show A.units + 3 + 20 * d < _; omega⟩
theorem AOK.less {A : Around} {d e : Nat} (x : AOK A d) (h : e ≤ d) : AOK A e :=
  ⟨x.hh, by have := x.hd; omega, by have := x.hu; omega⟩
theorem AOK.room {A : Around} {d : Nat} (x : AOK A d) : A.depth < recursionLimit := by have := x.hd; omega
theorem AOK.units {A : Around} {d : Nat} (x : AOK A d) : A.units < cLine := by have := x.hu; omega

structure EnvOK (env : Env) (L : Addr) (cells : List (Str × Addr)) (names : List (Str × NameKind)) : Prop where
  kind : env.scope.kind = .function
  names : env.scope.names = names
  loc : env.locals = L
  glob : env.globals = mainGlobals
  bi : env.builtins = builtinsNs
  cells : env.cells = cells
theorem EnvOK.of {env : Env} {L : Addr} {cells : List (Str × Addr)} {names : List (Str × NameKind)} (x : EnvOK env L cells names) {n : Str} {k : NameKind} (e : names.lookup n = some k) : env.kindOf n = some k := by
  unfold Env.kindOf; rw [x.names]; exact e

noncomputable def stAt (i : Nat) : Stmt := PySem.Challenge.pw_wk0024_01.main.body.getD i (.Pass default)
noncomputable def inCls (k : Nat) : Stmt → Stmt
  | .ClassDef _ _ _ b .. => b.getD k (.Pass default)
  | s => s
noncomputable def bodyOf : Stmt → List Stmt
  | .FunctionDef _ _ b .. => b
  | _ => []
noncomputable def scopeOf : Stmt → Scope
  | .FunctionDef _ _ _ _ _ _ s .. => s
  | _ => default
noncomputable def paramsOf : Stmt → Arguments
  | .FunctionDef _ a .. => a
  | _ => default
noncomputable def FnAt (H : Heap) (a : Addr) (name : Str) (st : Stmt) : Prop :=
  ∃ oc od osl doc pm an cd ct, H.get? a = some ⟨oc, od, .func (fnOf name name (paramsOf st) (bodyOf st) (scopeOf st) .none .none doc pm an cd ct), osl⟩ ∧ H.CodeRec cd name
theorem FnAt.ext {H h : Heap} {a : Addr} {n : Str} {st : Stmt} (F : FnAt H a n st) (x : Ext H h) : FnAt h a n st := by
  obtain ⟨oc, od, osl, doc, pm, an, cd, ct, h1, c, o, vs, t, e1, e2, e3, e4⟩ := F
  exact ⟨oc, od, osl, doc, pm, an, cd, ct, x _ _ h1, c, o, vs, t, e1, x _ _ e2, e3, e4⟩
noncomputable def fns : List (Addr × Str × Nat) := [(28, "_get_lineno_width", 3), (122, "ISEOF", 58), (129, "_law_cells", 60), (136, "_law_near", 61), (141, "_law_spots", 62), (146, "_law_corner", 63), (153, "_law_fold", 64), (160, "_law_hold", 65),
  (165, "_law_widths", 66), (172, "_law_due", 67), (177, "_law_euler", 68), (184, "_law_caught", 69), (191, "_law_free", 70), (196, "law", 71)]
noncomputable def glo : List (Str × Value) := (("_Accumulator" : Str), .ref 108) :: (("EXACT_TOKEN_TYPES" : Str), .ref 113) :: fns.map fun x => (x.2.1, .ref x.1)
noncomputable def blt : List Str := ["len", "range", "max", "sum", "sorted", "filter", "enumerate", "str", "super"]

noncomputable def MethAt (prog : Program) (K : Frag) (f : Addr) (n q : Str) (i : Nat) (dv : Value) : Prop := ∃ od osl doc pm an ct cc ccl cdd vs ccs file tf,
  K.lookup f = some ⟨.type "function", od, .func (fnX n q (paramsOf (inCls i (stAt 6))) (bodyOf (inCls i (stAt 6))) (scopeOf (inCls i (stAt 6))) (if i = 1 then [] else [("__class__", 32)]) dv .none doc pm an (.ref cc) ct), osl⟩ ∧
  codeIn K (.ref cc) q = true ∧ K.lookup cc = some ⟨ccl, cdd, .fields vs, ccs⟩ ∧ vs[2]? = some (.str file tf) ∧ ((prog.main.file : Str) == file) = true
noncomputable def accTab : List (Str × Option Value) := [("__iter__", some (.builtin "list.__iter__")), ("__init__", some (.ref 45)), ("push", some (.ref 52)), ("pop", some (.ref 68)), ("part_count", some (.ref 105)), ("append", some (.builtin "list.append")),
  ("__getattribute__", some (.builtin "list.__getattribute__")), ("__getattr__", none), ("__setattr__", some (.builtin "object.__setattr__")), ("_initial_size", none)]
structure AccK (prog : Program) (K : Frag) : Prop where
  tab : ∀ p ∈ accTab, findIn K (.ref 108) p.1 = some p.2
  list : mroIn K 108 (.type "list") = some true
  cls : ∃ nm bs sn sub col dd k0 k1 k2 k3 k5, K.lookup 108 = some (excClassObj nm "_Accumulator" 108 107 bs [.type "list", .type "object"] true sn sub false col dd k0 k1 k2 k3 k5 "list.__new__")
  fI : MethAt prog K 45 "__init__" "_Accumulator.__init__" 0 (.ref 37)
  dv : ∃ t, K.lookup 37 = some { cls := .type "tuple", data := .seq #[.int 0 t] }
  fP : MethAt prog K 52 "push" "_Accumulator.push" 1 .none
  fO : MethAt prog K 68 "pop" "_Accumulator.pop" 3 .none
  fC : MethAt prog K 105 "part_count" "_Accumulator.part_count" 8 .none
  cell : ∃ cl cld csl, K.lookup 32 = some ⟨cl, cld, .cell (some (.ref 108)), csl⟩
  opq : nsIn K cStatics "thirdparty.any" = some none
  sysm : ∃ o, K.lookup 1 = some o
  top : (prog.main.scope.names.lookup ("super" : Str)).isSome = false
noncomputable def sgn (k : Nat) : Str := ⟨#[[40, 41, 91, 93, 58, 44, 59, 43, 45, 42, 47, 124, 38, 60, 62, 61, 46, 37, 123, 125].getD k 0]⟩

structure Base (prog : Program) (w : World) (mg mb : Str → Option Value) (H : Heap) : Prop where
  cls : ∃ K : Frag, K.In H ∧ AccK prog K
  tok : ∃ f, H.MapOf (strKind prog w) 113 f ∧ ∀ k < 20, ∃ t, f (sgn k) = some (.int ((7 + k : Nat) : Int) t)
  fn : ∀ x ∈ fns, FnAt H x.1 x.2.1 (stAt x.2.2)
  gl : ∀ x ∈ glo, mg x.1 = some x.2
  no : ∀ x ∈ blt, mg x = none
  em : ∃ t, mg "ENDMARKER" = some (.int 0 t)
  nl : ∃ t, mg "_NO_LINENO" = some (.str "  --" t)
  g : H.Ns mainGlobals mg
  b : H.Ns builtinsNs mb
  lim : H.NoLimit
  bi : ∀ x : Str, x ≠ "__name__" → mb x = bootBuiltins x
theorem Base.at {prog : Program} {w : World} {mg mb : Str → Option Value} {H : Heap} (B : Base prog w mg mb H) {a : Addr} {n : Str} {i : Nat} (h : (a, n, i) ∈ fns) : FnAt H a n (stAt i) := B.fn _ h
theorem Heap.MapOf.at {K : Type} [DecidableEq K] {prog : Program} {w : World} {knd : KeyKind prog w K} {h h' : Heap} {a : Addr} {f : K → Option Value} (x : h.MapOf knd a f) (k : ∀ o, h.get? a = some o → h'.get? a = some o) : h'.MapOf knd a f := let ⟨o, es, ep, ho, r⟩ := x; ⟨o, es, ep, k _ ho, r⟩
theorem Base.ext {prog : Program} {w : World} {mg mb : Str → Option Value} {H h : Heap} (B : Base prog w mg mb H) (x : Ext H h) : Base prog w mg mb h :=
  ⟨let ⟨K, X, k⟩ := B.cls; ⟨K, fun a o e => x a o (X a o e), k⟩, let ⟨f, m, r⟩ := B.tok; ⟨f, Heap.MapOf.at m fun o e => x _ _ e, r⟩, fun p hp => (B.fn p hp).ext x, B.gl, B.no, B.em, B.nl, B.g.keeps x, B.b.keeps x, B.lim.keeps x, B.bi⟩

section
variable (prog : Program) (w : World) (A : Around)

noncomputable def Ev (env : Env) (H : Heap) (e : PySem.Expr) (R : Value → Heap → Prop) : Prop :=
  ∀ (Q E : Value → Shared → Prop) (s : Shared), Ext H s.heap →
    (∀ v h' tk, Ext s.heap h' → R v h' → Q v { s with heap := h', toks := tk }) → wpAny (model prog w) A (eval e env) Q E s
noncomputable def EvT (env : Env) (H : Heap) (e : PySem.Expr) (b : Bool) : Prop :=
  ∀ (Q : Bool → Shared → Prop) (E : Value → Shared → Prop) (s : Shared), Ext H s.heap →
    (∀ h' tk, Ext s.heap h' → Q b { s with heap := h', toks := tk }) → wpAny (model prog w) A (isTrue e env (eval e env)) Q E s
end
noncomputable def IsI (i : Int) (v : Value) (_ : Heap) : Prop := ∃ t, v = .int i t
noncomputable def IsB (b : Bool) (v : Value) (_ : Heap) : Prop := v = .bool b
noncomputable def IsS (x : Str) (v : Value) (_ : Heap) : Prop := ∃ t, v = .str x t
noncomputable def IsV (x : Value) (v : Value) (_ : Heap) : Prop := v = x
noncomputable def LI (a : Addr) (ns : List Int) (h : Heap) : Prop := ∃ vs, h.IsList a vs.toArray ∧ IntsAre vs ns
theorem LI.ext {a : Addr} {ns : List Int} {H h : Heap} (x : LI a ns H) (k : Ext H h) : LI a ns h :=
  let ⟨vs, p, q⟩ := x; ⟨vs, p.at fun o e => k a o e, q⟩
theorem LI.list {a : Addr} {ns : List Int} {H : Heap} (x : LI a ns H) : ∃ vs, H.IsList a vs.toArray ∧ IntsAre vs ns := x

section
variable {prog : Program} {w : World} {A : Around} {env : Env} {H : Heap} {e l r : PySem.Expr} {pos : Pos} {k : Nat} {R R' : Value → Heap → Prop}

theorem Ev.mono (h : Ev prog w A env H e R) (hR : ∀ v h', Ext H h' → R v h' → R' v h') : Ev prog w A env H e R' :=
  fun Q E s x q => h Q E s x fun v h' tk y z => q v h' tk y (hR v h' (x.trans y) z)
theorem Ev.ext {H' : Heap} (h : Ev prog w A env H e R) (x : Ext H H') : Ev prog w A env H' e R :=
  fun Q E s y q => h Q E s (x.trans y) q
theorem EvT.ext {H' : Heap} {b : Bool} (h : EvT prog w A env H e b) (x : Ext H H') : EvT prog w A env H' e b :=
  fun Q E s y q => h Q E s (x.trans y) q

theorem ev_int {i : Int} : Ev prog w A env H (.Constant (.int i) k pos) (IsI i) :=
  fun _ _ s _ q => wpAny_Constant_int (q _ s.heap _ (Ext.refl _) ⟨_, rfl⟩)
theorem ev_bool {b : Bool} : Ev prog w A env H (.Constant (.bool b) k pos) (IsB b) :=
  fun _ _ s _ q => wpAny_Constant_bool (q _ s.heap s.toks (Ext.refl _) rfl)
theorem ev_str {x : Str} : Ev prog w A env H (.Constant (.str x) k pos) (IsS x) :=
  fun _ _ s _ q => wpAny_Constant_str (q _ s.heap _ (Ext.refl _) ⟨_, rfl⟩)

theorem ev_local {x : Str} {m : Str → Option Value} {v : Value} (hk : env.scope.kind = .function) (hl : env.kindOf x = some .local) (hn : H.Ns env.locals m) (hv : m x = some v)
    (hd : (x == ("__debug__" : Str)) = false := by decide) : Ev prog w A env H (.Name x pos) (IsV v) :=
  fun _ _ s y q => wpAny_Name (wpAny_loadName_local hk hl (hn.keeps y) hv (q _ s.heap s.toks (Ext.refl _) rfl)) hd
theorem ev_cell {x : Str} {c : Addr} {v : Value} (hk : env.scope.kind = .function) (hl : env.kindOf x = some .cell) (hc : env.cells.lookup x = some c) (hv : H.IsCell c (some v))
    (hd : (x == ("__debug__" : Str)) = false := by decide) : Ev prog w A env H (.Name x pos) (IsV v) :=
  fun _ _ s y q => wpAny_Name (wpAny_loadName_cell hk hl hc (hv.keeps y) (q _ s.heap s.toks (Ext.refl _) rfl)) hd
theorem ev_free {x : Str} {c : Addr} {v : Value} (hk : env.scope.kind = .function) (hl : env.kindOf x = some .free) (hc : env.cells.lookup x = some c) (hv : H.IsCell c (some v))
    (hd : (x == ("__debug__" : Str)) = false := by decide) (hn : (x == ("__classdict__" : Str)) = false := by decide) : Ev prog w A env H (.Name x pos) (IsV v) :=
  fun _ _ s y q => wpAny_Name (wpAny_loadName_free hk hl hc (hv.keeps y) (q _ s.heap s.toks (Ext.refl _) rfl) hn) hd
theorem ev_global {mg mb : Str → Option Value} {x : Str} {v : Value} (B : Base prog w mg mb H) (hk : env.scope.kind = .function) (hg : env.globals = mainGlobals) (hl : env.kindOf x = some .globalImplicit) (e : glo.lookup x = some v)
    (hd : (x == ("__debug__" : Str)) = false := by decide) : Ev prog w A env H (.Name x pos) (IsV v) :=
  fun _ _ s y q => Name_function_global hk hl (loadGlobal_global (by rw [hg]; exact B.g.keeps y) (B.gl (x, v) (mem_of_lookup e)) (q _ s.heap s.toks (Ext.refl _) rfl)) hd
theorem ev_builtin {mg mb : Str → Option Value} {x : Str} {v : Value} (B : Base prog w mg mb H) (hk : env.scope.kind = .function) (hg : env.globals = mainGlobals) (hb : env.builtins = builtinsNs) (hl : env.kindOf x = some .globalImplicit) (e : x ∈ blt)
    (hv : bootBuiltins x = some v) (hn : x ≠ "__name__" := by decide) (hd : (x == ("__debug__" : Str)) = false := by decide) : Ev prog w A env H (.Name x pos) (IsV v) :=
  fun _ _ s y q => Name_function_global hk hl (loadGlobal_builtin (by rw [hg]; exact B.g.keeps y) (B.no x e) (by rw [hb]; exact B.b.keeps y) ((B.bi x hn).trans hv) (q _ s.heap s.toks (Ext.refl _) rfl)) hd

theorem ev_bin {op : Operator} {a b c : Int} (hl : Ev prog w A env H l (IsI a)) (hr : Ev prog w A env H r (IsI b))
    (hop : ∀ (t u : Tok) (s : Shared) (Q E : Value → Shared → Prop), Q (.int c s.toks) { s with toks := s.toks + 1 } → wpAny (model prog w) A (binaryOp op (.int a t) (.int b u)) Q E s) :
    Ev prog w A env H (.BinOp l op r pos) (IsI c) := by
  intro Q E s y q
  refine wpAny_BinOp (hl _ _ _ y ?_)
  rintro _ h₁ tk₁ y₁ ⟨t, rfl⟩
  refine hr _ _ _ (y.trans y₁) ?_
  rintro _ h₂ tk₂ y₂ ⟨u, rfl⟩
  exact hop t u _ _ _ (q _ h₂ _ (y₁.trans y₂) ⟨_, rfl⟩)

theorem ev_add {a b : Int} (hl : Ev prog w A env H l (IsI a)) (hr : Ev prog w A env H r (IsI b)) : Ev prog w A env H (.BinOp l .Add r pos) (IsI (a + b)) :=
  ev_bin hl hr fun _ _ _ _ _ q => PyProof.Rows.add_int q
theorem ev_sub {a b : Int} (hl : Ev prog w A env H l (IsI a)) (hr : Ev prog w A env H r (IsI b)) : Ev prog w A env H (.BinOp l .Sub r pos) (IsI (a - b)) :=
  ev_bin hl hr fun _ _ _ _ _ q => PyProof.Rows.sub_int' q
theorem ev_mod {a b : Int} (hl : Ev prog w A env H l (IsI a)) (hr : Ev prog w A env H r (IsI b)) (hb : b ≠ 0) : Ev prog w A env H (.BinOp l .Mod r pos) (IsI (a.fmod b)) :=
  ev_bin hl hr fun _ _ _ _ _ q => PyProof.Rows.mod_int' hb q
theorem ev_and {a b : Int} (hl : Ev prog w A env H l (IsI a)) (hr : Ev prog w A env H r (IsI b)) : Ev prog w A env H (.BinOp l .BitAnd r pos) (IsI (Builtin.bitAnd a b)) :=
  ev_bin hl hr fun _ _ _ _ _ q => PyProof.Rows.and_int q
theorem ev_shr {a b : Int} (hl : Ev prog w A env H l (IsI a)) (hr : Ev prog w A env H r (IsI b)) (hb : 0 ≤ b) : Ev prog w A env H (.BinOp l .RShift r pos) (IsI (a.fdiv (2 ^ b.toNat))) :=
  ev_bin hl hr fun _ _ _ _ _ q => PyProof.Rows.rshift_int hb q
theorem ev_shl {a b : Int} (hl : Ev prog w A env H l (IsI a)) (hr : Ev prog w A env H r (IsI b)) (hb : 0 ≤ b) (hb2 : b ≤ 1000000) (ha : a.natAbs < 2 ^ 64) : Ev prog w A env H (.BinOp l .LShift r pos) (IsI (a * 2 ^ b.toNat)) :=
  ev_bin hl hr fun _ _ _ _ _ q => PyProof.Rows.lshift_int_small hb hb2 ha q
theorem ev_pow {a b : Int} (hl : Ev prog w A env H l (IsI a)) (hr : Ev prog w A env H r (IsI b)) (hb : 0 ≤ b) (hb2 : b ≤ 1000000) (ha : a.natAbs < 2 ^ 64) : Ev prog w A env H (.BinOp l .Pow r pos) (IsI (a ^ b.toNat)) :=
  ev_bin hl hr fun _ _ _ _ _ q => PyProof.Rows.pow_int_small hb hb2 ha q
theorem ev_fdiv {a b : Int} (hl : Ev prog w A env H l (IsI a)) (hr : Ev prog w A env H r (IsI b)) (hb : b ≠ 0) (hp : Builtin.divisionGoesByPylong a b = false) : Ev prog w A env H (.BinOp l .FloorDiv r pos) (IsI (a.fdiv b)) :=
  ev_bin hl hr fun _ _ _ _ _ q => PyProof.Rows.floordiv_int hb q (.inl hp)
theorem ev_mul {a b : Int} (hl : Ev prog w A env H l (IsI a)) (hr : Ev prog w A env H r (IsI b)) (hm : IntMulOk a b) : Ev prog w A env H (.BinOp l .Mult r pos) (IsI (a * b)) :=
  ev_bin hl hr fun _ _ _ _ _ q => PySem.P.mul_int q hm
theorem ev_neg {a : Int} (hl : Ev prog w A env H l (IsI a)) : Ev prog w A env H (.UnaryOp .USub l pos) (IsI (-a)) := by
  intro Q E s y q
  refine wpAny_UnaryOp (hl _ _ _ y ?_)
  rintro _ h₁ tk₁ y₁ ⟨t, rfl⟩
  exact PySem.P.neg_int (q _ h₁ _ y₁ ⟨_, rfl⟩)

theorem evT_val {i : Int} (h : Ev prog w A env H e (IsI i)) (he : ∀ whole, isTrue e env whole = (do let v ← whole; standAt e.pos; holding [v] (truthy v)) := by intro _; rfl) : EvT prog w A env H e (i != 0) := by
  intro Q E s y q
  refine wpAny_isTrue_value (h _ _ _ y ?_) (he _)
  rintro _ h₁ tk₁ y₁ ⟨t, rfl⟩
  exact PySem.P.truthy_int (q h₁ _ y₁)
theorem evT_bool {b : Bool} (h : Ev prog w A env H e (IsB b)) (he : ∀ whole, isTrue e env whole = (do let v ← whole; standAt e.pos; holding [v] (truthy v)) := by intro _; rfl) : EvT prog w A env H e b := by
  intro Q E s y q
  refine wpAny_isTrue_value (h _ _ _ y ?_) (he _)
  rintro _ h₁ tk₁ y₁ rfl
  exact wpAny_truthy_bool (q h₁ _ y₁)

theorem evT_cmp {op : CmpOp} {a b : Int} {c : Bool} (hl : Ev prog w A env H l (IsI a)) (hr : Ev prog w A env H r (IsI b))
    (hop : ∀ (t u : Tok) (s : Shared) (Q E : Value → Shared → Prop), Q (.bool c) s → wpAny (model prog w) A (compareOp op (.int a t) (.int b u)) Q E s) (hm : behindInMarks op r = false := by with_unfolding_all rfl) :
    EvT prog w A env H (.Compare l [op] [r] pos) c := by
  intro Q E s y q
  refine wpAny_isTrue_Compare1 (hl _ _ _ y ?_) hm
  rintro _ h₁ tk₁ y₁ ⟨t, rfl⟩
  refine hr _ _ _ (y.trans y₁) ?_
  rintro _ h₂ tk₂ y₂ ⟨u, rfl⟩
  exact hop t u _ _ _ (wpAny_truthy_bool (q h₂ _ (y₁.trans y₂)))
theorem evT_eq {a b : Int} (hl : Ev prog w A env H l (IsI a)) (hr : Ev prog w A env H r (IsI b)) (hm : behindInMarks .Eq r = false := by with_unfolding_all rfl) : EvT prog w A env H (.Compare l [.Eq] [r] pos) (a == b) :=
  evT_cmp hl hr (fun _ _ _ _ _ q => PySem.P.eq_int q) hm
theorem evT_ne {a b : Int} (hl : Ev prog w A env H l (IsI a)) (hr : Ev prog w A env H r (IsI b)) (hm : behindInMarks .NotEq r = false := by with_unfolding_all rfl) : EvT prog w A env H (.Compare l [.NotEq] [r] pos) (a != b) :=
  evT_cmp hl hr (fun _ _ _ _ _ q => PySem.P.ne_int q) hm
theorem evT_lt {a b : Int} (hl : Ev prog w A env H l (IsI a)) (hr : Ev prog w A env H r (IsI b)) (hm : behindInMarks .Lt r = false := by with_unfolding_all rfl) : EvT prog w A env H (.Compare l [.Lt] [r] pos) (decide (a < b)) :=
  evT_cmp hl hr (fun _ _ _ _ _ q => PySem.P.lt_int q) hm
theorem ev_cmp {op : CmpOp} {a b : Int} {c : Bool} (hl : Ev prog w A env H l (IsI a)) (hr : Ev prog w A env H r (IsI b))
    (hop : ∀ (t u : Tok) (s : Shared) (Q E : Value → Shared → Prop), Q (.bool c) s → wpAny (model prog w) A (compareOp op (.int a t) (.int b u)) Q E s) (hm : behindInMarks op r = false := by with_unfolding_all rfl) :
    Ev prog w A env H (.Compare l [op] [r] pos) (IsB c) := by
  intro Q E s y q
  refine wpAny_Compare1 (hl _ _ _ y ?_) hm
  rintro _ h₁ tk₁ y₁ ⟨t, rfl⟩
  refine hr _ _ _ (y.trans y₁) ?_
  rintro _ h₂ tk₂ y₂ ⟨u, rfl⟩
  exact hop t u _ _ _ (q _ h₂ _ (y₁.trans y₂) rfl)
theorem evT_and2 {b c : Bool} (hl : EvT prog w A env H l b) (hr : b = true → EvT prog w A env H r c) : EvT prog w A env H (.BoolOp .And [l, r] pos) (b && c) := by
  intro Q E s y q
  refine wpAny_isTrue_BoolOp (wpAny_allTrue_And_cons (hl _ _ _ y fun h₁ tk₁ y₁ => ?_))
  cases hb : b with
  | false => simp only [Bool.false_eq_true, if_false]; have := q h₁ tk₁ y₁; rw [hb] at this; exact this
  | true =>
    simp only [if_true]
    refine wpAny_allTrue_And_cons (hr hb _ _ _ (y.trans y₁) fun h₂ tk₂ y₂ => ?_)
    have := q h₂ tk₂ (y₁.trans y₂)
    rw [hb, Bool.true_and] at this
    cases hc : c with
    | false => simp only [Bool.false_eq_true, if_false]; rw [hc] at this; exact this
    | true => simp only [if_true]; rw [hc] at this; exact wpAny_allTrue_And_nil this

theorem ev_item {value slice : PySem.Expr} {a : Addr} {ns : List Int} {i : Int} (hv : Ev prog w A env H value (IsV (.ref a))) (hl : LI a ns H) (hi : Ev prog w A env H slice (IsI i)) (h0 : 0 ≤ i) (h1 : i < ns.length) (h2 : i < 2 ^ 63)
    (hs : ∀ t, subscripted slice false (.ref a) (.int i t) = operate [.ref a, .int i t] (getItem (.ref a) (.int i t)) := by intro _; with_unfolding_all rfl) :
    Ev prog w A env H (.Subscript value slice pos) (IsI (ns.getD i.toNat 0)) := by
  intro Q E s y q
  refine Subscript_ (hv _ _ _ y ?_)
  rintro _ h₁ tk₁ y₁ rfl
  refine hi _ _ _ (y.trans y₁) ?_
  rintro _ h₂ tk₂ y₂ ⟨t, rfl⟩
  obtain ⟨vs, p, z⟩ := (hl.ext ((y.trans y₁).trans y₂)).list
  have hlt : i.toNat < ns.length := by omega
  obtain ⟨u, hu⟩ := z.get i.toNat (ns.getD i.toNat 0) (by rw [List.getD_eq_getElem?_getD, List.getElem?_eq_getElem hlt]; rfl)
  exact tail_any p.typeIs slot_list_getitem.lookup (wpAny_getItem_list p h0 h2 (by simpa using hu) (q _ h₂ _ (y₁.trans y₂) ⟨_, rfl⟩)) (hs t)
end
end Mine
end

noncomputable section
open PySem PySem.W PySem.Calls PyProof.Rows
set_option maxRecDepth 100000
namespace Mine

noncomputable def upd (m : Str → Option Value) (x : Str) (v : Value) : Str → Option Value := fun y => if y = x then some v else m y
theorem upd_self {m : Str → Option Value} {x : Str} {v : Value} : upd m x v x = some v := by simp [upd]
theorem upd_ne {m : Str → Option Value} {x y : Str} {v : Value} (h : y ≠ x) : upd m x v y = m y := by simp [upd, h]

structure St (env : Env) (H : Heap) (m cm : Str → Option Value) (h : Heap) : Prop where
  ns : h.Ns env.locals m
  cl : ∀ n c, (n, c) ∈ env.cells → h.IsCell c (cm n)
  ext : Ext H h
  offL : H.get? env.locals = none
  offC : ∀ n c, (n, c) ∈ env.cells → H.get? c = none
  apart : env.cells.Pairwise fun x y => x.2 ≠ y.2
  above : ∀ n c, (n, c) ∈ env.cells → c ≠ env.locals

noncomputable def hid (env : Env) : List Addr := env.locals :: env.cells.map (·.2)
noncomputable def rb (env : Env) (h : Heap) : Heap := hideAll h (hid env)

theorem rb_get {env : Env} {h : Heap} {b : Addr} {o : Obj} (e : h.get? b = some o) (hb : b ∉ hid env) : (rb env h).get? b = some o := hideAll_get _ e hb
theorem rb_off {env : Env} {h : Heap} {b : Addr} (hb : b ∈ hid env) : (rb env h).get? b = none := hideAll_none _ hb
theorem of_rb {env : Env} {h : Heap} {b : Addr} {o : Obj} (e : (rb env h).get? b = some o) : h.get? b = some o := of_hideAll _ e
theorem mem_hidC {env : Env} {n : Str} {c : Addr} (h : (n, c) ∈ env.cells) : c ∈ hid env := List.mem_cons_of_mem _ (List.mem_map.mpr ⟨_, h, rfl⟩)
theorem mem_hidL {env : Env} : env.locals ∈ hid env := .head _

theorem ext_none {H₀ H : Heap} (k : Ext H₀ H) {a : Addr} (e : H.get? a = none) : H₀.get? a = none := by
  cases q : H₀.get? a with
  | none => rfl
  | some o => rw [k _ _ q] at e; cases e
theorem cells_one {c c' : Addr} {n : Str} : ∀ {l : List (Str × Addr)}, (l.map (·.1)).Nodup → (n, c) ∈ l → (n, c') ∈ l → c' = c
  | [], _, h, _ => nomatch h
  | p :: r, hn, hc, hm => by
    simp only [List.map_cons, List.nodup_cons] at hn
    rcases List.mem_cons.mp hm with e' | hm'
    · rcases List.mem_cons.mp hc with e | hc'
      · rw [← e'] at e; cases e; rfl
      · exact absurd (List.mem_map.mpr ⟨(n, c), hc', by rw [← e']⟩) hn.1
    · rcases List.mem_cons.mp hc with e | hc'
      · exact absurd (List.mem_map.mpr ⟨(n, c'), hm', by rw [← e]⟩) hn.1
      · exact cells_one hn.2 hc' hm'
section
variable {env : Env} {H h h' : Heap} {m cm : Str → Option Value}
theorem St.off (S : St env H m cm h) {b : Addr} {o : Obj} (e : H.get? b = some o) : b ∉ hid env := by
  intro hb
  rcases List.mem_cons.mp hb with rfl | hb
  · rw [S.offL] at e; cases e
  · obtain ⟨⟨n, c⟩, hm, rfl⟩ := List.mem_map.mp hb
    rw [S.offC n c hm] at e; cases e
theorem St.live (S : St env H m cm h) {b : Addr} (hb : b ∈ hid env) : ∃ o, h.get? b = some o := by
  rcases List.mem_cons.mp hb with rfl | hb
  · obtain ⟨o, _, _, e, _⟩ := S.ns; exact ⟨o, e⟩
  · obtain ⟨⟨n, c⟩, hm, rfl⟩ := List.mem_map.mp hb
    obtain ⟨o, ho, _⟩ := S.cl n c hm
    exact ⟨o, ho⟩
theorem St.fresh (S : St env H m cm h) {b : Addr} (e : h.get? b = none) : b ∉ hid env := fun hb => by
  obtain ⟨o, ho⟩ := S.live hb; rw [ho] at e; cases e
theorem St.rebase (S : St env H m cm h) (k : Ext h h') : St env (rb env h') m cm h' :=
  ⟨S.ns.keeps k, fun n c hm => (S.cl n c hm).keeps k, fun _ _ e => of_rb e, rb_off mem_hidL, fun _ _ hm => rb_off (mem_hidC hm), S.apart, S.above⟩
theorem St.ext_rb (S : St env H m cm h) (k : Ext h h') : Ext H (rb env h') := fun b o e => rb_get (k b o (S.ext b o e)) (S.off e)
theorem St.keep (S : St env H m cm h) (k : Ext h h') : St env H m cm h' := ⟨S.ns.keeps k, fun n c hm => (S.cl n c hm).keeps k, S.ext.trans k, S.offL, S.offC, S.apart, S.above⟩
theorem St.less {H₀ : Heap} (S : St env H m cm h) (k : Ext H₀ H) : St env H₀ m cm h :=
  ⟨S.ns, S.cl, k.trans S.ext, ext_none k S.offL, fun n c hm => ext_none k (S.offC n c hm), S.apart, S.above⟩

theorem St.setL (S : St env H m cm h) {x : Str} {v : Value} (hn : h'.Ns env.locals (fun y => if y = x then some v else m y)) (hs : Heap.SameBut env.locals h h') : St env H (upd m x v) cm h' :=
  ⟨hn, fun n c hm => (S.cl n c hm).sameBut hs (S.above n c hm), fun b o e => hs.extBut b o (fun q => by rw [q, S.offL] at e; cases e) (S.ext b o e), S.offL, S.offC, S.apart, S.above⟩
theorem St.setC (S : St env H m cm h) {x : Str} {c : Addr} {v : Value} (hc : (x, c) ∈ env.cells) (hn : (env.cells.map (·.1)).Nodup) (hv : h'.IsCell c (some v)) (hs : Heap.SameBut c h h') : St env H m (upd cm x v) h' := by
  refine ⟨S.ns.sameBut hs (Ne.symm (S.above x c hc)), fun n c' hm => ?_, fun b o e => hs.extBut b o (fun q => by rw [q, S.offC x c hc] at e; cases e) (S.ext b o e), S.offL, S.offC, S.apart, S.above⟩
  by_cases q : n = x
  · subst q
    have : c' = c := cells_one hn hc hm
    subst this
    rw [upd_self]; exact hv
  · rw [upd_ne q]
    exact (S.cl n c' hm).sameBut hs fun e => q (by
      subst e
      exact name_of_addr S.apart hm hc)
end

noncomputable def Loc (h : Heap) (R : Value → Heap → Prop) : Prop := ∀ v h' H', R v h' → (∀ b o, h.get? b = none → h'.get? b = some o → H'.get? b = some o) → R v H'
theorem loc_I {h : Heap} {i : Int} : Loc h (IsI i) := fun _ _ _ x _ => x
theorem loc_V {h : Heap} {v : Value} : Loc h (IsV v) := fun _ _ _ x _ => x
theorem loc_B {h : Heap} {v : Bool} : Loc h (IsB v) := fun _ _ _ x _ => x
theorem loc_S {h : Heap} {v : Str} : Loc h (IsS v) := fun _ _ _ x _ => x
noncomputable def NewLI (H : Heap) (ns : List Int) (v : Value) (h : Heap) : Prop := ∃ a, v = .ref a ∧ H.get? a = none ∧ LI a ns h
theorem loc_LI {h : Heap} {ns : List Int} : Loc h (NewLI h ns) := fun _ _ _ ⟨a, e, hf, vs, ⟨o, p, r⟩, z⟩ k => ⟨a, e, hf, vs, ⟨o, k a _ hf p, r⟩, z⟩

section
variable {prog : Program} {w : World} {A : Around} {env : Env} {H : Heap} {m cm : Str → Option Value} {s : Shared} {R : Value → Heap → Prop} {Q : Flow → Shared → Prop} {E : Value → Shared → Prop} {rest : List Stmt} {pos px : Pos} {x : Str} {e : PySem.Expr}

theorem st_asg {h₀ : Heap} {tk₀ : Nat} (S : St env H m cm h₀) (hk : env.scope.kind = .function) (hx : env.kindOf x = some .local) (he : Ev prog w A env h₀ e R) (hR : Loc h₀ R)
    (next : ∀ v h' H' tk, St env H' (upd m x v) cm h' → Ext H H' → R v H' → wpAny (model prog w) A (execs rest env) Q E { s with heap := h', toks := tk })
    (hs : swapsWith e (some (.Name x px)) pos.line env = pure false := by rfl) :
    wpAny (model prog w) A (execs (.Assign [.Name x px] e pos :: rest) env) Q E { s with heap := h₀, toks := tk₀ } := by
  refine wpAny_execs_cons (wpAny_Assign_Name (he _ _ _ (Ext.refl _) ?_) hs)
  intro v h₁ tk₁ y z
  have S₁ := S.rebase y
  refine wpAny_storeName_local hx S₁.ns (fun h₂ hn hsb => ?_) (by rw [hk]; rfl)
  exact next v h₂ (rb env h₁) _ (S₁.setL hn hsb) (S.ext_rb y) (hR _ _ _ z fun b o e1 e2 => rb_get e2 (S.fresh e1))

theorem st_asgC {h₀ : Heap} {tk₀ : Nat} {c : Addr} (S : St env H m cm h₀) (hk : env.scope.kind = .function) (hx : env.kindOf x = some .cell) (hc : env.cells.lookup x = some c) (hn : (env.cells.map (·.1)).Nodup) (he : Ev prog w A env h₀ e R) (hR : Loc h₀ R)
    (next : ∀ v h' H' tk, St env H' m (upd cm x v) h' → Ext H H' → R v H' → wpAny (model prog w) A (execs rest env) Q E { s with heap := h', toks := tk })
    (hs : swapsWith e (some (.Name x px)) pos.line env = pure false := by rfl) :
    wpAny (model prog w) A (execs (.Assign [.Name x px] e pos :: rest) env) Q E { s with heap := h₀, toks := tk₀ } := by
  refine wpAny_execs_cons (wpAny_Assign_Name (he _ _ _ (Ext.refl _) ?_) hs)
  intro v h₁ tk₁ y z
  have S₁ := S.rebase y
  have hm := mem_of_lookup hc
  refine wpAny_storeName_cell hk hx hc (S₁.cl x c hm) (fun h₂ hv hsb => ?_)
  exact next v h₂ (rb env h₁) _ (S₁.setC hm hn hv hsb) (S.ext_rb y) (hR _ _ _ z fun b o e1 e2 => rb_get e2 (S.fresh e1))

theorem st_ret {h₀ : Heap} {tk₀ : Nat} (he : Ev prog w A env h₀ e R) (next : ∀ v h' tk, Ext h₀ h' → R v h' → Q (.ret v) { s with heap := h', toks := tk }) :
    wpAny (model prog w) A (execs (.Return (some e) pos :: rest) env) Q E { s with heap := h₀, toks := tk₀ } :=
  wpAny_execs_cons (wpAny_Return_some (he _ _ _ (Ext.refl _) fun v h' tk y z => next v h' tk y z))

theorem st_if {h₀ : Heap} {tk₀ : Nat} {test : PySem.Expr} {body orelse : List Stmt} {b : Bool} (ht : EvT prog w A env h₀ test b)
    (next : ∀ h' tk, Ext h₀ h' → wpAny (model prog w) A (execs (if b then body else orelse) env) (fun f s' => match f with | .next => wpAny (model prog w) A (execs rest env) Q E s' | f => Q f s') E { s with heap := h', toks := tk }) :
    wpAny (model prog w) A (execs (.If test body orelse pos :: rest) env) Q E { s with heap := h₀, toks := tk₀ } := by
  refine wpAny_execs_cons (wpAny_If (ht _ _ _ (Ext.refl _) fun h' tk y => ?_))
  have := next h' tk y
  cases b <;> exact this
end

noncomputable def CallP (prog : Program) (w : World) (f : Value) (vs : List Value) (H : Heap) (d : Nat) (R : Value → Heap → Prop) : Prop :=
  ∀ (A : Around) (Q E : Value → Shared → Prop) (s : Shared), AOK A d → Ext H s.heap →
    (∀ v h' tk, Ext s.heap h' → R v h' → Q v { s with heap := h', toks := tk }) → wpAny (model prog w) A (call f vs) Q E s
end Mine
end

noncomputable section
open PySem PySem.W PySem.Calls PyProof.Rows
set_option maxRecDepth 100000
namespace Mine

noncomputable def Mono (R : Value → Heap → Prop) : Prop := ∀ v h h', Ext h h' → R v h → R v h'
theorem mono_I {i : Int} : Mono (IsI i) := fun _ _ _ _ x => x
theorem mono_B {i : Bool} : Mono (IsB i) := fun _ _ _ _ x => x
theorem mono_S {i : Str} : Mono (IsS i) := fun _ _ _ _ x => x
theorem mono_V {i : Value} : Mono (IsV i) := fun _ _ _ _ x => x
theorem mono_LI {H : Heap} {ns : List Int} : Mono (NewLI H ns) := fun _ _ _ k ⟨a, e, f, l⟩ => ⟨a, e, f, l.ext k⟩

noncomputable def Args (prog : Program) (w : World) (A : Around) (env : Env) (H : Heap) (es : List PySem.Expr) (P : List Value → Heap → Prop) : Prop :=
  ∀ (pos : Pos) (Q : List Value → Shared → Prop) (E : Value → Shared → Prop) (s : Shared), Ext H s.heap →
    (∀ vs h' tk, Ext s.heap h' → P vs h' → Q vs { s with heap := h', toks := tk }) → wpAny (model prog w) A (spliced (backTo pos (starEach es env))) Q E s
noncomputable def All : List (Value → Heap → Prop) → List Value → Heap → Prop
  | [], vs, _ => vs = []
  | R :: Rs, vs, h => ∃ v vs', vs = v :: vs' ∧ R v h ∧ All Rs vs' h
section
variable {prog : Program} {w : World} {A : Around} {env : Env} {H : Heap} {R : Value → Heap → Prop} {Rs : List (Value → Heap → Prop)} {pos px : Pos} {x : Str} {e : PySem.Expr} {es : List PySem.Expr} {d : Nat} {f : Addr} {fo : Obj} {fd : FuncData}
theorem args_nil : Args prog w A env H [] (All []) := fun _ _ _ s _ q => wpAny_items_nil (q [] s.heap s.toks (Ext.refl _) rfl)
theorem args_cons (he : Ev prog w A env H e R) (hm : Mono R) (hr : Args prog w A env H es (All Rs)) (hs : starEach (e :: es) env = (false, eval e env) :: starEach es env := by rfl) : Args prog w A env H (e :: es) (All (R :: Rs)) := by
  intro pos Q E s y q
  refine wpAny_items_cons (he _ _ _ y fun v h₁ tk₁ y₁ z => hr _ _ _ _ (y.trans y₁) fun vs h₂ tk₂ y₂ z₂ => ?_) hs
  exact q _ h₂ tk₂ (y₁.trans y₂) ⟨v, vs, rfl, hm _ _ _ y₂ z, z₂⟩

theorem ev_call (a : AOK A d) (hf : Ev prog w A env H (.Name x px) (IsV (.ref f))) (ho : H.get? f = some fo) (hd : fo.data = .func fd) (ha : Args prog w A env H (e :: es) (All Rs))
    (hc : ∀ vs h, Ext H h → All Rs vs h → CallP prog w (.ref f) vs h d R) (hse : starEach (e :: es) env = (false, eval e env) :: starEach es env := by rfl) : Ev prog w A env H (.Call (.Name x px) (e :: es) [] pos) R := by
  intro Q E s y q
  refine wpAny_Call_Name_kw (hf _ _ _ y ?_)
  rintro _ h₁ tk₁ y₁ rfl
  refine callWith_function (fd := fd) (o := fo) ?_
  rw [hse]
  refine evalArgs_plain ?_
  have := ha pos (fun vs s' => (s'.heap.get? f = some fo ∧ fo.data = .func fd) ∧ wpAny (model prog w) A (call (.ref f) ([] ++ vs) []) Q E s') E { s with heap := h₁, toks := tk₁ } (y.trans y₁) fun vs h₂ tk₂ y₂ z₂ => by
    refine ⟨⟨((y.trans y₁).trans y₂) _ _ ho, hd⟩, hc vs h₂ ((y.trans y₁).trans y₂) z₂ A _ _ _ a (Ext.refl _) ?_⟩
    intro v h₃ tk₃ y₃ z₃
    exact q v h₃ tk₃ ((y₁.trans y₂).trans y₃) z₃
  rw [hse] at this
  exact this

theorem none_at_size (h : Heap) : h.get? h.objs.size = none := by
  cases e : h.get? h.objs.size with
  | none => rfl
  | some o => exact absurd (Heap.lt_size e) (Nat.lt_irrefl _)
theorem none_above {h : Heap} {a : Addr} (ha : h.objs.size ≤ a) : h.get? a = none := by
  cases e : h.get? a with
  | none => rfl
  | some o => exact absurd (Heap.lt_size e) (Nat.not_lt.mpr ha)
theorem ext_push (h : Heap) (o : Obj) : Ext h (h.push o) := fun _ _ e => Heap.get?_push_of_some _ e
theorem size_none {H h : Heap} (k : Ext H h) : H.get? h.objs.size = none := ext_none k (none_at_size h)

noncomputable def NewL (H : Heap) (P : List Value → Heap → Prop) (v : Value) (h : Heap) : Prop := ∃ a vs, v = .ref a ∧ H.get? a = none ∧ h.PlainList a vs.toArray ∧ P vs h
noncomputable def PlainTup (h : Heap) (a : Addr) (vs : List Value) : Prop := h.get? a = some { cls := .type "tuple", data := .seq vs.toArray }
noncomputable def NewT (H : Heap) (P : List Value → Heap → Prop) (v : Value) (h : Heap) : Prop := ∃ a vs, v = .ref a ∧ H.get? a = none ∧ PlainTup h a vs ∧ P vs h
theorem all_mono : ∀ {Rs : List (Value → Heap → Prop)}, (∀ R ∈ Rs, Mono R) → ∀ {vs : List Value} {h h' : Heap}, Ext h h' → All Rs vs h → All Rs vs h'
  | [], _, _, _, _, _, e => e
  | _ :: _, hm, _, _, _, k, ⟨v, vs', e, r, t⟩ => ⟨v, vs', e, hm _ (.head _) _ _ _ k r, all_mono (fun R hR => hm R (.tail _ hR)) k t⟩
theorem all_len : ∀ {Rs : List (Value → Heap → Prop)} {vs : List Value} {h : Heap}, All Rs vs h → vs.length = Rs.length
  | [], _, _, e => by rw [e]; rfl
  | _ :: _, _, _, ⟨_, _, e, _, t⟩ => by rw [e, List.length_cons, all_len t, List.length_cons]
theorem ev_list (ha : Args prog w A env H es (All Rs)) (hm : ∀ R ∈ Rs, Mono R) (hl : Rs.length ≤ 1000) : Ev prog w A env H (.List es pos) (NewL H (All Rs)) := by
  intro Q E s y q
  refine wpAny_List (ha _ _ _ _ y fun vs h₁ tk₁ y₁ z => ⟨?_, ?_⟩)
  · have := all_len z; rw [sizeLine_eq]; omega
  · exact q _ (h₁.push _) tk₁ (y₁.trans (ext_push _ _)) ⟨_, vs, rfl, size_none (y.trans y₁), ⟨_, Heap.get?_push_size _ rfl⟩, all_mono hm (ext_push _ _) z⟩
theorem ev_tuple {k : Nat} (ha : Args prog w A env H es (All Rs)) (hm : ∀ R ∈ Rs, Mono R) (hl : Rs.length ≤ 1000) : Ev prog w A env H (.Tuple es k pos) (NewT H (All Rs)) := by
  intro Q E s y q
  refine wpAny_Tuple (ha _ _ _ _ y fun vs h₁ tk₁ y₁ z => ⟨?_, ?_⟩)
  · have := all_len z; rw [sizeLine_eq]; omega
  · exact q _ (h₁.push _) tk₁ (y₁.trans (ext_push _ _)) ⟨_, vs, rfl, size_none (y.trans y₁), Heap.get?_push_size _ rfl, all_mono hm (ext_push _ _) z⟩
theorem all_ints : ∀ {ns : List Int} {vs : List Value} {h : Heap}, All (ns.map IsI) vs h → IntsAre vs ns
  | [], _, _, e => by cases e; exact .nil
  | _ :: _, _, _, ⟨_, _, e, ⟨_, q⟩, r⟩ => by subst q; subst e; exact .cons _ _ (all_ints r)
theorem ev_listI {ns : List Int} (ha : Args prog w A env H es (All (ns.map IsI))) (hl : ns.length ≤ 1000) : Ev prog w A env H (.List es pos) (NewLI H ns) :=
  (ev_list ha (fun R hR => by obtain ⟨n, _, rfl⟩ := List.mem_map.mp hR; exact mono_I) (by simpa using hl)).mono fun _ _ _ ⟨a, vs, e, f, p, z⟩ => ⟨a, e, f, vs, p.isList, all_ints z⟩
end

noncomputable def itT : List String := ["list_iterator", "range_iterator"]
noncomputable def Qt (I : Addr) (St : Nat → Heap → Prop) : Prop := ∀ i h, St i h → ∃ o T, h.get? I = some o ∧ o.cls = .type T ∧ T ∈ itT
theorem itT_own : ∀ T ∈ itT, (["enumerate", "zip", "dict_itemiterator", "dict_reverseitemiterator", "odict_iterator", "itertools.zip_longest", "itertools.pairwise"] : List String).contains T = false := by decide
theorem ite_f {M : Model} {A : Around} {E : Value → Shared → Prop} {s : Shared} {c : Bool} {x y : Sem Unit} {Q : Unit → Shared → Prop} (hc : c = false) (q : wpAny M A y Q E s) : wpAny M A (if c = true then x else y) Q E s := by subst hc; exact q
theorem go_quiet {M : Model} {A : Around} {E : Value → Shared → Prop} {s : Shared} {I : Addr} {target : PySem.Expr} {v : Value} {Q : Unit → Shared → Prop} {o : Obj} {T : String} (ho : s.heap.get? I = some o) (hc : o.cls = .type T)
    (hT : T ∈ itT) (q : Q () s) : wpAny M A (letOwnedTupleGo target (.ref I) v) Q E s := by
  have hT := itT_own T hT
  cases target <;> first | exact wpAny_pure q | skip
  all_goals
    cases v <;> first | exact wpAny_pure q | skip
    refine wpAny_bind (wpAny_load ho ?_)
    obtain ⟨c, dc, da, sl⟩ := o
    subst hc
    cases da <;> first | exact wpAny_pure q | skip
    exact ite_f (by rw [hT, Bool.false_and]) (wpAny_pure q)

noncomputable def Src (prog : Program) (w : World) (A : Around) (env : Env) (H : Heap) (e : PySem.Expr) (n : Nat) (P : Nat → Value → Prop) (fx : List Addr) : Prop :=
  ∀ (Q E : Value → Shared → Prop) (s : Shared), Ext H s.heap →
    (∀ I fp St h' tk, Ext s.heap h' → s.heap.get? I = none → (∃ o, h'.get? I = some o) → Walks prog w A I fp [I] n P St → Qt I St → St 0 h' → (∀ b ∈ fp, b = I ∨ ((∃ o, h'.get? b = some o) ∧ (b ∈ fx ∨ s.heap.get? b = none))) → Q (.ref I) { s with heap := h', toks := tk }) →
    wpAny (model prog w) A (eval e env) (fun xv s₁ => wpAny (model prog w) A (pyIter xv) Q E s₁) E s
noncomputable def PI (ns : List Int) (i : Nat) (v : Value) : Prop := ∃ n t, ns[i]? = some n ∧ v = .int n t
noncomputable abbrev SrcI (prog : Program) (w : World) (A : Around) (env : Env) (H : Heap) (e : PySem.Expr) (ns : List Int) (fx : List Addr) : Prop := Src prog w A env H e ns.length (PI ns) fx

theorem Walks.imp {prog : Program} {w : World} {A : Around} {I : Addr} {fp wr : List Addr} {n : Nat} {P P' : Nat → Value → Prop} {St : Nat → Heap → Prop} (W : Walks prog w A I fp wr n P St) (h : ∀ i v, i < n → P i v → P' i v) : Walks prog w A I fp wr n P' St where
  sub := W.sub
  frame := W.frame
  item := fun i s Q E hi st hQ => W.item i s Q E hi st fun v h' tk p => hQ v h' tk (h i v hi p)
  done := W.done
  self := W.self

section
variable {prog : Program} {w : World} {A : Around} {env : Env} {H : Heap} {e : PySem.Expr} {d : Nat}
theorem src_at {vs : List Value} {a : Addr} {fx : List Addr} {Q E : Value → Shared → Prop} {s s₁ : Shared} {h₁ : Heap} {tk₁ : Nat} (hh : A.handled = none) (y₁ : Ext s.heap h₁) (p : h₁.IsList a vs.toArray) (hfx : a ∈ fx ∨ s.heap.get? a = none)
    (q : ∀ I fp St h' tk, Ext s.heap h' → s.heap.get? I = none → (∃ o, h'.get? I = some o) → Walks prog w A I fp [I] vs.length (fun i v => vs[i]? = some v) St → Qt I St → St 0 h' → (∀ b ∈ fp, b = I ∨ ((∃ o, h'.get? b = some o) ∧ (b ∈ fx ∨ s.heap.get? b = none))) → Q (.ref I) { s with heap := h', toks := tk }) (hs : s₁ = { s with heap := h₁, toks := tk₁ }) :
    wpAny (model prog w) A (pyIter (.ref a)) Q E s₁ := by
  subst hs
  refine wpAny_pyIter_list p ?_
  obtain ⟨oa, hoa, _⟩ := id p
  have hne : a ≠ h₁.objs.size := Nat.ne_of_lt (Heap.lt_size hoa)
  have W := Walks.list (prog := prog) (w := w) hh h₁.objs.size a hne vs.toArray
  have e1 : vs.toArray.size = vs.length := by simp
  rw [e1] at W
  have W' := Walks.imp (P' := fun i v => vs[i]? = some v) W fun i v _ p => by simpa using p
  refine q h₁.objs.size _ _ _ tk₁ (y₁.trans (ext_push _ _)) (size_none y₁) ⟨_, Heap.get?_push_size _ rfl⟩ W' (fun i h ⟨⟨o, ho, hc, _⟩, _⟩ => ⟨o, _, ho, hc, by decide⟩) ⟨⟨_, Heap.get?_push_size _ rfl, rfl, rfl⟩, p.at fun o e => Heap.get?_push_of_some _ e⟩ ?_
  intro b hb
  rcases List.mem_cons.mp hb with rfl | hb
  · exact .inl rfl
  · rw [List.mem_singleton.mp hb]
    exact .inr ⟨⟨oa, Heap.get?_push_of_some _ hoa⟩, hfx⟩
theorem PI.of {vs : List Value} {ns : List Int} (z : IntsAre vs ns) {i : Nat} {v : Value} (h : vs[i]? = some v) : PI ns i v := by
  obtain ⟨n, t, rfl, e⟩ := z.at i v h
  exact ⟨n, t, e, rfl⟩
theorem src_list {a : Addr} {ns : List Int} {vs : List Value} (hh : A.handled = none) (he : Ev prog w A env H e (IsV (.ref a))) (hl : H.IsList a vs.toArray) (z : IntsAre vs ns) : SrcI prog w A env H e ns [a] := by
  intro Q E s y q
  refine he _ _ _ y ?_
  rintro _ h₁ tk₁ y₁ rfl
  refine src_at (fx := [a]) hh y₁ (hl.at fun o x => y₁ _ _ (y _ _ x)) (.inl (.head _)) (fun I fp St h' tk k1 k2 k3 W kq k4 k5 => ?_) rfl
  rw [z.length] at W
  exact q I fp St h' tk k1 k2 k3 (Walks.imp W fun i v _ p => PI.of z p) kq k4 k5
theorem src_LI {a : Addr} {ns : List Int} (hh : A.handled = none) (he : Ev prog w A env H e (IsV (.ref a))) (hl : LI a ns H) : SrcI prog w A env H e ns [a] := by
  obtain ⟨vs, p, z⟩ := hl.list
  exact src_list hh he p z
theorem src_new {ns : List Int} (hh : A.handled = none) (he : ∀ H', Ext H H' → Ev prog w A env H' e (NewLI H' ns)) : SrcI prog w A env H e ns [] := by
  intro Q E s y q
  refine he s.heap y _ _ _ (Ext.refl _) ?_
  rintro _ h₁ tk₁ y₁ ⟨a, rfl, hn, hl⟩
  obtain ⟨vs, p, z⟩ := hl.list
  refine src_at (fx := []) hh y₁ p (.inr hn) (fun I fp St h' tk k1 k2 k3 W kq k4 k5 => ?_) rfl
  rw [z.length] at W
  exact q I fp St h' tk k1 k2 k3 (Walks.imp W fun i v _ p => PI.of z p) kq k4 k5

noncomputable def rng (a b : Int) : List Int := (List.range (b - a).toNat).map fun (i : Nat) => a + (i : Int)
theorem rng_length (a b : Int) : (rng a b).length = (b - a).toNat := by simp [rng]
theorem rng_get {a b : Int} {i : Nat} (h : i < (b - a).toNat) : (rng a b)[i]? = some (a + (i : Int)) := by simp [rng, h]
theorem src_rangeAt {a b : Int} {t u : Tok} {Q E : Value → Shared → Prop} {s s₁ : Shared} {h₁ : Heap} {tk₁ : Nat} (hh : A.handled = none) (y₁ : Ext s.heap h₁) (ha : 0 ≤ a) (ha' : a < 2 ^ 62) (hb : 0 ≤ b) (hb' : b < 2 ^ 62) (hab : a ≤ b) {r : Addr} {v : Tok}
    (hr : IsRange h₁ r a b 1 t u v)
    (q : ∀ I fp St h' tk, Ext s.heap h' → s.heap.get? I = none → (∃ o, h'.get? I = some o) → Walks prog w A I fp [I] (rng a b).length (PI (rng a b)) St → Qt I St → St 0 h' → (∀ c ∈ fp, c = I ∨ ((∃ o, h'.get? c = some o) ∧ (c ∈ [] ∨ s.heap.get? c = none))) → Q (.ref I) { s with heap := h', toks := tk }) (hs : s₁ = { s with heap := h₁, toks := tk₁ }) :
    wpAny (model prog w) A (pyIter (.ref r)) Q E s₁ := by
  subst hs
  have hsz : Builtin.Range.rangeSize a b 1 = (((b - a).toNat : Nat) : Int) := by rw [rangeSize_one]; split <;> omega
  refine wpAny_pyIter_range hr (small_one (by omega) ha' (by omega) hb') ?_
  have W := Walks.range (prog := prog) (w := w) hh h₁.objs.size a 1 (b - a).toNat
  have W' := Walks.imp (P' := PI (rng a b)) W fun i v hi ⟨t, p⟩ => ⟨a + i, t, rng_get hi, by rw [p, Int.mul_one]⟩
  rw [← rng_length] at W'
  refine q h₁.objs.size _ _ _ tk₁ (y₁.trans (ext_push _ _)) (size_none y₁) ⟨_, Heap.get?_push_size _ rfl⟩ W' (fun i h ho => ⟨_, _, ho, rfl, by decide⟩) ?_ ?_
  · show IsRangeIter _ _ _ _ _
    rw [hsz]
    rw [rng_length]
    have e0 : a + ((0 : Nat) : Int) * 1 = a := by omega
    have e1 : (((b - a).toNat : Nat) : Int) - ((0 : Nat) : Int) = (((b - a).toNat : Nat) : Int) := by omega
    rw [e0, e1]
    exact Heap.get?_push_size h₁ (o := { cls := .type "range_iterator", data := .fields #[rawInt a, rawInt (((b - a).toNat : Nat) : Int), rawInt 1] }) rfl
  · intro b hb
    exact .inl (List.mem_singleton.mp hb)
theorem src_range1 {b : Int} {x : Str} {px pos : Pos} {e : PySem.Expr} (hh : A.handled = none) (hf : Ev prog w A env H (.Name x px) (IsV (.type "range"))) (he : Ev prog w A env H e (IsI b)) (hb : 0 ≤ b) (hb' : b < 2 ^ 62) (hse : starEach [e] env = [(false, eval e env)] := by rfl) :
    SrcI prog w A env H (.Call (.Name x px) [e] [] pos) (rng 0 b) [] := by
  intro Q E s y q
  refine wpAny_Call_Name_kw (hf _ _ _ y ?_)
  rintro _ h₁ tk₁ y₁ rfl
  refine PyProof.Rows.callWith_type (by rw [hse]; rfl) ?_
  rw [hse]
  refine evalArgs_plain (spliced_cons ?_)
  refine he _ _ _ (y.trans y₁) ?_
  rintro _ h₂ tk₂ y₂ ⟨t, rfl⟩
  refine spliced_nil ?_
  refine call_range_1 ?_
  exact src_rangeAt (t := _) (u := _) (v := _) hh ((y₁.trans y₂).trans (ext_push _ _)) (by omega) (by omega) hb hb' hb (Heap.get?_push_size _ rfl) q rfl
theorem src_range2 {a b : Int} {x : Str} {px pos : Pos} {e₁ e₂ : PySem.Expr} (hh : A.handled = none) (hf : Ev prog w A env H (.Name x px) (IsV (.type "range"))) (he₁ : Ev prog w A env H e₁ (IsI a)) (he₂ : Ev prog w A env H e₂ (IsI b)) (ha : 0 ≤ a) (hab : a ≤ b) (hb' : b < 2 ^ 62) (hse : starEach [e₁, e₂] env = [(false, eval e₁ env), (false, eval e₂ env)] := by rfl) :
    SrcI prog w A env H (.Call (.Name x px) [e₁, e₂] [] pos) (rng a b) [] := by
  intro Q E s y q
  refine wpAny_Call_Name_kw (hf _ _ _ y ?_)
  rintro _ h₁ tk₁ y₁ rfl
  refine PyProof.Rows.callWith_type (by rw [hse]; rfl) ?_
  rw [hse]
  refine evalArgs_plain (spliced_cons ?_)
  refine he₁ _ _ _ (y.trans y₁) ?_
  rintro _ h₂ tk₂ y₂ ⟨t, rfl⟩
  refine spliced_cons ?_
  refine he₂ _ _ _ ((y.trans y₁).trans y₂) ?_
  rintro _ h₃ tk₃ y₃ ⟨u, rfl⟩
  refine spliced_nil ?_
  refine call_range_2 ?_
  exact src_rangeAt (t := _) (u := _) (v := _) hh (((y₁.trans y₂).trans y₃).trans (ext_push _ _)) ha (by omega) (by omega) hb' hab (Heap.get?_push_size _ rfl) q rfl
end
end Mine
end

noncomputable section
open PySem PySem.W PySem.Calls PyProof.Rows
set_option maxRecDepth 100000
namespace Mine

noncomputable def Back (Q₀ Q : Flow → Shared → Prop) : Prop := ∀ v s', Q₀ (.ret v) s' → Q (.ret v) s'
noncomputable def ExtI (h h' : Heap) : Prop := ∀ b o, h.get? b = some o → (∀ T, o.cls = .type T → T ∉ "enumerate" :: itT) → h'.get? b = some o
noncomputable def Qw (wr : List Addr) (Sw : Nat → Heap → Prop) : Prop := ∀ i h, Sw i h → ∀ b ∈ wr, ∃ o T, h.get? b = some o ∧ o.cls = .type T ∧ T ∈ "enumerate" :: itT
structure Lp (G : Heap) (own : List Addr) (J : Nat → Heap → (Str → Option Value) → (Str → Option Value) → Prop) (Sw : Nat → Heap → Prop) (env : Env) (i : Nat) (h H : Heap) (m cm : Str → Option Value) : Prop where
  S : St env H m cm h
  g : Ext G H
  o : ∀ b ∈ own, ∃ o, H.get? b = some o
  j : J i H m cm
  w : Sw i h
structure LpD where
  i : Nat
  h : Heap
  tk : Nat
  H : Heap
  m : Str → Option Value
  cm : Str → Option Value
section
variable {prog : Program} {w : World} {A : Around} {env : Env} {H h₀ h₁ : Heap} {m cm : Str → Option Value} {s : Shared} {Q : Flow → Shared → Prop} {E : Value → Shared → Prop} {rest body : List Stmt} {pos px : Pos} {x : Str} {iter target : PySem.Expr} {tk₀ : Nat}
  {G : Heap} {own : List Addr} {J : Nat → Heap → (Str → Option Value) → (Str → Option Value) → Prop} {Sw : Nat → Heap → Prop} {i n : Nat} {I : Addr} {P : Nat → Value → Prop} {fx fp wr : List Addr}
theorem keepQ (hJ : ∀ i H H' m cm, J i H m cm → ExtI H H' → J i H' m cm) (hq : Qw wr Sw) (L : Lp G own J Sw env i h₀ H m cm) (hIh : ∀ b ∈ wr, b ∉ hid env) (hIG : ∀ b ∈ wr, G.get? b = none) (hk : ∀ b o, b ∉ wr → h₀.get? b = some o → h₁.get? b = some o) :
    St env (rb env h₁) m cm h₁ ∧ Ext G (rb env h₁) ∧ J i (rb env h₁) m cm := by
  have ne : ∀ {b}, b ∈ hid env → b ∉ wr := fun hb q => hIh _ q hb
  have up : ∀ b o, b ∉ wr → H.get? b = some o → (rb env h₁).get? b = some o := fun b o hb e => rb_get (hk b o hb (L.S.ext b o e)) (L.S.off e)
  refine ⟨⟨L.S.ns.at' fun o e => hk _ _ (ne mem_hidL) e, fun n c hm => (L.S.cl n c hm).imp fun o e => ⟨hk _ _ (ne (mem_hidC hm)) e.1, e.2⟩, fun _ _ e => of_rb e, rb_off mem_hidL, fun _ _ hm => rb_off (mem_hidC hm), L.S.apart, L.S.above⟩, fun b o e => up b o (fun q => by rw [hIG b q] at e; cases e) (L.g b o e), ?_⟩
  refine hJ i H _ m cm L.j fun b o e hT => up b o (fun q => ?_) e
  obtain ⟨o', T, e', hc, hT'⟩ := hq _ _ L.w b q
  exact hT T (by cases e'.symm.trans (L.S.ext _ _ e); exact hc) hT'

theorem forCode {R : Result → Shared → Prop} {P : Nat → Value → Heap → Prop} {um : Nat → Value → (Str → Option Value) → (Str → Option Value) → (Str → Option Value) → (Str → Option Value) → Prop}
    (S : St env H m cm h₀) (y : Ext h₀ h₁) (hI : ∀ b ∈ wr, h₀.get? b = none) (fr : ∀ i h h', Sw i h → (∀ b ∈ fp, ∀ o, h.get? b = some o → h'.get? b = some o) → Sw i h')
    (item : ∀ i (s : Shared) (Q : Option Value → Shared → Prop) (E : Value → Shared → Prop), i < n → Sw i s.heap →
      (∀ v h' tk, (∀ (Q' : Unit → Shared → Prop) (E' : Value → Shared → Prop), (∀ h'' tk', P i v h'' → Sw (i + 1) h'' → (∀ b o, b ∉ wr → s.heap.get? b = some o → h''.get? b = some o) → Q' () { s with heap := h'', toks := tk' }) → wpAny (model prog w) A (letOwnedTupleGo target (.ref I) v) Q' E' { s with heap := h', toks := tk }) → Q (some v) { s with heap := h', toks := tk }) →
      wpAny (model prog w) A (pyNext (.ref I)) Q E s)
    (dn : ∀ (s : Shared) (Q : Option Value → Shared → Prop) (E : Value → Shared → Prop), Sw n s.heap → (∀ h' tk, (∀ b o, b ∉ wr → s.heap.get? b = some o → h'.get? b = some o) → Q none { s with heap := h', toks := tk }) → wpAny (model prog w) A (pyNext (.ref I)) Q E s)
    (hq : Qw wr Sw) (hst : Sw 0 h₁) (hfp : ∀ b ∈ fp, b ∈ wr ∨ ((∃ o, h₁.get? b = some o) ∧ (b ∈ fx ∨ h₀.get? b = none)))
    (asg : ∀ i v h₁ tk₁ H₁ m₁ cm₁ (Q' : Unit → Shared → Prop) (E' : Value → Shared → Prop), i < n → P i v h₁ → Ext G H₁ → St env H₁ m₁ cm₁ h₁ → (∀ h₂ tk₂ m₂ cm₂, St env H₁ m₂ cm₂ h₂ → um i v m₁ cm₁ m₂ cm₂ → Q' () { s with heap := h₂, toks := tk₂ }) → wpAny (model prog w) A (assign target env v) Q' E' { s with heap := h₁, toks := tk₁ })
    (hG : Ext G H) (hown : ∀ b ∈ own, G.get? b = none ∧ ∃ o, H.get? b = some o) (hfx : ∀ b ∈ fx, ∃ o, G.get? b = some o)
    (hJ : ∀ i H H' m cm, J i H m cm → ExtI H H' → J i H' m cm)
    (hlive : ∀ i H m cm, J i H m cm → ∀ b ∈ own, ∃ o, H.get? b = some o) (h0 : J 0 H m cm)
    (turn : ∀ i v h₀ h₁ tk₁ G₁ H₁ m₁ cm₁ m₂ cm₂ (Q' : Flow → Shared → Prop) (E' : Value → Shared → Prop), i < n → P i v h₀ → Ext G G₁ → (∀ b ∈ own, G₁.get? b = none) → Ext G₁ H₁ → J i H₁ m₁ cm₁ → um i v m₁ cm₁ m₂ cm₂ → St env H₁ m₂ cm₂ h₁ →
      Back (fun f s' => R (.ok f) s') Q' → (∀ h tk H m cm, St env H m cm h → Ext G₁ H → J (i + 1) H m cm → Q' .next { s with heap := h, toks := tk }) →
      wpAny (model prog w) A (execs body env) Q' E' { s with heap := h₁, toks := tk₁ })
    (done : ∀ h' tk H' m' cm', St env H' m' cm' h' → Ext G H' → J n H' m' cm' → R (.ok .next) { s with heap := h', toks := tk }) :
    codeAny (model prog w) A (.forLoop target (.ref I) body [] env) R { s with heap := h₁, toks := tk₀ } := by
  have hIh : ∀ b ∈ wr, b ∉ hid env := fun b hb => S.fresh (hI b hb)
  have hIG : ∀ b ∈ wr, G.get? b = none := fun b hb => ext_none hG (ext_none S.ext (hI b hb))
  have hfph : ∀ b ∈ fp, b ∉ hid env ∧ b ∉ own := fun b hb => by
    rcases hfp b hb with h | ⟨_, hf | hf⟩
    · exact ⟨hIh b h, fun hb => by obtain ⟨o, ho⟩ := (hown _ hb).2; have := hI b h; rw [S.ext _ _ ho] at this; cases this⟩
    · obtain ⟨o, ho⟩ := hfx b hf
      exact ⟨S.off (hG _ _ ho), fun hb => by rw [(hown b hb).1] at ho; cases ho⟩
    · exact ⟨S.fresh hf, fun hb => by obtain ⟨o, ho⟩ := (hown b hb).2; rw [S.ext _ _ ho] at hf; cases hf⟩
  refine codeAny_forLoop_any (fun k s' => ∃ d : LpD, Lp G own J Sw env d.i d.h d.H d.m d.cm ∧ s' = { s with heap := d.h, toks := d.tk } ∧ d.i ≤ n ∧ k = n + 1 - d.i) ?_ (n + 1)
    ⟨⟨0, h₁, tk₀, H, m, cm⟩, ⟨S.keep y, hG, fun b hb => (hown b hb).2, h0, hst⟩, rfl, Nat.zero_le _, rfl⟩
  clear hst hfp h0 hG S
  rintro k s' ⟨d, L, rfl, hi, rfl⟩
  by_cases hlt : d.i < n
  · refine item d.i _ _ _ hlt L.w fun v h' tk' go => go _ _ fun h₁ tk₁ hP hst₁ hk₁ => ?_
    obtain ⟨S₁, hG₁, hJ₁⟩ := keepQ hJ hq L hIh hIG hk₁
    have hGG : Ext G (hideAll (rb env h₁) own) := fun b o e => hideAll_get _ (hG₁ b o e) fun hb => by rw [(hown b hb).1] at e; cases e
    refine asg d.i v h₁ tk₁ _ d.m d.cm _ _ hlt hP hG₁ S₁ fun h₂ tk₂ m₂ cm₂ S₂ hu => ?_
    refine turn d.i v h₁ h₂ _ (hideAll (rb env h₁) own) (rb env h₁) d.m d.cm m₂ cm₂ _ _ hlt hP hGG (fun b hb => hideAll_none _ hb) (fun b o e => of_hideAll _ e) hJ₁ hu S₂ (fun v s' q => q) fun h₃ tk₃ H₃ m₃ cm₃ S₃ hG₃ hJ₃ => ?_
    refine ⟨n + 1 - (d.i + 1), by omega, ⟨d.i + 1, h₃, tk₃, H₃, m₃, cm₃⟩, ⟨S₃, hGG.trans hG₃, hlive _ _ _ _ hJ₃, hJ₃, fr _ h₁ _ hst₁ fun b hb o e => ?_⟩, rfl, hlt, rfl⟩
    exact S₃.ext _ _ (hG₃ _ _ (hideAll_get _ (rb_get e (hfph b hb).1) (hfph b hb).2))
  · have hin : d.i = n := by omega
    refine dn _ _ _ (hin ▸ L.w) fun h₁ tk₁ hk₁ => ?_
    obtain ⟨S₁, hG₁, hJ₁⟩ := keepQ hJ hq L hIh hIG hk₁
    exact wpAny_execs_nil (done _ _ _ _ _ S₁ hG₁ (hin ▸ hJ₁))
theorem Qt.qw {I : Addr} {Sw : Nat → Heap → Prop} (hq : Qt I Sw) : Qw [I] Sw := fun i h st b hb => by rw [List.mem_singleton.mp hb]; obtain ⟨o, T, e, c, h⟩ := hq i h st; exact ⟨o, T, e, c, .tail _ h⟩
theorem forQ (own : List Addr) (G : Heap) (J : Nat → Heap → (Str → Option Value) → (Str → Option Value) → Prop) (um : Nat → Value → (Str → Option Value) → (Str → Option Value) → (Str → Option Value) → (Str → Option Value) → Prop)
    (S : St env H m cm h₀)
    (asg : ∀ i v h₁ tk₁ H₁ m₁ cm₁ (Q' : Unit → Shared → Prop) (E' : Value → Shared → Prop), i < n → P i v → Ext G H₁ → St env H₁ m₁ cm₁ h₁ → (∀ h₂ tk₂ m₂ cm₂, St env H₁ m₂ cm₂ h₂ → um i v m₁ cm₁ m₂ cm₂ → Q' () { s with heap := h₂, toks := tk₂ }) → wpAny (model prog w) A (assign target env v) Q' E' { s with heap := h₁, toks := tk₁ })
    (src : Src prog w A env h₀ iter n P fx) (hG : Ext G H) (hown : ∀ b ∈ own, G.get? b = none ∧ ∃ o, H.get? b = some o) (hfx : ∀ b ∈ fx, ∃ o, G.get? b = some o)
    (hJ : ∀ i H H' m cm, J i H m cm → ExtI H H' → J i H' m cm)
    (hlive : ∀ i H m cm, J i H m cm → ∀ b ∈ own, ∃ o, H.get? b = some o) (h0 : J 0 H m cm)
    (turn : ∀ i v h₁ tk₁ G₁ H₁ m₁ cm₁ m₂ cm₂ (Q' : Flow → Shared → Prop) (E' : Value → Shared → Prop), i < n → P i v → Ext G G₁ → (∀ b ∈ own, G₁.get? b = none) → Ext G₁ H₁ → J i H₁ m₁ cm₁ → um i v m₁ cm₁ m₂ cm₂ → St env H₁ m₂ cm₂ h₁ →
      Back Q Q' → (∀ h tk H m cm, St env H m cm h → Ext G₁ H → J (i + 1) H m cm → Q' .next { s with heap := h, toks := tk }) →
      wpAny (model prog w) A (execs body env) Q' E' { s with heap := h₁, toks := tk₁ })
    (done : ∀ h' tk H' m' cm', St env H' m' cm' h' → Ext G H' → J n H' m' cm' → wpAny (model prog w) A (execs rest env) Q E { s with heap := h', toks := tk })
    (hs : ∀ x, foldedSetIterable iter env x = pure x := by intro _; rfl) :
    wpAny (model prog w) A (execs (.For target iter body [] pos :: rest) env) Q E { s with heap := h₀, toks := tk₀ } :=
  wpAny_execs_cons (wpAny_For (src _ _ _ (Ext.refl _) fun I _ _ _ _ y hI _ W hq hst hfp => forCode (wr := [I]) (P := fun i v _ => P i v) S y (fun b hb => by rw [List.mem_singleton.mp hb]; exact hI) W.frame
    (fun i s Q E hi st q => W.item i s Q E hi st fun v h' tk p st' k => q v h' tk fun Q' E' q' => let ⟨_, _, ho, hc, hT⟩ := hq _ _ st'; go_quiet ho hc hT (q' h' tk p st' k)) W.done (Qt.qw hq) hst (fun b hb => (hfp b hb).imp (fun e => by rw [e]; exact .head _) id) asg hG hown hfx hJ hlive h0 (fun i v _ => turn i v) done) hs)

theorem asg_name {h₁ : Heap} {tk₁ : Nat} {v : Value} {Q' : Unit → Shared → Prop} (hk : env.scope.kind = .function) (hx : env.kindOf x = some .local) (S₁ : St env H m cm h₁) (q : ∀ h₂ tk₂, St env H (upd m x v) cm h₂ → Q' () { s with heap := h₂, toks := tk₂ }) :
    wpAny (model prog w) A (assign (.Name x px) env v) Q' E { s with heap := h₁, toks := tk₁ } :=
  wpAny_assign_Name (wpAny_storeName_local hx S₁.ns (fun h₂ hn₂ hs₂ => q h₂ _ (S₁.setL hn₂ hs₂)) (by rw [hk]; rfl))
noncomputable def umL (x : Str) (_ : Nat) (v : Value) (m₁ c₁ m₂ c₂ : Str → Option Value) : Prop := m₂ = upd m₁ x v ∧ c₂ = c₁
theorem asgL {h₁ : Heap} {tk₁ : Nat} {i : Nat} {v : Value} {Q' : Unit → Shared → Prop} (hk : env.scope.kind = .function) (hx : env.kindOf x = some .local) (S₁ : St env H m cm h₁) (q : ∀ h₂ tk₂ m₂ cm₂, St env H m₂ cm₂ h₂ → umL x i v m cm m₂ cm₂ → Q' () { s with heap := h₂, toks := tk₂ }) :
    wpAny (model prog w) A (assign (.Name x px) env v) Q' E { s with heap := h₁, toks := tk₁ } := asg_name hk hx S₁ fun h₂ tk₂ S₂ => q h₂ tk₂ _ _ S₂ ⟨rfl, rfl⟩
noncomputable def umC (x : Str) (_ : Nat) (v : Value) (m₁ c₁ m₂ c₂ : Str → Option Value) : Prop := m₂ = m₁ ∧ c₂ = upd c₁ x v
theorem asgC {h₁ : Heap} {tk₁ : Nat} {i : Nat} {v : Value} {c : Addr} {Q' : Unit → Shared → Prop} (hk : env.scope.kind = .function) (hx : env.kindOf x = some .cell) (hc : env.cells.lookup x = some c) (hn : (env.cells.map (·.1)).Nodup) (S₁ : St env H m cm h₁) (q : ∀ h₂ tk₂ m₂ cm₂, St env H m₂ cm₂ h₂ → umC x i v m cm m₂ cm₂ → Q' () { s with heap := h₂, toks := tk₂ }) :
    wpAny (model prog w) A (assign (.Name x px) env v) Q' E { s with heap := h₁, toks := tk₁ } :=
  have hm := mem_of_lookup hc
  wpAny_assign_Name (wpAny_storeName_cell hk hx hc (S₁.cl x c hm) fun h₂ hv hsb => q h₂ tk₁ _ _ (S₁.setC hm hn hv hsb) ⟨rfl, rfl⟩)
theorem forQ0 (J : Nat → (Str → Option Value) → (Str → Option Value) → Prop)
    (S : St env H m cm h₀) (hk : env.scope.kind = .function) (hx : env.kindOf x = some .local)
    (src : Src prog w A env h₀ iter n P fx) (hfx : ∀ b ∈ fx, ∃ o, H.get? b = some o) (h0 : J 0 m cm)
    (turn : ∀ i v h₁ tk₁ H₁ m₁ cm₁ (Q' : Flow → Shared → Prop) (E' : Value → Shared → Prop), i < n → P i v → Ext H H₁ → J i m₁ cm₁ → St env H₁ (upd m₁ x v) cm₁ h₁ →
      Back Q Q' → (∀ h tk H m cm, St env H m cm h → Ext H₁ H → J (i + 1) m cm → Q' .next { s with heap := h, toks := tk }) →
      wpAny (model prog w) A (execs body env) Q' E' { s with heap := h₁, toks := tk₁ })
    (done : ∀ h' tk H' m' cm', St env H' m' cm' h' → Ext H H' → J n m' cm' → wpAny (model prog w) A (execs rest env) Q E { s with heap := h', toks := tk })
    (hs : ∀ x, foldedSetIterable iter env x = pure x := by intro _; rfl) :
    wpAny (model prog w) A (execs (.For (.Name x px) iter body [] pos :: rest) env) Q E { s with heap := h₀, toks := tk₀ } :=
  forQ [] H (fun i _ => J i) (umL x) S (fun _ _ _ _ _ _ _ _ _ _ _ _ S₁ q => asgL hk hx S₁ q)
    src (Ext.refl _) (fun _ h => nomatch h) hfx (fun _ _ _ _ _ h _ => h) (fun _ _ _ _ _ _ h => nomatch h) h0
    (fun i v h₁ tk₁ G₁ H₁ m₁ cm₁ m₂ cm₂ Q' E' hi hP x1 x2 x3 j e S₂ hb nx => turn i v h₁ tk₁ G₁ m₁ cm₁ Q' E' hi hP x1 j ((e.1 ▸ e.2 ▸ S₂).less x3) hb nx) done hs
end

noncomputable def clos (cells : List (Str × Addr)) : List (Str × NameKind) → List (Str × Addr) → List (Str × Addr)
  | [], acc => acc
  | (n, k) :: r, acc => clos cells r (if k == .free then (n, (cells.lookup n).getD 0) :: acc else acc)
theorem closureFor_of {scope : Scope} {env : Env} (h : ∀ n, (n, NameKind.free) ∈ scope.names → (env.cells.lookup n).isSome = true) : closureFor scope env = pure (clos env.cells scope.names []) := by
  unfold closureFor
  have gen : ∀ (l : List (Str × NameKind)) (acc : List (Str × Addr)), (∀ n, (n, NameKind.free) ∈ l → (env.cells.lookup n).isSome = true) →
      (forIn l acc fun x r => (do
        if (x.2 == NameKind.free) = true then do
          let __do_lift ← cellOf env x.1
          pure (ForInStep.yield ((x.1, __do_lift) :: r))
        else pure (ForInStep.yield r) : Sem (ForInStep (List (Str × Addr))))) = pure (clos env.cells l acc) := by
    intro l
    induction l with
    | nil => intro acc _; rfl
    | cons p r ih =>
      obtain ⟨n, k⟩ := p
      intro acc hl
      rw [List.forIn_cons]
      have hr : ∀ n, (n, NameKind.free) ∈ r → (env.cells.lookup n).isSome = true := fun n hn => hl n (.tail _ hn)
      cases hk : (k == NameKind.free) with
      | false =>
        simp only [clos, hk, Bool.false_eq_true, if_false]
        exact ih acc hr
      | true =>
        have hk' : k = NameKind.free := by cases k <;> first | rfl | cases hk
        subst hk'
        obtain ⟨c, hc⟩ := Option.isSome_iff_exists.mp (hl n (.head _))
        have e : cellOf env n = pure c := by unfold cellOf; rw [hc]
        simp only [clos, hk, if_true, e, hc, Option.getD_some]
        exact ih _ hr
  exact congrArg (fun t : Sem (List (Str × Addr)) => t >>= fun cs => pure cs) (gen scope.names [] h)
end Mine
end

noncomputable section
open PySem PySem.W PySem.Calls PyProof.Rows
set_option maxRecDepth 100000
namespace Mine

noncomputable def relab (names outer : List (Str × NameKind)) : List (Str × NameKind) := names.map fun x => if (x.2 == .free && outer.lookup x.1 == some .cell) then (x.1, .cell) else (x.1, x.2)
theorem EnvOK.comp {env : Env} {L : Addr} {cells : List (Str × Addr)} {names : List (Str × NameKind)} (O : EnvOK env L cells names) {scope : Scope} (hk : scope.kind = .function) (cl : List (Str × Addr)) (C : Addr) :
    EnvOK (compEnvC scope cl C env) C cl (relab scope.names names) where
  kind := hk
  names := by
    show (scope.names.map _) = _
    unfold relab
    congr 1
    funext ⟨n, k⟩
    have e : env.kindOf n = names.lookup n := by unfold Env.kindOf; rw [O.names]
    simp only [O.kind, e]
    cases k <;> simp
  loc := rfl
  glob := O.glob
  bi := O.bi
  cells := rfl

noncomputable def Tests (prog : Program) (w : World) (A : Around) (env : Env) (H : Heap) (ifs : List PySem.Expr) (b : Bool) : Prop :=
  ∀ (Q : Bool → Shared → Prop) (E : Value → Shared → Prop) (s : Shared), Ext H s.heap → (∀ h' tk, Ext s.heap h' → Q b { s with heap := h', toks := tk }) →
    wpAny (model prog w) A (forIn ifs true fun c r => if r = true then do let ok ← isTrue c env (eval c env); pure (ForInStep.yield ok) else pure (ForInStep.yield r)) Q E s

section
variable {prog : Program} {w : World} {A : Around} {env : Env} {H : Heap} {L : Addr} {cells cl : List (Str × Addr)} {names : List (Str × NameKind)} {scope : Scope} {elt iter : PySem.Expr} {x y : Str} {px py pos spos : Pos} {ifs : List PySem.Expr} {fx : List Addr}
theorem tests_nil : Tests prog w A env H [] true := fun _ _ s _ q => wpAny_tests_nil (q s.heap s.toks (Ext.refl _))
theorem tests_one {c : PySem.Expr} {b : Bool} (h : EvT prog w A env H c b) : Tests prog w A env H [c] b := fun Q E s y q => wpAny_tests_one (h Q E s y q)

noncomputable def tz (pz : Int → Bool) : Value → Bool
  | .int n _ => pz n
  | _ => false
noncomputable def fz (f : Int → Int) (v y : Value) : Prop := ∃ n t u, v = .int n t ∧ y = .int (f n) u

theorem ints_of {ns : List Int} : ∀ {vs : List Value}, vs.length = ns.length → (∀ j v, vs[j]? = some v → PI ns j v) → IntsAre vs ns := by
  induction ns with
  | nil => intro vs h _; rw [List.length_eq_zero_iff.mp h]; exact .nil
  | cons n r ih =>
    intro vs h hP
    cases vs with
    | nil => cases h
    | cons v vs =>
      obtain ⟨n', t, e, rfl⟩ := hP 0 v rfl
      cases e
      exact .cons _ _ (ih (Nat.succ.inj h) fun j u hj => hP (j + 1) u hj)
theorem paired_of {pz : Int → Bool} {f : Int → Int} : ∀ {ns : List Int} {vs ys : List Value}, IntsAre vs ns → Paired (fz f) (vs.filter (tz pz)) ys → IntsAre ys ((ns.filter pz).map f)
  | [], _, _, .nil, p => by cases p; exact .nil
  | n :: r, _, ys, .cons _ t z, p => by
    cases h : pz n with
    | false =>
      have e : tz pz (.int n t) = false := h
      rw [List.filter_cons, e] at p
      rw [List.filter_cons, h]
      exact paired_of z p
    | true =>
      have e : tz pz (.int n t) = true := h
      rw [List.filter_cons, e] at p
      rw [List.filter_cons, h]
      simp only [if_true] at p ⊢
      cases p with
      | cons hf p =>
        obtain ⟨n', t', u, e1, rfl⟩ := hf
        cases e1
        exact .cons _ _ (paired_of z p)

structure CompOK (env : Env) (scope : Scope) (cl : List (Str × Addr)) (x : Str) : Prop where
  clos : closureFor scope env = pure cl
  cell : ∀ y ∈ scope.names, y.2 ≠ .cell
  kind : scope.kind = .function
  names : ∀ y ∈ scope.names, y.2 = .local → scope.names.lookup y.1 = some .local
  x : scope.names.lookup x = some .local

theorem quiet_of {ns : List Int} {pz : Int → Bool} {f : Int → Int} {s₂ : Shared} {I : Addr} {H : Heap} (hH : Ext H s₂.heap) (hI : H.get? I = none)
    (ht : ∀ C H' m n t, n ∈ ns → Ext H H' → H'.Ns C m → m x = some (.int n t) → Tests prog w A (compEnvC scope cl C env) H' ifs (pz n))
    (he : ∀ C H' m n t, n ∈ ns → pz n = true → Ext H H' → H'.Ns C m → m x = some (.int n t) → Ev prog w A (compEnvC scope cl C env) H' elt (IsI (f n))) :
    QuietOnC prog w A env scope cl x ifs elt [I] (PI ns) (tz pz) (fz f) s₂ where
  tests := by
    rintro C i v s₃ m₃ E' _ ⟨n, t, hn, rfl⟩ hns hm hk _
    refine ht C s₃.heap m₃ n t (List.mem_of_getElem? hn) (fun b o e => hk b o (fun q => ?_) (hH _ _ e)) hns hm _ _ s₃ (Ext.refl _) fun h' tk k => ⟨rfl, h', tk, rfl, k⟩
    rw [List.mem_singleton.mp q, hI] at e; cases e
  elt := by
    rintro C i v s₃ m₃ E' _ ⟨n, t, hn, rfl⟩ hp hns hm hk _
    refine he C s₃.heap m₃ n t (List.mem_of_getElem? hn) hp (fun b o e => hk b o (fun q => ?_) (hH _ _ e)) hns hm _ _ s₃ (Ext.refl _) fun v h' tk k ⟨u, hu⟩ => ⟨⟨n, t, u, rfl, hu⟩, h', tk, rfl, k⟩
    rw [List.mem_singleton.mp q, hI] at e; cases e

theorem ev_comp {ns : List Int} {pz : Int → Bool} {f : Int → Int} (C : CompOK env scope cl x) (hlen : ns.length ≤ 1000) (src : SrcI prog w A env H iter ns fx)
    (ht : ∀ C H' m n t, n ∈ ns → Ext H H' → H'.Ns C m → m x = some (.int n t) → Tests prog w A (compEnvC scope cl C env) H' ifs (pz n))
    (he : ∀ C H' m n t, n ∈ ns → pz n = true → Ext H H' → H'.Ns C m → m x = some (.int n t) → Ev prog w A (compEnvC scope cl C env) H' elt (IsI (f n)))
    (hs : ∀ x, foldedSetIterable iter env x = pure x := by intro _; rfl) :
    Ev prog w A env H (.ListComp elt [⟨.Name x px, iter, ifs, 0⟩] scope pos) (NewLI H ((ns.filter pz).map f)) := by
  intro Q E s y q
  refine wpAny_ListComp_free (tz pz) (fz f) C.clos C.cell C.kind C.names C.x (src _ _ s y ?_) hs
  intro I fp Sw h' tk k hI hI' W _ hst hfp
  refine ⟨I, fp, [I], ns.length, PI ns, Sw, rfl, W, by rw [sizeLine_eq]; omega, hst, fun b hb => ?_, quiet_of (y.trans k) (ext_none y hI) ht he, ?_⟩
  · rcases hfp b hb with rfl | ⟨⟨o, ho⟩, _⟩
    · obtain ⟨o, ho⟩ := hI'; exact Heap.lt_size ho
    · exact Heap.lt_size ho
  · intro D h'' tk' ys vs hD hl hpl hlen hP hF hk
    refine q _ h'' tk' (fun b o e => hk b o (fun q => ?_) (k _ _ e)) ⟨D, rfl, ext_none (y.trans k) hD, ys.toList, ?_, paired_of (ints_of hlen hP) hF⟩
    · rw [List.mem_singleton.mp q, hI] at e; cases e
    · exact (by simpa using hpl.isList)

theorem st_asgcomp {h₀ : Heap} {tk₀ : Nat} {ns : List Int} {pz : Int → Bool} {f : Int → Int} {m cm : Str → Option Value} {s : Shared} {Q : Flow → Shared → Prop} {E : Value → Shared → Prop} {rest : List Stmt}
    (S : St env H m cm h₀) (hk : env.scope.kind = .function) (hy : env.kindOf y = some .local)
    (hsw : swapsWith (.ListComp elt [⟨.Name x px, iter, ifs, 0⟩] scope pos) (some (.Name y py)) spos.line env = pure true)
    (C : CompOK env scope cl x) (hlen : ns.length ≤ 1000) (src : SrcI prog w A env h₀ iter ns fx)
    (ht : ∀ C H' m n t, n ∈ ns → Ext h₀ H' → H'.Ns C m → m x = some (.int n t) → Tests prog w A (compEnvC scope cl C env) H' ifs (pz n))
    (he : ∀ C H' m n t, n ∈ ns → pz n = true → Ext h₀ H' → H'.Ns C m → m x = some (.int n t) → Ev prog w A (compEnvC scope cl C env) H' elt (IsI (f n)))
    (next : ∀ D h' H' tk, St env H' (upd m y (.ref D)) cm h' → Ext H H' → H.get? D = none → LI D ((ns.filter pz).map f) H' → wpAny (model prog w) A (execs rest env) Q E { s with heap := h', toks := tk })
    (hs : ∀ x, foldedSetIterable iter env x = pure x := by intro _; rfl) :
    wpAny (model prog w) A (execs (.Assign [.Name y py] (.ListComp elt [⟨.Name x px, iter, ifs, 0⟩] scope pos) spos :: rest) env) Q E { s with heap := h₀, toks := tk₀ } := by
  refine wpAny_execs_cons (wpAny_Assign_ListComp_free (tz pz) (fz f) hsw C.clos C.cell C.kind C.names C.x hy (by rw [hk]; rfl) (src _ _ _ (Ext.refl _) ?_) hs)
  intro I fp Sw h' tk k hI hI' W _ hst hfp
  have hIh := S.fresh hI
  refine ⟨I, fp, [I], ns.length, PI ns, Sw, m, rfl, W, by rw [sizeLine_eq]; omega, hst, fun b hb => ?_, fun q => hIh (List.mem_singleton.mp q ▸ mem_hidL), S.ns.keeps k, quiet_of k hI ht he, ?_⟩
  · rcases hfp b hb with rfl | ⟨⟨o, ho⟩, _⟩
    · obtain ⟨o, ho⟩ := hI'; exact Heap.lt_size ho
    · exact Heap.lt_size ho
  · intro D h'' tk' ys vs hD hl hpl hlen hP hF hns hk
    have hDh : D ∉ hid env := fun q => by
      obtain ⟨o, ho⟩ := S.live q
      rw [k _ _ ho] at hD; cases hD
    have up : ∀ b o, b ≠ env.locals → h₀.get? b = some o → h''.get? b = some o := fun b o hb e => hk b o hb (fun q => by rw [List.mem_singleton.mp q, hI] at e; cases e) (k _ _ e)
    refine next D h'' (rb env h'') tk' ⟨hns, fun n c hm => ?_, fun _ _ e => of_rb e, rb_off mem_hidL, fun _ _ hm => rb_off (mem_hidC hm), S.apart, S.above⟩
      (fun b o e => rb_get (up b o (fun q => by rw [q, S.offL] at e; cases e) (S.ext _ _ e)) (S.off e)) (ext_none S.ext (ext_none k hD)) ⟨ys.toList, ?_, paired_of (ints_of hlen hP) hF⟩
    · obtain ⟨o, ho, hd⟩ := S.cl n c hm
      exact ⟨o, up c o (S.above n c hm) ho, hd⟩
    · exact (by simpa using (hpl.at fun o e => rb_get e hDh : (rb env h'').PlainList D ys).isList)
end
end Mine
end

noncomputable section
open PySem PySem.W PySem.Calls PyProof.Rows
set_option maxRecDepth 100000
namespace Mine

structure Rd (env : Env) (m cm : Str → Option Value) (h : Heap) : Prop where
  ns : h.Ns env.locals m
  cl : ∀ n c, (n, c) ∈ env.cells → h.IsCell c (cm n)
theorem St.rd {env : Env} {H h : Heap} {m cm : Str → Option Value} (S : St env H m cm h) : Rd env m cm h := ⟨S.ns, S.cl⟩
theorem Rd.ext {env : Env} {h h' : Heap} {m cm : Str → Option Value} (S : Rd env m cm h) (k : Ext h h') : Rd env m cm h' := ⟨S.ns.keeps k, fun n c hm => (S.cl n c hm).keeps k⟩
theorem Rd.comp {env : Env} {h h' : Heap} {m cm m' : Str → Option Value} (S : Rd env m cm h) (k : Ext h h') {scope : Scope} {cl : List (Str × Addr)} {C : Addr} (hcl : ∀ p ∈ cl, p ∈ env.cells) (hn : h'.Ns C m') : Rd (compEnvC scope cl C env) m' cm h' :=
  ⟨hn, fun n c hm => (S.cl n c (hcl _ hm)).keeps k⟩

section
variable {prog : Program} {w : World} {A : Around} {env : Env} {H : Heap} {L : Addr} {cells : List (Str × Addr)} {names : List (Str × NameKind)} {m cm : Str → Option Value} {x : Str} {pos : Pos} {v : Value} {i : Int} {t : Tok} {c : Addr}
theorem evL (O : EnvOK env L cells names) (S : Rd env m cm H) (hl : names.lookup x = some .local) (hv : m x = some v) (hd : (x == ("__debug__" : Str)) = false := by decide) : Ev prog w A env H (.Name x pos) (IsV v) :=
  ev_local O.kind (O.of hl) S.ns hv hd
theorem evC (O : EnvOK env L cells names) (S : Rd env m cm H) (hl : names.lookup x = some .cell) (hc : cells.lookup x = some c) (hv : cm x = some v) (hd : (x == ("__debug__" : Str)) = false := by decide) : Ev prog w A env H (.Name x pos) (IsV v) :=
  ev_cell O.kind (O.of hl) (by rw [O.cells]; exact hc) (hv ▸ S.cl x c (by rw [O.cells]; exact mem_of_lookup hc)) hd
theorem evF (O : EnvOK env L cells names) (S : Rd env m cm H) (hl : names.lookup x = some .free) (hc : cells.lookup x = some c) (hv : cm x = some v) (hd : (x == ("__debug__" : Str)) = false := by decide) (hn : (x == ("__classdict__" : Str)) = false := by decide) : Ev prog w A env H (.Name x pos) (IsV v) :=
  ev_free O.kind (O.of hl) (by rw [O.cells]; exact hc) (hv ▸ S.cl x c (by rw [O.cells]; exact mem_of_lookup hc)) hd hn
theorem evI {e : PySem.Expr} (h : Ev prog w A env H e (IsV (.int i t))) : Ev prog w A env H e (IsI i) := h.mono fun _ _ _ q => ⟨t, q⟩
theorem evS {e : PySem.Expr} {z : Str} (h : Ev prog w A env H e (IsV (.str z t))) : Ev prog w A env H e (IsS z) := h.mono fun _ _ _ q => ⟨t, q⟩
theorem evG {mg mb : Str → Option Value} (B : Base prog w mg mb H) (O : EnvOK env L cells names) (hl : names.lookup x = some .globalImplicit) (e : glo.lookup x = some v) (hd : (x == ("__debug__" : Str)) = false := by decide) : Ev prog w A env H (.Name x pos) (IsV v) :=
  ev_global B O.kind O.glob (O.of hl) e hd
theorem evB {mg mb : Str → Option Value} (B : Base prog w mg mb H) (O : EnvOK env L cells names) (hl : names.lookup x = some .globalImplicit) (e : x ∈ blt) (hv : bootBuiltins x = some v) (hn : x ≠ "__name__" := by decide) (hd : (x == ("__debug__" : Str)) = false := by decide) : Ev prog w A env H (.Name x pos) (IsV v) :=
  ev_builtin B O.kind O.glob O.bi (O.of hl) e hv hn hd
end

theorem compOK {env : Env} {L : Addr} {cells cl : List (Str × Addr)} {names : List (Str × NameKind)} (O : EnvOK env L cells names) {scope : Scope} {x : Str} (hk : scope.kind = .function)
    (h1 : (scope.names.all fun y => (y.2 != .free || (cells.lookup y.1).isSome) && y.2 != .cell && (y.2 != .local || scope.names.lookup y.1 == some .local)) = true)
    (h2 : clos cells scope.names [] = cl) (hx : scope.names.lookup x = some .local) : CompOK env scope cl x := by
  have h := fun y hy => List.all_eq_true.mp h1 y hy
  simp only [Bool.and_eq_true, Bool.or_eq_true, bne_iff_ne, ne_eq, beq_iff_eq] at h
  refine ⟨?_, fun y hy => (h y hy).1.2, hk, fun y hy hl => (h y hy).2.resolve_left fun q => q hl, hx⟩
  rw [closureFor_of (fun n hn => by rw [O.cells]; exact (h _ hn).1.1.resolve_left fun q => q rfl), O.cells, h2]

theorem clos_sub {cells : List (Str × Addr)} : ∀ {l : List (Str × NameKind)} {acc : List (Str × Addr)}, (l.all fun y => y.2 != .free || (cells.lookup y.1).isSome) = true → (∀ p ∈ acc, p ∈ cells) → ∀ p ∈ clos cells l acc, p ∈ cells
  | [], _, _, ha => ha
  | (n, k) :: r, acc, h, ha => by
    rw [List.all_cons, Bool.and_eq_true] at h
    refine clos_sub (l := r) h.2 ?_
    cases k <;> first | exact ha | skip
    intro p hp
    rcases List.mem_cons.mp hp with rfl | hp
    · obtain ⟨c, hc⟩ := Option.isSome_iff_exists.mp (show (cells.lookup n).isSome = true from h.1)
      rw [hc]; exact mem_of_lookup hc
    · exact ha p hp
theorem clos_in {env : Env} {L : Addr} {cells cl : List (Str × Addr)} {names : List (Str × NameKind)} (O : EnvOK env L cells names) {scope : Scope}
    (h1 : (scope.names.all fun y => (y.2 != .free || (cells.lookup y.1).isSome) && y.2 != .cell && (y.2 != .local || scope.names.lookup y.1 == some .local)) = true) (h2 : clos cells scope.names [] = cl) : ∀ p ∈ cl, p ∈ env.cells := by
  rw [O.cells, ← h2]
  refine clos_sub (List.all_eq_true.mpr fun y hy => ?_) fun _ h => nomatch h
  have := List.all_eq_true.mp h1 y hy
  simp only [Bool.and_eq_true] at this
  exact this.1.1

section
variable {prog : Program} {w : World} {A : Around} {env : Env} {H : Heap} {L : Addr} {cells : List (Str × Addr)} {names : List (Str × NameKind)} {m cm : Str → Option Value} {scope : Scope} {elt iter : PySem.Expr} {x y : Str} {px py pos spos : Pos} {ifs : List PySem.Expr} {fx : List Addr}
theorem evcomp {ns : List Int} (cl : List (Str × Addr)) (pz : Int → Bool) (f : Int → Int) (O : EnvOK env L cells names) (S : Rd env m cm H) (src : SrcI prog w A env H iter ns fx)
    (ht : ∀ env' H' m' n t, n ∈ ns → Ext H H' → EnvOK env' env'.locals cl (relab scope.names names) → Rd env' m' cm H' → m' x = some (.int n t) → Tests prog w A env' H' ifs (pz n))
    (he : ∀ env' H' m' n t, n ∈ ns → pz n = true → Ext H H' → EnvOK env' env'.locals cl (relab scope.names names) → Rd env' m' cm H' → m' x = some (.int n t) → Ev prog w A env' H' elt (IsI (f n)))
    (hlen : ns.length ≤ 1000 := by decide) (hk : scope.kind = .function := by rfl)
    (h1 : (scope.names.all fun y => (y.2 != .free || (cells.lookup y.1).isSome) && y.2 != .cell && (y.2 != .local || scope.names.lookup y.1 == some .local)) = true := by rfl)
    (h2 : clos cells scope.names [] = cl := by rfl) (hx : scope.names.lookup x = some .local := by rfl)
    (hs : ∀ x, foldedSetIterable iter env x = pure x := by intro _; rfl) :
    Ev prog w A env H (.ListComp elt [⟨.Name x px, iter, ifs, 0⟩] scope pos) (NewLI H ((ns.filter pz).map f)) :=
  ev_comp (compOK O hk h1 h2 hx) hlen src (fun C H' m' n t hn k hns hm => ht _ H' m' n t hn k (O.comp hk cl C) (S.comp k (clos_in O h1 h2) hns) hm)
    (fun C H' m' n t hn hp k hns hm => he _ H' m' n t hn hp k (O.comp hk cl C) (S.comp k (clos_in O h1 h2) hns) hm) hs

theorem stcomp {h₀ : Heap} {tk₀ : Nat} {ns : List Int} {s : Shared} {Q : Flow → Shared → Prop} {E : Value → Shared → Prop} {rest : List Stmt} (cl : List (Str × Addr)) (pz : Int → Bool) (f : Int → Int) (O : EnvOK env L cells names) (S : St env H m cm h₀) (src : SrcI prog w A env h₀ iter ns fx)
    (ht : ∀ env' H' m' n t, n ∈ ns → Ext h₀ H' → EnvOK env' env'.locals cl (relab scope.names names) → Rd env' m' cm H' → m' x = some (.int n t) → Tests prog w A env' H' ifs (pz n))
    (he : ∀ env' H' m' n t, n ∈ ns → pz n = true → Ext h₀ H' → EnvOK env' env'.locals cl (relab scope.names names) → Rd env' m' cm H' → m' x = some (.int n t) → Ev prog w A env' H' elt (IsI (f n)))
    (next : ∀ D h' H' tk, St env H' (upd m y (.ref D)) cm h' → Ext H H' → H.get? D = none → LI D ((ns.filter pz).map f) H' → wpAny (model prog w) A (execs rest env) Q E { s with heap := h', toks := tk })
    (hy : names.lookup y = some .local := by rfl) (hyx : (scope.names.any fun z => z.1 == y && (z.2 == .local || z.2 == .cell)) = false := by rfl) (hline : (py.line == pos.line) = true := by rfl)
    (hlen : ns.length ≤ 1000 := by decide) (hk : scope.kind = .function := by rfl)
    (h1 : (scope.names.all fun y => (y.2 != .free || (cells.lookup y.1).isSome) && y.2 != .cell && (y.2 != .local || scope.names.lookup y.1 == some .local)) = true := by rfl)
    (h2 : clos cells scope.names [] = cl := by rfl) (hx : scope.names.lookup x = some .local := by rfl)
    (hs : ∀ x, foldedSetIterable iter env x = pure x := by intro _; rfl) :
    wpAny (model prog w) A (execs (.Assign [.Name y py] (.ListComp elt [⟨.Name x px, iter, ifs, 0⟩] scope pos) spos :: rest) env) Q E { s with heap := h₀, toks := tk₀ } := by
  refine st_asgcomp S O.kind (O.of hy) ?_ (compOK O hk h1 h2 hx) hlen src (fun C H' m' n t hn k hns hm => ht _ H' m' n t hn k (O.comp hk cl C) (S.rd.comp k (clos_in O h1 h2) hns) hm)
    (fun C H' m' n t hn hp k hns hm => he _ H' m' n t hn hp k (O.comp hk cl C) (S.rd.comp k (clos_in O h1 h2) hns) hm) next hs
  show (pure (env.blockKind == .function && env.kindOf y == some .local && py.line == pos.line && !(scope.names.any fun z => z.1 == y && (z.2 == .local || z.2 == .cell))) : Sem Bool) = pure true
  rw [O.of hy, hline, hyx]
  have : env.blockKind = .function := by unfold Env.blockKind; rw [O.kind]; rfl
  rw [this]; rfl
end

theorem lookup_nd {x : Str} {v : Value} : ∀ {l : List (Str × Value)}, (l.map (·.1)).Nodup → (x, v) ∈ l → l.lookup x = some v
  | [], _, h => nomatch h
  | (y, u) :: r, hn, hm => by
    rw [List.map_cons, List.nodup_cons] at hn
    rcases List.mem_cons.mp hm with e | hr
    · cases e; simp
    · have : (x == y) = false := by
        rw [beq_eq_false_iff_ne]; intro q
        exact hn.1 (List.mem_map.mpr ⟨(x, v), hr, q⟩)
      rw [List.lookup_cons, this]
      exact lookup_nd hn.2 hr
theorem lookup_rev {l : List (Str × Value)} {x : Str} {v : Value} (h : (l.map (·.1)).Nodup) (e : l.lookup x = some v) : l.reverse.lookup x = some v := by
  refine lookup_nd ?_ (List.mem_reverse.mpr (mem_of_lookup e))
  rw [List.map_reverse]
  unfold List.Nodup at *
  exact List.pairwise_reverse.mpr (h.imp fun hab => Ne.symm hab)
noncomputable def bit (a n : Int) : Bool := Builtin.bitAnd (a.fdiv (2 ^ n.toNat)) 1 != 0
theorem rng_in {a b n : Int} (h : n ∈ rng a b) : a ≤ n ∧ n < b := by
  obtain ⟨i, hi, rfl⟩ := List.mem_map.mp h
  have := List.mem_range.mp hi
  omega
theorem mem1 {x : Str} {c : Addr} {l : List (Str × Addr)} (h : (x, c) ∈ l) : ∀ p ∈ ([(x, c)] : List (Str × Addr)), p ∈ l := fun p hp => by rw [List.mem_singleton.mp hp]; exact h
end Mine
end

noncomputable section
open PySem PySem.W PySem.Calls PyProof.Rows
set_option maxRecDepth 100000
namespace Mine
section
variable {prog : Program} {w : World} {A : Around} {env : Env} {H : Heap} {L : Addr} {cells : List (Str × Addr)} {names : List (Str × NameKind)} {m cm : Str → Option Value} {x : Str} {pos : Pos} {v : Value} {i : Int} {t : Tok} {c : Addr} {z : Str}
theorem vL (O : EnvOK env L cells names) (S : Rd env m cm H) (hv : m x = some v := by rfl) (hl : names.lookup x = some .local := by rfl) (hd : (x == ("__debug__" : Str)) = false := by decide) : Ev prog w A env H (.Name x pos) (IsV v) := evL O S hl hv hd
theorem vC (O : EnvOK env L cells names) (S : Rd env m cm H) (hv : cm x = some v := by rfl) (hl : names.lookup x = some .cell := by rfl) (hc : cells.lookup x = some c := by rfl) (hd : (x == ("__debug__" : Str)) = false := by decide) : Ev prog w A env H (.Name x pos) (IsV v) := evC O S hl hc hv hd
theorem vF (O : EnvOK env L cells names) (S : Rd env m cm H) (hv : cm x = some v := by rfl) (hl : names.lookup x = some .free := by rfl) (hc : cells.lookup x = some c := by rfl) (hd : (x == ("__debug__" : Str)) = false := by decide) (hn : (x == ("__classdict__" : Str)) = false := by decide) : Ev prog w A env H (.Name x pos) (IsV v) := evF O S hl hc hv hd hn
theorem nL (O : EnvOK env L cells names) (S : Rd env m cm H) (hv : m x = some (.int i t) := by rfl) (hl : names.lookup x = some .local := by rfl) (hd : (x == ("__debug__" : Str)) = false := by decide) : Ev prog w A env H (.Name x pos) (IsI i) := evI (evL O S hl hv hd)
theorem nC (O : EnvOK env L cells names) (S : Rd env m cm H) (hv : cm x = some (.int i t) := by rfl) (hl : names.lookup x = some .cell := by rfl) (hc : cells.lookup x = some c := by rfl) (hd : (x == ("__debug__" : Str)) = false := by decide) : Ev prog w A env H (.Name x pos) (IsI i) := evI (evC O S hl hc hv hd)
theorem nF (O : EnvOK env L cells names) (S : Rd env m cm H) (hv : cm x = some (.int i t) := by rfl) (hl : names.lookup x = some .free := by rfl) (hc : cells.lookup x = some c := by rfl) (hd : (x == ("__debug__" : Str)) = false := by decide) (hn : (x == ("__classdict__" : Str)) = false := by decide) : Ev prog w A env H (.Name x pos) (IsI i) := evI (evF O S hl hc hv hd hn)
theorem vG {mg mb : Str → Option Value} (B : Base prog w mg mb H) (O : EnvOK env L cells names) (e : glo.lookup x = some v := by rfl) (hl : names.lookup x = some .globalImplicit := by rfl) (hd : (x == ("__debug__" : Str)) = false := by decide) : Ev prog w A env H (.Name x pos) (IsV v) := evG B O hl e hd
theorem vB {mg mb : Str → Option Value} (B : Base prog w mg mb H) (O : EnvOK env L cells names) (e : x ∈ blt := by decide) (hv : bootBuiltins x = some v := by rfl) (hl : names.lookup x = some .globalImplicit := by rfl) (hn : x ≠ "__name__" := by decide) (hd : (x == ("__debug__" : Str)) = false := by decide) : Ev prog w A env H (.Name x pos) (IsV v) := evB B O hl e hv hn hd
theorem ev_fn {mg mb : Str → Option Value} {d : Nat} {f : Addr} {n : Str} {i : Nat} {px : Pos} {e : PySem.Expr} {es : List PySem.Expr} {Rs : List (Value → Heap → Prop)} {R : Value → Heap → Prop} (B : Base prog w mg mb H) (O : EnvOK env L cells names) (a : AOK A d) (ha : Args prog w A env H (e :: es) (All Rs))
    (hc : ∀ vs h, Ext H h → All Rs vs h → CallP prog w (.ref f) vs h d R) (hf : (f, n, i) ∈ fns := by decide) (e' : glo.lookup n = some (.ref f) := by rfl) (hl : names.lookup n = some .globalImplicit := by rfl) (hd : (n == ("__debug__" : Str)) = false := by decide)
    (hse : starEach (e :: es) env = (false, eval e env) :: starEach es env := by rfl) : Ev prog w A env H (.Call (.Name n px) (e :: es) [] pos) R := by
  obtain ⟨oc, od, osl, doc, pm, an, cd, ct, h1, _⟩ := B.at hf
  exact ev_call a (evG B O hl e' hd) h1 rfl ha hc hse
end

noncomputable def Same (l : List Str) (m m' : Str → Option Value) : Prop := ∀ x, x ∉ l → m' x = m x
theorem Same.refl {l : List Str} {m : Str → Option Value} : Same l m m := fun _ _ => rfl
theorem Same.get {l : List Str} {m m' : Str → Option Value} (h : Same l m m') {x : Str} {v : Value} (e : m x = some v := by rfl) (hx : x ∉ l := by decide) : m' x = some v := (h x hx).trans e
theorem Same.upd {l : List Str} {m m' : Str → Option Value} (h : Same l m m') {x : Str} {v : Value} (hx : x ∈ l := by decide) : Same l m (upd m' x v) := fun y hy => (upd_ne (fun q => hy (by rw [q]; exact hx))).trans (h y hy)
theorem Same.trans {l : List Str} {m m' m'' : Str → Option Value} (h : Same l m m') (h' : Same l m' m'') : Same l m m'' := fun y hy => (h' y hy).trans (h y hy)
theorem Same.more {l l' : List Str} {m m' : Str → Option Value} (h : Same l m m') (hl : ∀ x ∈ l, x ∈ l' := by decide) : Same l' m m' := fun y hy => h y fun q => hy (hl y q)
end Mine
end

noncomputable section
open PySem PySem.W PySem.Calls PyProof.Rows
set_option maxRecDepth 100000
namespace Mine
section
variable {prog : Program} {w : World} {f : Addr} {vs : List Value} {H : Heap} {d : Nat} {A : Around} {s : Shared} {Q E : Value → Shared → Prop} {name : Str} {st : Stmt}
theorem call_def (F : FnAt H f name st) (lim : H.NoLimit) (a : AOK A (d + 1)) (y : Ext H s.heap) (names : List (Str × NameKind)) (binds : List (Str × Value))
    (hbind : ∀ doc pm an cd ct, bindArgs (fnOf name name (paramsOf st) (bodyOf st) (scopeOf st) .none .none doc pm an cd ct) ⟨vs, []⟩ = pure binds) (hnm : (scopeOf st).names = names)
    (hc : (names.all fun x => x.2 != .cell) = true) (hl : (binds.all fun x => names.lookup x.1 == some .local) = true) (hbn : (binds.map (·.1)).Nodup)
    (h : ∀ (A : Around) (env : Env) (h₁ : Heap) (tk₁ : Nat) (m₀ cm₀ : Str → Option Value) (Q' : Flow → Shared → Prop) (E' : Value → Shared → Prop), AOK A d → EnvOK env env.locals [] names → (∀ x v, binds.lookup x = some v → m₀ x = some v) → St env s.heap m₀ cm₀ h₁ → (∀ v s', Q v s' → Q' (.ret v) s') →
      wpAny (model prog w) A (execs (bodyOf st) env) Q' E' { s with heap := h₁, toks := tk₁ })
    (hco : (scopeOf st).isCoroutine = false) (hgen : (scopeOf st).isGenerator = false) (hk : (scopeOf st).kind = .function) : wpAny (model prog w) A (call (.ref f) vs) Q E s := by
  obtain ⟨oc, od, osl, doc, pm, an, cd, ct, h1, c, o, vs', t, e1, e2, e3, e4⟩ := F
  refine wpAny_call (codeAny_call_def a.room (y _ _ h1) rfl (lim.keeps y) ⟨c, o, vs', t, e1, y _ _ e2, e3, e4⟩ rfl (BindsTo.of_eq (hbind doc pm an cd ct)) (fun x hx q => ?_) (fun x hx => ?_) (fun h₁ hns k => ?_) hco hgen hk)
  · have := List.all_eq_true.mp hc x (by rw [← hnm]; exact hx)
    rw [q] at this; cases this
  · have := List.all_eq_true.mp hl x hx
    show (scopeOf st).names.lookup x.1 = _
    rw [hnm]; exact beq_iff_eq.mp this
  · exact h (A.deeper _) _ h₁ _ _ (fun _ => none) _ _ (a.deeper _) ⟨hk, hnm, rfl, rfl, rfl, rfl⟩ (fun x v e => lookup_rev hbn e)
      ⟨hns, (fun _ _ hm => (nomatch hm)), k, none_at_size _, (fun _ _ hm => (nomatch hm)), List.Pairwise.nil, (fun _ _ hm => (nomatch hm))⟩ fun v s' q => q
theorem call_defC (F : FnAt H f name st) (lim : H.NoLimit) (a : AOK A (d + 1)) (y : Ext H s.heap) (names : List (Str × NameKind)) (binds : List (Str × Value)) (cs : Addr → List (Str × Addr))
    (hbind : ∀ doc pm an cd ct, bindArgs (fnOf name name (paramsOf st) (bodyOf st) (scopeOf st) .none .none doc pm an cd ct) ⟨vs, []⟩ = pure binds) (hnm : (scopeOf st).names = names)
    (hl : (binds.all fun x => names.lookup x.1 == some .local || (names.lookup x.1 == some .cell && ((cellsFrom 0 names []).lookup x.1).isSome)) = true) (hnd : ((cellsFrom 0 names []).map (·.1)).Nodup) (hcs : ∀ L, cellsFrom (L + 1) names [] = cs L)
    (m₀ cm₀ : List (Str × Value)) (hm₀ : ∀ p ∈ m₀, bindL (fun x => names.lookup x) binds (fun _ => none) p.1 = some p.2) (hc₀ : ∀ p ∈ cm₀, bindC (fun x => names.lookup x) binds (fun _ => none) p.1 = some p.2)
    (h : ∀ (A : Around) (env : Env) (h₁ : Heap) (tk₁ : Nat) (m cm : Str → Option Value) (Q' : Flow → Shared → Prop) (E' : Value → Shared → Prop), AOK A d → EnvOK env env.locals (cs env.locals) names → (∀ x v, m₀.lookup x = some v → m x = some v) → (∀ x v, cm₀.lookup x = some v → cm x = some v) → St env s.heap m cm h₁ → (∀ v s', Q v s' → Q' (.ret v) s') →
      wpAny (model prog w) A (execs (bodyOf st) env) Q' E' { s with heap := h₁, toks := tk₁ })
    (hco : (scopeOf st).isCoroutine = false) (hgen : (scopeOf st).isGenerator = false) (hk : (scopeOf st).kind = .function) : wpAny (model prog w) A (call (.ref f) vs) Q E s := by
  obtain ⟨oc, od, osl, doc, pm, an, cd, ct, h1, c, o, vs', t, e1, e2, e3, e4⟩ := F
  subst hnm
  refine wpAny_call (codeAny_call_cells a.room (y _ _ h1) rfl (lim.keeps y) ⟨c, o, vs', t, e1, y _ _ e2, e3, e4⟩ rfl (hbind doc pm an cd ct) rfl (fun x hx => ?_) (fun s₁ x => ?_) hco hgen hk)
  · have := List.all_eq_true.mp hl x hx
    simp only [Bool.or_eq_true, Bool.and_eq_true, beq_iff_eq] at this
    exact this.imp id fun q => ⟨q.1, cellsFrom_some _ _ _ (.inl q.1)⟩
  · obtain ⟨h₁, tk, rfl, k⟩ := x.done
    refine h (A.deeper _) _ h₁ tk _ (bindC (fun x => (scopeOf st).names.lookup x) binds fun _ => none) _ _ (a.deeper _) ⟨hk, rfl, rfl, rfl, rfl, by rw [← hcs]; rfl⟩ (fun x v e => hm₀ (x, v) (mem_of_lookup e)) (fun x v e => hc₀ (x, v) (mem_of_lookup e)) ?_ fun v s' q => q
    refine ⟨x.toInCall.ns, fun n c hm => ?_, k, none_above x.toInCall.fresh, fun n c hm => none_above (Nat.le_of_lt (Nat.lt_of_le_of_lt x.toInCall.fresh (x.above n c hm))), x.apart, fun n c hm => Nat.ne_of_gt (x.above n c hm)⟩
    exact x.cell n c (lookup_of_mem_nodup (cellsFrom_names (scopeOf st).names 0 (s.heap.objs.size + 1) [] [] rfl ▸ hnd) hm)
end
noncomputable def Owes (s : Shared) (R : Value → Heap → Prop) (Q : Flow → Shared → Prop) : Prop := ∀ v h' tk, Ext s.heap h' → R v h' → Q (.ret v) { s with heap := h', toks := tk }
section
variable {prog : Program} {w : World} {f : Addr} {vs : List Value} {H : Heap} {d : Nat} {R : Value → Heap → Prop} {name : Str} {st : Stmt}
theorem fnQ (F : FnAt H f name st) (lim : H.NoLimit) (names : List (Str × NameKind)) (binds : List (Str × Value))
    (hbind : ∀ doc pm an cd ct, bindArgs (fnOf name name (paramsOf st) (bodyOf st) (scopeOf st) .none .none doc pm an cd ct) ⟨vs, []⟩ = pure binds) (hnm : (scopeOf st).names = names)
    (hc : (names.all fun x => x.2 != .cell) = true) (hl : (binds.all fun x => names.lookup x.1 == some .local) = true) (hbn : (binds.map (·.1)).Nodup)
    (h : ∀ (A : Around) (env : Env) (s : Shared) (h₁ : Heap) (tk₁ : Nat) (m₀ cm₀ : Str → Option Value) (Q : Flow → Shared → Prop) (E : Value → Shared → Prop), AOK A d → EnvOK env env.locals [] names → Ext H s.heap → (∀ x v, binds.lookup x = some v → m₀ x = some v) → St env s.heap m₀ cm₀ h₁ → Owes s R Q →
      wpAny (model prog w) A (execs (bodyOf st) env) Q E { s with heap := h₁, toks := tk₁ })
    (hco : (scopeOf st).isCoroutine = false) (hgen : (scopeOf st).isGenerator = false) (hk : (scopeOf st).kind = .function) : CallP prog w (.ref f) vs H (d + 1) R :=
  fun _ _ _ s a y q => call_def F lim a y names binds hbind hnm hc hl hbn (fun A env h₁ tk₁ m₀ cm₀ Q' E' a O hm S b => h A env s h₁ tk₁ m₀ cm₀ Q' E' a O y hm S fun v h' tk k r => b _ _ (q v h' tk k r)) hco hgen hk
theorem fnQC (F : FnAt H f name st) (lim : H.NoLimit) (names : List (Str × NameKind)) (binds : List (Str × Value)) (cs : Addr → List (Str × Addr))
    (hbind : ∀ doc pm an cd ct, bindArgs (fnOf name name (paramsOf st) (bodyOf st) (scopeOf st) .none .none doc pm an cd ct) ⟨vs, []⟩ = pure binds) (hnm : (scopeOf st).names = names)
    (hl : (binds.all fun x => names.lookup x.1 == some .local || (names.lookup x.1 == some .cell && ((cellsFrom 0 names []).lookup x.1).isSome)) = true) (hnd : ((cellsFrom 0 names []).map (·.1)).Nodup) (hcs : ∀ L, cellsFrom (L + 1) names [] = cs L)
    (m₀ cm₀ : List (Str × Value)) (hm₀ : ∀ p ∈ m₀, bindL (fun x => names.lookup x) binds (fun _ => none) p.1 = some p.2) (hc₀ : ∀ p ∈ cm₀, bindC (fun x => names.lookup x) binds (fun _ => none) p.1 = some p.2)
    (h : ∀ (A : Around) (env : Env) (s : Shared) (h₁ : Heap) (tk₁ : Nat) (m cm : Str → Option Value) (Q : Flow → Shared → Prop) (E : Value → Shared → Prop), AOK A d → EnvOK env env.locals (cs env.locals) names → Ext H s.heap → (∀ x v, m₀.lookup x = some v → m x = some v) → (∀ x v, cm₀.lookup x = some v → cm x = some v) → St env s.heap m cm h₁ → Owes s R Q →
      wpAny (model prog w) A (execs (bodyOf st) env) Q E { s with heap := h₁, toks := tk₁ })
    (hco : (scopeOf st).isCoroutine = false) (hgen : (scopeOf st).isGenerator = false) (hk : (scopeOf st).kind = .function) : CallP prog w (.ref f) vs H (d + 1) R :=
  fun _ _ _ s a y q => call_defC F lim a y names binds cs hbind hnm hl hnd hcs m₀ cm₀ hm₀ hc₀ (fun A env h₁ tk₁ m cm Q' E' a O hm hc S b => h A env s h₁ tk₁ m cm Q' E' a O y hm hc S fun v h' tk k r => b _ _ (q v h' tk k r)) hco hgen hk
end
section
variable {prog : Program} {w : World} {A : Around} {env : Env} {H : Heap} {m cm : Str → Option Value} {s : Shared} {Q : Flow → Shared → Prop} {E : Value → Shared → Prop} {rest body : List Stmt} {pos : Pos} {h₀ : Heap} {tk₀ : Nat}
theorem ifQ {test : PySem.Expr} {body orelse : List Stmt} (b : Bool) (ht : EvT prog w A env h₀ test b)
    (next : ∀ h' tk (Q' : Flow → Shared → Prop), Ext h₀ h' → Back Q Q' → (∀ s', wpAny (model prog w) A (execs rest env) Q E s' → Q' .next s') → wpAny (model prog w) A (execs (if b then body else orelse) env) Q' E { s with heap := h', toks := tk }) :
    wpAny (model prog w) A (execs (.If test body orelse pos :: rest) env) Q E { s with heap := h₀, toks := tk₀ } :=
  st_if ht fun h' tk y => next h' tk _ y (fun _ _ q => q) fun _ q => q
end
end Mine
end

noncomputable section
open PySem PySem.W PySem.Calls PyProof.Rows
namespace Mine
noncomputable def nl (l : List Nat) : List Int := l.map fun (n : Nat) => (n : Int)
theorem nl_get (l : List Nat) (i : Nat) : (nl l).getD i 0 = ((l.getD i 0 : Nat) : Int) := by
  unfold nl
  rw [List.getD_eq_getElem?_getD, List.getD_eq_getElem?_getD, List.getElem?_map]
  cases l[i]? <;> rfl
theorem nl_set (l : List Nat) (i n : Nat) : (nl l).set i (n : Int) = nl (l.set i n) := (List.map_set (f := fun n : Nat => (n : Int)) (l := l) (i := i) (a := n)).symm
theorem nl_len (l : List Nat) : (nl l).length = l.length := List.length_map ..
theorem bit_nat (x i : Nat) : bit (x : Int) (i : Int) = x.testBit i := by
  have e : ((x : Int)).fdiv (2 ^ ((i : Int)).toNat) = ((x / 2 ^ i : Nat) : Int) := by
    rw [Int.toNat_natCast, Int.fdiv_eq_ediv_of_nonneg _ (Int.le_of_lt (Int.pow_pos (by decide)))]
    simp
  unfold bit
  rw [e]
  show (((x / 2 ^ i &&& 1 : Nat) : Int) != 0) = _
  rw [Nat.testBit, Nat.shiftRight_eq_div_pow, Nat.and_comm]
  cases h : 1 &&& x / 2 ^ i <;> rfl
theorem set_get (l : List Nat) (i n j : Nat) (h : i < l.length) : (l.set i n).getD j 0 = if i = j then n else l.getD j 0 := by
  rw [List.getD_eq_getElem?_getD, List.getD_eq_getElem?_getD, List.getElem?_set]
  by_cases q : i = j
  · rw [if_pos q, if_pos q, if_pos h]; rfl
  · rw [if_neg q, if_neg q]
structure NI (k j : Nat) (nn : List Nat) : Prop where
  len : nn.length = 6
  rg : ∀ a < 6, nn.getD a 0 < 64
  sy : ∀ b < 6, ∀ a < b, (nn.getD a 0).testBit b = ((nn.getD b 0).testBit a && (decide (b < k) || (b == k && decide (a < j))))
  dg : ∀ b < 6, (nn.getD b 0).testBit b = true
  up : ∀ b < 6, k < b → nn.getD b 0 = 2 ^ b
theorem add_bit : ∀ x < 64, ∀ k < 6, x.testBit k = false → x + 2 ^ k < 64 ∧ ∀ i < 6, (x + 2 ^ k).testBit i = (x.testBit i || i == k) := by decide +kernel
theorem row_bit : ∀ k < 6, ∀ r < 2 ^ k, 2 ^ k + r < 64 ∧ (2 ^ k + r).testBit k = true ∧ ∀ b < 6, k < b → (2 ^ k + r).testBit b = false := by decide +kernel
theorem NI.start : NI 1 0 [1, 2, 4, 8, 16, 32] := ⟨rfl, by decide, by decide, by decide, by decide⟩
theorem NI.row {k r : Nat} {nn : List Nat} (x : NI k 0 nn) (hk : k < 6) (hr : r < 2 ^ k) : NI k 0 (nn.set k (2 ^ k + r)) := by
  obtain ⟨h1, h2, h3⟩ := row_bit k hk r hr
  have g := fun j => set_get nn k (2 ^ k + r) j (by rw [x.len]; exact hk)
  refine ⟨by rw [List.length_set]; exact x.len, fun a ha => ?_, fun b hb a hab => ?_, fun b hb => ?_, fun b hb hkb => ?_⟩
  · rw [g]; split; exact h1; exact x.rg a ha
  · have := x.sy b hb a hab
    rw [g, g]
    by_cases e : k = a
    · subst e
      rw [if_pos rfl, h3 b hb hab, if_neg (by omega), show decide (b < k) = false from decide_eq_false (by omega), show (b == k) = false from beq_eq_false_iff_ne.mpr (by omega)]
      simp
    · rw [if_neg e, this]
      by_cases e' : k = b
      · subst e'; simp
      · rw [if_neg e']
  · rw [g]; split
    · rename_i e; rw [← e]; exact h2
    · exact x.dg b hb
  · rw [g, if_neg (by omega)]; exact x.up b hb hkb
theorem NI.hit {k j : Nat} {nn : List Nat} (x : NI k j nn) (hk : k < 6) (hj : j < k) (h : (nn.getD k 0).testBit j = true) : NI k (j + 1) (nn.set j (nn.getD j 0 + 2 ^ k)) := by
  have hn : (nn.getD j 0).testBit k = false := by rw [x.sy k hk j hj]; simp
  obtain ⟨h1, h2⟩ := add_bit _ (x.rg j (by omega)) k hk hn
  have g := fun i => set_get nn j (nn.getD j 0 + 2 ^ k) i (by rw [x.len]; omega)
  have gb : ∀ a b, b < 6 → ((nn.set j (nn.getD j 0 + 2 ^ k)).getD a 0).testBit b = ((nn.getD a 0).testBit b || (j == a && b == k)) := fun a b hb => by
    rw [g]
    by_cases e : j = a
    · rw [if_pos e, h2 b hb, e, beq_self_eq_true, Bool.true_and]
    · rw [if_neg e, beq_eq_false_iff_ne.mpr e, Bool.false_and, Bool.or_false]
  refine ⟨by rw [List.length_set]; exact x.len, fun a ha => ?_, fun b hb a hab => ?_, fun b hb => ?_, fun b hb hkb => ?_⟩
  · rw [g]; split; exact h1; exact x.rg a ha
  · rw [gb a b hb, gb b a (by omega), x.sy b hb a hab]
    by_cases e : b = k
    · subst e
      rw [show (j == b) = false from beq_eq_false_iff_ne.mpr (by omega)]
      by_cases e' : j = a
      · subst e'; rw [h]; simp
      · have : (decide (a < j + 1)) = decide (a < j) := by rw [decide_eq_decide]; omega
        rw [this, show (j == a) = false from beq_eq_false_iff_ne.mpr (by omega)]; simp
    · have : (a == k) = false ∨ b = j → (j == b && a == k) = false := fun q => by
        rcases q with q | q
        · rw [q, Bool.and_false]
        · rw [show (a == k) = false from beq_eq_false_iff_ne.mpr (by omega), Bool.and_false]
      have h3 : (j == b && a == k) = false := by
        by_cases q : b = j
        · exact this (.inr q)
        · rw [show (j == b) = false from beq_eq_false_iff_ne.mpr (by omega), Bool.false_and]
      rw [h3, beq_eq_false_iff_ne.mpr e]; simp
  · rw [gb b b hb, x.dg b hb, Bool.true_or]
  · rw [g, if_neg (by omega)]; exact x.up b hb hkb
theorem NI.miss {k j : Nat} {nn : List Nat} (x : NI k j nn) (h : (nn.getD k 0).testBit j = false) : NI k (j + 1) nn := by
  refine ⟨x.len, x.rg, fun b hb a hab => ?_, x.dg, x.up⟩
  rw [x.sy b hb a hab]
  by_cases e : b = k
  · subst e
    by_cases e' : a = j
    · subst e'; rw [h]; simp
    · have : (decide (a < j + 1)) = decide (a < j) := by rw [decide_eq_decide]; omega
      rw [this]
  · rw [beq_eq_false_iff_ne.mpr e]; simp
theorem NI.next {k : Nat} {nn : List Nat} (x : NI k k nn) : NI (k + 1) 0 nn := by
  refine ⟨x.len, x.rg, fun b hb a hab => ?_, x.dg, fun b hb h => x.up b hb (by omega)⟩
  rw [x.sy b hb a hab]
  by_cases e : b = k
  · subst e; simp [hab]
  · have : (decide (b < k + 1)) = decide (b < k) := by rw [decide_eq_decide]; omega
    rw [this, beq_eq_false_iff_ne.mpr e]; simp
structure Town (nn : List Nat) : Prop where
  len : nn.length = 6
  rg : ∀ a < 6, nn.getD a 0 < 64
  dg : ∀ a < 6, (nn.getD a 0).testBit a = true
  sy : ∀ a < 6, ∀ b < 6, (nn.getD a 0).testBit b = (nn.getD b 0).testBit a
theorem NI.town {nn : List Nat} (x : NI 6 0 nn) : Town nn := by
  refine ⟨x.len, x.rg, x.dg, fun a ha b hb => ?_⟩
  rcases Nat.lt_trichotomy a b with h | h | h
  · rw [x.sy b hb a h]; simp [hb]
  · rw [h]
  · rw [x.sy a ha b h]; simp [ha]
end Mine
end

noncomputable section
open PySem PySem.W PySem.Calls PyProof.Rows
set_option maxRecDepth 100000
set_option maxHeartbeats 1000000
namespace Mine
section
variable {prog : Program} {w : World} {mg mb : Str → Option Value} {H : Heap}

theorem spots_ok (B : Base prog w mg mb H) (fl : Int) (t : Tok) : CallP prog w (.ref 141) [.int fl t] H 1 (NewLI H ((rng 0 6).filter (bit fl))) := by
  refine fnQC (B.at (n := "_law_spots") (i := 62) (by decide)) B.lim [("flags", .cell), ("range", .globalImplicit)] [("flags", .int fl t)] (fun L => [("flags", L + 1)]) (fun _ _ _ _ _ => rfl) rfl rfl (by decide) (fun _ => rfl) [] [("flags", .int fl t)] (fun _ h => nomatch h) (by rintro _ ⟨⟩; rfl; contradiction) ?_ rfl rfl rfl
  intro A env s h₁ tk₁ m cm Q E a O y _ hc S q
  have hf := hc "flags" _ rfl
  refine st_ret (evcomp [("flags", env.locals + 1)] (bit fl) (fun n => n) O S.rd (src_range1 a.hh (vB (B.ext (y.trans S.ext)) O) ev_int (by decide) (by decide)) ?_ ?_) ?_
  · intro env' H' m' n u hn k O' R' hm
    exact tests_one (evT_val (ev_and (ev_shr (nC O' R' hf) (nL O' R' hm) (rng_in hn).1) ev_int))
  · intro env' H' m' n u hn _ k O' R' hm
    exact nL O' R' hm
  · rintro v h' tk k ⟨a, rfl, ha, l⟩
    exact q _ h' tk (S.ext.trans k) ⟨a, rfl, ext_none (y.trans (S.ext)) ha, by rwa [List.map_id'] at l⟩

theorem iseof_ok (B : Base prog w mg mb H) (x : Int) (t : Tok) : CallP prog w (.ref 122) [.int x t] H 1 (IsB (x == 0)) := by
  refine fnQ (B.at (n := "ISEOF") (i := 58) (by decide)) B.lim [("x", .local), ("ENDMARKER", .globalImplicit)] [("x", .int x t)] (fun _ _ _ _ _ => rfl) rfl rfl rfl (of_decide_eq_true rfl) ?_ rfl rfl rfl
  intro A env s h₁ tk₁ m cm Q E a O y hm S q
  obtain ⟨u, hu⟩ := B.em
  have Bs := B.ext (y.trans S.ext)
  have em : ∀ pos, Ev prog w A env h₁ (.Name "ENDMARKER" pos) (IsI 0) := fun pos Q E s y q =>
    Name_function_global O.kind (O.of rfl) (loadGlobal_global (by rw [O.glob]; exact Bs.g.keeps y) hu (q _ s.heap s.toks (Ext.refl _) ⟨u, rfl⟩))
  refine st_ret (ev_cmp (c := x == 0) (nL O S.rd (hm _ _ rfl)) (em _) (fun _ _ _ _ _ q => PySem.P.eq_int q)) ?_
  rintro v h' tk k rfl
  exact q _ h' tk (S.ext.trans k) rfl
end
end Mine
end

noncomputable section
open PySem PySem.W PySem.Calls PyProof.Rows
set_option maxRecDepth 100000
set_option maxHeartbeats 1000000
namespace Mine
noncomputable def domI (near : List Int) (left turn u v : Int) : Bool := u != v && (turn * Builtin.bitAnd (Builtin.bitAnd left (near.getD u.toNat 0)) (63 - near.getD v.toNat 0) == 0)
noncomputable def firstOf (near : List Int) (left turn u : Int) (vs : List Int) : Option (List Int) := (vs.find? (domI near left turn u)).map fun v => [u, v]
noncomputable def cornerI (near : List Int) (left turn : Int) (spots us : List Int) : List Int := (us.findSome? fun u => firstOf near left turn u spots).getD []
noncomputable def corner (near : List Int) (left turn : Int) (order : List Int) : List Int := cornerI near left turn (order.filter (bit left)) (order.filter (bit left))
theorem mem_take_succ {α : Type} {l : List α} {j : Nat} {v x : α} (hv : l[j]? = some v) (h : x ∈ l.take (j + 1)) : x ∈ l.take j ∨ x = v := by
  rw [List.take_add_one, hv] at h
  rcases List.mem_append.mp h with h | h
  · exact .inl h
  · exact .inr (by simpa using h)
theorem split_at {α : Type} {l : List α} {j : Nat} {v : α} (hv : l[j]? = some v) : l = l.take j ++ v :: l.drop (j + 1) := by
  have hlt : j < l.length := (List.getElem?_eq_some_iff.mp hv).1
  have e : l[j] = v := (List.getElem?_eq_some_iff.mp hv).2
  exact (List.take_append_drop j l).symm.trans (by rw [List.drop_eq_getElem_cons hlt, e])
theorem firstOf_hit {near spots : List Int} {left turn u v : Int} {j : Nat} (hv : spots[j]? = some v) (hno : ∀ x ∈ spots.take j, domI near left turn u x = false) (h : domI near left turn u v = true) : firstOf near left turn u spots = some [u, v] := by
  unfold firstOf
  rw [split_at hv, List.find?_append, List.find?_eq_none.mpr (fun x hx => by rw [hno x hx]; exact Bool.false_ne_true), List.find?_cons, h]
  rfl
theorem firstOf_no {near spots : List Int} {left turn u : Int} (hno : ∀ x ∈ spots, domI near left turn u x = false) : firstOf near left turn u spots = none := by
  unfold firstOf
  rw [List.find?_eq_none.mpr (fun x hx => by rw [hno x hx]; exact Bool.false_ne_true)]
  rfl
theorem cornerI_hit {near spots us r : List Int} {left turn u : Int} {i : Nat} (hu : us[i]? = some u) (hno : ∀ x ∈ us.take i, firstOf near left turn x spots = none) (h : firstOf near left turn u spots = some r) : cornerI near left turn spots us = r := by
  unfold cornerI
  have e : us.findSome? (fun u => firstOf near left turn u spots) = some r := by
    rw [split_at hu, List.findSome?_append, List.findSome?_eq_none_iff.mpr hno, List.findSome?_cons, h]
    rfl
  rw [e]; rfl
theorem cornerI_no {near spots us : List Int} {left turn : Int} (hno : ∀ x ∈ us, firstOf near left turn x spots = none) : cornerI near left turn spots us = [] := by
  unfold cornerI
  rw [List.findSome?_eq_none_iff.mpr hno]; rfl

section
variable {prog : Program} {w : World} {mg mb : Str → Option Value} {H : Heap}
theorem corner_ok (B : Base prog w mg mb H) {ln lo : Addr} {near order : List Int} (hn : LI ln near H) (ho : LI lo order H) (left turn : Int) (tl tt : Tok) (hlen : near.length = 6) (hord : ∀ k ∈ order, 0 ≤ k ∧ k < 6) (hol : order.length ≤ 1000) (htu : Builtin.Int.intBits turn ≤ 64) :
    CallP prog w (.ref 146) [.ref ln, .int left tl, .ref lo, .int turn tt] H 2 (NewLI H (corner near left turn order)) := by
  refine fnQC (B.at (n := "_law_corner") (i := 63) (by decide)) B.lim _ [("near", .ref ln), ("left", .int left tl), ("order", .ref lo), ("turn", .int turn tt)] (fun L => [("left", L + 1)]) (fun _ _ _ _ _ => rfl) rfl rfl (by decide) (fun _ => rfl)
    [("near", .ref ln), ("order", .ref lo), ("turn", .int turn tt)] [("left", .int left tl)] (by simp only [List.forall_mem_cons]; exact ⟨rfl, rfl, rfl, fun _ h => nomatch h⟩) (by simp only [List.forall_mem_cons]; exact ⟨rfl, fun _ h => nomatch h⟩) ?_ rfl rfl rfl
  intro A env s h₁ tk₁ m₀ cm₀ Q E a O y hm₀ hc₀ S q
  have mn := hm₀ "near" _ rfl
  have mo := hm₀ "order" _ rfl
  have mt := hm₀ "turn" _ rfl
  have ml := hc₀ "left" _ rfl
  have x₀ := y.trans S.ext
  refine stcomp [("left", env.locals + 1)] (bit left) (fun n => n) O S (src_LI a.hh (vL O S.rd mo) (ho.ext x₀)) ?_ ?_ ?_ (hlen := hol)
  · intro env' H' m' n u hk k O' R' hm
    exact tests_one (evT_val (ev_and (ev_shr (nC O' R' ml) (nL O' R' hm) (hord n hk).1) ev_int))
  · intro env' H' m' n u hk _ k O' R' hm
    exact nL O' R' hm
  rw [List.map_id']
  intro D h₂ H₂ tk₂ S₂ x₂ hD hl
  have mn : upd m₀ "spots" (.ref D) "near" = _ := (upd_ne (by decide)).trans mn
  have mt : upd m₀ "spots" (.ref D) "turn" = _ := (upd_ne (by decide)).trans mt
  have ms : upd m₀ "spots" (.ref D) "spots" = _ := upd_self
  revert mn mt ms S₂
  generalize upd m₀ "spots" (.ref D) = m₂
  intro S₂ mn mt ms
  have hsp : ∀ k ∈ order.filter (bit left), 0 ≤ k ∧ k < 6 := fun k hk => hord k (List.mem_filter.mp hk).1
  have he : ∀ {r}, cornerI near left turn (order.filter (bit left)) (order.filter (bit left)) = r → corner near left turn order = r := fun h => h
  revert hl hsp he
  generalize order.filter (bit left) = spots
  intro hl hsp he
  have lDG : ∃ o, H₂.get? D = some o := by obtain ⟨_, ⟨_, e, _⟩, _⟩ := hl; exact ⟨_, e⟩
  have nn : ∀ {k : Int}, k ∈ spots → k < near.length := fun hk => by rw [hlen]; exact (hsp _ hk).2
  have n63 : ∀ {k : Int}, k ∈ spots → k < 2 ^ 63 := fun hk => by have := (hsp _ hk).2; omega
  refine forQ0 (fun i m cm => Same ["u", "v"] m₂ m ∧ cm "left" = some (.int left tl) ∧ ∀ u ∈ spots.take i, firstOf near left turn u spots = none) S₂ O.kind (O.of rfl) (src_LI a.hh (vL O S₂.rd ms) (hl.ext S₂.ext)) (fun b hb => List.mem_singleton.mp hb ▸ lDG) ⟨Same.refl, ml, fun _ h => nomatch h⟩ ?_ ?_
  · rintro i _ h₃ tk₃ H₃ m₃ cm₃ Q₃ E₃ hi ⟨u, tu, hu, rfl⟩ x₃ ⟨hm, ml3, hno⟩ S₃ b₃ n₃
    have hus : u ∈ spots := List.mem_of_getElem? hu
    refine forQ0 (fun j m cm => Same ["u", "v"] m₂ m ∧ m "u" = some (.int u tu) ∧ cm "left" = some (.int left tl) ∧ ∀ v ∈ spots.take j, domI near left turn u v = false) S₃ O.kind (O.of rfl) (src_LI a.hh (vL O S₃.rd (hm.upd.get ms)) ((hl.ext x₃).ext S₃.ext)) (fun b hb => List.mem_singleton.mp hb ▸ lDG.imp fun _ e => x₃ _ _ e) ⟨hm.upd, upd_self, ml3, fun _ h => nomatch h⟩ ?_ ?_
    · rintro j _ h₄ tk₄ H₄ m₄ cm₄ Q₄ E₄ hj ⟨v, tv, hv, rfl⟩ x₄ ⟨hm', hmu, ml4, hno'⟩ S₄ b₄ n₄
      have hvs : v ∈ spots := List.mem_of_getElem? hv
      have hm4 := hm'.upd (x := "v") (v := .int v tv)
      have hu4 : upd m₄ "v" (.int v tv) "u" = some (.int u tu) := hmu
      have xs := x₂.trans (x₃.trans (x₄.trans S₄.ext))
      have hn4 : LI ln near h₄ := hn.ext (y.trans xs)
      have B4 : Base prog w mg mb h₄ := B.ext (y.trans xs)
      refine ifQ (domI near left turn u v) ?_ ?_
      · refine evT_and2 (b := u != v) (evT_ne (nL O S₄.rd hu4) (nL O S₄.rd upd_self)) fun _ => ?_
        refine evT_bool (ev_fn (f := 122) (i := 58) (d := 1) B4 O (a.less (by decide)) (Rs := [IsI _]) (args_cons (ev_mul (nL O S₄.rd (hm4.get mt)) (ev_and (ev_and (nC O S₄.rd ml4) (ev_item (vL O S₄.rd (hm4.get mn)) hn4 (nL O S₄.rd hu4) (hsp u hus).1 (nn hus) (n63 hus))) (ev_sub ev_int (ev_item (vL O S₄.rd (hm4.get mn)) hn4 (nL O S₄.rd upd_self) (hsp v hvs).1 (nn hvs) (n63 hvs)))) (IntMulOk.of_left htu)) mono_I args_nil) ?_)
        rintro _ h' _ ⟨_, _, rfl, ⟨t', rfl⟩, rfl⟩
        exact iseof_ok (B4.ext ‹_›) _ t'
      · intro h₅ tk₅ Q₅ x₅ b₅ n₅
        have S₅ := S₄.keep x₅
        have xs := xs.trans x₅
        cases hd : domI near left turn u v with
        | true =>
          refine st_ret (ev_listI (ns := [u, v]) (args_cons (nL O S₅.rd hu4) mono_I (args_cons (nL O S₅.rd upd_self) mono_I args_nil)) (by simp)) ?_
          rintro _ h' tk k ⟨b, rfl, hb, l⟩
          have e : corner near left turn order = [u, v] := he (cornerI_hit hu hno (firstOf_hit hv hno' hd))
          exact b₅ _ _ (b₄ _ _ (b₃ _ _ (q _ h' tk (xs.trans k) ⟨b, rfl, ext_none (y.trans xs) hb, e ▸ l⟩)))
        | false =>
          refine wpAny_execs_nil (n₅ _ (wpAny_execs_nil (n₄ _ _ _ _ _ S₅ (Ext.refl _) ⟨hm4, hu4, ml4, fun x hx => ?_⟩)))
          rcases mem_take_succ hv hx with hx | rfl
          · exact hno' x hx
          · exact hd
    · rintro h₄ tk₄ H₄ m₄ cm₄ S₄ x₄ ⟨hm', _, ml4, hno'⟩
      rw [List.take_length] at hno'
      refine wpAny_execs_nil (n₃ _ _ _ _ _ S₄ x₄ ⟨hm', ml4, fun x hx => ?_⟩)
      rcases mem_take_succ hu hx with hx | rfl
      · exact hno x hx
      · exact firstOf_no hno'
  · rintro h₃ tk₃ H₃ m₃ cm₃ S₃ x₃ ⟨hm, _, hno⟩
    refine st_ret (ev_listI (ns := []) args_nil (by decide)) ?_
    rintro v h' tk k ⟨b, rfl, hb, l⟩
    have xs := x₂.trans (x₃.trans S₃.ext)
    rw [List.take_length] at hno
    exact q _ h' tk (xs.trans k) ⟨b, rfl, ext_none (y.trans xs) hb, he (cornerI_no hno) ▸ l⟩
end
end Mine
end

noncomputable section
open PySem PySem.W PySem.Calls PyProof.Rows
set_option maxRecDepth 100000
namespace Mine

noncomputable def IsSeq (h : Heap) (a : Addr) (items : Array Value) : Prop := ∃ o, h.get? a = some o ∧ ∃ n, o.data = .seq items n
theorem IsSeq.at {h h' : Heap} {a : Addr} {items : Array Value} (x : IsSeq h a items) (k : ∀ o, h.get? a = some o → h'.get? a = some o) : IsSeq h' a items := let ⟨o, e, r⟩ := x; ⟨o, k o e, r⟩
noncomputable abbrev accObj (dx : Addr) (items : Array Value) (n : Nat) : Obj := { cls := .ref 108, dict := some dx, data := .seq items n }
noncomputable def AD (dx : Addr) (h : Heap) : Prop := ∃ md, h.Ns dx md ∧ ∀ nm ∈ (["push", "pop", "append", "part_count"] : List Str), md nm = none
noncomputable def Acc (x dx : Addr) (items : List Value) (h : Heap) : Prop := ∃ n, h.get? x = some (accObj dx items.toArray n) ∧ AD dx h
theorem Acc.seq {x dx : Addr} {items : List Value} {h : Heap} (a : Acc x dx items h) : IsSeq h x items.toArray := let ⟨n, e, _⟩ := a; ⟨_, e, n, rfl⟩
theorem AD.ext {dx : Addr} {H h : Heap} (a : AD dx H) (k : Ext H h) : AD dx h := let ⟨m, e, r⟩ := a; ⟨m, e.keeps k, r⟩
theorem Acc.ext {x dx : Addr} {items : List Value} {H h : Heap} (a : Acc x dx items H) (k : Ext H h) : Acc x dx items h := let ⟨n, e, r⟩ := a; ⟨n, k _ _ e, r.ext k⟩

section
variable {prog : Program} {w : World} {A : Around} {E : Value → Shared → Prop} {s : Shared} {K : Frag}
theorem acc_type {M : Model} {x dx : Addr} {items : List Value} {h : Heap} (a : Acc x dx items h) : Looks M h (typeOf (.ref x)) (.ref 108) := by
  obtain ⟨n, e, _⟩ := a
  exact (Looks.ld e).andThen .now
theorem acc_list {M : Model} {prog : Program} {x dx : Addr} {items : List Value} {h : Heap} (X : K.In h) (k : AccK prog K) (a : Acc x dx items h) : Looks M h (isInstance (.ref x) (.type "list")) true :=
  (acc_type a).andThen (looks_mroIn X k.list)
theorem acc_call {x dx : Addr} {items : List Value} {i n : String} {b : Builtin} {rest : List Value} {Q : Value → Shared → Prop} (X : K.In s.heap) (k : AccK prog K) (a : Acc x dx items s.heap)
    (hk : builtinKind i = some .slot ∨ builtinKind i = some .method) (hs : splitId i = some ("list", n)) (hp : plainId i = true) (hb : entryFor table i = some b) (ha : argsOk i ⟨.ref x :: rest, []⟩)
    (hc : wpAny (model prog w) A.in1 (b ⟨.ref x :: rest, []⟩) (fun fin s' => ∃ v, fin = .done (.ret v) ∧ Q v s') E s) : wpAny (model prog w) A (call (.builtin i) (.ref x :: rest)) Q E s := by
  refine wpAny_call (codeAny_call_builtin hp hb ?_)
  have hc' := wpAny_mono hc (Q' := fun fin s' => match fin with
      | .done f => (match (Except.ok f : Result) with | .ok (.ret v) => Q v s' | .ok _ => False | .error e => E e s')
      | .again c' => c'.quiet = true ∧ codeAny (model prog w) A c' (fun r s' => match r with | .ok (.ret v) => Q v s' | .ok _ => False | .error e => E e s') s')
    (fun fin s' h' => by obtain ⟨v, rfl, hv⟩ := h'; exact hv) fun _ _ h' => h'
  have inst := acc_list (M := model prog w) X k a
  rcases hk with hk | hk <;>
  · simp only [checkBuiltinCall, hk, hs]
    refine wpAny_bind (inst.here ?_)
    simp (iota := false) only [Bool.not_true, Bool.false_eq_true, if_false]
    cases hsig : Manifest.signature? i with
    | none => exact wpAny_pure hc'
    | some sig =>
      simp only [argsOk, hsig] at ha
      have h2 : Bind.checkArgs i sig ⟨.ref x :: rest, []⟩ = pure () := ha
      show wpAny _ _ (Bind.checkArgs i sig ⟨.ref x :: rest, []⟩) _ _ s
      rw [h2]; exact wpAny_pure hc'

theorem acc_iter {x dx : Addr} {items : List Value} {Q : Value → Shared → Prop} (X : K.In s.heap) (k : AccK prog K) (a : Acc x dx items s.heap)
    (hQ : Q (.ref s.heap.objs.size) { s with heap := s.heap.push { cls := .type "list_iterator", data := .fields #[.ref x, .int 0 0] } }) : wpAny (model prog w) A (pyIter (.ref x)) Q E s := by
  unfold pyIter
  have sp : Looks (model prog w) s.heap (specialOf (.ref x) "__iter__") (some (.builtin "list.__iter__")) := (acc_type a).andThen (looks_findIn X (k.tab ("__iter__", _) (by decide)))
  refine wpAny_bind (sp.here ?_)
  have fin : wpAny (model prog w) A (call (.builtin "list.__iter__") [.ref x]) (fun it s' => ∃ T' r, s'.TypeIs it T' ∧ typeLookup (.type T') "__next__" = pure (some r) ∧ Q it s') E s := by
    refine acc_call X k a (n := "__iter__") (.inl (by decide +kernel)) (by decide +kernel) slot_list_iter.plain entry_list_iter (args_list_iter _) ?_
    show wpAny _ _ (do ret (← newFields "list_iterator" [.ref x, rawInt 0])) _ _ s
    exact wpAny_bind (wpAny_newObj_type (wpAny_pure ⟨_, rfl, "list_iterator", _, ⟨_, Heap.get?_push_size _ rfl, rfl⟩, slot_listiter_next.lookup, hQ⟩))
  show wpAny _ _ (callSpecialIfBoundUnlessNone? (.ref x) "__iter__" _ >>= _) _ _ s
  refine wpAny_bind ?_
  simp (iota := false) only [callSpecialIfBoundUnlessNone?, bindSpecialIfBound?]
  refine wpAny_holding (wpAny_bind (wpAny_bind (sp.here ?_)))
  dsimp only; simp (iota := false) only [slot_list_iter.bind]
  have fin' : wpAny (model prog w) A (if (Value.builtin "list.__iter__" == Value.none) = true then ((do rule "iter.none"; raiseError "TypeError" s!"'{← typeNameOf (.ref x)}' object is not iterable") >>= fun v => pure (some v)) else (call (.builtin "list.__iter__") [.ref x] >>= fun v => pure (some v)))
      (fun a s' => wpAny (model prog w) A (match a with
        | some it => (do match ← specialOf it "__next__" with
            | none => rule "iter.non-iterator"; raiseError "TypeError" s!"iter() returned non-iterator of type '{← typeNameOf it}'"
            | some _ => pure it)
        | none => (do match ← bindSpecialIfBound? (.ref x) "__getitem__" with
            | none => rule "iter.not-iterable"; raiseError "TypeError" s!"'{← typeNameOf (.ref x)}' object is not iterable"
            | some _ => rule "iter.getitem-fallback"; newFields "iterator" [.ref x, ← mkInt 0])) Q E s') E s := by
    simp (iota := false) only [builtin_beq_none, Bool.false_eq_true, if_false]
    refine wpAny_bind (wpAny_mono fin (fun it s' h' => ?_) fun _ _ e => e)
    obtain ⟨T', r, hT', hl, hq⟩ := h'
    exact wpAny_pure (wpAny_bind (wpAny_specialOf hT' hl (wpAny_pure hq)))
  refine wpAny_bind (wpAny_askSetting (wpAny_ite ?_))
  split
  · exact wpAny_bind (wpAny_pure (wpAny_pure fin'))
  · exact wpAny_tryCatch (wpAny_bind (wpAny_pure (wpAny_pure fin')))
end
end Mine
end

noncomputable section
open PySem PySem.W PySem.Calls PyProof.Rows
set_option maxRecDepth 100000
namespace Mine
section
variable {prog : Program} {w : World} {A : Around} {E : Value → Shared → Prop} {s : Shared}
theorem it_step {it l : Addr} {i : Nat} {items : Array Value} {Q : Option Value → Shared → Prop} (hh : A.handled = none) (hit : s.heap.IsListIter it l i) (hl : IsSeq s.heap l items)
    (h1 : ∀ x h', items[i]? = some x → h'.IsListIter it l (i + 1) → Heap.SameBut it s.heap h' → Q (some x) { s with heap := h' })
    (h2 : items[i]? = none → ∀ h', Heap.ExtBut it s.heap h' → Q none { s with heap := h' }) : wpAny (model prog w) A (pyNext (.ref it)) Q E s := by
  obtain ⟨o, ho, hc, hd⟩ := id hit
  obtain ⟨ol, hol, nl, hdl⟩ := hl
  unfold pyNext
  refine wpAny_bind (wpAny_attempt (wpAny_callSpecial?_slot (name := Str.ofString "__next__") hit.typeIs slot_listiter_next (wpAny_call_entry slot_listiter_next hit.typeIs entry_listiter_next ?_ (args_listiter_next _))))
  refine wpAny_bind (m := field (.ref it) 0) (wpAny_field ho hd (x := .ref l) rfl ?_)
  refine (if_neg (c := (Value.ref l == Value.none) = true) Bool.false_ne_true).symm ▸ ?_
  refine wpAny_bind (m := field (.ref it) 1) (wpAny_field ho hd (x := .int i 0) rfl ?_)
  refine wpAny_bind (m := seqItems? (.ref l)) (wpAny_seqItems hol hdl ?_)
  cases hx : items[i]? with
  | some x =>
    simp only [Int.toNat_natCast, hx]
    refine wpAny_bind (wpAny_setField ho hd (by simp) (wpAny_pure ⟨x, rfl, wpAny_pure (h1 x _ hx ?_ (Heap.SameBut.update ..))⟩))
    exact ⟨_, Heap.get?_update_self _ ho (Obj.isFreed_of_fields (Obj.data_mapFields hd _)), (Obj.cls_mapFields ..).trans hc, by rw [Obj.data_mapFields hd]; simp [rawInt]⟩
  | none =>
    simp only [Int.toNat_natCast, hx]
    refine wpAny_bind (wpAny_rule (wpAny_bind (wpAny_setField ho hd (by simp) ?_)))
    refine wpAny_bind (m := newExc (.type "StopIteration") []) ?_
    simp only [newExc, newTuple]
    refine wpAny_bind (wpAny_newObj_type ?_ (by size_fits))
    refine wpAny_bind (m := firstArgMember _ _) (wpAny_of_eq (a := Value.none) (by first | rfl | (simp only [firstArgMember]; rfl)) ?_)
    refine wpAny_newObj_type ?_ (by size_fits)
    simp (iota := false) only [raiseNew]
    refine wpAny_bind (wpAny_handled ?_)
    rw [show A.in1.handled = none from hh]
    refine wpAny_bind (wpAny_pure (wpAny_throw ?_))
    refine wpAny_bind (wpAny_isInstance (T := "StopIteration") (b := true) ⟨_, Heap.get?_push_size _ rfl, rfl⟩ isSubtype_stop ?_)
    exact wpAny_pure (h2 hx _ (((Heap.SameBut.update ..).extBut.push _).push _))

theorem walks_seq (hh : A.handled = none) (I ax : Addr) (hne : ax ≠ I) (items : List Value) :
    Walks prog w A I [I, ax] [I] items.length (fun i v => items[i]? = some v) (fun i h => h.IsListIter I ax i ∧ IsSeq h ax items.toArray) where
  sub := fun b hb => by simp at hb; simp [hb]
  frame := fun _ _ _ st hk => ⟨st.1.at fun o e => hk I (by simp) o e, st.2.at fun o e => hk ax (by simp) o e⟩
  item := fun i s Q E hi st hQ => by
    refine it_step hh st.1 st.2 (fun x h' hx hit' hs' => ?_) (fun hx => ?_)
    · exact hQ _ h' s.toks (by simpa using hx) ⟨hit', st.2.at fun o e => hs'.extBut ax o hne e⟩ fun b o hb e => hs'.extBut b o (fun h => hb (by simp [h])) e
    · simp at hx; omega
  done := fun s Q E st hQ => by
    refine it_step hh st.1 st.2 (fun x h' hx hit' hs' => ?_) (fun hx h' he' => hQ h' s.toks fun b o hb e => he' b o (fun h => hb (by simp [h])) e)
    simp at hx
  self := fun _ _ _ _ st hQ => wpAny_pyIter_listiter st.1 hQ

theorem src_acc {env : Env} {H : Heap} {e : PySem.Expr} {x dx : Addr} {items : List Value} {K : Frag} (hh : A.handled = none) (X : K.In H) (k : AccK prog K) (he : Ev prog w A env H e (IsV (.ref x))) (a : Acc x dx items H) :
    Src prog w A env H e items.length (fun i v => items[i]? = some v) [x] := by
  intro Q E s y q
  refine he _ _ _ y ?_
  rintro _ h₁ tk₁ y₁ rfl
  have a₁ := a.ext (y.trans y₁)
  refine acc_iter (K := K) (fun b o e => y₁ _ _ (y _ _ (X b o e))) k a₁ ?_
  obtain ⟨n, ho, _⟩ := id a₁
  have hne : x ≠ h₁.objs.size := Nat.ne_of_lt (Heap.lt_size ho)
  refine q h₁.objs.size _ _ _ tk₁ (y₁.trans (ext_push _ _)) (size_none y₁) ⟨_, Heap.get?_push_size _ rfl⟩ (walks_seq hh _ x hne items) (fun i h ⟨⟨o, ho, hc, _⟩, _⟩ => ⟨o, _, ho, hc, by decide⟩)
    ⟨⟨_, Heap.get?_push_size _ rfl, rfl, rfl⟩, a₁.seq.at fun o e => Heap.get?_push_of_some _ e⟩ ?_
  intro b hb
  rcases List.mem_cons.mp hb with rfl | hb
  · exact .inl rfl
  · rw [List.mem_singleton.mp hb]
    exact .inr ⟨⟨_, Heap.get?_push_of_some _ ho⟩, .inl (.head _)⟩
end

noncomputable def Tup2 (h : Heap) (v a b : Value) : Prop := ∃ T, v = .ref T ∧ h.IsTuple T #[a, b]
theorem Tup2.ext {H h : Heap} {v a b : Value} (t : Tup2 H v a b) (k : Ext H h) : Tup2 h v a b := let ⟨T, e, x⟩ := t; ⟨T, e, x.at fun o q => k _ _ q⟩
section
variable {prog : Program} {w : World} {A : Around} {env : Env} {H : Heap} {m cm : Str → Option Value} {s : Shared} {Q : Flow → Shared → Prop} {E : Value → Shared → Prop} {rest body : List Stmt} {pos p1 p2 tp : Pos} {kk : Nat} {x y : Str} {iter : PySem.Expr}
theorem asg_pair {h₁ : Heap} {tk₁ : Nat} {v a b : Value} {Q' : Unit → Shared → Prop} (hh : A.handled = none) (S : St env H m cm h₁) (hk : env.scope.kind = .function) (hx : env.kindOf x = some .local) (hy : env.kindOf y = some .local) (ht : Tup2 h₁ v a b)
    (q : ∀ h₂ tk₂, St env H (upd (upd m x a) y b) cm h₂ → Q' () { s with heap := h₂, toks := tk₂ }) : wpAny (model prog w) A (assign (.Tuple [.Name x p1, .Name y p2] kk tp) env v) Q' E { s with heap := h₁, toks := tk₁ } := by
  obtain ⟨T, rfl, ht⟩ := ht
  refine kcp_assign hh ht hx hy (by rw [hk]; rfl) S.ns fun h' tk hn hkp => q h' tk ⟨hn, fun n c hm => ?_, fun b o e => hkp b o (fun q => by rw [q, S.offL] at e; cases e) (S.ext b o e), S.offL, S.offC, S.apart, S.above⟩
  obtain ⟨o, ho, hd⟩ := S.cl n c hm
  exact ⟨o, hkp c o (S.above n c hm) ho, hd⟩
end
end Mine
end

noncomputable section
open PySem PySem.W PySem.Calls PyProof.Rows
set_option maxRecDepth 100000
set_option maxHeartbeats 1000000
namespace Mine
noncomputable def FoldV (b : Nat) (h : Heap) (v : Value) (p : Nat × Nat) : Prop := ∃ t u, Tup2 h v (.str (sgn (b + p.1)) t) (.str (sgn (b + p.2)) u)
noncomputable def FoldVs (b : Nat) (h : Heap) (vs : List Value) (fs : List (Nat × Nat)) : Prop := vs.length = fs.length ∧ ∀ (i : Nat) (v : Value), vs[i]? = some v → ∃ p, fs[i]? = some p ∧ FoldV b h v p
theorem FoldV.ext {b : Nat} {H h : Heap} {v : Value} {p : Nat × Nat} (x : FoldV b H v p) (k : Ext H h) : FoldV b h v p := let ⟨t, u, y⟩ := x; ⟨t, u, y.ext k⟩
theorem FoldVs.ext {b : Nat} {H h : Heap} {vs : List Value} {fs : List (Nat × Nat)} (x : FoldVs b H vs fs) (k : Ext H h) : FoldVs b h vs fs := ⟨x.1, fun i v e => let ⟨p, e', y⟩ := x.2 i v e; ⟨p, e', y.ext k⟩⟩
noncomputable def holdN (fs : List (Nat × Nat)) (s : Nat) : Nat := fs.foldl (fun s p => if p.1 = s then p.2 else s) s

section
variable {prog : Program} {w : World} {mg mb : Str → Option Value} {H : Heap} {A : Around} {env : Env} {value slice : PySem.Expr} {pos : Pos}
theorem ev_tok (B : Base prog w mg mb H) {k : Nat} (hk : k < 20) (hv : Ev prog w A env H value (IsV (.ref 113))) (hs : Ev prog w A env H slice (IsS (sgn k)))
    (hq : ∀ x t, subscripted slice false (.ref 113) (.str x t) = operate [.ref 113, .str x t] (getItem (.ref 113) (.str x t)) := by intro _ _; with_unfolding_all rfl) : Ev prog w A env H (.Subscript value slice pos) (IsI ((7 + k : Nat) : Int)) := by
  intro Q E s y q
  obtain ⟨f, hm, hf⟩ := B.tok
  obtain ⟨t, hft⟩ := hf k hk
  refine Subscript_ (hv _ _ _ y ?_)
  rintro _ h₁ tk₁ y₁ rfl
  refine hs _ _ _ (y.trans y₁) ?_
  rintro _ h₂ tk₂ y₂ ⟨u, rfl⟩
  have hm' := Heap.MapOf.at hm fun o e => ((y.trans y₁).trans y₂) _ _ e
  refine tail_any (s := { s with heap := h₂, toks := tk₂ }) hm'.typeIs slot_dict_getitem.lookup (wpAny_getItem_of (key := .str (sgn k) u) (k := sgn k) (by simp [PySem.strKind, Value.isStrOf]) hm' hft ?_) (hq _ _)
  exact q _ h₂ _ (y₁.trans y₂) ⟨t, rfl⟩

theorem hold_ok (B : Base prog w mg mb H) {x dx : Addr} {items : List Value} {fs : List (Nat × Nat)} {b : Nat} (a : Acc x dx items H) (hf : FoldVs b H items fs) (hb : b ≤ 14) (hfs : ∀ p ∈ fs, p.1 < 6 ∧ p.2 < 6) (spot : Nat) (t u : Tok) :
    CallP prog w (.ref 160) [.int (spot : Int) t, .ref x, .int ((7 + b : Nat) : Int) u] H 1 (IsI (holdN fs spot : Nat)) := by
  refine fnQ (B.at (n := "_law_hold") (i := 65) (by decide)) B.lim _ [("spot", .int (spot : Int) t), ("folds", .ref x), ("low", .int ((7 + b : Nat) : Int) u)] (fun _ _ _ _ _ => rfl) rfl rfl rfl (of_decide_eq_true rfl) ?_ rfl rfl rfl
  intro A env s h₁ tk₁ m₀ cm₀ Q E o O y hm₀ S q
  have ml := hm₀ "low" _ rfl
  obtain ⟨K, X, k⟩ := (B.ext (y.trans S.ext)).cls
  have a₁ := a.ext (y.trans S.ext)
  have ax : ∃ o, s.heap.get? x = some o := let ⟨_, e, _⟩ := a; ⟨_, y _ _ e⟩
  refine forQ [] s.heap (fun i _ m _ => m "low" = some (.int ((7 + b : Nat) : Int) u) ∧ ∃ t, m "spot" = some (.int (holdN (fs.take i) spot : Nat) t))
    (fun i _ m c m' c' => c' = c ∧ ∃ (p : Nat × Nat) (t u : Tok), fs[i]? = some p ∧ m' = upd (upd m "corner" (.str (sgn (b + p.1)) t)) "hold" (.str (sgn (b + p.2)) u)) S ?_
    (src_acc o.hh X k (vL O S.rd (hm₀ "folds" _ rfl)) a₁) (Ext.refl _) (fun _ h => nomatch h) (fun b hb => List.mem_singleton.mp hb ▸ ax) (fun _ _ _ _ _ h _ => h) (fun _ _ _ _ _ _ h => nomatch h) ⟨ml, t, hm₀ "spot" _ rfl⟩ ?_ ?_
  · intro i v h₂ tk₂ H₂ m₂ cm₂ Q' E' hi hv x₂ S₂ q
    obtain ⟨p, hp, t', u', hT⟩ := hf.2 i v hv
    exact asg_pair o.hh S₂ O.kind (O.of rfl) (O.of rfl) (hT.ext ((y.trans x₂).trans S₂.ext)) fun h₃ tk₃ S₃ => q h₃ tk₃ _ _ S₃ ⟨rfl, p, t', u', hp, rfl⟩
  · rintro i v h₂ tk₂ G₂ H₂ m₁ cm₂ m₂ _ Q' E' hi hv x₂ _ x₃ ⟨hlow, t', hs⟩ ⟨rfl, p, tc, td, hp, rfl⟩ S₂ b₂ n₂
    have B₂ := B.ext (y.trans (x₂.trans (x₃.trans S₂.ext)))
    have hp6 := hfs p (List.mem_of_getElem? hp)
    have ml : upd (upd m₁ "corner" (.str (sgn (b + p.1)) tc)) "hold" (.str (sgn (b + p.2)) td) "low" = _ := hlow
    have ms : upd (upd m₁ "corner" (.str (sgn (b + p.1)) tc)) "hold" (.str (sgn (b + p.2)) td) "spot" = _ := hs
    have hst : holdN (fs.take (i + 1)) spot = if p.1 = holdN (fs.take i) spot then p.2 else holdN (fs.take i) spot := by
      unfold holdN; rw [List.take_add_one, hp, List.foldl_append]; rfl
    refine ifQ (decide (p.1 = holdN (fs.take i) spot)) ?_ ?_
    · have e : (((7 + (b + p.1) : Nat) : Int) == ((7 + b : Nat) : Int) + ((holdN (fs.take i) spot : Nat) : Int)) = decide (p.1 = holdN (fs.take i) spot) := by
        rw [Bool.eq_iff_iff, beq_iff_eq, decide_eq_true_eq]; omega
      rw [← e]
      exact evT_eq (ev_tok B₂ (by omega) (vG B₂ O) (evS (vL O S₂.rd ((upd_ne (by decide)).trans upd_self)))) (ev_add (nL O S₂.rd ml) (nL O S₂.rd ms))
    · intro h₃ tk₃ Q₃ x₄ b₃ n₃
      have S₃ := S₂.keep x₄
      cases hd : decide (p.1 = holdN (fs.take i) spot) with
      | true =>
        rw [if_pos (of_decide_eq_true hd)] at hst
        refine st_asg S₃ O.kind (O.of rfl) (ev_sub (ev_tok (B₂.ext x₄) (by omega) (vG (B₂.ext x₄) O) (evS (vL O S₃.rd upd_self))) (nL O S₃.rd ml)) loc_I ?_
        rintro v' h₄ H₄ tk₄ S₄ x₅ ⟨t'', rfl⟩
        refine wpAny_execs_nil (n₃ _ (wpAny_execs_nil (n₂ _ _ _ _ _ S₄ (x₃.trans x₅) ⟨ml, t'', ?_⟩)))
        rw [upd_self, hst, show ((7 + (b + p.2) : Nat) : Int) - ((7 + b : Nat) : Int) = ((p.2 : Nat) : Int) by omega]
      | false =>
        rw [if_neg (of_decide_eq_false hd)] at hst
        exact wpAny_execs_nil (n₃ _ (wpAny_execs_nil (n₂ _ _ _ _ _ S₃ x₃ ⟨ml, t', hst ▸ ms⟩)))
  · rintro h₂ tk₂ H₂ m₂ cm₂ S₂ x₂ ⟨_, t', hs⟩
    refine st_ret (nL O S₂.rd hs) ?_
    rintro v h' tk k' ⟨t'', rfl⟩
    rw [hf.1, List.take_length]
    exact q _ h' tk (x₂.trans (S₂.ext.trans k')) ⟨t'', rfl⟩
end
end Mine
end

noncomputable section
open PySem PySem.W PySem.Calls PyProof.Rows
set_option maxRecDepth 100000
set_option maxHeartbeats 1000000
namespace Mine
section
variable {M : Model} {A : Around} {E : Value → Shared → Prop} {s : Shared}
theorem new_env {scope : Scope} {cl : List (Str × Addr)} {env : Env} {Q : Env → Shared → Prop} (hQ : ∀ h₁, Ext s.heap h₁ → h₁.Ns s.heap.objs.size (fun _ => none) → (∀ n c, (n, c) ∈ cellsFrom (s.heap.objs.size + 1) scope.names [] → h₁.IsCell c none ∧ s.heap.objs.size + 1 ≤ c) →
    Q { scope, locals := s.heap.objs.size, globals := env.globals, cells := cellsFrom (s.heap.objs.size + 1) scope.names cl, qual := env.qual, func := none, code := env.code, frame := env.frame, builtins := env.builtins } { s with heap := h₁ }) :
    wpAny M A (newFunctionEnv scope env.globals cl [] env.qual none .none (some env)) Q E s := by
  simp only [newFunctionEnv, Option.isSome_some, if_true]
  refine wpAny_bind (wpAny_alloc ?_)
  refine wpAny_bind (wpAny_layCells _ (fun name kind cells => by cases hkc : kind == NameKind.cell <;> simp [hkc]) _ _ _ _ ?_)
  have ok := cellsFrom_ok scope.names (s.heap.push { cls := .type "dict", data := .dict #[] }) (s.heap.objs.size + 1) [] ⟨fun _ _ hm => (nomatch hm), List.Pairwise.nil⟩ (by rw [Heap.size_push]; exact Nat.le_refl _)
  rw [Heap.size_push] at ok
  rw [show ({ s with heap := s.heap.push { cls := .type "dict", data := .dict #[] } } : Shared).heap.objs.size = s.heap.objs.size + 1 from Heap.size_push ..]
  refine wpAny_bind (wpAny_pure (wpAny_pure (hQ _ (fun b o e => pushCells_keeps _ _ b o (Heap.get?_push_of_some _ e)) ((Heap.Ns.new s.heap (.type "dict")).keeps (pushCells_keeps _ _)) fun n c hm => ok.empty n c hm)))
end
section
variable {prog : Program} {w : World} {A : Around} {E : Value → Shared → Prop} {s : Shared} {env : Env}
theorem compLoop {elt target iter : PySem.Expr} {ifs : List PySem.Expr} {scope : Scope} {pos : Pos} {it acc : Value} {R : Result → Shared → Prop} (I : Nat → Shared → Prop)
    (turn : ∀ n s (E' : Value → Shared → Prop), I n s → wpAny (model prog w) A (pyNext it) (fun r s₁ => match r with
      | none => R (.ok .next) s₁
      | some v => wpAny (model prog w) A (letOwnedTupleGo target it v) (fun _ s₁' => wpAny (model prog w) A (assign target env v) (fun _ s₂ =>
          wpAny (model prog w) A (forIn ifs true fun c r => if r = true then do let ok ← isTrue c env (eval c env); pure (ForInStep.yield ok) else pure (ForInStep.yield r)) (fun ok s₃ =>
            if ok = true then wpAny (model prog w) A (eval elt env) (fun x s₄ => wpAny (model prog w) A (call (.builtin "list.append") [acc, x]) (fun _ s₅ => ∃ m, m < n ∧ I m s₅) E' s₄) E' s₃
            else ∃ m, m < n ∧ I m s₃) E' s₂) E' s₁') E' s₁) E' s)
    (n : Nat) (h : I n s) : codeAny (model prog w) A (.compLoop (.ListComp elt [⟨target, iter, ifs, 0⟩] scope pos) 0 it acc env) R s := by
  refine codeAny_loop rfl I (fun n s hI => ?_) n h
  show wpAny _ A ((compTurn (.ListComp elt [⟨target, iter, ifs, 0⟩] scope pos) 0 it acc env).onRaise (fun x => do noteFrame x env; theTreesLotGoes x)) _ _ s
  refine wpAny_noted ?_
  rw [compTurn_list]
  refine wpAny_bind (wpAny_standAt (wpAny_bind (wpAny_mono (turn n s _ hI) (fun r s₁ h₁ => ?_) fun _ _ h' => h')))
  cases r with
  | none => exact wpAny_pure h₁
  | some v =>
    refine wpAny_bind (wpAny_mono h₁ (fun _ s₁' h₁' => wpAny_bind (wpAny_mono h₁' (fun _ s₂ h₂ => wpAny_bind (wpAny_mono h₂ (fun ok s₃ h₃ => ?_) fun _ _ h' => h')) fun _ _ h' => h')) fun _ _ h' => h')
    cases ok with
    | false => exact wpAny_pure ⟨rfl, h₃⟩
    | true =>
      exact wpAny_bind (wpAny_bind (wpAny_mono h₃ (fun x s₄ h₄ => wpAny_bind (wpAny_mono h₄ (fun _ s₅ h₅ => wpAny_pure (wpAny_pure ⟨rfl, h₅⟩)) fun _ _ h' => h')) fun _ _ h' => h'))
end
noncomputable def ow (scope : Scope) (C : Addr) : List (Str × Addr) := cellsFrom (C + 1) scope.names []
noncomputable def owA (scope : Scope) (C : Addr) : List Addr := (ow scope C).map (·.2)
structure CqD where
  i : Nat
  ys : List Value
  h : Heap
  tk : Nat
  K : Heap
  m : Str → Option Value
  cm : Str → Option Value
structure Cq (H : Heap) (hd : List Addr) (D : Addr) (J : Nat → List Value → Heap → Prop) (Z : (Str → Option Value) → Prop) (Sw : Nat → Heap → Prop) (env' : Env) (d : CqD) : Prop where
  r : Rd env' d.m d.cm d.h
  k : Ext H d.K
  kh : Ext d.K d.h
  kn : ∀ b ∈ hd, d.K.get? b = none
  dl : d.h.PlainList D d.ys.toArray
  j : J d.i d.ys d.K
  w : Sw d.i d.h
  l : d.ys.length ≤ d.i
  z : Z d.cm
noncomputable def NewJ (H : Heap) (J : List Value → Heap → Prop) (v : Value) (h : Heap) : Prop := ∃ D ys K, v = .ref D ∧ H.get? D = none ∧ h.PlainList D ys.toArray ∧ Ext K h ∧ K.get? D = none ∧ J ys K
section
variable {prog : Program} {w : World} {A : Around} {env : Env} {H : Heap} {L : Addr} {cells cl : List (Str × Addr)} {names : List (Str × NameKind)} {m cm : Str → Option Value} {scope : Scope} {elt iter target : PySem.Expr} {pos : Pos} {ifs : List PySem.Expr} {fx : List Addr} {n : Nat} {P : Nat → Value → Prop}
theorem Rd.but {m cm : Str → Option Value} {h h' : Heap} (r : Rd env m cm h) {D : Addr} (hL : env.locals ≠ D) (hC : ∀ n c, (n, c) ∈ env.cells → c ≠ D) (k : ∀ b o, b ≠ D → h.get? b = some o → h'.get? b = some o) : Rd env m cm h' :=
  ⟨r.ns.at' fun o e => k _ _ hL e, fun n c hm => (r.cl n c hm).imp fun o e => ⟨k _ _ (hC n c hm) e.1, e.2⟩⟩
theorem compBody {R : Result → Shared → Prop} {env' : Env} {J : Nat → List Value → Heap → Prop} {Z : (Str → Option Value) → Prop} {um : Nat → Value → (Str → Option Value) → (Str → Option Value) → (Str → Option Value) → (Str → Option Value) → Prop} {I D : Addr} {fp hd ws : List Addr} {Sw : Nat → Heap → Prop} {s : Shared} (W : Walks prog w A I fp [I] n P Sw) (hq : Qt I Sw) (hlen : n ≤ 1000)
    (hfp : ∀ b ∈ fp, b = I ∨ b ∉ hd) (hws : ∀ b ∈ ws, b ∈ hd ∧ b ≠ I ∧ b ≠ D) (hIh : I ∈ hd) (hDh : D ∈ hd) (hID : D ≠ I) (hL : env'.locals ≠ I ∧ env'.locals ≠ D) (hC : ∀ n c, (n, c) ∈ env'.cells → c ≠ I ∧ c ≠ D) (hall : ∀ b ∈ hd, b = I ∨ b = D ∨ b ∈ ws)
    (asg : ∀ i v h₁ tk₁ m₁ cm₁ (Q' : Unit → Shared → Prop) (E' : Value → Shared → Prop), i < n → P i v → Ext H h₁ → Rd env' m₁ cm₁ h₁ →
      (∀ h₂ tk₂ m₂ cm₂, Rd env' m₂ cm₂ h₂ → um i v m₁ cm₁ m₂ cm₂ → (∀ b o, b ∉ ws → h₁.get? b = some o → h₂.get? b = some o) → (∀ b ∈ ws, ∃ o, h₂.get? b = some o) → Q' () { s with heap := h₂, toks := tk₂ }) → wpAny (model prog w) A (assign target env' v) Q' E' { s with heap := h₁, toks := tk₁ })
    (turn : ∀ i v ys K H' m₁ cm₁ m₂ cm₂, i < n → P i v → Ext H K → Ext K H' → J i ys K → Z cm₁ → um i v m₁ cm₁ m₂ cm₂ → Rd env' m₂ cm₂ H' →
      Z cm₂ ∧ ∃ b R, Tests prog w A env' H' ifs b ∧ (b = true → Ev prog w A env' H' elt R ∧ Loc H' R ∧ ∀ y K', Ext K K' → R y K' → J (i + 1) (ys ++ [y]) K') ∧ (b = false → J (i + 1) ys K))
    (done : ∀ d : CqD, Cq H hd D J Z (fun _ _ => True) env' d → d.i = n → R (.ok .next) { s with heap := d.h, toks := d.tk })
    (d₀ : CqD) (C₀ : Cq H hd D J Z Sw env' d₀) (hi₀ : d₀.i ≤ n) : codeAny (model prog w) A (.compLoop (.ListComp elt [⟨target, iter, ifs, 0⟩] scope pos) 0 (.ref I) (.ref D) env') R { s with heap := d₀.h, toks := d₀.tk } := by
  refine compLoop (fun k s' => ∃ d : CqD, Cq H hd D J Z Sw env' d ∧ s' = { s with heap := d.h, toks := d.tk } ∧ d.i ≤ n ∧ k = n - d.i) ?_ _ ⟨d₀, C₀, rfl, hi₀, rfl⟩
  clear C₀ hi₀
  rintro _ _ E' ⟨d, C, rfl, hi, rfl⟩
  have one : ∀ {h₁ : Heap}, (∀ b o, b ∉ [I] → d.h.get? b = some o → h₁.get? b = some o) → ∀ b o, b ≠ I → d.h.get? b = some o → h₁.get? b = some o := fun k b o hb e => k b o (fun q => hb (List.mem_singleton.mp q)) e
  have kK : ∀ {h₁ : Heap}, (∀ b o, b ∉ [I] → d.h.get? b = some o → h₁.get? b = some o) → Ext d.K h₁ := fun k b o e => one k b o (fun q => by rw [q, C.kn I hIh] at e; cases e) (C.kh b o e)
  by_cases hlt : d.i < n
  · refine W.item d.i _ _ _ hlt C.w fun v h₁ tk₁ hP hw₁ k₁ => ?_
    obtain ⟨o, T, ho, hc, hT⟩ := hq _ _ hw₁
    refine go_quiet ho hc hT (asg d.i v h₁ tk₁ d.m d.cm _ _ hlt hP (C.k.trans (kK k₁)) (C.r.but hL.1 (fun n c hm => (hC n c hm).1) (one k₁)) fun h₂ tk₂ m₂ cm₂ R₂ hu k₂ l₂ => ?_)
    have K₂ : Ext d.K h₂ := fun b o e => k₂ b o (fun q => by rw [C.kn b (hws b q).1] at e; cases e) (kK k₁ b o e)
    have D₂ : h₂.PlainList D d.ys.toArray := C.dl.at fun o e => k₂ _ _ (fun q => (hws _ q).2.2 rfl) (one k₁ _ _ hID e)
    have w₂ : Sw (d.i + 1) h₂ := W.frame _ h₁ _ hw₁ fun b hb o e => k₂ b o (fun q => (hfp b hb).elim (fun e => (hws b q).2.1 e) fun h => h (hws b q).1) e
    have lv₂ : ∀ b ∈ hd, ∃ o, h₂.get? b = some o := fun b hb => by
      rcases hall b hb with rfl | rfl | h
      · exact ⟨o, k₂ _ _ (fun q => (hws _ q).2.1 rfl) ho⟩
      · obtain ⟨_, e⟩ := D₂; exact ⟨_, e⟩
      · exact l₂ b h
    obtain ⟨hz, b, R, ht, h1, h2⟩ := turn d.i v d.ys d.K h₂ d.m d.cm m₂ cm₂ hlt hP C.k K₂ C.j C.z hu R₂
    refine ht _ _ _ (Ext.refl _) fun h₃ tk₃ k₃ => ?_
    cases b with
    | false => exact ⟨n - (d.i + 1), by omega, ⟨d.i + 1, d.ys, h₃, tk₃, d.K, m₂, cm₂⟩, ⟨R₂.ext k₃, C.k, K₂.trans k₃, C.kn, D₂.at fun o e => k₃ _ _ e, h2 rfl, W.frame _ _ _ w₂ fun b _ o e => k₃ _ _ e, Nat.le_succ_of_le C.l, hz⟩, rfl, hlt, rfl⟩
    | true =>
      obtain ⟨he, hloc, hj⟩ := h1 rfl
      refine he _ _ _ k₃ fun y h₄ tk₄ k₄ r₄ => ?_
      have k₄ := k₃.trans k₄
      obtain ⟨nd, eD⟩ := D₂.at fun o e => k₄ _ _ e
      refine append_at eD (fun h₅ hs₅ e₅ => ?_) (by rw [sizeLine_eq]; have := C.l; simp; omega)
      have up : ∀ b o, b ∉ hd → h₄.get? b = some o → (hideAll h₄ hd).get? b = some o := fun b o hb e => hideAll_get _ e hb
      have KK : Ext d.K (hideAll h₄ hd) := fun b o e => up b o (fun q => by rw [C.kn b q] at e; cases e) (k₄ _ _ (K₂ b o e))
      exact ⟨n - (d.i + 1), by omega, ⟨d.i + 1, d.ys ++ [y], h₅, tk₄, hideAll h₄ hd, m₂, cm₂⟩, ⟨(R₂.ext k₄).but hL.2 (fun n c hm => (hC n c hm).2) hs₅.extBut, C.k.trans KK, fun b o e => hs₅.extBut b o (fun q => by rw [q, hideAll_none _ hDh] at e; cases e) (of_hideAll _ e), fun b hb => hideAll_none _ hb,
        ⟨_, by simpa using e₅⟩, hj y _ KK (hloc y h₄ _ r₄ fun b o hb e => up b o (fun q => by obtain ⟨_, e'⟩ := lv₂ b q; rw [e'] at hb; cases hb) e),
        W.frame _ _ _ w₂ fun b hb o e => hs₅.extBut b o (fun q => by subst q; exact (hfp _ hb).elim (fun e => hID e) fun h => h hDh) (k₄ _ _ e), by rw [List.length_append]; exact Nat.succ_le_succ C.l, hz⟩, rfl, hlt, rfl⟩
  · have hin : d.i = n := by omega
    refine W.done _ _ _ (hin ▸ C.w) fun h₁ tk₁ k₁ => ?_
    exact done ⟨d.i, d.ys, h₁, tk₁, d.K, d.m, d.cm⟩ ⟨C.r.but hL.1 (fun n c hm => (hC n c hm).1) (one k₁), C.k, kK k₁, C.kn, C.dl.at fun o e => one k₁ _ _ hID e, C.j, trivial, C.l, C.z⟩ hin
theorem closQ (O : EnvOK env L cells names) (h1 : (scope.names.all fun y => (y.2 != .free || (cells.lookup y.1).isSome) && (y.2 != .local || scope.names.lookup y.1 == some .local)) = true) (h2 : clos cells scope.names [] = cl) :
    closureFor scope env = pure cl ∧ (∀ p ∈ cl, p ∈ env.cells) ∧ ∀ y ∈ scope.names, y.2 = .local → scope.names.lookup y.1 = some .local := by
  have h := fun y hy => List.all_eq_true.mp h1 y hy
  simp only [Bool.and_eq_true, Bool.or_eq_true, bne_iff_ne, ne_eq, beq_iff_eq] at h
  refine ⟨?_, ?_, fun y hy hl => (h y hy).2.resolve_left fun q => q hl⟩
  · rw [closureFor_of (fun n hn => by rw [O.cells]; exact (h _ hn).1.resolve_left fun q => q rfl), O.cells, h2]
  · rw [O.cells, ← h2]
    refine clos_sub (List.all_eq_true.mpr fun y hy => ?_) fun _ h => nomatch h
    have := List.all_eq_true.mp h1 y hy
    simp only [Bool.and_eq_true] at this
    exact this.1
theorem compQ (cl : List (Str × Addr)) (J : Nat → List Value → Heap → Prop) (Z : (Str → Option Value) → Prop) (um : Nat → Value → (Str → Option Value) → (Str → Option Value) → (Str → Option Value) → (Str → Option Value) → Prop)
    (O : EnvOK env L cells names) (S : Rd env m cm H) (src : Src prog w A env H iter n P fx) (h0 : ∀ K, Ext H K → J 0 [] K) (hZ0 : Z fun y => if y ∈ (ow scope 0).map (·.1) then none else cm y)
    (asg : ∀ i v env' h₁ tk₁ (s : Shared) m₁ cm₁ (Q' : Unit → Shared → Prop) (E' : Value → Shared → Prop), i < n → P i v → EnvOK env' env'.locals (ow scope env'.locals ++ cl) (relab scope.names names) → H.get? env'.locals = none → (∀ b ∈ owA scope env'.locals, H.get? b = none ∧ b ≠ env'.locals) → Ext H h₁ → Rd env' m₁ cm₁ h₁ →
      (∀ h₂ tk₂ m₂ cm₂, Rd env' m₂ cm₂ h₂ → um i v m₁ cm₁ m₂ cm₂ → (∀ b o, b ∉ env'.locals :: owA scope env'.locals → h₁.get? b = some o → h₂.get? b = some o) → (∀ b ∈ env'.locals :: owA scope env'.locals, ∃ o, h₂.get? b = some o) → Q' () { s with heap := h₂, toks := tk₂ }) → wpAny (model prog w) A (assign target env' v) Q' E' { s with heap := h₁, toks := tk₁ })
    (turn : ∀ i v ys env' K H' m₁ cm₁ m₂ cm₂, i < n → P i v → EnvOK env' env'.locals (ow scope env'.locals ++ cl) (relab scope.names names) → Ext H K → Ext K H' → J i ys K → Z cm₁ → um i v m₁ cm₁ m₂ cm₂ → Rd env' m₂ cm₂ H' →
      Z cm₂ ∧ ∃ b R, Tests prog w A env' H' ifs b ∧ (b = true → Ev prog w A env' H' elt R ∧ Loc H' R ∧ ∀ y K', Ext K K' → R y K' → J (i + 1) (ys ++ [y]) K') ∧ (b = false → J (i + 1) ys K))
    (hlen : n ≤ 1000) (hk : scope.kind = .function) 
    (h1 : (scope.names.all fun y => (y.2 != .free || (cells.lookup y.1).isSome) && (y.2 != .local || scope.names.lookup y.1 == some .local)) = true) (h2 : clos cells scope.names [] = cl) (hcs : ∀ C, cellsFrom (C + 1) scope.names cl = ow scope C ++ cl) (hon : ∀ C, (ow scope C).map (·.1) = (ow scope 0).map (·.1)) (hdj : ∀ p ∈ cl, p.1 ∉ (ow scope 0).map (·.1))
    (hs : ∀ x, foldedSetIterable iter env x = pure x := by intro _; rfl) :
    Ev prog w A env H (.ListComp elt [⟨target, iter, ifs, 0⟩] scope pos) (NewJ H (J n)) := by
  obtain ⟨hclos, hcl, hnm⟩ := closQ O h1 h2
  intro Q E s y q
  rw [eval_ListComp]
  refine wpAny_comprehension_free (use := none) rfl hs hclos hk hnm (src _ _ s y ?_)
  intro I fp Sw h' tk k hI hI' W hq hst hfp
  refine wpAny_newObj_type (new_env fun h₁ k₁ hns hown => ?_)
  have hC : (h'.push { cls := .type "list", data := .seq ([] : List Value).toArray }).objs.size = h'.objs.size + 1 := Heap.size_push ..
  have yk := ext_push h' { cls := .type "list", data := .seq ([] : List Value).toArray }
  have hDL : h₁.PlainList h'.objs.size ([] : List Value).toArray := ⟨0, k₁ _ _ (Heap.get?_push_size _ rfl)⟩
  have hIlt : I < h'.objs.size := let ⟨_, e⟩ := hI'; Heap.lt_size e
  have kk : Ext h' h₁ := Ext.trans yk k₁
  dsimp only at hns hown ⊢
  revert hns hown k₁
  generalize hCe : (h'.push { cls := .type "list", data := .seq ([] : List Value).toArray }).objs.size = C
  intro k₁ hns hown
  rw [hCe] at hC
  have nS : ∀ {b}, h'.objs.size ≤ b → s.heap.get? b = none := fun hb => ext_none k (none_above hb)
  have wsC : ∀ b ∈ C :: owA scope C, C ≤ b := fun b hb => by
    rcases List.mem_cons.mp hb with rfl | hb
    · exact Nat.le_refl _
    · obtain ⟨⟨n, c⟩, hm, rfl⟩ := List.mem_map.mp hb
      exact Nat.le_of_succ_le (hown n c hm).2
  have oC : ∀ b ∈ owA scope C, b ≠ C := fun b hb => by
    obtain ⟨⟨n, c⟩, hm, rfl⟩ := List.mem_map.mp hb
    exact Nat.ne_of_gt (hown n c hm).2
  have clS : ∀ p ∈ cl, ∃ o, s.heap.get? p.2 = some o := fun p hp => by obtain ⟨o, e, _⟩ := S.cl p.1 p.2 (hcl p hp); exact ⟨o, y _ _ e⟩
  have clL : ∀ p ∈ cl, p.2 ≠ I ∧ p.2 ≠ h'.objs.size := fun p hp => by
    obtain ⟨o, e⟩ := clS p hp
    exact ⟨fun q => (by rw [q, hI] at e; cases e), fun q => (by rw [q, nS (Nat.le_refl _)] at e; cases e)⟩
  have hdn : ∀ b ∈ I :: h'.objs.size :: C :: owA scope C, s.heap.get? b = none := fun b hb => by
    rcases List.mem_cons.mp hb with rfl | hb
    · exact hI
    · rcases List.mem_cons.mp hb with rfl | hb
      · exact nS (Nat.le_refl _)
      · exact nS (Nat.le_of_lt (Nat.lt_of_lt_of_le (by rw [hC]; exact Nat.lt_succ_self _) (wsC b hb)))
  have O' := O.comp hk (ow scope C ++ cl) C
  have cS : ∀ b : Nat, C ≤ b → h'.objs.size < b := fun b hb => Nat.lt_of_lt_of_le (by rw [hC]; exact Nat.lt_succ_self _) hb
  have cI : ∀ b : Nat, C ≤ b → b ≠ I ∧ b ≠ h'.objs.size := fun b hb => ⟨Nat.ne_of_gt (Nat.lt_trans hIlt (cS b hb)), Nat.ne_of_gt (cS b hb)⟩
  rw [hcs] at *
  have fin : ∀ s₃ : Shared, s₃ = { s with heap := h₁, toks := tk } → codeAny (model prog w) A (.compLoop (.ListComp elt [⟨target, iter, ifs, 0⟩] scope pos) 0 (.ref I) (.ref h'.objs.size) (compEnvC scope (ow scope C ++ cl) C env)) (compPost (model prog w) A E none Q (.ref h'.objs.size) C) s₃ := by
    rintro _ rfl
    refine compBody (H := s.heap) (D := h'.objs.size) (hd := I :: h'.objs.size :: C :: owA scope C) (ws := C :: owA scope C) (J := J) (Z := Z) (um := um) W hq hlen ?_ ?_ (.head _) (.tail _ (.head _)) (Nat.ne_of_gt hIlt) ⟨?_, ?_⟩ ?_ ?_ ?_ ?_ ?_
      ⟨0, [], h₁, tk, s.heap, fun _ => none, fun y => if y ∈ (ow scope 0).map (·.1) then none else cm y⟩ ⟨⟨hns, ?_⟩, Ext.refl _, k.trans kk, hdn, hDL, h0 _ y, ?_, Nat.zero_le _, hZ0⟩ (Nat.zero_le _)
    · intro b hb
      by_cases hbI : b = I
      · exact .inl hbI
      refine .inr fun q => ?_
      rcases hfp b hb with h | ⟨⟨o, e⟩, _⟩
      · exact hbI h
      have hlt := Heap.lt_size e
      rcases List.mem_cons.mp q with q | q
      · exact hbI q
      · rcases List.mem_cons.mp q with rfl | q
        · exact Nat.lt_irrefl _ hlt
        · exact Nat.lt_irrefl _ (Nat.lt_trans hlt (cS b (wsC b q)))
    · intro b hb
      exact ⟨.tail _ (.tail _ hb), cI b (wsC b hb)⟩
    · exact (cI C (Nat.le_refl _)).1
    · exact (cI C (Nat.le_refl _)).2
    · intro n c hm
      rw [O'.cells] at hm
      rcases List.mem_append.mp hm with hm | hm
      · exact cI c (Nat.le_of_succ_le (hown n c hm).2)
      · exact clL _ hm
    · intro b hb
      rcases List.mem_cons.mp hb with rfl | hb
      · exact .inl rfl
      · exact .inr (List.mem_cons.mp hb)
    · intro i v h₂ tk₂ m₁ cm₁ Q' E' hi hP x r q'
      exact asg i v _ h₂ tk₂ _ m₁ cm₁ Q' E' hi hP O' (ext_none y (hdn C (.tail _ (.tail _ (.head _))))) (fun b hb => ⟨ext_none y (hdn b (.tail _ (.tail _ (.tail _ hb)))), oC b hb⟩) (y.trans x) r q'
    · intro i v ys K H' m₁ cm₁ m₂ cm₂ hi hP x1 x2 j z hu r
      exact turn i v ys _ K H' m₁ cm₁ m₂ cm₂ hi hP O' (y.trans x1) x2 j z hu r
    · intro d Cd hi
      refine ⟨d.m, Cd.r.ns, fun h'' hs => ?_⟩
      have kC : Ext d.K h'' := fun b o e => hs.extBut b o (fun q => by rw [q, Cd.kn C (.tail _ (.tail _ (.head _)))] at e; cases e) (Cd.kh _ _ e)
      exact q _ h'' d.tk (Cd.k.trans kC) ⟨_, d.ys, d.K, rfl, ext_none y (hdn _ (.tail _ (.head _))), Cd.dl.at fun o e => hs.extBut _ _ (Ne.symm (cI C (Nat.le_refl _)).2) e, kC, Cd.kn _ (.tail _ (.head _)), hi ▸ Cd.j⟩
    · intro n c hm
      rw [O'.cells] at hm
      rcases List.mem_append.mp hm with hm | hm
      · show h₁.IsCell c (if n ∈ (ow scope 0).map (·.1) then none else cm n)
        rw [if_pos (by rw [← hon C]; exact List.mem_map.mpr ⟨_, hm, rfl⟩)]
        exact (hown n c hm).1
      · show h₁.IsCell c (if n ∈ (ow scope 0).map (·.1) then none else cm n)
        rw [if_neg (hdj _ hm)]
        exact ((S.cl n c (hcl _ hm)).keeps y).keeps (k.trans kk)
    · exact W.frame 0 h' _ hst fun b _ o e => kk _ _ e
  exact codeAny_compStart_list (fin _ rfl) (W.self 0 _ _ _ (W.frame 0 h' _ hst fun b _ o e => kk _ _ e) (fin _ rfl))
end
end Mine
end

noncomputable section
open PySem PySem.W PySem.Calls PyProof.Rows
set_option maxRecDepth 100000
set_option maxHeartbeats 2000000
namespace Mine
theorem fil_owner : Manifest.owners.lookup (String.ofList ['r', 'e', 't', 'l', 'i', 'f'].reverse) = some Manifest.sig_filter := by kernel_rfl
theorem fil_init : Slot "filter" "__init__" "object.__init__" :=
  .of (owner := "object") (n := "__init__") (by rw [typeLookup_type, builtinLookup_eq_fast]; kernel_rfl) (by decide +kernel) (by decide +kernel) (by decide +kernel) (by first | exact .inl (by decide +kernel) | exact .inr (by decide +kernel)) (by rw [isSubtype_type]; kernel_rfl)
theorem fil_iter : Slot "filter" "__iter__" "filter.__iter__" :=
  .of (owner := "filter") (n := "__iter__") (by rw [typeLookup_type, builtinLookup_eq_fast]; kernel_rfl) (by decide +kernel) (by decide +kernel) (by decide +kernel) (by first | exact .inl (by decide +kernel) | exact .inr (by decide +kernel)) (by rw [isSubtype_type]; kernel_rfl)
theorem fil_next : Slot "filter" "__next__" "filter.__next__" :=
  .of (owner := "filter") (n := "__next__") (by rw [typeLookup_type, builtinLookup_eq_fast]; kernel_rfl) (by decide +kernel) (by decide +kernel) (by decide +kernel) (by first | exact .inl (by decide +kernel) | exact .inr (by decide +kernel)) (by rw [isSubtype_type]; kernel_rfl)
theorem fil_eiter : entryFor table "filter.__iter__" = some Builtin.«dict_keyiterator.__iter__» :=
  entryFor_alias (id' := "dict_keyiterator.__iter__") (by kernel_rfl) (by first | rfl | decide +kernel | (unfold String.splitOn; simp +decide [String.splitOnAux])) (by decide +kernel) (by kernel_rfl)
theorem fil_enext : entryFor table "filter.__next__" = some Builtin.«filter.__next__» := entryFor_of_tree (by kernel_rfl)
theorem fil_enew : entryFor table "filter.__new__" = some Builtin.«filter.__new__» := entryFor_of_tree (by kernel_rfl)
theorem fil_aiter (a : Value) : argsOk "filter.__iter__" ⟨[a], []⟩ := by unfold argsOk; kernel_rfl
theorem fil_anext (a : Value) : argsOk "filter.__next__" ⟨[a], []⟩ := by unfold argsOk; kernel_rfl
theorem fil_mro : mroOf (.type "filter") = pure [.type "filter", .type "object"] := by rw [mroOf_type]; kernel_rfl
theorem fil_lnew : typeLookup (.type "filter") "__new__" = pure (some (.builtin "filter.__new__")) := by rw [typeLookup_type, builtinLookup_eq_fast]; kernel_rfl
theorem fil_called : TypeCalled "filter" "filter.__new__" "object.__init__" :=
  ⟨by decide +kernel, by decide +kernel, ⟨_, _, fil_mro⟩, madeBy_type fil_mro fil_lnew (by decide +kernel), by decide +kernel, by rw [isSubtype_type]; kernel_rfl, fil_init⟩
theorem fil_tc (a b : Value) : checkTypeCall "filter" ⟨[a, b], []⟩ = pure () := by kernel_rfl
theorem fil_nc (a b : Value) : checkBuiltinCall "filter.__new__" ⟨[.type "filter", a, b], []⟩ = pure () := by kernel_rfl
theorem fil_ai (o a b : Value) : argsOk "object.__init__" ⟨[o, a, b], []⟩ := by unfold argsOk; kernel_rfl
noncomputable abbrev filObj (I : Addr) : Obj := { cls := .type "filter", data := .fields #[.none, .ref I] }
section
variable {prog : Program} {w : World} {A : Around} {E : Value → Shared → Prop} {s : Shared}
theorem fil_new (x : Value) : MeetsIn prog w (Builtin.«filter.__new__» ⟨[.type "filter", .none, x], []⟩) (fun A R s => wpAny (model prog w) A.in1 (pyIter x) (fun it s' => ∃ I, it = .ref I ∧ R (.ok (.ret (.ref s'.heap.objs.size))) { s' with heap := s'.heap.push (filObj I) }) (fun e s' => R (.error e) s') s) := by
  intro A R s h
  unfold Builtin.«filter.__new__»
  have hsub := fil_called.sub
  repeat (first | (with_reducible refine wpAny_mono h ?_ fun _ _ e => e) | wp_step)
  rintro _ s' ⟨I, rfl, r⟩
  repeat (first | wp_step)
  exact r
theorem fil_call {x : Value} {Q : Value → Shared → Prop} (h : wpAny (model prog w) A.in1.in1 (pyIter x) (fun it s' => ∃ I, it = .ref I ∧ Q (.ref s'.heap.objs.size) { s' with heap := s'.heap.push (filObj I) }) E s) :
    wpAny (model prog w) A (call (.type "filter") [.none, x]) Q E s := by
  refine callType_newIn fil_called (by decide) (fil_tc _ _) (fil_nc _ _) (fun o => fil_ai o _ _) fil_enew (fil_new x) ?_
  refine wpAny_mono h (fun it s' h' => ?_) fun _ _ e => e
  obtain ⟨I, e, q⟩ := h'
  exact ⟨I, e, ⟨_, Heap.get?_push_size _ rfl, rfl⟩, q⟩
theorem val_next {K : Type} [DecidableEq K] {knd : KeyKind prog w K} {I d : Addr} {i ep : Nat} {kvs : List (K × Value)} {Q : Option Value → Shared → Prop} (hh : A.handled = none) (hit : s.heap.IsValIter I d i kvs.length ep) (hm : s.heap.DictAt knd d kvs ep)
    (h1 : ∀ k v h', kvs[i]? = some (k, v) → h'.IsValIter I d (i + 1) kvs.length ep → Heap.SameBut I s.heap h' → Q (some v) { s with heap := h' })
    (h2 : kvs[i]? = none → ∀ h' e, Heap.ExtBut I s.heap h' → (∃ o, h'.get? e = some o ∧ o.cls = .type "StopIteration") → E (.ref e) { s with heap := h' }) :
    wpAny (model prog w) A (callSpecial? (.ref I) "__next__") Q E s := by
  obtain ⟨o, ho, hc, hd⟩ := id hit
  obtain ⟨od, es, hod, hcd, hdd, hk, hp, hn⟩ := id hm
  refine wpAny_callSpecial?_slot (name := Str.ofString "__next__") hit.typeIs PySem.F.slot_dict_valueiterator_next (wpAny_call_entry PySem.F.slot_dict_valueiterator_next hit.typeIs PySem.F.entry_dict_valueiterator_next ?_ (PySem.F.args_dict_valueiterator_next_1 _))
  have hT := hit.typeIs
  have hsz : es.size = kvs.length := by rw [← hp.length]; simp
  repeat (first | (with_reducible refine wpAny_typeNameOfWhole_valiter hT ?_) | (with_reducible refine wpAny_fieldsOf ho hd ?_) | (with_reducible refine wpAny_isOneOf_valiter hT ?_) | (with_reducible refine wpAny_dictEntries hod hdd ?_) | (with_reducible refine wpAny_dictEpoch hod hdd ?_) | wp_step)
  have h0 : ¬ ((i : Int) < 0) := by omega
  have hown : Builtin.Dict_items.ownsTuple "dict_valueiterator" = false := by decide
  rw [if_neg h0, Int.toNat_natCast]
  have hT2 : ∀ x, ({ s with heap := s.heap.update I (Obj.mapFields fun a => a.setIfInBounds (0 + 1) x) } : Shared).TypeIs (.ref I) "dict_valueiterator" := fun x => ⟨_, Heap.get?_update_self _ ho (Obj.isFreed_of_fields (Obj.data_mapFields hd _)), (Obj.cls_mapFields ..).trans hc⟩
  cases hx : es[i]? with
  | some e =>
    dsimp only
    repeat (first | (with_reducible refine wpAny_typeNameOfWhole_valiter hT ?_) | (with_reducible refine wpAny_isOneOf_valiter hT ?_) | (with_reducible refine wpAny_isOneOf_valiter (hT2 _) ?_) | (rw [hown, if_neg Bool.false_ne_true]) | (with_reducible refine wpAny_setField ho hd (by simp) ?_) | wp_step)
    rw [if_neg (by decide)]
    have hlt : i < es.size := (Array.getElem?_eq_some_iff.mp hx).1
    obtain ⟨⟨k, v⟩, hkv⟩ : ∃ p, kvs[i]? = some p := ⟨kvs[i]'(by rw [← hsz]; exact hlt), List.getElem?_eq_getElem _⟩
    have hval : e.val = v := (hp.get? (e := e) (by rw [← hx]; simp) hkv).2
    exact ⟨_, rfl, hval ▸ h1 k v _ hkv ⟨_, Heap.get?_update_self _ ho (Obj.isFreed_of_fields (Obj.data_mapFields hd _)), (Obj.cls_mapFields ..).trans hc, by rw [Obj.data_mapFields hd]; simp [rawInt]⟩ (Heap.SameBut.update ..)⟩
  | none =>
    dsimp only
    repeat (first | (with_reducible refine wpAny_typeNameOfWhole_valiter hT ?_) | (with_reducible refine wpAny_isOneOf_valiter hT ?_) | (rw [hown, if_neg Bool.false_ne_true]) | (with_reducible refine wpAny_setField ho hd (by simp) ?_) | wp_step)
    simp (iota := false) only [raiseNew]
    refine wpAny_bind (wpAny_handled ?_)
    rw [show A.in1.handled = none from hh]
    refine wpAny_bind (wpAny_pure (wpAny_throw ?_))
    refine h2 (List.getElem?_eq_none ?_) _ _ (((Heap.SameBut.update ..).extBut.push _).push _) ⟨_, Heap.get?_push_size _ rfl, rfl⟩
    rw [← hsz]; simpa using hx
noncomputable def tv : Value → Bool
  | .int n _ => n != 0
  | _ => false
noncomputable def IN (v : Value) : Prop := v = .none ∨ ∃ n t, v = .int n t
theorem truthy_IN {v : Value} {Q : Bool → Shared → Prop} (h : IN v) (q : Q (tv v) s) : wpAny (model prog w) A (truthy v) Q E s := by
  rcases h with rfl | ⟨n, t, rfl⟩
  · exact truthy_none q
  · exact PySem.P.truthy_int q
theorem filter_at {α : Type} {p : α → Bool} {l : List α} {j : Nat} {v : α} (hv : l[j]? = some v) (hp : p v = true) : (l.filter p)[((l.take j).filter p).length]? = some v := by
  have hlt := (List.getElem?_eq_some_iff.mp hv).1
  have e : l = l.take j ++ v :: l.drop (j + 1) := (List.take_append_drop j l).symm.trans (by rw [List.drop_eq_getElem_cons hlt, (List.getElem?_eq_some_iff.mp hv).2])
  have e' : l.filter p = (l.take j).filter p ++ v :: (l.drop (j + 1)).filter p := by
    conv => lhs; rw [e]
    rw [List.filter_append, List.filter_cons, if_pos hp]
  rw [e', List.getElem?_append_right (Nat.le_refl _), Nat.sub_self]; rfl
section
variable {K : Type} [DecidableEq K] {knd : KeyKind prog w K} {F I d : Addr} {ep : Nat} {kvs : List (K × Value)}
theorem fil_loop {R : Result → Shared → Prop} (hh : A.handled = none) (hFI : F ≠ I) (hdI : d ≠ I) (hin : ∀ p ∈ kvs, IN p.2) : ∀ (m j : Nat) (s : Shared), kvs.length - j = m → s.heap.get? F = some (filObj I) → s.heap.IsValIter I d j kvs.length ep → s.heap.DictAt knd d kvs ep →
    (∀ v j' h', ((kvs.map (·.2)).filter tv)[(((kvs.map (·.2)).take j).filter tv).length]? = some v → j' ≤ kvs.length → (((kvs.map (·.2)).take j').filter tv).length = (((kvs.map (·.2)).take j).filter tv).length + 1 → h'.IsValIter I d j' kvs.length ep → Heap.SameBut I s.heap h' → R (.ok (.ret v)) { s with heap := h' }) →
    (((kvs.map (·.2)).filter tv).length = (((kvs.map (·.2)).take j).filter tv).length → ∀ h' e, Heap.ExtBut I s.heap h' → (∃ o, h'.get? e = some o ∧ o.cls = .type "StopIteration") → R (.error (.ref e)) { s with heap := h' }) →
    wpAny (model prog w) A.in1 (Builtin.«filter.__next__» ⟨[.ref F], []⟩) (fun fin s' => match fin with | .done f => R (.ok f) s' | .again c' => c'.quiet = true ∧ codeAny (model prog w) A c' R s') (fun e s' => R (.error e) s') s := by
  intro m
  induction m with
  | zero =>
    intro j s hm hF hI hd h1 h2
    unfold Builtin.«filter.__next__»
    repeat (first | (with_reducible refine wpAny_field hF rfl rfl ?_) | ((with_reducible show wpAny _ _ (callSpecial? _ _ _ _) _ _ _); refine val_next (by exact hh) hI hd ?_ ?_) | wp_step)
    · intro k v h' e
      rw [List.getElem?_eq_none (by omega)] at e; cases e
    · intro _ h' e k hs
      exact h2 (by rw [List.take_of_length_le (by simp; omega)]) h' e k hs
  | succ m ih =>
    intro j s hm hF hI hd h1 h2
    unfold Builtin.«filter.__next__»
    repeat (first | (with_reducible refine wpAny_field hF rfl rfl ?_) | ((with_reducible show wpAny _ _ (callSpecial? _ _ _ _) _ _ _); refine val_next (by exact hh) hI hd ?_ ?_) | wp_step)
    · intro k v h' e hI' hs
      refine wpAny_bind (wpAny_holding ?_)
      rw [if_pos (show (#[Value.none, Value.ref I][0] == Value.none || #[Value.none, Value.ref I][0] == Value.type "bool") = true from rfl)]
      refine wpAny_bind (wpAny_rule (truthy_IN (hin _ (List.mem_of_getElem? e)) ?_))
      have hv : (kvs.map (·.2))[j]? = some v := by rw [List.getElem?_map, e]; rfl
      have hj : j + 1 ≤ kvs.length := (List.getElem?_eq_some_iff.mp e).1
      have ht := take_succ_filter tv (kvs.map (·.2)) j v hv
      cases htv : tv v with
      | true =>
        rw [htv, if_pos rfl] at ht
        exact wpAny_pure (h1 v (j + 1) h' (filter_at hv htv) hj (by rw [ht, List.length_append]; rfl) hI' hs)
      | false =>
        rw [htv, if_neg Bool.false_ne_true, List.append_nil] at ht
        refine wpAny_pure ⟨plainId_quiet fil_next.plain _, codeAny_builtin fil_enext ?_⟩
        rw [Around.under_plainId fil_next.plain _]
        refine ih (j + 1) _ (by omega) (hs.extBut _ _ hFI hF) hI' (hd.extBut hs.extBut hdI) ?_ ?_
        · rw [ht]
          exact fun v j' h'' a b c e f => h1 v j' h'' a b c e (hs.trans f)
        · rw [ht]
          exact fun a h'' e k st => h2 a h'' e (fun b o hb q => k b o hb (hs.extBut b o hb q)) st
    · intro e
      have := List.getElem?_eq_none_iff.mp e
      omega
theorem fil_slot {j : Nat} {Q : Option Value → Shared → Prop} (hh : A.handled = none) (hFI : F ≠ I) (hdI : d ≠ I) (hin : ∀ p ∈ kvs, IN p.2) (hF : s.heap.get? F = some (filObj I)) (hI : s.heap.IsValIter I d j kvs.length ep) (hd : s.heap.DictAt knd d kvs ep)
    (h1 : ∀ v j' h', ((kvs.map (·.2)).filter tv)[(((kvs.map (·.2)).take j).filter tv).length]? = some v → j' ≤ kvs.length → (((kvs.map (·.2)).take j').filter tv).length = (((kvs.map (·.2)).take j).filter tv).length + 1 → h'.IsValIter I d j' kvs.length ep → Heap.SameBut I s.heap h' → Q (some v) { s with heap := h' })
    (h2 : ((kvs.map (·.2)).filter tv).length = (((kvs.map (·.2)).take j).filter tv).length → ∀ h' e, Heap.ExtBut I s.heap h' → (∃ o, h'.get? e = some o ∧ o.cls = .type "StopIteration") → E (.ref e) { s with heap := h' }) : wpAny (model prog w) A (callSpecial? (.ref F) "__next__") Q E s := by
  have hT : s.TypeIs (.ref F) "filter" := ⟨_, hF, rfl⟩
  exact wpAny_callSpecial?_slot (name := Str.ofString "__next__") hT fil_next (wpAny_call (codeAny_call_builtin fil_next.plain fil_enext (fil_next.check _ _ _ _ _ _ _ _ hT (fil_anext _) (fil_loop (R := fun r s' => match r with | .ok (.ret v) => Q (some v) s' | .ok _ => False | .error e => E e s') hh hFI hdI hin _ j s rfl hF hI hd h1 h2))))
theorem fil_pyNext {j : Nat} {Q : Option Value → Shared → Prop} (hh : A.handled = none) (hFI : F ≠ I) (hdI : d ≠ I) (hin : ∀ p ∈ kvs, IN p.2) (hF : s.heap.get? F = some (filObj I)) (hI : s.heap.IsValIter I d j kvs.length ep) (hd : s.heap.DictAt knd d kvs ep)
    (h1 : ∀ v j' h', ((kvs.map (·.2)).filter tv)[(((kvs.map (·.2)).take j).filter tv).length]? = some v → j' ≤ kvs.length → (((kvs.map (·.2)).take j').filter tv).length = (((kvs.map (·.2)).take j).filter tv).length + 1 → h'.IsValIter I d j' kvs.length ep → Heap.SameBut I s.heap h' → Q (some v) { s with heap := h' })
    (h2 : ((kvs.map (·.2)).filter tv).length = (((kvs.map (·.2)).take j).filter tv).length → ∀ h', Heap.ExtBut I s.heap h' → Q none { s with heap := h' }) : wpAny (model prog w) A (pyNext (.ref F)) Q E s := by
  unfold pyNext
  refine wpAny_bind (wpAny_attempt (fil_slot hh hFI hdI hin hF hI hd ?_ ?_))
  · intro v j' h' a b c e f
    exact wpAny_pure (h1 v j' h' a b c e f)
  · intro a h' e k ⟨o, ho, hc⟩
    exact wpAny_bind (wpAny_isInstance (T := "StopIteration") (b := true) ⟨o, ho, hc⟩ isSubtype_stop (wpAny_pure (h2 a h' k)))
theorem fil_walk (hh : A.handled = none) (hFI : F ≠ I) (hdI : d ≠ I) (hin : ∀ p ∈ kvs, IN p.2) : Walks prog w A F [F, I, d] [I] ((kvs.map (·.2)).filter tv).length (fun i v => ((kvs.map (·.2)).filter tv)[i]? = some v)
    (fun i h => h.get? F = some (filObj I) ∧ h.DictAt knd d kvs ep ∧ ∃ j, (((kvs.map (·.2)).take j).filter tv).length = i ∧ h.IsValIter I d j kvs.length ep) where
  sub := fun b hb => by rw [List.mem_singleton.mp hb]; exact .tail _ (.head _)
  frame := fun i h h' ⟨a, b, j, e, c⟩ k => ⟨k F (.head _) _ a, b.at' fun o e => k d (.tail _ (.tail _ (.head _))) o e, j, e, c.at fun o e => k I (.tail _ (.head _)) o e⟩
  item := fun i s Q E hi ⟨a, b, j, e, c⟩ q => by
    subst e
    exact fil_pyNext hh hFI hdI hin a c b (fun v j' h' e1 _ e3 e4 e5 => q v h' s.toks e1 ⟨e5.extBut _ _ hFI a, b.extBut e5.extBut hdI, j', e3, e4⟩ fun b o hb e => e5.extBut b o (fun q => hb (by rw [q]; exact .head _)) e) fun e => absurd e (Nat.ne_of_gt hi)
  done := fun s Q E ⟨a, b, j, e, c⟩ q => by
    refine fil_pyNext hh hFI hdI hin a c b (fun v j' h' e1 _ _ _ _ => ?_) fun _ h' k => q h' s.toks fun b o hb e => k b o (fun q => hb (by rw [q]; exact .head _)) e
    rw [e, List.getElem?_eq_none (Nat.le_refl _)] at e1; cases e1
  self := fun i s Q E ⟨a, _⟩ q => by
    have hT : s.TypeIs (.ref F) "filter" := ⟨_, a, rfl⟩
    refine wpAny_pyIter_slot hT fil_iter (wpAny_call_entry fil_iter hT fil_eiter ?_ (fil_aiter _))
    show wpAny _ _ (ret (.ref F)) _ _ s
    exact wpAny_pure ⟨_, rfl, "filter", _, hT, fil_next.lookup, q⟩
end
end
end Mine
end

noncomputable section
open PySem PySem.W PySem.Calls PyProof.Rows
set_option maxRecDepth 100000
set_option maxHeartbeats 2000000
namespace Mine
noncomputable def bestOf (val : Nat → Int) : Nat → Option Int
  | 0 => none
  | i + 1 => some (match bestOf val i with | none => val i | some b => if val i > b then val i else b)
noncomputable def bestIs : Option (Int × Tok) → Array Value
  | none => #[]
  | some (b, t) => #[.int b t, .int b t]
noncomputable def MaxV (val : Nat → Int) (n : Nat) (dv v : Value) : Prop := match bestOf val n with | none => v = dv | some b => ∃ t, v = .int b t
section
variable {prog : Program} {w : World} {A : Around} {E : Value → Shared → Prop} {s : Shared} {I S : Addr} {fp wr : List Addr} {n : Nat} {P : Nat → Value → Prop} {St : Nat → Heap → Prop} {R : Result → Shared → Prop} {dv : Value}
theorem best_size {p : Int × Tok} : (bestIs (some p)).size ≤ sizeLine := by rw [sizeLine_eq]; show 2 ≤ _; omega
theorem maxd_args (x d : Value) : argsOk "max" ⟨[x], [("default", d)]⟩ := by unfold argsOk; kernel_rfl
theorem maxd_loop (W : Walks prog w A.in1 I fp wr n P St) (val : Nat → Int) (hval : ∀ i v, P i v → ∃ t, v = .int (val i) t) (hSf : S ∉ fp) : ∀ (k i : Nat) (s : Shared) (c : Nat) (bst : Option (Int × Tok)), n - i = k → i ≤ n → St i s.heap → bst.map (·.1) = bestOf val i →
    s.heap.get? S = some { cls := .type "list", data := .seq (bestIs bst) c } → (∀ v h' tk, MaxV val n dv v → (∀ b o, b ∉ S :: wr → s.heap.get? b = some o → h'.get? b = some o) → R (.ok (.ret v)) { s with heap := h', toks := tk }) →
    codeAny (model prog w) A (.builtin "max.loop" ⟨[.ref I, .none, .ref S], [("default", dv)]⟩) R s := by
  have hSw : S ∉ wr := fun h => hSf (W.sub _ h)
  have hname : (toString "max" ++ toString ".loop" : String) = "max.loop" := by decide
  have notS : ∀ {b : Addr}, b ∉ S :: wr → b ≠ S ∧ b ∉ wr := fun hb => ⟨fun h => hb (by rw [h]; exact .head _), fun h => hb (.tail _ h)⟩
  intro k
  induction k with
  | zero =>
    intro i s c bst hk hi hst hb hS hR
    have hin : i = n := by omega
    subst hin
    refine codeAny_builtin PySem.F.entry_max_loop ?_
    rw [Around.under_plainId PySem.F.plain_max_loop _]
    show wpAny _ A.in1 (seqItems? (.ref S) >>= _) _ _ s
    refine wpAny_bind (wpAny_seqItems hS rfl ?_)
    show wpAny _ A.in1 (tryCatch (pyNext (.ref I)) _ >>= _) _ _ s
    refine wpAny_bind (wpAny_tryCatch (W.done s _ _ hst fun h' tk hm => ?_))
    have hS' := hm S _ hSw hS
    cases bst with
    | none =>
      refine wpAny_bind (wpAny_rule (wpAny_pure (hR dv h' tk ?_ fun b o hb e => hm b o (notS hb).2 e)))
      unfold MaxV
      rw [← hb]; rfl
    | some p =>
      show wpAny _ A.in1 (updateSeq S (fun _ => #[]) >>= _) _ _ _
      refine wpAny_bind (wpAny_updateSeq hS' rfl (wpAny_bind (wpAny_letGo (wpAny_pure (hR (.int p.1 p.2) _ _ ?_ fun b o hb e => (Heap.get?_update_ne _ _ _ _ (notS hb).1).trans (hm b o (notS hb).2 e))))) (hz := best_size))
      unfold MaxV
      rw [← hb]; exact ⟨_, rfl⟩
  | succ k ih =>
    intro i s c bst hk hi hst hb hS hR
    have hlt : i < n := by omega
    refine codeAny_builtin PySem.F.entry_max_loop ?_
    rw [Around.under_plainId PySem.F.plain_max_loop _]
    show wpAny _ A.in1 (seqItems? (.ref S) >>= _) _ _ s
    refine wpAny_bind (wpAny_seqItems hS rfl ?_)
    show wpAny _ A.in1 (tryCatch (pyNext (.ref I)) _ >>= _) _ _ s
    refine wpAny_bind (wpAny_tryCatch (W.item i s _ _ hlt hst fun v h' tk hP hst' hm => ?_))
    obtain ⟨t, rfl⟩ := hval i v hP
    have hS' := hm S _ hSw hS
    have fr : ∀ f, St (i + 1) (h'.update S f) := fun f => W.frame _ h' _ hst' fun b hb o e => (Heap.get?_update_ne _ _ _ _ fun q => hSf (by rw [← q]; exact hb)).trans e
    cases bst with
    | none =>
      show wpAny _ A.in1 (updateSeq S (fun _ => #[.int (val i) t, .int (val i) t]) >>= _) _ _ _
      refine wpAny_bind (wpAny_updateSeq hS' rfl ?_)
      rw [hname]
      refine wpAny_pure ⟨plainId_quiet PySem.F.plain_max_loop _, ih (i + 1) _ _ (some (val i, t)) (by omega) hlt (fr _) (by unfold bestOf; rw [← hb]; rfl) (Heap.get?_update_self _ hS' rfl) fun v h'' tk hv hk => hR v h'' tk hv fun b o hb e => hk b o hb ((Heap.get?_update_ne _ _ _ _ (notS hb).1).trans (hm b o (notS hb).2 e))⟩
    | some p =>
      show wpAny _ A.in1 (tryCatch (holding [_, _] (richCompare .Gt (.int (val i) t) (.int p.1 p.2) >>= _)) _ >>= _) _ _ _
      refine wpAny_bind (wpAny_tryCatch (wpAny_holding (wpAny_bind (PySem.P.gt_int (wpAny_bind (wpAny_holding (wpAny_truthy_bool (wpAny_bind (wpAny_letGo (wpAny_pure ?_))))))))))
      by_cases hg : val i > p.1
      · rw [decide_eq_true hg]
        simp (iota := false) only [if_true]
        refine wpAny_bind (wpAny_updateSeq hS' rfl (wpAny_bind (wpAny_letGo ?_)) (hz := best_size))
        rw [hname]
        exact wpAny_pure ⟨plainId_quiet PySem.F.plain_max_loop _, ih (i + 1) _ _ (some (val i, t)) (by omega) hlt (fr _) (by unfold bestOf; rw [← hb]; simp [hg]) (Heap.get?_update_self _ hS' rfl) fun v h'' tk hv hk => hR v h'' tk hv fun b o hb e => hk b o hb ((Heap.get?_update_ne _ _ _ _ (notS hb).1).trans (hm b o (notS hb).2 e))⟩
      · rw [decide_eq_false hg]
        simp (iota := false) only [Bool.false_eq_true, if_false]
        refine wpAny_bind (wpAny_letGo ?_)
        rw [hname]
        exact wpAny_pure ⟨plainId_quiet PySem.F.plain_max_loop _, ih (i + 1) _ _ (some p) (by omega) hlt hst' (by unfold bestOf; rw [← hb]; simp [hg]) hS' fun v h'' tk hv hk => hR v h'' tk hv fun b o hb e => hk b o hb (hm b o (notS hb).2 e)⟩
theorem chk_max (x dv : Value) : checkBuiltinCall "max" ⟨[x], [("default", dv)]⟩ = pure () := by kernel_rfl
theorem maxd_call {x : Value} {Q : Value → Shared → Prop}
    (h : wpAny (model prog w) A.in1 (pyIter x) (fun it s₂ => ∃ I fp wr n P St val, it = .ref I ∧ Walks prog w A.in1 I fp wr n P St ∧ St 0 s₂.heap ∧ (∀ b ∈ fp, b < s₂.heap.objs.size) ∧ (∀ i v, P i v → ∃ t, v = .int (val i) t) ∧
      ∀ v h' tk, MaxV val n dv v → (∀ b o, b ∉ wr → s₂.heap.get? b = some o → h'.get? b = some o) → Q v { s₂ with heap := h', toks := tk }) E s) : wpAny (model prog w) A (call (.builtin "max") [x] [("default", dv)]) Q E s := by
  have hname : (toString "max" ++ toString ".loop" : String) = "max.loop" := by decide
  refine wpAny_call (codeAny_call_builtin PySem.F.plain_max PySem.F.entry_max ?_)
  have fin : wpAny (model prog w) A.in1 (Builtin.«max» ⟨[x], [("default", dv)]⟩) (fun fin s' => match fin with
      | .done f => (match (Except.ok f : Result) with | .ok (.ret v) => Q v s' | .ok _ => False | .error e => E e s')
      | .again c' => c'.quiet = true ∧ codeAny (model prog w) A c' (fun r s' => match r with | .ok (.ret v) => Q v s' | .ok _ => False | .error e => E e s') s') E s := by
    show wpAny _ A.in1 (Builtin.Builtins.bindParams "max" ["key", "default"] 0 ⟨[], [("default", dv)]⟩ >>= _) _ _ s
    refine wpAny_bind (wpAny_of_eq (show Builtin.Builtins.bindParams "max" ["key", "default"] 0 ⟨[], [("default", dv)]⟩ = pure [none, some dv] from rfl) ?_)
    refine wpAny_bind (wpAny_pure ?_)
    refine wpAny_bind (wpAny_mono h (fun it s₂ h₂ => ?_) fun _ _ e => e)
    obtain ⟨I, fp, wr, n, P, St, val, rfl, W, hst, hfp, hval, hQ⟩ := h₂
    refine wpAny_bind (wpAny_newObj_type ?_)
    have hS : s₂.heap.objs.size ∉ fp := fun hm => Nat.lt_irrefl _ (hfp _ hm)
    rw [hname]
    exact wpAny_pure ⟨plainId_quiet PySem.F.plain_max_loop _, maxd_loop W val hval hS n 0 _ _ none rfl (Nat.zero_le _) (W.frame 0 s₂.heap _ hst fun b _ o e => Heap.get?_push_of_some _ e) rfl (Heap.get?_push_size _ rfl) fun v h' tk hv hk =>
      hQ v h' tk hv fun b o hb e => hk b o (fun q => (List.mem_cons.mp q).elim (fun q => Nat.lt_irrefl _ (q ▸ Heap.lt_size e)) hb) (Heap.get?_push_of_some _ e)⟩
  rw [chk_max]
  exact wpAny_pure fin
theorem cont_entry : entryFor table "proto.contains_iter" = some Builtin.«proto.contains_iter» := entryFor_of_tree (by kernel_rfl)
theorem cont_plain : plainId "proto.contains_iter" = true := by decide +kernel
theorem vals_cont : typeLookup (.type "dict_values") "__contains__" = pure none := by rw [typeLookup_type, builtinLookup_eq_fast]; kernel_rfl
noncomputable def isN : Value → Bool
  | .none => true
  | _ => false
theorem eqb_none {v : Value} {Q : Bool → Shared → Prop} (h : IN v) (q : Q (isN v) s) : wpAny (model prog w) A (eqBool v .none) Q E s := by
  unfold eqBool
  refine wpAny_holding ?_
  rcases h with rfl | ⟨n, t, rfl⟩
  · show wpAny _ _ (if (Value.none == Value.none) = true then _ else _) _ _ _
    rw [if_pos (show (Value.none == Value.none) = true from rfl)]
    exact wpAny_bind (wpAny_rule (wpAny_pure q))
  · show wpAny _ _ (if (Value.int n t == Value.none) = true then _ else _) _ _ _
    rw [if_neg (by simp)]
    show wpAny _ _ (richCompare .Eq (.int n t) .none >>= fun r => truthOfDropped r) _ _ _
    exact wpAny_bind (EqNone.eq_int_none (wpAny_truthy_bool q))
theorem cont_loop (W : Walks prog w A.in1 I fp wr n P St) (hin : ∀ i v, P i v → IN v) (f : Nat → Bool) (hf : ∀ i v, P i v → isN v = f i) : ∀ (k i : Nat) (s : Shared), n - i = k → i ≤ n → St i s.heap → (∀ j < i, f j = false) →
    (∀ h' tk, (∀ b o, b ∉ wr → s.heap.get? b = some o → h'.get? b = some o) → R (.ok (.ret (.bool ((List.range n).any f)))) { s with heap := h', toks := tk }) →
    codeAny (model prog w) A (.builtin "proto.contains_iter" ⟨[.ref I, .none], []⟩) R s := by
  intro k
  induction k with
  | zero =>
    intro i s hk hi hst hno hR
    have hin : i = n := by omega
    subst hin
    refine codeAny_builtin cont_entry ?_
    rw [Around.under_plainId cont_plain _]
    show wpAny _ A.in1 (pyNext (.ref I) >>= _) _ _ s
    refine wpAny_bind (W.done s _ _ hst fun h' tk hm => ?_)
    refine wpAny_bind (wpAny_rule (wpAny_pure ?_))
    have := hR h' tk hm
    rwa [List.any_eq_false.mpr fun j hj => by rw [hno j (List.mem_range.mp hj)]; exact Bool.false_ne_true] at this
  | succ k ih =>
    intro i s hk hi hst hno hR
    have hlt : i < n := by omega
    refine codeAny_builtin cont_entry ?_
    rw [Around.under_plainId cont_plain _]
    show wpAny _ A.in1 (pyNext (.ref I) >>= _) _ _ s
    refine wpAny_bind (W.item i s _ _ hlt hst fun v h' tk hP hst' hm => ?_)
    show wpAny _ A.in1 (eqBool v .none >>= _) _ _ _
    refine wpAny_bind (eqb_none (hin i v hP) ?_)
    rw [hf i v hP]
    cases hfi : f i with
    | true =>
      refine wpAny_bind (wpAny_rule (wpAny_pure ?_))
      have := hR h' tk hm
      rwa [List.any_eq_true.mpr ⟨i, List.mem_range.mpr hlt, hfi⟩] at this
    | false =>
      refine wpAny_pure ⟨plainId_quiet cont_plain _, ih (i + 1) _ (by omega) hlt hst' (fun j hj => ?_) fun h'' tk hk => hR h'' tk fun b o hb e => hk b o hb (hm b o hb e)⟩
      rcases Nat.lt_or_eq_of_le (Nat.le_of_lt_succ hj) with h | h
      · exact hno j h
      · rw [h]; exact hfi
end
end Mine
end

noncomputable section
open PySem PySem.W PySem.Calls PyProof.Rows
set_option maxRecDepth 100000
set_option maxHeartbeats 2000000
namespace Mine
theorem refuse_L (self : Value) : refuseLoop self "__setattr__" (.ref 108 :: [.type "list", .type "object"]) = pure () := by rw [refuseLoop_ref]; kernel_rfl
theorem sig_L : Manifest.signature? "list.__new__" = some ⟨.any, "list", "list", .cls, [⟨"args", .varPos, false⟩, ⟨"kwargs", .varKw, false⟩]⟩ := by kernel_rfl
theorem kind_L : builtinKind "list.__new__" = some .builtinFn := by decide +kernel
theorem split_L : splitId "list.__new__" = some ("list", "__new__") := by decide +kernel
theorem MethAt.typ {prog : Program} {K : Frag} {f : Addr} {n q : Str} {i : Nat} {dv : Value} (F : MethAt prog K f n q i dv) : typeIn K (.ref f) = some (.type "function") := by
  obtain ⟨od, osl, doc, pm, an, ct, cc, ccl, cdd, vs, ccs, file, tf, hf, _⟩ := F
  exact congrArg (Option.map fun o : Obj => o.cls) hf
section
variable {prog : Program} {w : World} {A : Around} {K : Frag} {R : Result → Shared → Prop} {h : Heap} {g : Array GenState} {d : Drawn} {t : Nat} {os : OsState}
variable {nm q : Str} {bs : List Value} {sn : List Str} {sub : List Value} {col : Option Bool} {dd : Option Addr} {k0 k1 k2 k3 k5 : Option Value}
noncomputable abbrev accCls (nm : Str) (bs : List Value) (sn : List Str) (sub : List Value) (col : Option Bool) (dd : Option Addr) (k0 k1 k2 k3 k5 : Option Value) : Obj := excClassObj nm "_Accumulator" 108 107 bs [.type "list", .type "object"] true sn sub false col dd k0 k1 k2 k3 k5 "list.__new__"
theorem acc_newL (hC : h.get? 108 = some (accCls nm bs sn sub col dd k0 k1 k2 k3 k5)) (hq : R (.ok (.ret (.ref (h.objs.size + 1)))) ⟨(h.push emptyDict).push (accObj h.objs.size #[] 0), g, d, t, os⟩) :
    codeAny (model prog w) A (.call (.builtin "list.__new__") ⟨[.ref 108], []⟩) R ⟨h, g, d, t, os⟩ := by
  have hcont : (Value.ref 108 :: [.type "list", .type "object"]).contains (.type "list") = true := by decide
  refine codeAny_call_builtin_code (Code.quiet_builtin _ (by decide +kernel)) ?_
  simp only [checkBuiltinCall, kind_L, split_L, sig_L]
  repeat (first | refine wpAny_loadPart_at hC ?_ | (refine wpAny_isSubtype_exc hC ?_; rw [hcont]) | refine wpAny_staticBase_exc hC ?_ | refine wpAny_madeBy_exc hC ?_ | simp only [bne_self_eq_false, Bool.false_eq_true, if_false] | wp_step)
  refine codeAny_builtin_stack PySem.F.entry_list_new rfl fun p st => ?_
  have hown := owner_list_new
  simp only [hown]
  repeat (first | refine wpAny_loadPart_at hC ?_ | (refine wpAny_isSubtype_exc hC ?_; rw [hcont]) | wp_step)
  show R _ _
  rw [Heap.size_push]
  exact hq

theorem acc_make (X : K.In h) (k : AccK prog K)
    (hq : codeAny (model prog w) (A.under (.builtin "type.__call__" ⟨[.ref 108], []⟩)) (.call (.ref 45) ⟨[.ref (h.objs.size + 1)], []⟩) (InitBack (h.objs.size + 1) R) ⟨(h.push emptyDict).push (accObj h.objs.size #[] 0), g, d, t, os⟩) :
    codeAny (model prog w) A (.call (.ref 108) ⟨[], []⟩) R ⟨h, g, d, t, os⟩ := by
  obtain ⟨nm, bs, sn, sub, col, dd, k0, k1, k2, k3, k5, e⟩ := k.cls
  have hC : h.get? 108 = some (accCls nm bs sn sub col dd k0 k1 k2 k3 k5) := X _ _ e
  have hi : Looks (model prog w) h (typeLookup (.ref 108) "__init__") (some (.ref 45)) := looks_findIn X (k.tab (_, _) (by decide))
  have hfn := bind_fn (M := model prog w) X (.ref (h.objs.size + 1)) k.fI.typ
  have f1 := tc_lookup
  have f2 := tc_bind (.ref 108)
  have hT : (⟨h, g, d, t, os⟩ : Shared).TypeIs (.ref 108) "type" := ⟨_, hC, rfl⟩
  refine codeAny_of_tree ?_
  show wpAny _ _ (callAny (.ref 108) _) _ _ _
  repeat (any_goals (first | assumption | with_reducible refine wpAny_loadPart_at hC ?_ | wp_step))
  refine ⟨rfl, codeAny_call_builtin_at (Code.quiet_builtin _ (by decide +kernel)) entry_typeCall (wpAny_check_type_call_sub hC ?_)⟩
  unfold Builtin.«type.__call__»
  repeat (first | with_reducible refine wpAny_loadPart_at hC ?_ | with_reducible refine wpAny_madeBy_exc hC ?_ | wp_step)
  refine acc_newL hC ?_
  show wpAny _ _ _ _ _ _
  have k2 : ∀ b o, h.get? b = some o → ((h.push emptyDict).push (accObj h.objs.size #[] 0)).get? b = some o := fun b o e => Heap.get?_push_of_some _ (Heap.get?_push_of_some _ e)
  have hx : ((h.push emptyDict).push (accObj h.objs.size #[] 0)).get? (h.objs.size + 1) = some (accObj h.objs.size #[] 0) := by heap_get
  have t1 : Looks (model prog w) ((h.push emptyDict).push (accObj h.objs.size #[] 0)) (typeOf (.ref (h.objs.size + 1))) (.ref 108) := (Looks.ld hx).andThen .now
  have hcC : (Value.ref 108 :: [.type "list", .type "object"]).contains (.ref 108) = true := by decide
  have i1 := hi.keeps k2
  have b1 := hfn.keeps k2
  have hC₁ := k2 _ _ hC
  unfold isInstance callSpecial? specialOf
  repeat (first | with_reducible refine Looks.at t1 ?_ | with_reducible refine Looks.at i1 ?_ | with_reducible refine Looks.at b1 ?_ | (with_reducible refine wpAny_isSubtype_exc hC₁ ?_; rw [hcC]) | wp_step)
  refine codeAny_mono hq fun r s' z => ?_
  rcases r with e | (v | _ | _ | _) <;> first | exact z | exact z.elim | skip
  obtain ⟨rfl, z⟩ := z
  exact wpAny_pure (wpAny_pure z)
end
end Mine
end

noncomputable section
open PySem PySem.W PySem.Calls PyProof.Rows
set_option maxRecDepth 100000
set_option maxHeartbeats 2000000
namespace Mine
section
variable {prog : Program} {w : World} {A : Around} {K : Frag} {R : Result → Shared → Prop} {E : Value → Shared → Prop} {h : Heap} {g : Array GenState} {d : Drawn} {t : Nat} {os : OsState}
structure Bnd (id dt gid bt : String) : Prop where
  typ : typeOf (.builtin id) = pure (.type dt)
  lk : typeLookup (.type dt) "__get__" = pure (some (.builtin gid))
  run : ∀ (prog : Program) (w : World) (A : Around) (E : Value → Shared → Prop) (h : Heap) (g : Array GenState) (d : Drawn) (t : Nat) (os : OsState) (x : Addr) (o : Obj) (Q : Value → Shared → Prop), h.get? x = some o → o.cls = .ref 108 →
    Looks (model prog w) h (isSubtype (.ref 108) (.type "list")) true → Q (.ref h.objs.size) ⟨h.push { cls := .type bt, data := .fields #[.builtin id, .ref x] }, g, d, t, os⟩ →
    wpAny (model prog w) A (call (.builtin gid) [.builtin id, .ref x, .ref 108]) Q E ⟨h, g, d, t, os⟩
theorem slot_wget : Slot "wrapper_descriptor" "__get__" "wrapper_descriptor.__get__" := .of (owner := "wrapper_descriptor") (n := "__get__") (by rw [typeLookup_type, builtinLookup_eq_fast]; kernel_rfl) (by decide +kernel) (by decide +kernel) (by decide +kernel)
  (by first | exact .inl (by decide +kernel) | exact .inr (by decide +kernel)) (by rw [isSubtype_type]; kernel_rfl)
theorem slot_mget : Slot "method_descriptor" "__get__" "method_descriptor.__get__" := .of (owner := "method_descriptor") (n := "__get__") (by rw [typeLookup_type, builtinLookup_eq_fast]; kernel_rfl) (by decide +kernel) (by decide +kernel) (by decide +kernel)
  (by first | exact .inl (by decide +kernel) | exact .inr (by decide +kernel)) (by rw [isSubtype_type]; kernel_rfl)
theorem en_wget : entryFor table "wrapper_descriptor.__get__" = some Builtin.«wrapper_descriptor.__get__» := entryFor_of_tree (by kernel_rfl)
theorem en_mget : entryFor table "method_descriptor.__get__" = some Builtin.«method_descriptor.__get__» := entryFor_of_tree (by kernel_rfl)
theorem args_wget (a b c : Value) : argsOk "wrapper_descriptor.__get__" ⟨[a, b, c], []⟩ := by unfold argsOk; kernel_rfl
theorem args_mget (a b c : Value) : argsOk "method_descriptor.__get__" ⟨[a, b, c], []⟩ := by unfold argsOk; kernel_rfl
theorem bnd_w {id : String} (e : ".".intercalate (id.cutAt '.').dropLast = "list") (ht : typeOf (.builtin id) = pure (.type "wrapper_descriptor")) : Bnd id "wrapper_descriptor" "wrapper_descriptor.__get__" "method-wrapper" := by
  refine ⟨ht, slot_wget.lookup, fun prog w A E h g d t os x o Q hx hc hs hq => wpAny_call_entry slot_wget ht en_wget ?_ (args_wget _ _ _)⟩
  unfold Builtin.«wrapper_descriptor.__get__»
  repeat (first | with_reducible refine Looks.at hs ?_ | (with_reducible refine wpAny_loadPart_at hx ?_; rw [hc]) | rw [e] | wp_step)
  exact ⟨_, rfl, hq⟩
theorem bnd_m {id : String} (e : ".".intercalate (id.cutAt '.').dropLast = "list") (ht : typeOf (.builtin id) = pure (.type "method_descriptor")) (hn : Manifest.toldItsClass.contains id = false) : Bnd id "method_descriptor" "method_descriptor.__get__" "builtin_function_or_method" := by
  refine ⟨ht, slot_mget.lookup, fun prog w A E h g d t os x o Q hx hc hs hq => wpAny_call_entry slot_mget ht en_mget ?_ (args_mget _ _ _)⟩
  unfold Builtin.«method_descriptor.__get__»
  repeat (first | with_reducible refine Looks.at hs ?_ | (with_reducible refine wpAny_loadPart_at hx ?_; rw [hc]) | rw [e] | simp (iota := false) only [hn, Bool.false_eq_true, if_false] | wp_step)
  exact ⟨_, rfl, hq⟩
theorem bnd_init : Bnd "list.__init__" "wrapper_descriptor" "wrapper_descriptor.__get__" "method-wrapper" := bnd_w (by decide +kernel) (by kernel_rfl)
theorem bnd_len : Bnd "list.__len__" "wrapper_descriptor" "wrapper_descriptor.__get__" "method-wrapper" := bnd_w (by decide +kernel) (by kernel_rfl)
theorem bnd_pop : Bnd "list.pop" "method_descriptor" "method_descriptor.__get__" "builtin_function_or_method" := bnd_m (by decide +kernel) (by kernel_rfl) (by decide +kernel)
end
end Mine
end

noncomputable section
open PySem PySem.W PySem.Calls PyProof.Rows
set_option maxRecDepth 100000
set_option maxHeartbeats 2000000
namespace Mine
section
variable {prog : Program} {w : World} {A : Around} {K : Frag} {R : Result → Shared → Prop} {E : Value → Shared → Prop} {h : Heap} {g : Array GenState} {d : Drawn} {t : Nat} {os : OsState}
theorem sup_ga {id dt gid bt : String} {so x dx : Addr} {items : Array Value} {n : Nat} {name : Str} {tk : Tok} {Q : Fin → Shared → Prop} (Bd : Bnd id dt gid bt)
    (hso : h.get? so = some (ks_superObj 108 x 108)) (X : K.In h) (k : AccK prog K) (hx : h.get? x = some (accObj dx items n))
    (hf : alongIn K name [.type "list", .type "object"] = some (some (.builtin id))) (hn : (name == ("__class__" : Str)) = false)
    (hq : Q (.done (.ret (.ref h.objs.size))) ⟨h.push { cls := .type bt, data := .fields #[.builtin id, .ref x] }, g, d, t, os⟩) :
    wpAny (model prog w) A (Builtin.«super.__getattribute__» ⟨[.ref so, .str name tk], []⟩) Q E ⟨h, g, d, t, os⟩ := by
  obtain ⟨nm, bs, sn, sub, col, dd, k0, k1, k2, k3, k5, e⟩ := k.cls
  have hC : h.get? 108 = some (accCls nm bs sn sub col dd k0 k1 k2 k3 k5) := X _ _ e
  have hno := looks_opaque (M := model prog w) (C := 108) X k.opq
  have hs : Looks (model prog w) h (isSubtype (.ref 108) (.type "list")) true := looks_mroIn X k.list
  have hxC : x ≠ 108 := by rintro rfl; rw [hx] at hC; cases hC
  have hlk := Bd.lk
  have hne : (Value.ref x == Value.ref 108) = false := by simp [hxC]
  have hTf : (⟨h, g, d, t, os⟩ : Shared).TypeIs (.builtin id) dt := Bd.typ
  have hdt : (ks_superObj 108 x 108).data = .fields #[.ref 108, .ref x, .ref 108] := rfl
  have f0 : (#[.ref 108, .ref x, .ref 108] : Array Value)[0]? = some (.ref 108) := rfl
  have f1 : (#[.ref 108, .ref x, .ref 108] : Array Value)[1]? = some (.ref x) := rfl
  have f2 : (#[.ref 108, .ref x, .ref 108] : Array Value)[2]? = some (.ref 108) := rfl
  have hl : ((Value.ref 108 :: [.type "list", .type "object"]).dropWhile (· != .ref 108)).drop 1 = [.type "list", .type "object"] := by decide
  unfold Builtin.«super.__getattribute__»
  repeat (first
    | (with_reducible refine wpAny_field hso hdt f0 ?_) | (with_reducible refine wpAny_field hso hdt f1 ?_) | (with_reducible refine wpAny_field hso hdt f2 ?_)
    | (with_reducible refine ks_wpAny_notOpaque hno ?_)
    | (with_reducible refine wpAny_mroOf_exc hC ?_; rw [hl])
    | (refine ks_forIn_along X (fun _ _ => rfl) rfl ?_ hf)
    | (with_reducible refine wpAny_typeOf hTf ?_)
    | (with_reducible refine Bd.run _ _ _ _ _ _ _ _ _ _ _ _ hx rfl hs ?_)
    | (simp only [hn, hne, Bool.or_false, Bool.false_eq_true, if_false])
    | wp_step
    | dsimp only)
  all_goals exact hq

theorem sup_method {id dt gid bt : String} {so x dx : Addr} {items : Array Value} {n : Nat} {name : Str} {pl : Sem Bool} {Q : Value × List Value → Shared → Prop} (Bd : Bnd id dt gid bt)
    (hso : h.get? so = some (ks_superObj 108 x 108)) (X : K.In h) (k : AccK prog K) (hx : h.get? x = some (accObj dx items n))
    (hf : alongIn K name [.type "list", .type "object"] = some (some (.builtin id))) (hn : (name == ("__class__" : Str)) = false)
    (hq : Q (.ref h.objs.size, []) ⟨h.push { cls := .type bt, data := .fields #[.builtin id, .ref x] }, g, d, t + 1, os⟩) :
    wpAny (model prog w) A (getMethod (.ref so) name pl) Q E ⟨h, g, d, t, os⟩ := by
  have hlk := PySem.F.ks_slot_super_ga.lookup
  have hcan := PySem.F.ks_canon_super_ga
  have hT : ∀ t', (⟨h, g, d, t', os⟩ : Shared).TypeIs (.ref so) "super" := fun _ => ⟨_, hso, rfl⟩
  unfold getMethod
  refine wpAny_bind (wpAny_specialOf (hT _) hlk ?_)
  show wpAny _ _ (if (Manifest.canonical "super.__getattribute__" != "object.__getattribute__") = true then _ else _) _ _ _
  rw [if_pos hcan]
  unfold getAttr getAttrBy
  refine wpAny_bind (wpAny_bind (wpAny_mkText (wpAny_holding (wpAny_bind (wpAny_typeOf (hT _) (wpAny_bind (wpAny_of_eq hlk ?_)))))))
  show wpAny _ _ (getAttrByItsOwn (.ref so) (.str name t) (.type "super") (.builtin "super.__getattribute__") true false) _ _ _
  unfold getAttrByItsOwn hookBefore callGetattribute boundAndCalled
  refine wpAny_bind (wpAny_of_eq (show (if onTheHeap (.type "super") then typeLookup (.type "super") "__getattr__" else pure none) = pure none from rfl) ?_)
  refine wpAny_bind (wpAny_attempt (wpAny_holding ?_))
  show wpAny _ _ (bindSpecial (.builtin "super.__getattribute__") (.ref so) >>= _) _ _ _
  refine wpAny_bind (wpAny_of_eq (PySem.F.ks_slot_super_ga.bind _) ?_)
  refine wpAny_mono (Q := fun v s' => v = .ref h.objs.size ∧ s' = ⟨h.push { cls := .type bt, data := .fields #[.builtin id, .ref x] }, g, d, t + 1, os⟩) (E := fun _ _ => False)
    (wpAny_call_entry PySem.F.ks_slot_super_ga (hT _) PySem.F.ks_entry_super_ga (sup_ga Bd hso X k hx hf hn ⟨_, rfl, rfl, rfl⟩) (PySem.F.ks_gaArgs_super _ _)) (fun v s' hv => ?_) fun _ _ z => z.elim
  obtain ⟨rfl, rfl⟩ := hv
  exact wpAny_pure (wpAny_pure hq)
end
end Mine
end

noncomputable section
open PySem PySem.W PySem.Calls PyProof.Rows
set_option maxRecDepth 100000
set_option maxHeartbeats 2000000
namespace Mine
structure ME (prog : Program) (K : Frag) (env : Env) (f : Addr) (i : Nat) (cl : List (Str × Addr)) : Prop where
  kind : env.scope.kind = .function
  names : env.scope.names = (scopeOf (inCls i (stAt 6))).names
  glob : env.globals = mainGlobals
  bi : env.builtins = builtinsNs
  cells : env.cells = cl
  func : env.func = some f
  fo : ∃ of fd ar, K.lookup f = some of ∧ of.data = .func fd ∧ (fd.params.posonlyargs ++ fd.params.args).head? = some ar ∧ ar.arg = "self"
  code : ∃ cc oc vs file tf, env.code = .ref cc ∧ K.lookup cc = some oc ∧ oc.data = .fields vs ∧ vs[2]? = some (.str file tf) ∧ ((prog.main.file : Str) == file) = true
theorem ME.of {prog : Program} {K : Frag} {env : Env} {f : Addr} {i : Nat} {cl : List (Str × Addr)} (x : ME prog K env f i cl) {n : Str} {kd : NameKind} (e : (scopeOf (inCls i (stAt 6))).names.lookup n = some kd) : env.kindOf n = some kd := by
  unfold Env.kindOf; rw [x.names]; exact e
section
variable {prog : Program} {w : World} {A : Around} {K : Frag} {R : Result → Shared → Prop} {E : Value → Shared → Prop} {mg mb : Str → Option Value} {s : Shared} {env : Env}
theorem meth_call {f : Addr} {n q : Str} {i : Nat} {dv : Value} {args : PySem.Args} (binds : List (Str × Value)) (X : K.In s.heap) (F : MethAt prog K f n q i dv) (B : Base prog w mg mb s.heap) (hroom : A.depth < recursionLimit)
    (hp : ((paramsOf (inCls i (stAt 6))).posonlyargs ++ (paramsOf (inCls i (stAt 6))).args).head?.map (·.arg) = some "self")
    (hbind : ∀ doc pm an cd ct, BindsTo s (fnX n q (paramsOf (inCls i (stAt 6))) (bodyOf (inCls i (stAt 6))) (scopeOf (inCls i (stAt 6))) (if i = 1 then [] else [("__class__", 32)]) dv .none doc pm an cd ct) args binds)
    (hcell : ((scopeOf (inCls i (stAt 6))).names.all fun x => x.2 != .cell) = true) (hloc : (binds.all fun x => (scopeOf (inCls i (stAt 6))).names.lookup x.1 == some .local) = true)
    (h : ∀ env h₁ tk, ME prog K env f i (if i = 1 then [] else [("__class__", 32)]) → h₁.Ns env.locals (fun x => binds.reverse.lookup x) → s.heap.get? env.locals = none → Ext s.heap h₁ →
      PySem.wpAt (model prog w) (A.deeper env) (.func (bodyOf (inCls i (stAt 6))) env) (execs (bodyOf (inCls i (stAt 6))) env) (fun fl s' => R (.ok (.ret (match fl with | .ret v => v | _ => .none))) s') (fun _ _ => False) { s with heap := h₁, toks := tk })
    (hco : (scopeOf (inCls i (stAt 6))).isCoroutine = false := by rfl) (hgen : (scopeOf (inCls i (stAt 6))).isGenerator = false := by rfl) (hk : (scopeOf (inCls i (stAt 6))).kind = .function := by rfl) :
    codeAny (model prog w) A (.call (.ref f) args) R s := by
  obtain ⟨od, osl, doc, pm, an, ct, cc, ccl, cdd, vs, ccs, file, tf, hf, hcd, hcc, hvs, hfile⟩ := F
  refine ks_codeAny_call_defAt hroom (X _ _ hf) rfl B.lim (codeRec_of X hcd) rfl (hbind doc pm an (.ref cc) ct) (fun x hx e => ?_) (fun x hx => beq_iff_eq.mp (List.all_eq_true.mp hloc x hx)) (fun h₁ hns k => ?_) hco hgen hk
  · have := List.all_eq_true.mp hcell x hx
    rw [e] at this; cases this
  · obtain ⟨ar, ha1, ha2⟩ := Option.map_eq_some_iff.mp hp
    exact ks_wpAt_mono (h _ h₁ _ ⟨hk, rfl, rfl, rfl, rfl, rfl, ⟨_, _, ar, hf, rfl, ha1, ha2⟩, cc, _, vs, file, tf, rfl, hcc, rfl, hvs, hfile⟩ hns (none_at_size _) k) (fun _ _ y => y) fun _ _ y => y.elim

theorem sup_node {body : List Stmt} {f : Addr} {i : Nat} {p0 p1 : Pos} {attr : Str} {whole : Sem Value} {m : Str → Option Value} {x dx : Addr} {items : Array Value} {n : Nat} {Q : Value → Shared → Prop}
    (X : K.In s.heap) (k : AccK prog K) (B : Base prog w mg mb s.heap) (O : ME prog K env f i [("__class__", 32)]) (hn : s.heap.Ns env.locals m) (hv : m "self" = some (.ref x)) (hx : s.heap.get? x = some (accObj dx items n))
    (hat : (attr == ("__class__" : Str)) = false) (hks : (scopeOf (inCls i (stAt 6))).names.lookup ("super" : Str) = some .globalImplicit) (hkc : (scopeOf (inCls i (stAt 6))).names.lookup ("__class__" : Str) = some .free) (hka : (scopeOf (inCls i (stAt 6))).names.lookup ("self" : Str) = some .local)
    (h : ∀ so h', h'.get? so = some (ks_superObj 108 x 108) → Ext s.heap h' → Q (.ref so) { s with heap := h' }) :
    PySem.wpAt (model prog w) A (.func body env) (attributeBase (.Call (.Name "super" p0) [] [] p1) attr env whole) Q E s := by
  obtain ⟨nm, bs, sn, sub, col, dd, k0, k1, k2, k3, k5, e⟩ := k.cls
  have hC : s.heap.get? 108 = some (accCls nm bs sn sub col dd k0 k1 k2 k3 k5) := X _ _ e
  obtain ⟨of, fd, ar, hf, hfd, hp, ha⟩ := O.fo
  obtain ⟨cc, oc, vs, file, tf, hco, hcc, hoc, hvs, hfile⟩ := O.code
  obtain ⟨cl, cld, csl, hcell⟩ := k.cell
  refine ks_wpAt_super_base (O.of hks) (O.of hkc) hat O.func (X _ _ hf) hfd hp hco (X _ _ hcc) hoc hvs hfile k.top ?_
  refine ks_loadName_global O.kind (O.of hks) (loadGlobal_builtin (by rw [O.glob]; exact B.g) (B.no _ (by decide)) (by rw [O.bi]; exact B.b) ((B.bi _ (by decide)).trans (show bootBuiltins "super" = some (.type "super") from rfl)) ⟨rfl, ?_⟩)
  refine wpAny_loadName_free O.kind (O.of hkc) (by rw [O.cells]; rfl) ⟨_, X _ _ hcell, rfl⟩ ?_
  rw [ha]
  refine wpAny_loadName_local O.kind (O.of hka) hn hv ?_
  refine ks_wpAny_isType_cls hC rfl ⟨rfl, ?_⟩
  refine ks_wpAny_call_super hC rfl hx rfl (fun c e => by cases e) ?_ (fun h' e1 k1 => h _ h' e1 k1)
  intro A Q E s k q
  exact wpAny_isSubtype_exc (k _ _ hC) q
end
end Mine
end

noncomputable section
open PySem PySem.W PySem.Calls PyProof.Rows Builtin Builtin.ObjectAttr
set_option maxRecDepth 100000
set_option maxHeartbeats 2000000
namespace Mine
section
variable {prog : Program} {w : World} {A : Around} {K : Frag} {R : Result → Shared → Prop} {E : Value → Shared → Prop} {mg mb : Str → Option Value} {h : Heap} {g : Array GenState} {d : Drawn} {t : Nat} {os : OsState}
theorem acc_set {x dx : Addr} {items : Array Value} {n : Nat} {v : Value} {md : Str → Option Value} {Q : Unit → Shared → Prop} (X : K.In h) (k : AccK prog K) (hx : h.get? x = some (accObj dx items n)) (hd : h.Ns1 dx md) (hw : Within md [])
    (hq : ∀ h' tk, h'.Ns1 dx (fun y => if y = "_initial_size" then some v else md y) → Heap.SameBut dx h h' → Q () ⟨h', g, d, tk, os⟩) :
    wpAny (model prog w) A (setAttr (.ref x) "_initial_size" v) Q E ⟨h, g, d, t, os⟩ := by
  have SF := PySem.F.store_object
  have I : InstAt h x (accObj dx items n) 108 ((h.get? dx)) := ⟨hx, rfl, rfl, by obtain ⟨o, es, ep, e, r⟩ := hd; rw [e]; exact e⟩
  obtain ⟨nm, bs, sn, sub, col, dd, k0, k1, k2, k3, k5, e⟩ := k.cls
  have hC : h.get? 108 = some (accCls nm bs sn sub col dd k0 k1 k2 k3 k5) := X _ _ e
  refine set_plain (K := K) X I (k.tab (_, _) (by decide)) ?_
  have so : Looks (model prog w) h (isInstance (.ref x) (.type "object")) true := I.type.andThen (fun A Q E s k q => wpAny_isSubtype_exc (k _ _ hC) q)
  refine codeAny_call_builtin SF.slot.plain SF.entry (@check_slot (model prog w) _ _ ⟨h, g, d, t + 1, os⟩ "object.__setattr__" "object" "__setattr__" (.ref x) [.str "_initial_size" t, v] [] _ SF.kind SF.split so (SF.args (.ref x) (.str "_initial_size" t) v) ?_)
  rw [osa_eq, refuse_eq]
  have hm : Looks (model prog w) h (mroOf (.ref 108)) (.ref 108 :: [.type "list", .type "object"]) := fun A Q E s k q => wpAny_mroOf_exc (k _ _ hC) q
  have ha : Looks (model prog w) h (typeLookup (.ref 108) "_initial_size") none := looks_findIn X (k.tab (_, _) (by decide))
  refine wpAny_bind (wpAny_bind (I.type.here (wpAny_bind (hm.here ?_))))
  rw [refuse_L]
  refine wpAny_pure (wpAny_bind (I.type.here (wpAny_bind (ha.here (wpAny_bind ?_)))))
  show wpAny _ _ (storeTaker? none) _ _ _
  refine wpAny_pure ?_
  dsimp only
  refine wpAny_bind (wpAny_pure (wpAny_bind (wpAny_bind (wpAny_loadPart hx (wpAny_bind (wpAny_bind (wpAny_load hC (wpAny_pure ?_))))))))
  refine wpAny_pure (a := some dx) (wpAny_bind (wpAny_pure (wpAny_bind (wpAny_nsSet1 hd fun h' hn' hs => ?_))))
  obtain ⟨oD, esD, epD, hoD, hdD, hcD⟩ := hn'.count (Within.cons "_initial_size" v hw)
  refine wpAny_bind (wpAny_lookBehind hoD (by rw [hdD]; exact pastItsLine_dict (Nat.le_trans hcD (by rw [List.length_cons, List.length_nil, sizeLine_eq]; omega))) ?_)
  exact wpAny_pure (hq h' _ hn' hs)
end
end Mine
end

noncomputable section
open PySem PySem.W PySem.Calls PyProof.Rows
set_option maxRecDepth 100000
set_option maxHeartbeats 2000000
namespace Mine
section
variable {prog : Program} {w : World} {M : Model} {A : Around} {K : Frag} {R : Result → Shared → Prop} {E : Value → Shared → Prop} {mg mb : Str → Option Value} {s : Shared} {h : Heap} {g : Array GenState} {d : Drawn} {t : Nat} {os : OsState}
theorem callWith_bound {b : Addr} {bt : String} {vs : Array Value} {pos : Pos} {Q : Value → Shared → Prop} (hb : s.heap.get? b = some { cls := .type bt, data := .fields vs }) (hbt : bt = "method-wrapper" ∨ bt = "builtin_function_or_method")
    (hq : wpAny M A (call (.ref b) []) Q E s) : wpAny M A (callWith pos (.ref b) [] [] []) Q E s := by
  unfold callWith
  refine wpAny_bind (wpAny_holding (PySem.evalArgs_none (wpAny_bind (wpAny_standAt ?_))))
  have e : ((Value.type bt != .type "method") = true) ∧ ((Value.type bt == .type "builtin_function_or_method" || Value.type bt == .type "method-wrapper") = true) := by rcases hbt with rfl | rfl <;> decide
  refine wpAny_bind (wpAny_bind (wpAny_load hb ?_))
  simp (iota := false) only [e.1, e.2, if_true]
  refine wpAny_pure ?_
  refine wpAny_bind (wpAny_mono hq (fun r s₂ hr => wpAny_bind (wpAny_holding (wpAny_point (wpAny_pure hr)))) fun _ _ x => x)
theorem code_bound {b x : Addr} {bt id : String} {B : Builtin} (hb : s.heap.get? b = some { cls := .type bt, data := .fields #[.builtin id, .ref x] }) (hbt : bt = "method-wrapper" ∨ bt = "builtin_function_or_method") (hp : plainId id = true) (hB : entryFor table id = some B)
    (hc : Looks (model prog w) s.heap (checkBoundCall id ⟨[.ref x], []⟩) ())
    (hq : wpAny (model prog w) A.in1 (B ⟨[.ref x], []⟩) (fun fin s' => ∃ v, fin = .done (.ret v) ∧ R (.ok (.ret v)) s') (fun e s' => R (.error e) s') s) : codeAny (model prog w) A (.call (.ref b) ⟨[], []⟩) R s := by
  refine codeAny_of_tree ?_
  show wpAny _ A.in1 (callAny (.ref b) ⟨[], []⟩) _ _ _
  unfold callAny
  refine wpAny_bind (wpAny_load hb ?_)
  have e : ((Value.type bt == .type "method" || Value.type bt == .type "builtin_function_or_method" || Value.type bt == .type "method-wrapper") = true) ∧ ((Value.type bt != .type "method") = true) := by rcases hbt with rfl | rfl <;> decide
  simp (iota := false) only [e.1, e.2, if_true]
  refine wpAny_bind (hc.here (wpAny_pure ⟨plainId_quiet hp _, codeAny_builtin hB ?_⟩))
  rw [Around.under_plainId hp _]
  exact wpAny_mono hq (fun fin s' h' => by obtain ⟨v, rfl, hv⟩ := h'; exact hv) fun _ _ z => z
theorem chk_init (x : Addr) : checkBoundCall "list.__init__" ⟨[.ref x], []⟩ = pure () := by kernel_rfl
theorem chk_len (x : Addr) : checkBoundCall "list.__len__" ⟨[.ref x], []⟩ = pure () := by kernel_rfl
theorem sig_pop : Manifest.signature? "list.pop" = some ⟨.positional, "list.pop", "pop", .self, [⟨"index", .posOnly, false⟩]⟩ := by kernel_rfl
theorem kind_pop : builtinKind "list.pop" = some .method := by decide +kernel
theorem va_pop : Manifest.varargsMethods.contains "list.pop" = false := by decide +kernel
theorem chk_pop {x dx : Addr} {items : Array Value} {n : Nat} (X : K.In h) (k : AccK prog K) (hx : h.get? x = some (accObj dx items n)) : Looks (model prog w) h (checkBoundCall "list.pop" ⟨[.ref x], []⟩) () := by
  obtain ⟨nm, bs, sn, sub, col, dd, k0, k1, k2, k3, k5, e⟩ := k.cls
  have hC : h.get? 108 = some (accCls nm bs sn sub col dd k0 k1 k2 k3 k5) := X _ _ e
  intro A Q E s k q
  obtain ⟨hh, g, d, t, os⟩ := s
  have hx := k _ _ hx
  have hC := k _ _ hC
  have hcont : (Value.ref 108 :: [.type "list", .type "object"]).contains (.type "module") = false := by decide
  unfold checkBoundCall
  rw [sig_pop, kind_pop]
  dsimp only
  rw [va_pop]
  have c1 : Bind.checkArgs "list.pop" ⟨.positional, "_Accumulator.pop", "pop", .self, [⟨"index", .posOnly, false⟩]⟩ ⟨[.ref x], []⟩ = pure () := by kernel_rfl
  unfold isInstance
  repeat (first | with_reducible refine wpAny_loadPart_at hx ?_ | (with_reducible refine wpAny_loadPart_at hC ?_) | (with_reducible refine wpAny_isSubtype_exc hC ?_; rw [hcont]) | wp_step)
  exact q
end
end Mine
end

noncomputable section
open PySem PySem.W PySem.Calls PyProof.Rows
set_option maxRecDepth 100000
set_option maxHeartbeats 2000000
namespace Mine
section
variable {prog : Program} {w : World} {M : Model} {A : Around} {K : Frag} {R : Result → Shared → Prop} {E : Value → Shared → Prop} {mg mb : Str → Option Value} {s : Shared} {H : Heap}
theorem code_init {x dx : Addr} {items : Array Value} {n : Nat} {Q : Fin → Shared → Prop} (hx : s.heap.get? x = some (accObj dx items n)) (hz : items.size ≤ 1000)
    (hq : Q (.done (.ret .none)) { s with heap := s.heap.update x (Obj.mapSeq fun _ => #[]) }) : wpAny (model prog w) A (Builtin.«list.__init__» ⟨[.ref x], []⟩) Q E s := by
  obtain ⟨h, g, d, t, os⟩ := s
  unfold Builtin.«list.__init__»
  repeat (first | with_reducible refine wpAny_seqItems hx rfl ?_ | (with_reducible refine wpAny_updateSeq hx rfl ?_ (by rw [sizeLine_eq]; omega) (by simp)) | wp_step)
  exact hq
theorem init_ok {x dx : Addr} (X : K.In H) (k : AccK prog K) (B : Base prog w mg mb H) (y : Ext H s.heap) (hroom : A.depth < recursionLimit) (hx : s.heap.get? x = some (accObj dx #[] 0)) (hd : s.heap.get? dx = some emptyDict) (nx : H.get? x = none) (nd : H.get? dx = none)
    (hQ : ∀ h' tk, (∀ b o, b ≠ x → b ≠ dx → s.heap.get? b = some o → h'.get? b = some o) → Acc x dx [] h' → R (.ok (.ret .none)) { s with heap := h', toks := tk }) :
    codeAny (model prog w) A (.call (.ref 45) ⟨[.ref x], []⟩) R s := by
  obtain ⟨tz, htz⟩ := k.dv
  have xd : x ≠ dx := by rintro rfl; rw [hx] at hd; cases hd
  have e0 : ∀ {h' : Heap}, (∀ b o, b ≠ x → b ≠ dx → s.heap.get? b = some o → h'.get? b = some o) → Ext H h' := fun k b o e => k b o (by rintro rfl; rw [nx] at e; cases e) (by rintro rfl; rw [nd] at e; cases e) (y b o e)
  refine meth_call [("self", .ref x), ("initial_size", .int 0 tz)] (X.keeps y) k.fI (B.ext y) hroom rfl (fun _ _ _ _ _ => BindsTo.of_defaults rfl (y _ _ (X _ _ htz)) rfl rfl rfl) (by decide) rfl ?_
  intro env h₁ tk O hns hL k₁
  have xL : env.locals ≠ dx := by rintro rfl; rw [hd] at hL; cases hL
  refine ks_wpAt_execs_cons (ks_wpAt_Assign_Attr (PySem.wpAt_of_wpAny (wpAny_Name (wpAny_loadName_local O.kind (O.of rfl) hns rfl (wpAny_Name (wpAny_loadName_local O.kind (O.of rfl) hns rfl ?_))))))
  have hd1 : h₁.Ns1 dx fun _ => none := Heap.Ns1.of_empty ⟨_, #[], _, k₁ _ _ hd, rfl, fun e he => absurd he (by simp), fun _ => rfl⟩
  refine acc_set (X.keeps (e0 fun b o _ _ e => k₁ b o e)) k (k₁ _ _ hx) hd1 Within.nil fun h₂ tk₂ hd2 hs2 => ?_
  have k₂ : ∀ b o, b ≠ dx → s.heap.get? b = some o → h₂.get? b = some o := fun b o hb e => hs2.extBut b o hb (k₁ b o e)
  have x₂ : Ext H h₂ := e0 fun b o _ hb e => k₂ b o hb e
  have hx2 := k₂ _ _ xd hx
  refine ks_wpAt_execs_cons (ks_wpAt_Expr_any (ks_wpAt_MethodCall (sup_node (X.keeps x₂) k (B.ext x₂) O (hns.sameBut hs2 xL) rfl hx2 rfl rfl rfl rfl fun so h₃ hso k₃ => ?_)) (by unfold interactive; rw [O.kind]; rfl))
  have hx3 := k₃ _ _ hx2
  refine sup_method bnd_init hso (X.keeps (x₂.trans k₃)) k hx3 (by kernel_rfl) (by decide) ?_
  have hx4 := Heap.get?_push_of_some { cls := .type "method-wrapper", data := .fields #[.builtin "list.__init__", .ref x] } hx3
  refine callWith_bound (Heap.get?_push_at rfl rfl) (.inl rfl) (wpAny_call (code_bound (Heap.get?_push_at rfl rfl) (.inl rfl) (by decide +kernel) PySem.F.entry_list_init (Looks.of_pure (chk_init x)) (code_init hx4 (by simp) ⟨_, rfl, ?_⟩)))
  refine PySem.wpAt_of_wpAny (wpAny_execs_nil (hQ _ _ (fun b o h1 h2 e => ?_) ⟨0, ?_, fun y => if y = "_initial_size" then some (.int 0 tz) else none, ?_, ?_⟩))
  · exact (Heap.get?_update_ne _ _ _ _ h1).trans (Heap.get?_push_of_some _ (k₃ _ _ (k₂ b o h2 e)))
  · exact Heap.get?_update_self (Obj.mapSeq fun _ => #[]) hx4 rfl
  · exact ((hd2.ns.keeps k₃).keeps fun b o e => Heap.get?_push_of_some _ e).sameBut (Heap.SameBut.update ..) (Ne.symm xd)
  · intro nm hm
    simp only [List.mem_cons, List.not_mem_nil, or_false] at hm
    rcases hm with rfl | rfl | rfl | rfl <;> rfl
end
end Mine
end

noncomputable section
open PySem PySem.W PySem.Calls PyProof.Rows
set_option maxRecDepth 100000
set_option maxHeartbeats 2000000
namespace Mine
section
variable {prog : Program} {w : World} {M : Model} {A : Around} {K : Frag} {R : Result → Shared → Prop} {E : Value → Shared → Prop} {mg mb : Str → Option Value} {s : Shared} {H : Heap}
theorem new_ok (B : Base prog w mg mb H) : CallP prog w (.ref 108) [] H 2 (fun v h => ∃ x dx, v = .ref x ∧ H.get? x = none ∧ H.get? dx = none ∧ Acc x dx [] h) := by
  intro A Q E s a y q
  obtain ⟨K, X, k⟩ := B.cls
  obtain ⟨h, g, d, t, os⟩ := s
  refine wpAny_call (acc_make (X.keeps y) k ?_)
  have e2 := (ext_push h emptyDict).trans (ext_push _ (accObj h.objs.size #[] 0))
  refine init_ok (H := H) (x := h.objs.size + 1) (dx := h.objs.size) X k B (y.trans e2) (by have := a.hd; show A.depth + 1 < _; omega) (Heap.get?_push_at (Heap.size_push _ _).symm rfl) (Heap.get?_push_of_some _ (Heap.get?_push_at rfl rfl)) (ext_none y (none_above (Nat.le_succ _))) (ext_none y (none_at_size h)) fun h' tk k' ac => ⟨rfl, ?_⟩
  exact q _ h' tk (fun b o e => k' b o (by rintro rfl; rw [none_above (Nat.le_succ _)] at e; cases e) (by rintro rfl; rw [none_at_size] at e; cases e) (e2 b o e)) ⟨_, _, rfl, ext_none y (none_above (Nat.le_succ _)), ext_none y (none_at_size h), ac⟩

theorem gm_canon : (Manifest.canonical "list.__getattribute__" != "object.__getattribute__") = false := by decide +kernel
theorem acc_gm {x dx : Addr} {items : List Value} {nm : Str} {f : Value} {T : String} {pl : Sem Bool} {Q : Value × List Value → Shared → Prop} (X : K.In s.heap) (k : AccK prog K) (a : Acc x dx items s.heap) (hnm : nm ∈ (["push", "pop", "append", "part_count"] : List Str))
    (hf : (nm, some f) ∈ accTab) (ht : typeIn K f = some (.type T)) (hT : (Value.type T != .type "function" && Value.type T != .type "method_descriptor" && Value.type T != .type "wrapper_descriptor") = false) (q : Q (f, [.ref x]) s) :
    wpAny M A (getMethod (.ref x) nm pl) Q E s := by
  have t1 := acc_type (M := M) a
  have g1 : Looks M s.heap (specialOf (.ref x) "__getattribute__") (some (.builtin "list.__getattribute__")) := t1.andThen (looks_findIn X (k.tab (_, _) (by decide)))
  have g2 : Looks M s.heap (specialOf (.ref x) "__getattr__") none := t1.andThen (looks_findIn X (k.tab (_, _) (by decide)))
  have g3 : Looks M s.heap (specialOf (.ref x) nm) (some f) := t1.andThen (looks_findIn X (k.tab (nm, some f) hf))
  have g4 := looks_typeIn (M := M) X ht
  obtain ⟨n, hx, md, hd, hm⟩ := a
  unfold getMethod
  refine wpAny_bind (g1.here ?_)
  show wpAny _ _ (if (Manifest.canonical "list.__getattribute__" != "object.__getattribute__") = true then _ else _) _ _ _
  rw [gm_canon]
  simp (iota := false) only [Bool.false_eq_true, if_false]
  refine wpAny_bind (g2.here (wpAny_bind (g3.here (wpAny_bind (g4.here ?_)))))
  rw [hT]
  simp (iota := false) only [Bool.false_eq_true, if_false]
  refine wpAny_bind (wpAny_loadPart hx ?_)
  dsimp only
  refine wpAny_bind (wpAny_nsGet hd ?_)
  rw [hm nm hnm]
  exact wpAny_bind (wpAny_rule (wpAny_pure q))
end
end Mine
end

noncomputable section
open PySem PySem.W PySem.Calls PyProof.Rows
set_option maxRecDepth 100000
set_option maxHeartbeats 2000000
namespace Mine
section
variable {prog : Program} {w : World} {M : Model} {A : Around} {K : Frag} {R : Result → Shared → Prop} {E : Value → Shared → Prop} {mg mb : Str → Option Value} {s : Shared} {H : Heap}
theorem size_list {l : List Value} (h : l.length ≤ 1000) : l.toArray.size ≤ sizeLine := by rw [sizeLine_eq, List.size_toArray]; omega
theorem Acc.upd {x dx : Addr} {its its' : Array Value} {n : Nat} {f : Array Value → Array Value} {h : Heap} (hx : h.get? x = some (accObj dx its n)) (hd : AD dx h) (e : f its = its') : Acc x dx its'.toList (h.update x (Obj.mapSeq f)) := by
  subst e
  have xd : dx ≠ x := by rintro rfl; obtain ⟨md, ⟨o, es, ep, e1, e2, _⟩, _⟩ := hd; rw [hx] at e1; cases e1; cases e2
  have hu := Heap.get?_update_self (Obj.mapSeq f) hx (by rfl)
  obtain ⟨md, hn, hm⟩ := hd
  exact ⟨_, hu, md, hn.sameBut (Heap.SameBut.update ..) xd, hm⟩
theorem push_ok {x dx : Addr} {items : List Value} {a b : Value} {Q : Value → Shared → Prop} (B : Base prog w mg mb H) (y : Ext H s.heap) (ac : Acc x dx items s.heap) (hz : items.length ≤ 1000) (o : AOK A 2)
    (hQ : ∀ T h' tk, (∀ b o, b ≠ x → s.heap.get? b = some o → h'.get? b = some o) → Acc x dx (items ++ [.ref T]) h' → s.heap.get? T = none → h'.IsTuple T #[a, b] → Q .none { s with heap := h', toks := tk }) :
    wpAny (model prog w) A (call (.ref 52) [.ref x, a, b]) Q E s := by
  obtain ⟨K, X, k⟩ := B.cls
  refine wpAny_call (meth_call [("self", .ref x), ("fws", a), ("string", b)] (X.keeps y) k.fP (B.ext y) o.room rfl (fun _ _ _ _ _ => BindsTo.of_eq rfl) (by decide) rfl ?_)
  intro env h₁ tk O hns hL k₁
  have v1 : ∀ {n : Str} {v : Value} {ps : Pos}, ([("self", Value.ref x), ("fws", a), ("string", b)] : List (Str × Value)).reverse.lookup n = some v → (scopeOf (inCls 1 (stAt 6))).names.lookup n = some .local → (n == ("__debug__" : Str)) = false → Ev prog w (A.deeper env) env h₁ (.Name n ps) (IsV v) :=
    fun e1 e2 e3 => ev_local O.kind (O.of e2) hns e1 e3
  refine ks_wpAt_execs_cons (ks_wpAt_Expr_any (PySem.wpAt_of_wpAny (MethodCall_ ?_)) (by unfold interactive; rw [O.kind]; rfl))
  show wpAny _ _ (eval (.Name "self" _) env) _ _ _
  refine v1 (v := .ref x) rfl rfl rfl _ _ _ (Ext.refl _) ?_
  rintro _ h₂ tk₂ k₂ rfl
  have ac2 := ac.ext (k₁.trans k₂)
  refine acc_gm (X.keeps (y.trans (k₁.trans k₂))) k ac2 (by decide) (f := .builtin "list.append") (by decide) (T := "method_descriptor") (by kernel_rfl) (by decide) ?_
  refine callWith_method1 (args_cons (Rs := []) (ev_tuple (args_cons (v1 (v := a) (by rfl) (by rfl) (by rfl)) mono_V (args_cons (v1 (v := b) (by rfl) (by rfl) (by rfl)) mono_V args_nil)) (by simp [mono_V]) (by simp)) ?_ args_nil rfl _ _ _ _ k₂ ?_)
  · rintro _ _ _ k ⟨T, vs, rfl, hT, hp, r⟩; exact ⟨T, vs, rfl, hT, k _ _ hp, all_mono (by simp [mono_V]) k r⟩
  rintro _ h₃ tk₃ k₃ ⟨_, _, rfl, ⟨T, vs, rfl, hT, hp, _, _, rfl, rfl, _, _, rfl, rfl, rfl⟩, rfl⟩
  have ac3 := ac2.ext k₃
  have x3 := y.trans ((k₁.trans k₂).trans k₃)
  refine acc_call (n := "append") (X.keeps x3) k ac3 (.inr (by decide +kernel)) (by decide +kernel) slot_list_append.plain entry_list_append (args_list_append _ _) ?_
  show wpAny _ _ (updateSeq x (·.push _) >>= fun _ => ret .none) _ _ _
  obtain ⟨n, hx, hd⟩ := id ac3
  refine wpAny_bind (wpAny_updateSeq hx rfl (wpAny_pure ⟨_, rfl, ?_⟩) (size_list hz) (by have := size_list hz; simp only [Array.size_push]; omega))
  refine PySem.wpAt_of_wpAny (wpAny_execs_nil (hQ T _ _ (fun b' o' h1 e => (Heap.get?_update_ne _ _ _ _ h1).trans (k₃ _ _ (k₂ _ _ (k₁ _ _ e)))) ?_ (ext_none k₁ hT) ⟨_, (Heap.get?_update_ne _ _ _ _ ?_).trans hp, rfl, 0, rfl⟩))
  · have := Acc.upd (f := (·.push (.ref T))) hx hd rfl
    simpa using this
  · rintro rfl
    exact absurd (hx.symm.trans hp) (by simp)
end
end Mine
end

noncomputable section
open PySem PySem.W PySem.Calls PyProof.Rows
set_option maxRecDepth 100000
set_option maxHeartbeats 2000000
namespace Mine
section
variable {prog : Program} {w : World} {M : Model} {A : Around} {K : Frag} {R : Result → Shared → Prop} {E : Value → Shared → Prop} {mg mb : Str → Option Value} {s : Shared} {H : Heap}
theorem code_len {x dx : Addr} {items : Array Value} {n : Nat} {Q : Fin → Shared → Prop} (hx : s.heap.get? x = some (accObj dx items n))
    (hq : Q (.done (.ret (.int (items.size : Int) s.toks))) { s with toks := s.toks + 1 }) : wpAny (model prog w) A (Builtin.«list.__len__» ⟨[.ref x], []⟩) Q E s := by
  obtain ⟨h, g, d, t, os⟩ := s
  unfold Builtin.«list.__len__»
  repeat (first | with_reducible refine wpAny_loadPart_at hx ?_ | wp_step)
  exact hq
theorem code_pop {x dx : Addr} {items : Array Value} {n : Nat} {v : Value} {Q : Fin → Shared → Prop} (hx : s.heap.get? x = some (accObj dx (items.push v) n)) (hz : items.size < 1000)
    (hq : Q (.done (.ret v)) { s with heap := s.heap.update x (Obj.mapSeq (·.eraseIdxIfInBounds items.size)) }) : wpAny (model prog w) A (Builtin.«list.pop» ⟨[.ref x], []⟩) Q E s := by
  obtain ⟨h, g, d, t, os⟩ := s
  unfold Builtin.«list.pop»
  have e1 : Builtin.List.listFitsIndex (-1) = true := by decide
  have e2 : seqIndex? (-1) (items.push v).size = some items.size := by
    unfold seqIndex?
    rw [Array.size_push]
    simp only [show (-1 : Int) < 0 by decide, if_true]
    rw [show (-1 : Int) + ((items.size + 1 : Nat) : Int) = (items.size : Int) by omega]
    simp; omega
  repeat (first | with_reducible refine wpAny_seqItems hx rfl ?_ | wp_step)
  rw [e2, Option.bind_some, Array.getElem?_push_size]
  dsimp only [Option.map]
  refine wpAny_bind ?_
  refine wpAny_updateSeq hx rfl (wpAny_pure hq) (by rw [sizeLine_eq, Array.size_push]; omega) (by rw [sizeLine_eq, Array.eraseIdxIfInBounds]; split <;> simp <;> omega)
theorem pc_ok {x dx : Addr} {items : List Value} (B : Base prog w mg mb H) (ac : Acc x dx items H) : CallP prog w (.ref 105) [.ref x] H 1 (IsI items.length) := by
  intro A Q E s o y q
  obtain ⟨K, X, k⟩ := B.cls
  refine wpAny_call (meth_call [("self", .ref x)] (X.keeps y) k.fC (B.ext y) o.room rfl (fun _ _ _ _ _ => BindsTo.of_eq rfl) (by decide) rfl ?_)
  intro env h₁ tk O hns hL k₁
  have x₁ := y.trans k₁
  obtain ⟨n, hx, _⟩ := ac.ext x₁
  refine ks_wpAt_execs_cons (ks_wpAt_Return_some (ks_wpAt_MethodCall (sup_node (X.keeps x₁) k (B.ext x₁) O hns rfl hx rfl rfl rfl rfl fun so h₃ hso k₃ => ?_)))
  have hx3 := k₃ _ _ hx
  refine sup_method bnd_len hso (X.keeps (x₁.trans k₃)) k hx3 (by kernel_rfl) (by decide) ?_
  have hx4 := Heap.get?_push_of_some { cls := .type "method-wrapper", data := .fields #[.builtin "list.__len__", .ref x] } hx3
  refine callWith_bound (Heap.get?_push_at rfl rfl) (.inl rfl) (wpAny_call (code_bound (Heap.get?_push_at rfl rfl) (.inl rfl) (by decide +kernel) entry_list_len (Looks.of_pure (chk_len x)) (code_len hx4 ⟨_, rfl, ?_⟩)))
  exact q _ _ _ (k₁.trans (Ext.trans k₃ (ext_push _ _))) ⟨_, by rw [List.size_toArray]⟩
theorem pop_ok {x dx : Addr} {items : List Value} {v : Value} {Q : Value → Shared → Prop} (B : Base prog w mg mb H) (y : Ext H s.heap) (ac : Acc x dx (items ++ [v]) s.heap) (hz : items.length < 1000) (o : AOK A 2)
    (hQ : ∀ h' tk, (∀ b o, b ≠ x → s.heap.get? b = some o → h'.get? b = some o) → Acc x dx items h' → Q v { s with heap := h', toks := tk }) : wpAny (model prog w) A (call (.ref 68) [.ref x]) Q E s := by
  obtain ⟨K, X, k⟩ := B.cls
  refine wpAny_call (meth_call [("self", .ref x)] (X.keeps y) k.fO (B.ext y) o.room rfl (fun _ _ _ _ _ => BindsTo.of_eq rfl) (by decide) rfl ?_)
  intro env h₁ tk O hns hL k₁
  have x₁ := y.trans k₁
  have ac1 := ac.ext k₁
  refine ks_wpAt_execs_cons (ks_wpAt_If (PySem.wpAt_of_wpAny (evT_eq (pos := _) (a := (items ++ [v]).length) (b := 0) ?_ ev_int rfl _ _ _ (Ext.refl _) ?_)))
  · intro Q' E' s' y' q'
    refine MethodCall_ (wpAny_Name (wpAny_loadName_local O.kind (O.of rfl) (hns.keeps y') rfl ?_))
    obtain ⟨od, osl, doc, pm, an, ct, cc, ccl, cdd, vs, ccs, file, tf, hf, _⟩ := k.fC
    have x' := x₁.trans y'
    refine acc_gm (X.keeps x') k (ac1.ext y') (by decide) (f := .ref 105) (by decide) (T := "function") k.fC.typ (by decide) ?_
    exact callWith_meth0 rfl (X.keeps x' _ _ hf) (pc_ok (B.ext x') (ac1.ext y') _ _ _ _ ((show AOK (A.deeper env) 1 from o.deeper env)) (Ext.refl _) q')
  intro h₂ tk₂ k₂
  rw [show (((items ++ [v]).length : Int) == 0) = false by rw [beq_eq_false_iff_ne]; simp; omega]
  refine PySem.wpAt_of_wpAny (wpAny_execs_nil ?_)
  have x₂ := x₁.trans k₂
  obtain ⟨n, hx, hd⟩ := ac1.ext k₂
  refine ks_wpAt_execs_cons (ks_wpAt_Return_some (ks_wpAt_MethodCall (sup_node (X.keeps x₂) k (B.ext x₂) O (hns.keeps k₂) rfl hx rfl rfl rfl rfl fun so h₃ hso k₃ => ?_)))
  have hx3 := k₃ _ _ hx
  refine sup_method bnd_pop hso (X.keeps (x₂.trans k₃)) k hx3 (by kernel_rfl) (by decide) ?_
  have hx4 := Heap.get?_push_of_some { cls := .type "builtin_function_or_method", data := .fields #[.builtin "list.pop", .ref x] } hx3
  refine callWith_bound (Heap.get?_push_at rfl rfl) (.inr rfl) (wpAny_call (code_bound (Heap.get?_push_at rfl rfl) (.inr rfl) (by decide +kernel) PySem.F.entry_list_pop (chk_pop (X.keeps ((x₂.trans k₃).trans (ext_push _ _))) k hx4) (code_pop (items := items.toArray) (v := v) (n := n) (by simpa using hx4) (by simpa using hz) ⟨_, rfl, ?_⟩)))
  have hd4 : AD dx (h₃.push { cls := .type "builtin_function_or_method", data := .fields #[.builtin "list.pop", .ref x] }) := (hd.ext k₃).ext (ext_push _ _)
  refine hQ _ _ (fun b o h1 e => (Heap.get?_update_ne _ _ _ _ h1).trans (Heap.get?_push_of_some _ (k₃ _ _ (k₂ _ _ (k₁ _ _ e))))) ?_
  have := Acc.upd (f := (·.eraseIdxIfInBounds items.toArray.size)) hx4 hd4 rfl
  have e : ((items ++ [v]).toArray.eraseIdxIfInBounds items.toArray.size).toList = items := by simp [Array.eraseIdxIfInBounds, List.eraseIdx_append_of_length_le]
  rwa [e] at this
end
end Mine
end

noncomputable section
open PySem PySem.W PySem.Calls PyProof.Rows
set_option maxRecDepth 100000
set_option maxHeartbeats 1000000
namespace Mine
section
variable {prog : Program} {w : World} {A : Around} {env : Env} {H h₀ : Heap} {m cm : Str → Option Value} {s : Shared} {Q : Flow → Shared → Prop} {E : Value → Shared → Prop} {rest : List Stmt} {pos px : Pos} {x : Str} {e value slice : PySem.Expr} {tk₀ : Nat}
theorem st_aug {op : Operator} {a b c : Int} {t : Tok} (S : St env H m cm h₀) (hk : env.scope.kind = .function) (hx : env.kindOf x = some .local) (hv : m x = some (.int a t)) (he : Ev prog w A env h₀ e (IsI b))
    (hop : ∀ (t u : Tok) (s : Shared) (Q E : Value → Shared → Prop), Q (.int c s.toks) { s with toks := s.toks + 1 } → wpAny (model prog w) A (inplaceOp op (.int a t) (.int b u)) Q E s)
    (next : ∀ t h' tk, St env H (upd m x (.int c t)) cm h' → Ext (rb env h₀) h' → wpAny (model prog w) A (execs rest env) Q E { s with heap := h', toks := tk }) :
    wpAny (model prog w) A (execs (.AugAssign (.Name x px) op e pos :: rest) env) Q E { s with heap := h₀, toks := tk₀ } := by
  refine wpAny_execs_cons (wpAny_AugAssign_Name (wpAny_loadName_local hk hx S.ns hv (he _ _ _ (Ext.refl _) ?_)))
  rintro _ h₁ tk₁ y ⟨u, rfl⟩
  refine hop t u _ _ _ (wpAny_storeName_local hx (S.keep y).ns (fun h₂ hn hsb => ?_) (by rw [hk]; rfl))
  exact next _ h₂ _ ((S.keep y).setL hn hsb) fun b o e => hsb.extBut b o (fun q => by subst q; rw [rb_off mem_hidL] at e; cases e) (y _ _ (of_rb e))

theorem ev_sitem {sg : Str} {i : Int} {c : Nat} (hv : Ev prog w A env H value (IsS sg)) (hi : Ev prog w A env H slice (IsI i)) (h0 : 0 ≤ i) (h1 : i < 2 ^ 62) (hc : sg.cps[i.toNat]? = some c)
    (hq : ∀ x t i u, subscripted slice false (.str x t) (.int i u) = operate [.str x t, .int i u] (getItem (.str x t) (.int i u)) := by intro _ _ _ _; with_unfolding_all rfl) :
    Ev prog w A env H (.Subscript value slice pos) (IsS ⟨#[c]⟩) := by
  intro Q E s y q
  refine Subscript_ (hv _ _ _ y ?_)
  rintro _ h₁ tk₁ y₁ ⟨t, rfl⟩
  refine hi _ _ _ (y.trans y₁) ?_
  rintro _ h₂ tk₂ y₂ ⟨u, rfl⟩
  have hl : i.toNat < sg.length := (Array.getElem?_eq_some_iff.mp hc).1
  refine tail_any (s := { s with heap := h₂, toks := tk₂ }) (typeIs_str _ sg t) PySem.F.slot_str_getitem.lookup (PySem.P.getItem_str (c := c) (by simp; omega) ?_ (q _ h₂ _ (y₁.trans y₂) ⟨_, rfl⟩)) (hq _ _ _ _)
  unfold seqIndex?
  rw [if_neg (by omega : ¬ i < 0)]
  rw [if_pos (by simp; omega)]
  exact hc
noncomputable def AL (ns : List Int) (v : Value) (h : Heap) : Prop := ∃ a, v = .ref a ∧ LI a ns h
theorem NewLI.al {ns : List Int} {v : Value} {h : Heap} : NewLI H ns v h → AL ns v h := fun ⟨a, e, _, l⟩ => ⟨a, e, l⟩
theorem Ev.al {ns : List Int} (x : Ev prog w A env H e (NewLI H ns)) : Ev prog w A env H e (AL ns) := x.mono fun _ _ _ => NewLI.al
theorem Ev.alV {ns : List Int} {a : Addr} (l : LI a ns H) (x : Ev prog w A env H e (IsV (.ref a))) : Ev prog w A env H e (AL ns) := x.mono fun _ _ k e => ⟨a, e, l.ext k⟩
theorem cmp_lists {op : CmpOp} {ns ms : List Int} {c : Bool} {l r : PySem.Expr} (hl : Ev prog w A env H l (AL ns)) (hr : Ev prog w A env H r (AL ms))
    (hop : ∀ (a b : Addr) (xs ys : List Value) (s : Shared) (Q E : Value → Shared → Prop), s.heap.IsList a xs.toArray → s.heap.IsList b ys.toArray → IntsAre xs ns → IntsAre ys ms → Q (.bool c) s → wpAny (model prog w) A (compareOp op (.ref a) (.ref b)) Q E s)
    (hb : behindInMarks op r = false) : EvT prog w A env H (.Compare l [op] [r] pos) c := by
  intro Q E s y q
  refine wpAny_isTrue_Compare1 (hl _ _ _ y ?_) hb
  rintro _ h₁ tk₁ y₁ ⟨a, rfl, l1⟩
  refine hr _ _ _ (y.trans y₁) ?_
  rintro _ h₂ tk₂ y₂ ⟨b, rfl, l2⟩
  obtain ⟨xs, p1, i1⟩ := (l1.ext y₂).list
  obtain ⟨ys, p2, i2⟩ := l2.list
  exact hop a b xs ys _ _ _ p1 p2 i1 i2 (wpAny_truthy_bool (q h₂ _ (y₁.trans y₂)))
theorem evT_neL {ns ms : List Int} {l r : PySem.Expr} (o : AOK A 4) (hl : Ev prog w A env H l (AL ns)) (hr : Ev prog w A env H r (AL ms)) (hb : behindInMarks .NotEq r = false := by with_unfolding_all rfl) : EvT prog w A env H (.Compare l [.NotEq] [r] pos) (!decide (ns = ms)) :=
  cmp_lists hl hr (fun _ _ _ _ _ _ _ p1 p2 i1 i2 q => ke_ne_ints p1 p2 i1 i2 (by have := o.hu; omega) q) hb
theorem evT_eqL {ns ms : List Int} {l r : PySem.Expr} (o : AOK A 4) (hl : Ev prog w A env H l (AL ns)) (hr : Ev prog w A env H r (AL ms)) (hb : behindInMarks .Eq r = false := by with_unfolding_all rfl) : EvT prog w A env H (.Compare l [.Eq] [r] pos) (decide (ns = ms)) :=
  cmp_lists hl hr (fun _ _ _ _ _ _ _ p1 p2 i1 i2 q => ke_eq_ints p1 p2 i1 i2 (by have := o.hu; omega) q) hb
theorem St.mut {h h' : Heap} {b : Addr} (S : St env H m cm h) (hb : H.get? b = none) (hh : b ∉ hid env) (k : ∀ a o, a ≠ b → h.get? a = some o → h'.get? a = some o) : St env H m cm h' := by
  have ne : ∀ {a}, a ∈ hid env → a ≠ b := fun ha q => hh (q ▸ ha)
  refine ⟨S.ns.at' fun o e => k _ _ (ne mem_hidL) e, fun n c hm => ?_, fun a o e => k _ _ (fun q => by rw [q, hb] at e; cases e) (S.ext _ _ e), S.offL, S.offC, S.apart, S.above⟩
  obtain ⟨o, ho, hd⟩ := S.cl n c hm
  exact ⟨o, k _ _ (ne (mem_hidC hm)) ho, hd⟩
theorem St.mutR {h h' : Heap} {b : Addr} (S : St env H m cm h) (hh : b ∉ hid env) (k : ∀ a o, a ≠ b → h.get? a = some o → h'.get? a = some o) : St env (rb env h') m cm h' ∧ ∀ a o, a ≠ b → H.get? a = some o → (rb env h').get? a = some o :=
  ⟨((S.less (H₀ := hideAll H [b]) fun a o e => of_hideAll _ e).mut (hideAll_none _ (.head _)) hh k).rebase (Ext.refl _), fun a o ha e => rb_get (k a o ha (S.ext _ _ e)) (S.off e)⟩
theorem st_expr {ep : Pos} (hk : env.scope.kind = .function) (he : wpAny (model prog w) A (eval e env) (fun _ s' => wpAny (model prog w) A (execs rest env) Q E s') E { s with heap := h₀, toks := tk₀ }) (hs : swapsWith e none ep.line env = pure false := by rfl) :
    wpAny (model prog w) A (execs (.Expr e ep :: rest) env) Q E { s with heap := h₀, toks := tk₀ } :=
  wpAny_execs_cons (wpAny_Expr_any he (by unfold interactive; rw [hk]; rfl) hs)
theorem whileQ {D : Type} {test : PySem.Expr} {body : List Stmt} (I : D → Heap → Prop) (b : D → Bool) (μ : D → Nat) (d₀ : D) (h0 : I d₀ h₀) (ht : ∀ d h, I d h → EvT prog w A env h test (b d))
    (turn : ∀ d h h' tk (Q' : Flow → Shared → Prop) (E' : Value → Shared → Prop), I d h → b d = true → Ext h h' → Back Q Q' → (∀ d' h₃ tk₃, μ d' < μ d → I d' h₃ → Q' .next { s with heap := h₃, toks := tk₃ }) → wpAny (model prog w) A (execs body env) Q' E' { s with heap := h', toks := tk })
    (done : ∀ d h h' tk, I d h → b d = false → Ext h h' → wpAny (model prog w) A (execs rest env) Q E { s with heap := h', toks := tk }) :
    wpAny (model prog w) A (execs (.While test body [] pos :: rest) env) Q E { s with heap := h₀, toks := tk₀ } := by
  refine wpAny_execs_cons (wpAny_While (codeAny_whileLoop (fun n s' => ∃ d h tk, s' = { s with heap := h, toks := tk } ∧ I d h ∧ n = μ d) ?_ (μ d₀) ⟨d₀, h₀, tk₀, rfl, h0, rfl⟩))
  rintro n _ ⟨d, h, tk, rfl, hI, rfl⟩
  refine ht d h hI _ _ _ (Ext.refl _) fun h' tk' k => ?_
  cases hb : b d with
  | true => exact turn d h h' tk' _ _ hI hb k (fun _ _ q => q) fun d' h₃ tk₃ hm hI' => ⟨_, hm, d', h₃, tk₃, rfl, hI', rfl⟩
  | false => exact wpAny_execs_nil (done d h h' tk' hI hb k)
theorem ev_new {mg mb : Str → Option Value} {px pos : Pos} {L : Addr} {cells : List (Str × Addr)} {names : List (Str × NameKind)} (B : Base prog w mg mb H) (O : EnvOK env L cells names) (a : AOK A 2) (hl : names.lookup ("_Accumulator" : Str) = some .globalImplicit := by rfl) :
    Ev prog w A env H (.Call (.Name "_Accumulator" px) [] [] pos) (fun v h => ∃ x dx, v = .ref x ∧ H.get? x = none ∧ H.get? dx = none ∧ Acc x dx [] h) := by
  intro Q E s y q
  refine wpAny_Call_Name_kw (evG B O (v := .ref 108) hl rfl rfl _ _ _ y ?_)
  rintro _ h₁ tk₁ y₁ rfl
  obtain ⟨K, X, k⟩ := B.cls
  obtain ⟨nm, bs, sn, sub, col, dd, k0, k1, k2, k3, k5, e⟩ := k.cls
  have hC : h₁.get? 108 = some (accCls nm bs sn sub col dd k0 k1 k2 k3 k5) := y₁ _ _ (y _ _ (X _ _ e))
  show wpAny _ _ (callWith pos (.ref 108) [] [] []) _ _ _
  unfold callWith
  refine wpAny_bind (wpAny_holding (PySem.evalArgs_none (wpAny_bind (wpAny_standAt (wpAny_bind (wpAny_keeperOf_exc hC ?_))))))
  refine wpAny_bind (wpAny_mono (new_ok B A _ _ _ a (y.trans y₁) (fun v h' tk k z => q v h' tk (y₁.trans k) z)) (fun r s₂ hr => wpAny_bind (wpAny_holding (wpAny_point (wpAny_pure hr)))) fun _ _ x => x)
end
end Mine
end

noncomputable section
open PySem PySem.W PySem.Calls PyProof.Rows
set_option maxRecDepth 100000
set_option maxHeartbeats 2000000
namespace Mine
inductive FoldR (near order : List Int) (turn : Int) : Int → List (Nat × Nat) → Int → Prop
  | done {left : Int} : corner near left turn order = [] → FoldR near order turn left [] left
  | step {left l' : Int} {p : Nat × Nat} {fs : List (Nat × Nat)} : corner near left turn order = [(p.1 : Int), (p.2 : Int)] → FoldR near order turn (left - 2 ^ p.1) fs l' → FoldR near order turn left (p :: fs) l'
theorem bit_le : ∀ l < 64, ∀ u < 6, bit ((l : Nat) : Int) ((u : Nat) : Int) = true → 2 ^ u ≤ l := by decide +kernel
theorem corner_shape {near order : List Int} {left turn : Int} (ho : ∀ k ∈ order, 0 ≤ k ∧ k < 6) : corner near left turn order = [] ∨ ∃ p : Nat × Nat, corner near left turn order = [(p.1 : Int), (p.2 : Int)] ∧ p.1 < 6 ∧ p.2 < 6 ∧ bit left (p.1 : Int) = true := by
  unfold corner cornerI
  cases h : (order.filter (bit left)).findSome? fun u => firstOf near left turn u (order.filter (bit left)) with
  | none => exact .inl rfl
  | some r =>
    obtain ⟨u, hu, hr⟩ := List.exists_of_findSome?_eq_some h
    obtain ⟨v, hv, rfl⟩ := Option.map_eq_some_iff.mp hr
    have hv' := List.mem_of_find?_eq_some hv
    obtain ⟨hu1, hu2⟩ := List.mem_filter.mp hu
    obtain ⟨a, rfl⟩ := Int.eq_ofNat_of_zero_le (ho u hu1).1
    obtain ⟨b, rfl⟩ := Int.eq_ofNat_of_zero_le (ho v (List.mem_filter.mp hv').1).1
    have h1 := (ho _ hu1).2
    have h2 := (ho _ (List.mem_filter.mp hv').1).2
    exact .inr ⟨(a, b), rfl, Int.ofNat_lt.mp h1, Int.ofNat_lt.mp h2, hu2⟩

structure FoldS where
  H : Heap
  m : Str → Option Value
  left : Int
  items : List Value
  fs : List (Nat × Nat)
structure FoldI (G : Heap) (env : Env) (cm : Str → Option Value) (near order : List Int) (turn : Int) (b : Nat) (m₀ : Str → Option Value) (x dx : Addr) (d : FoldS) (h : Heap) : Prop where
  S : St env d.H d.m cm h
  ext : Ext G d.H
  same : Same ["left", "corner"] m₀ d.m
  left : ∃ t, d.m "left" = some (.int d.left t)
  corner : ∃ c, d.m "corner" = some (.ref c) ∧ LI c (corner near d.left turn order) d.H
  acc : Acc x dx d.items d.H
  fv : FoldVs b d.H d.items d.fs
  f6 : ∀ p ∈ d.fs, p.1 < 6 ∧ p.2 < 6
  run : ∀ fs' l', FoldR near order turn d.left fs' l' → FoldR near order turn 63 (d.fs ++ fs') l'
  l0 : 0 ≤ d.left ∧ d.left + d.fs.length < 64
section
variable {prog : Program} {w : World} {mg mb : Str → Option Value} {H : Heap}
theorem ev_corner {A : Around} {env : Env} {L : Addr} {names : List (Str × NameKind)} {m cm : Str → Option Value} (B : Base prog w mg mb H) (O : EnvOK env L [] names) (S : Rd env m cm H) (a : AOK A 2) {ln lo : Addr} {near order : List Int} (hn : LI ln near H) (ho : LI lo order H) (left turn : Int) {tl tt : Tok} (hlen : near.length = 6) (hord : ∀ k ∈ order, 0 ≤ k ∧ k < 6) (hol : order.length ≤ 1000) (htu : Builtin.Int.intBits turn ≤ 64)
    (mn : m "near" = some (.ref ln)) (ml : m "left" = some (.int left tl)) (mo : m "order" = some (.ref lo)) (mt : m "turn" = some (.int turn tt)) {p0 p1 p2 p3 p4 p5 : Pos}
    (l0 : names.lookup ("near" : Str) = some .local) (l1 : names.lookup ("left" : Str) = some .local) (l2 : names.lookup ("order" : Str) = some .local) (l3 : names.lookup ("turn" : Str) = some .local) (l4 : names.lookup ("_law_corner" : Str) = some .globalImplicit) :
    Ev prog w A env H (.Call (.Name "_law_corner" p0) [.Name "near" p1, .Name "left" p2, .Name "order" p3, .Name "turn" p4] [] p5) (NewLI H (corner near left turn order)) := by
  refine ev_fn (f := 146) (i := 63) B O a (Rs := [IsV _, IsV _, IsV _, IsV _]) (args_cons (vL O S mn l0) mono_V (args_cons (vL O S ml l1) mono_V (args_cons (vL O S mo l2) mono_V (args_cons (vL O S mt l3) mono_V args_nil)))) ?_ (by decide) rfl l4
  rintro _ h k ⟨_, _, rfl, rfl, _, _, rfl, rfl, _, _, rfl, rfl, _, _, rfl, rfl, rfl⟩
  intro A' Q E s a' y q
  exact corner_ok (B.ext k) (hn.ext k) (ho.ext k) left turn tl tt hlen hord hol htu A' Q E s a' y fun v h' tk k' ⟨b, e, f, l⟩ => q v h' tk k' ⟨b, e, ext_none k f, l⟩
theorem Acc.at {x dx : Addr} {its : List Value} {h h' : Heap} (a : Acc x dx its h) (k : ∀ b o, b = x ∨ b = dx → h.get? b = some o → h'.get? b = some o) : Acc x dx its h' := by
  obtain ⟨n, e, md, hd, hm⟩ := a
  exact ⟨n, k _ _ (.inl rfl) e, md, hd.at' fun o e => k _ _ (.inr rfl) e, hm⟩
theorem St.offSeq {env : Env} {h : Heap} {m cm : Str → Option Value} {T : Addr} {its : Array Value} (S : St env H m cm h) (t : IsSeq h T its) : T ∉ hid env := by
  obtain ⟨o, e, n, hd⟩ := t
  intro hb
  rcases List.mem_cons.mp hb with rfl | hb
  · obtain ⟨_, _, _, e', d', _⟩ := S.ns; rw [e] at e'; cases e'; rw [hd] at d'; cases d'
  · obtain ⟨⟨n, c⟩, hm, rfl⟩ := List.mem_map.mp hb
    obtain ⟨_, e', d'⟩ := S.cl n c hm
    rw [e] at e'; cases e'; rw [hd] at d'; cases d'
theorem FoldVs.snoc {b : Nat} {h h' : Heap} {vs : List Value} {fs : List (Nat × Nat)} {v : Value} {p : Nat × Nat} (f : FoldVs b h vs fs) (k : ∀ T its, h.IsTuple T its → h'.IsTuple T its) (g : FoldV b h' v p) : FoldVs b h' (vs ++ [v]) (fs ++ [p]) := by
  refine ⟨by rw [List.length_append, List.length_append, f.1]; rfl, fun i u e => ?_⟩
  rw [List.getElem?_append] at e
  split at e
  · rename_i hi
    obtain ⟨q, e', t, u', T, rfl, hT⟩ := f.2 i u e
    exact ⟨q, by rw [List.getElem?_append_left (by rw [← f.1]; exact hi)]; exact e', t, u', T, rfl, k _ _ hT⟩
  · rename_i hi
    have : i - vs.length = 0 := by
      have := (List.getElem?_eq_some_iff.mp e).1
      simp at this; omega
    rw [this] at e
    cases e
    exact ⟨p, by rw [List.getElem?_append_right (by rw [← f.1]; omega), ← f.1, this]; rfl, g⟩
theorem push_call {A : Around} {env : Env} {Q E : Value → Shared → Prop} {s : Shared} {x dx : Addr} {items : List Value} {u v : Str} {e e' : PySem.Expr} {p0 p1 p2 : Pos} (B : Base prog w mg mb H) (y : Ext H s.heap) (o : AOK A 2) (ac : Acc x dx items s.heap) (hz : items.length ≤ 1000)
    (hf : Ev prog w A env s.heap (.Name "folds" p0) (IsV (.ref x))) (he : Ev prog w A env s.heap e (IsS u)) (he' : Ev prog w A env s.heap e' (IsS v))
    (h1 : eval (.Call (.Attribute (.Name "folds" p0) "push" p1) [e, e'] [] p2) env = (do
      let ov ← eval (.Name "folds" p0) env
      standAt p1.atName
      let (f, first) ← holding [ov] (getMethod ov "push" (do let r ← importBound (.Name "folds" p0) env; pure (r.getD true)))
      callWith p2 f first (backTo p2 (starEach [e, e'] env)) []))
    (h2 : starEach [e, e'] env = (false, eval e env) :: starEach [e'] env) (h3 : starEach [e'] env = (false, eval e' env) :: starEach [] env)
    (q : ∀ v' T h' tk tu tv, (∀ b o, b ≠ x → s.heap.get? b = some o → h'.get? b = some o) → Acc x dx (items ++ [.ref T]) h' → h'.IsTuple T #[.str u tu, .str v tv] → Q v' { s with heap := h', toks := tk }) :
    wpAny (model prog w) A (eval (.Call (.Attribute (.Name "folds" p0) "push" p1) [e, e'] [] p2) env) Q E s := by
  obtain ⟨K, X, k⟩ := B.cls
  refine MethodCall_ (hf _ _ _ (Ext.refl _) ?_) h1
  rintro _ h₁ tk₁ k₁ rfl
  have x₁ := y.trans k₁
  refine acc_gm (X.keeps x₁) k (ac.ext k₁) (by decide) (f := .ref 52) (by decide) (T := "function") k.fP.typ (by decide) ?_
  obtain ⟨od, osl, doc, pm, an, ct, cc, ccl, cdd, vs, ccs, file, tf, hfo, _⟩ := id k.fP
  refine callWith_meth (h₀ := H) rfl (X _ _ hfo) (args_cons he mono_S (args_cons he' mono_S args_nil h3) h2 _ _ _ _ k₁ ?_) h2
  rintro _ h₂ tk₂ k₂ ⟨_, _, rfl, ⟨tu, rfl⟩, _, _, rfl, ⟨tv, rfl⟩, rfl⟩
  exact ⟨x₁.trans k₂, push_ok B (x₁.trans k₂) ((ac.ext k₁).ext k₂) hz o fun T h' tk kx ac' _ hT => q _ T h' tk tu tv (fun b o hb e => kx b o hb (k₂ _ _ (k₁ _ _ e))) ac' hT⟩

section
variable {A : Around} {env : Env} {cm m₁ : Str → Option Value} {G : Heap} {ln lo x dx : Addr} {near order : List Int} {sg : Str} {b : Nat} {turn : Int} {tt ts : Tok}
noncomputable def foldNames : List (Str × NameKind) := [("near", .local), ("order", .local), ("turn", .local), ("signs", .local), ("folds", .local), ("left", .local), ("corner", .local), ("_Accumulator", .globalImplicit), ("_law_corner", .globalImplicit)]
noncomputable def FoldT (H : Heap) (b : Nat) (near order : List Int) (turn : Int) (v : Value) (h : Heap) : Prop := ∃ T x dx items fs l t, v = .ref T ∧ PlainTup h T [.ref x, .int l t] ∧ H.get? T = none ∧ H.get? x = none ∧ H.get? dx = none ∧ Acc x dx items h ∧ FoldVs b h items fs ∧ (∀ p ∈ fs, p.1 < 6 ∧ p.2 < 6) ∧ FoldR near order turn 63 fs l ∧ 0 ≤ l
theorem isTuple_seq {h : Heap} {T : Addr} {its : Array Value} (t : h.IsTuple T its) : IsSeq h T its := let ⟨o, e, _, n, d⟩ := t; ⟨o, e, n, d⟩
theorem Acc.neT {x dx T : Addr} {its : List Value} {js : Array Value} {h : Heap} (a : Acc x dx its h) (t : h.IsTuple T js) : T ≠ x := by
  rintro rfl
  obtain ⟨_, e2, _⟩ := a
  obtain ⟨o, e, c, _⟩ := t
  rw [e] at e2; cases e2; cases c
theorem Acc.neL {x dx T : Addr} {its : List Value} {ns : List Int} {h : Heap} (a : Acc x dx its h) (t : LI T ns h) : T ≠ x := by
  rintro rfl
  obtain ⟨_, e2, _⟩ := a
  obtain ⟨_, ⟨_, e, c, _⟩, _⟩ := t
  rw [e] at e2; cases e2; cases c
theorem LI.at {a : Addr} {ns : List Int} {H h : Heap} (x : LI a ns H) (k : ∀ o, LI a ns H → H.get? a = some o → h.get? a = some o) : LI a ns h := let ⟨vs, ⟨o, p, r⟩, z⟩ := id x; ⟨vs, ⟨o, k _ x p, r⟩, z⟩
theorem left_lt {left : Int} {p : Nat} (hp : p < 6) (h0 : 0 ≤ left) (h1 : left < 64) (hb : bit left p = true) : (2 : Int) ^ p ≤ left ∧ (0 : Int) < 2 ^ p := by
  have ll := bit_le left.toNat (by omega) p hp (by rw [Int.toNat_of_nonneg h0]; exact hb)
  refine ⟨?_, Int.pow_pos (by decide)⟩
  have : ((2 ^ p : Nat) : Int) ≤ left := by omega
  simpa using this
structure FoldC (prog : Program) (w : World) (mg mb : Str → Option Value) (G : Heap) (env : Env) (A : Around) (m₁ : Str → Option Value) (ln lo x dx : Addr) (near order : List Int) (sg : Str) (b : Nat) (turn : Int) : Prop where
  B : Base prog w mg mb G
  O : EnvOK env env.locals [] foldNames
  a : AOK A 4
  n : LI ln near G
  o : LI lo order G
  len : near.length = 6
  ord : ∀ k ∈ order, 0 ≤ k ∧ k < 6
  ol : order.length ≤ 1000
  tu : Builtin.Int.intBits turn ≤ 64
  hsg : ∀ k < 6, (⟨#[sg.cps.getD k 0]⟩ : Str) = sgn (b + k)
  hsl : sg.cps.size = 6
  mf : m₁ "folds" = some (.ref x)
  mn : m₁ "near" = some (.ref ln)
  mo : m₁ "order" = some (.ref lo)
  mt : ∃ t, m₁ "turn" = some (.int turn t)
  ms : ∃ t, m₁ "signs" = some (.str sg t)
  nx : G.get? x = none
  nd : G.get? dx = none
  xh : x ∉ hid env
  dh : dx ∉ hid env
theorem ev_sg {h : Heap} (C : FoldC prog w mg mb G env A m₁ ln lo x dx near order sg b turn) {m : Str → Option Value} (R : Rd env m cm h) (sm : Same ["left", "corner"] m₁ m) {c : Addr} (mc : m "corner" = some (.ref c)) {p q : Nat} (l6 : LI c [(p : Int), (q : Int)] h) {p0 p1 p2 p3 p4 : Pos} {i : Nat} (hi : i < 2) (h6 : [p, q].getD i 0 < 6) :
    Ev prog w A env h (.Subscript (.Name "signs" p0) (.Subscript (.Name "corner" p1) (.Constant (.int (i : Int)) 0 p2) p3) p4) (IsS (sgn (b + [p, q].getD i 0))) := by
  obtain ⟨t, ms⟩ := C.ms
  have hq : ([(p : Int), (q : Int)]).getD ((i : Int)).toNat 0 = (([p, q].getD i 0 : Nat) : Int) := by rcases i with _ | _ | i <;> first | rfl | omega
  rw [← C.hsg _ h6]
  refine ev_sitem (i := (([p, q].getD i 0 : Nat) : Int)) (evS (vL C.O R (sm.get ms))) (hq ▸ ev_item (vL C.O R mc) l6 ev_int (by omega) (by simp; omega) (by omega)) (by omega) (by omega) ?_
  rw [Int.toNat_natCast, Array.getD_eq_getD_getElem?, Array.getElem?_eq_getElem (by rw [C.hsl]; exact h6)]; rfl
theorem fold_ok (B : Base prog w mg mb H) (hn : LI ln near H) (ho : LI lo order H) (hlen : near.length = 6) (hord : ∀ k ∈ order, 0 ≤ k ∧ k < 6) (hol : order.length ≤ 1000) (htu : Builtin.Int.intBits turn ≤ 64)
    (hsg : ∀ k < 6, (⟨#[sg.cps.getD k 0]⟩ : Str) = sgn (b + k)) (hsl : sg.cps.size = 6) :
    CallP prog w (.ref 153) [.ref ln, .ref lo, .int turn tt, .str sg ts] H 5 (FoldT H b near order turn) := by
  refine fnQ (B.at (n := "_law_fold") (i := 64) (by decide)) B.lim foldNames [("near", .ref ln), ("order", .ref lo), ("turn", .int turn tt), ("signs", .str sg ts)] (fun _ _ _ _ _ => rfl) rfl rfl rfl (of_decide_eq_true rfl) ?_ rfl rfl rfl
  intro A env s h₁ tk₁ m₀ cm₀ Q E a O y hm₀ S q
  have x₀ := y.trans S.ext
  refine wpAny_execs_cons (wpAny_Assign_Name (ev_new (B.ext x₀) O (a.less (by decide)) rfl _ _ _ (Ext.refl _) ?_))
  rintro _ h₂ tk₂ k₂ ⟨x, dx, rfl, nx, nd, ac⟩
  refine wpAny_storeName_local (O.of rfl) (S.keep k₂).ns (fun h₃ hns hsb => ?_) (by rw [O.kind]; rfl)
  have xh := S.fresh nx
  have dh := S.fresh nd
  have S₃ : St env _ (upd m₀ "folds" (.ref x)) _ _ := ((S.keep k₂).setL hns hsb)
  have x₃ := S₃.ext_rb (Ext.refl h₃)
  have S₃ := S₃.rebase (Ext.refl h₃)
  have ac3 : Acc x dx [] (rb env h₃) := by
    obtain ⟨n, hx, md, hd, hm⟩ := ac
    exact ⟨n, rb_get (hsb.extBut _ _ (fun q => xh (q ▸ mem_hidL)) hx) xh, md, hd.at' fun o e => rb_get (hsb.extBut _ _ (fun q => dh (q ▸ mem_hidL)) e) dh, hm⟩
  have C : FoldC prog w mg mb s.heap env A (upd m₀ "folds" (.ref x)) ln lo x dx near order sg b turn := ⟨B.ext y, O, a, hn.ext y, ho.ext y, hlen, hord, hol, htu, hsg, hsl, upd_self, hm₀ "near" _ rfl, hm₀ "order" _ rfl, ⟨_, hm₀ "turn" _ rfl⟩, ⟨_, hm₀ "signs" _ rfl⟩, ext_none S.ext nx, ext_none S.ext nd, xh, dh⟩
  clear hns hsb k₂ ac nx nd xh dh hm₀ hn ho hlen hord hol htu hsg hsl x₀ S
  revert C S₃
  generalize upd m₀ "folds" (.ref x) = m₁
  intro S₃ C
  refine st_asg S₃ O.kind (O.of rfl) ev_int loc_I ?_
  rintro _ h₄ H₄ tk₄ S₄ x₄ ⟨tl, rfl⟩
  have x₄' := x₃.trans x₄
  obtain ⟨tt', mt⟩ := C.mt
  refine st_asg S₄ O.kind (O.of rfl) (ev_corner (C.B.ext (x₄'.trans S₄.ext)) O S₄.rd (a.less (by decide)) (C.n.ext (x₄'.trans S₄.ext)) (C.o.ext (x₄'.trans S₄.ext)) 63 turn C.len C.ord C.ol C.tu C.mn upd_self C.mo mt rfl rfl rfl rfl rfl) loc_LI ?_
  rintro _ h₅ H₅ tk₅ S₅ x₅ ⟨c, rfl, _, lc⟩
  refine whileQ (FoldI s.heap env cm₀ near order turn b m₁ x dx) (fun d => !decide (corner near d.left turn order = [])) (fun d => d.left.toNat)
    ⟨H₅, upd (upd m₁ "left" (.int 63 tl)) "corner" (.ref c), 63, [], []⟩ ⟨S₅, x₄'.trans x₅, Same.refl.upd.upd, ⟨tl, rfl⟩, ⟨c, rfl, lc⟩, ac3.ext (x₄.trans x₅), ⟨rfl, fun _ _ e => by cases e⟩, (fun _ h => nomatch h), fun _ _ r => r, (show (0 : Int) ≤ 63 ∧ (63 : Int) + ((0 : Nat) : Int) < 64 by decide)⟩ ?_ ?_ ?_
  · intro d h I
    obtain ⟨c, mc, lc⟩ := I.corner
    exact evT_neL (a.less (by decide)) (Ev.alV (lc.ext I.S.ext) (vL O I.S.rd mc)) (ev_listI (ns := []) args_nil (by decide)).al
  · clear S₃ S₄ S₅ lc x₄' x₅ x₄ ac3 x₃ q
    intro d h h' tk Q' E' I hb k₆ _ next
    obtain ⟨tl, ml⟩ := I.left
    obtain ⟨c, mc, lc⟩ := I.corner
    rcases corner_shape (near := near) (left := d.left) (turn := turn) C.ord with hc | ⟨⟨p, q⟩, hc, hp1, hp2, hpb⟩
    · rw [hc] at hb; cases hb
    rw [hc] at lc
    clear hb
    dsimp only at hp1 hp2 hpb lc
    have S₆ := I.S.keep k₆
    have l6 := lc.ext S₆.ext
    refine st_expr O.kind (push_call C.B (I.ext.trans S₆.ext) (C.a.less (by decide)) (I.acc.ext S₆.ext) ?_ (vL O S₆.rd (I.same.get C.mf)) (ev_sg C S₆.rd I.same mc l6 (i := 0) (by decide) hp1) (ev_sg C S₆.rd I.same mc l6 (i := 1) (by decide) hp2) rfl rfl rfl ?_)
    · rw [I.fv.1]; have := I.l0; omega
    intro _ T h₇ tk₇ tu tv kx ac7 hT
    obtain ⟨S₇, k₇⟩ := S₆.mutR C.xh kx
    have sx : Ext s.heap (rb env h₇) := fun b o e => k₇ b o (fun q => by subst q; rw [C.nx] at e; cases e) (I.ext _ _ e)
    have l7 : LI c [(p : Int), (q : Int)] (rb env h₇) := lc.at fun o hl e => k₇ _ _ (I.acc.neL lc) e
    have ac7' : Acc x dx (d.items ++ [.ref T]) (rb env h₇) := ac7.at fun b o hb e => rb_get e (by rcases hb with rfl | rfl; exact C.xh; exact C.dh)
    have fv7 : FoldVs b (rb env h₇) (d.items ++ [.ref T]) (d.fs ++ [(p, q)]) := I.fv.snoc (fun T' its h => h.at fun o e => k₇ _ _ (I.acc.neT h) e) ⟨tu, tv, T, rfl, hT.at fun o e => rb_get e (S₇.offSeq (isTuple_seq hT))⟩
    clear ac7 hT kx k₇ l6
    have l7h := l7.ext S₇.ext
    refine st_aug (a := d.left) (b := 1 * 2 ^ ((p : Int)).toNat) (c := d.left - 2 ^ p) S₇ O.kind (O.of rfl) ml (ev_shl (b := (p : Int)) ev_int (ev_item (vL O S₇.rd mc) l7h ev_int (by decide) (Int.ofNat_lt.mpr (Nat.zero_lt_succ 1)) (by decide)) (by omega) (by omega) (by decide)) (fun _ _ _ _ _ q => PySem.P.isub_int (by rw [Int.one_mul]; exact q)) ?_
    intro tl' h₈ tk₈ S₈ _
    obtain ⟨tt', mt⟩ := C.mt
    have xs := sx.trans S₈.ext
    refine st_asg S₈ O.kind (O.of rfl) (ev_corner (C.B.ext xs) O S₈.rd (a.less (by decide)) (C.n.ext xs) (C.o.ext xs) (d.left - 2 ^ p) turn C.len C.ord C.ol C.tu (tl := tl') (I.same.get C.mn) upd_self (I.same.get C.mo) (I.same.get mt) rfl rfl rfl rfl rfl) loc_LI ?_
    rintro _ h₉ H₉ tk₉ S₉ x₉ ⟨c', rfl, _, lc'⟩
    have ll := left_lt hp1 I.l0.1 (by have := I.l0; omega) hpb
    exact wpAny_execs_nil (next ⟨H₉, upd (upd d.m "left" (.int (d.left - 2 ^ p) tl')) "corner" (.ref c'), d.left - 2 ^ p, d.items ++ [.ref T], d.fs ++ [(p, q)]⟩ _ _ (by show (d.left - 2 ^ p).toNat < d.left.toNat; omega)
      ⟨S₉, sx.trans x₉, I.same.upd.upd, ⟨tl', rfl⟩, ⟨c', rfl, lc'⟩, ac7'.ext x₉, fv7.ext x₉, fun r hr => (List.mem_append.mp hr).elim (I.f6 r) fun hr => List.mem_singleton.mp hr ▸ ⟨hp1, hp2⟩, fun fs' l' r => by rw [List.append_assoc]; exact I.run _ _ (.step hc r),
        by have := I.l0; show 0 ≤ d.left - 2 ^ p ∧ d.left - 2 ^ p + ((d.fs ++ [(p, q)]).length : Int) < 64; rw [List.length_append, List.length_singleton]; omega⟩)
  · clear S₃ S₄ S₅ lc x₄' x₅ x₄ ac3 x₃
    intro d h h' tk I hb k₆
    have hc : corner near d.left turn order = [] := by simpa using hb
    obtain ⟨tl, ml⟩ := I.left
    have S₆ := I.S.keep k₆
    refine st_ret (ev_tuple (Rs := [IsV (.ref x), IsV (.int d.left tl)]) (args_cons (vL O S₆.rd (I.same.get C.mf)) mono_V (args_cons (vL O S₆.rd ml) mono_V args_nil)) (by simp [mono_V]) (of_decide_eq_true (p := 2 ≤ 1000) rfl)) ?_
    rintro _ h₇ tk₇ k₇ ⟨T, vs, rfl, hT, hp, _, _, rfl, rfl, _, _, rfl, rfl, rfl⟩
    have x₇ := S₆.ext.trans k₇
    have r := I.run _ _ (.done hc)
    rw [List.append_nil] at r
    exact q _ h₇ tk₇ (I.ext.trans x₇) ⟨T, x, dx, d.items, d.fs, d.left, tl, rfl, hp, ext_none y (ext_none (I.ext.trans S₆.ext) hT), ext_none y C.nx, ext_none y C.nd, I.acc.ext x₇, I.fv.ext x₇, I.f6, r, I.l0.1⟩
end
end
end Mine
end

noncomputable section
open PySem PySem.W PySem.Calls PyProof.Rows
set_option maxRecDepth 100000
set_option maxHeartbeats 1000000
namespace Mine
noncomputable def CallB (prog : Program) (w : World) (A : Around) (f : Value) (vs : List Value) (H : Heap) (R : Value → Heap → Prop) : Prop :=
  ∀ (Q E : Value → Shared → Prop) (s : Shared), Ext H s.heap → (∀ v h' tk, Ext s.heap h' → R v h' → Q v { s with heap := h', toks := tk }) → wpAny (model prog w) A (call f vs) Q E s
section
variable {prog : Program} {w : World} {A : Around} {env : Env} {H : Heap} {R : Value → Heap → Prop} {Rs : List (Value → Heap → Prop)} {pos px : Pos} {x : Str} {e test body orelse : PySem.Expr} {es : List PySem.Expr} {a : Addr} {ns : List Int} {t u : Tok}
theorem ev_bcall {id : String} (hf : Ev prog w A env H (.Name x px) (IsV (.builtin id))) (ha : Args prog w A env H (e :: es) (All Rs))
    (hc : ∀ vs h, Ext H h → All Rs vs h → CallB prog w A (.builtin id) vs h R) (hse : starEach (e :: es) env = (false, eval e env) :: starEach es env := by rfl) (hp : (backTo pos ((false, eval e env) :: starEach es env)).any (·.1) = false := by rfl) : Ev prog w A env H (.Call (.Name x px) (e :: es) [] pos) R := by
  intro Q E s y q
  refine wpAny_Call_Name_kw (hf _ _ _ y ?_)
  rintro _ h₁ tk₁ y₁ rfl
  refine callWith_builtin ?_ ?_
  · rw [hse]; exact hp
  · rw [hse]
    refine evalArgs_plain ?_
    have := ha pos (fun vs s' => wpAny (model prog w) A (call (.builtin id) ([] ++ vs) []) Q E s') E { s with heap := h₁, toks := tk₁ } (y.trans y₁) fun vs h₂ tk₂ y₂ z₂ =>
      hc vs h₂ ((y.trans y₁).trans y₂) z₂ _ _ { s with heap := h₂, toks := tk₂ } (Ext.refl _) fun v h₃ tk₃ y₃ z₃ => q v h₃ tk₃ ((y₁.trans y₂).trans y₃) z₃
    rw [hse] at this
    exact this
theorem len_ok (l : LI a ns H) (hz : ns.length ≤ 1000) : CallB prog w A (.builtin "len") [.ref a] H (IsI ns.length) := by
  intro Q E s y q
  obtain ⟨vs, p, z⟩ := (l.ext y).list
  have hs : vs.toArray.size = ns.length := z.length
  exact call_len_list p (by rw [hs]; omega) (by rw [hs]; exact q _ s.heap _ (Ext.refl _) ⟨_, rfl⟩)
theorem max_ok {b c : Int} (hh : A.handled = none) : CallB prog w A (.builtin "max") [.int b t, .int c u] H (IsI (max b c)) := by
  intro Q E s y q
  refine max_two_ints hh fun h' tk k => q _ h' tk k ?_
  split
  · exact ⟨u, by rw [Int.max_eq_right (by omega)]⟩
  · exact ⟨t, by rw [Int.max_eq_left (by omega)]⟩
theorem ev_len (hf : Ev prog w A env H (.Name x px) (IsV (.builtin "len"))) (he : Ev prog w A env H e (IsV (.ref a))) (l : LI a ns H) (hz : ns.length ≤ 1000) (hse : starEach [e] env = (false, eval e env) :: starEach [] env := by rfl) : Ev prog w A env H (.Call (.Name x px) [e] [] pos) (IsI ns.length) := by
  refine ev_bcall hf (Rs := [IsV (.ref a)]) (args_cons he mono_V args_nil hse) ?_ hse rfl
  rintro _ h k ⟨_, _, rfl, rfl, rfl⟩
  exact len_ok (l.ext k) hz
theorem ev_max {b c : Int} {e' : PySem.Expr} (hh : A.handled = none) (hf : Ev prog w A env H (.Name x px) (IsV (.builtin "max"))) (he : Ev prog w A env H e (IsI b)) (he' : Ev prog w A env H e' (IsI c)) (hse : starEach [e, e'] env = (false, eval e env) :: starEach [e'] env := by rfl) (hse' : starEach [e'] env = (false, eval e' env) :: starEach [] env := by rfl) : Ev prog w A env H (.Call (.Name x px) [e, e'] [] pos) (IsI (max b c)) := by
  refine ev_bcall hf (Rs := [IsI b, IsI c]) (args_cons he mono_I (args_cons he' mono_I args_nil hse') hse) ?_ hse (by rw [hse']; rfl)
  rintro _ h k ⟨_, _, rfl, ⟨t, rfl⟩, _, _, rfl, ⟨u, rfl⟩, rfl⟩
  exact max_ok hh
theorem ev_ifexp (b : Bool) (ht : EvT prog w A env H test b) (he : Ev prog w A env H (if b then body else orelse) R) : Ev prog w A env H (.IfExp test body orelse pos) R := by
  intro Q E s y q
  refine wpAny_IfExp (ht _ _ _ y fun h₁ tk₁ y₁ => ?_)
  have := he Q E { s with heap := h₁, toks := tk₁ } (y.trans y₁) fun v h' tk k r => q v h' tk (y₁.trans k) r
  cases b <;> exact this
noncomputable def dueI (n : Int) : List Int := if n = 0 then [0, 0] else [max 3 (n + 1), max 4 (n + 1)]
theorem due_ok {mg mb : Str → Option Value} (B : Base prog w mg mb H) (l : LI a ns H) (hz : ns.length ≤ 1000) : CallP prog w (.ref 172) [.ref a] H 1 (NewLI H (dueI (6 - ns.length))) := by
  refine fnQ (B.at (n := "_law_due") (i := 67) (by decide)) B.lim [("spots", .local), ("gone", .local), ("len", .globalImplicit), ("max", .globalImplicit)] [("spots", .ref a)] (fun _ _ _ _ _ => rfl) rfl rfl rfl (of_decide_eq_true rfl) ?_ rfl rfl rfl
  intro A env s h₁ tk₁ m cm Q E o O y hm S q
  have x₀ := y.trans S.ext
  refine st_asg S O.kind (O.of rfl) (ev_sub ev_int (ev_len (vB (B.ext x₀) O) (vL O S.rd (hm "spots" _ rfl)) (l.ext x₀) hz)) loc_I ?_
  rintro _ h₂ H₂ tk₂ S₂ x₂ ⟨t, rfl⟩
  have B₂ := B.ext (y.trans (x₂.trans S₂.ext))
  have hg : ∀ pos, Ev prog w A env h₂ (.Name "gone" pos) (IsI (6 - ns.length)) := fun pos => nL O S₂.rd rfl
  refine st_ret (R := NewLI h₂ (dueI (6 - ns.length))) (ev_ifexp (!decide ((6 - ns.length : Int) = 0)) ?_ ?_) ?_
  · have := evT_val (hg ⟨148, 51, 148, 55⟩) (fun _ => rfl)
    rwa [show ((6 - ns.length : Int) != 0) = !decide ((6 - ns.length : Int) = 0) by simp [bne, BEq.beq]] at this
  · unfold dueI
    by_cases h : (6 - ns.length : Int) = 0
    · rw [if_pos h, decide_eq_true h]
      exact ev_listI (ns := [0, 0]) (args_cons ev_int mono_I (args_cons ev_int mono_I args_nil)) (by decide)
    · rw [if_neg h, decide_eq_false h]
      exact ev_listI (ns := [_, _]) (args_cons (ev_max o.hh (vB B₂ O) ev_int (ev_add (hg _) ev_int)) mono_I (args_cons (ev_max o.hh (vB B₂ O) ev_int (ev_add (hg _) ev_int)) mono_I args_nil)) (of_decide_eq_true (p := 2 ≤ 1000) rfl)
  · rintro _ h' tk k ⟨b, rfl, hb, z⟩
    exact q _ h' tk (x₂.trans (S₂.ext.trans k)) ⟨b, rfl, ext_none (y.trans (x₂.trans S₂.ext)) hb, z⟩
end
end Mine
end

noncomputable section
open PySem PySem.W PySem.Calls PyProof.Rows
set_option maxRecDepth 100000
set_option maxHeartbeats 1000000
namespace Mine
noncomputable abbrev spotsI (fl : Int) : List Int := (rng 0 6).filter (bit fl)
noncomputable def IsIn (l : List Int) (v : Value) (_ : Heap) : Prop := ∃ n ∈ l, ∃ t, v = .int n t
theorem spots_nat {fl n : Int} (h : n ∈ spotsI fl) : ∃ k : Nat, n = k ∧ k < 6 ∧ bit fl k = true := by
  obtain ⟨h1, h2⟩ := List.mem_filter.mp h
  obtain ⟨h0, h6⟩ := rng_in h1
  obtain ⟨k, rfl⟩ := Int.eq_ofNat_of_zero_le h0
  exact ⟨k, rfl, by omega, h2⟩
theorem spots_len (fl : Int) : (spotsI fl).length ≤ 1000 := Nat.le_trans (List.length_filter_le _ _) (by rw [rng_length]; decide)
theorem pick_in {l : List Int} (h : l ≠ []) (k : Int) : 0 ≤ k.fmod l.length ∧ k.fmod l.length < l.length ∧ l.getD (k.fmod l.length).toNat 0 ∈ l := by
  have hl : (0 : Int) < l.length := by have := List.length_pos_iff.mpr h; omega
  have h0 := Int.fmod_nonneg_of_pos k hl
  have h1 := Int.fmod_lt_of_pos k hl
  refine ⟨h0, h1, ?_⟩
  have : (k.fmod l.length).toNat < l.length := by omega
  rw [List.getD_eq_getElem?_getD, List.getElem?_eq_getElem this]
  exact List.getElem_mem _
section
variable {prog : Program} {w : World} {mg mb : Str → Option Value} {A : Around} {env : Env} {H : Heap} {m cm : Str → Option Value} {L : Addr} {cells : List (Str × Addr)} {names : List (Str × NameKind)} {pos px p : Pos} {e value lenE e1 e2 e3 : PySem.Expr} {a : Addr} {l : List Int} {k : Int}
theorem ev_pick (hv : Ev prog w A env H value (IsV (.ref a))) (hl : LI a l H) (hne : l ≠ []) (hz : l.length ≤ 1000) (he : Ev prog w A env H e (IsI k)) (hlen : Ev prog w A env H lenE (IsI l.length))
    (hs : ∀ i t, subscripted (.BinOp e .Mod lenE p) false (.ref a) (.int i t) = operate [.ref a, .int i t] (getItem (.ref a) (.int i t)) := by intro _ _; with_unfolding_all rfl) : Ev prog w A env H (.Subscript value (.BinOp e .Mod lenE p) pos) (IsIn l) := by
  obtain ⟨h0, h1, h2⟩ := pick_in hne k
  have hl0 : (l.length : Int) ≠ 0 := by have := List.length_pos_iff.mpr hne; omega
  exact (ev_item hv hl (ev_mod he hlen hl0) h0 h1 (by omega) (hs _)).mono fun _ _ _ ⟨t, e⟩ => ⟨_, h2, t, e⟩
theorem ev_spots (B : Base prog w mg mb H) (O : EnvOK env L cells names) (o : AOK A 1) (he : Ev prog w A env H e (IsI k)) (hl : names.lookup ("_law_spots" : Str) = some .globalImplicit := by rfl) (hse : starEach [e] env = (false, eval e env) :: starEach [] env := by rfl) :
    Ev prog w A env H (.Call (.Name "_law_spots" px) [e] [] pos) (NewLI H (spotsI k)) := by
  refine ev_fn (f := 141) (i := 62) B O o (Rs := [IsI k]) (args_cons he mono_I args_nil hse) ?_ (by decide) rfl hl rfl hse
  rintro _ h x ⟨_, _, rfl, ⟨t, rfl⟩, rfl⟩
  intro A' Q E s a' y q
  exact spots_ok (B.ext x) k t A' Q E s a' y fun v h' tk k' ⟨b, e, f, l⟩ => q v h' tk k' ⟨b, e, ext_none x f, l⟩
theorem ev_hold (B : Base prog w mg mb H) (O : EnvOK env L cells names) (o : AOK A 1) {x dx : Addr} {items : List Value} {fs : List (Nat × Nat)} {b c : Nat} (a : Acc x dx items H) (hf : FoldVs b H items fs) (hb : b ≤ 14) (hfs : ∀ p ∈ fs, p.1 < 6 ∧ p.2 < 6)
    (h1 : Ev prog w A env H e1 (IsI (c : Int))) (h2 : Ev prog w A env H e2 (IsV (.ref x))) (h3 : Ev prog w A env H e3 (IsI ((7 + b : Nat) : Int))) (hl : names.lookup ("_law_hold" : Str) = some .globalImplicit := by rfl)
    (hs1 : starEach [e1, e2, e3] env = (false, eval e1 env) :: starEach [e2, e3] env := by rfl) (hs2 : starEach [e2, e3] env = (false, eval e2 env) :: starEach [e3] env := by rfl) (hs3 : starEach [e3] env = (false, eval e3 env) :: starEach [] env := by rfl) :
    Ev prog w A env H (.Call (.Name "_law_hold" px) [e1, e2, e3] [] pos) (IsI (holdN fs c : Nat)) := by
  refine ev_fn (f := 160) (i := 65) B O o (Rs := [IsI _, IsV _, IsI _]) (args_cons h1 mono_I (args_cons h2 mono_V (args_cons h3 mono_I args_nil hs3) hs2) hs1) ?_ (by decide) rfl hl rfl hs1
  rintro _ h k ⟨_, _, rfl, ⟨t, rfl⟩, _, _, rfl, rfl, _, _, rfl, ⟨u, rfl⟩, rfl⟩
  exact hold_ok (B.ext k) (a.ext k) (hf.ext k) hb hfs c t u
end
structure FreeL (near : List Int) (fs : List (Nat × Nat)) (left : Int) (Rm : Int → Nat → Prop) : Prop where
  h0 : ∀ c < 6, Rm left c
  h6 : ∀ room c, Rm room c → c < 6 ∧ holdN fs c < 6
  way : ∀ c < 6, spotsI (near.getD c 0) ≠ []
  ne : ∀ room c, Rm room c → spotsI (Builtin.bitAnd room (63 - near.getD (holdN fs c) 0)) ≠ []
  nx : ∀ room c (r c' : Nat), Rm room c → (r : Int) ∈ spotsI (Builtin.bitAnd room (63 - near.getD (holdN fs c) 0)) → (c' : Int) ∈ spotsI (near.getD c 0) → c' ≠ r ∧ Rm (Builtin.bitAnd left (near.getD r 0)) c'
structure FreeJ (Rm : Int → Nat → Prop) (m₀ m : Str → Option Value) : Prop where
  same : Same ["cop", "room", "step", "free", "robber", "ways"] m₀ m
  at_ : ∃ (room : Int) (c : Nat) (t u : Tok), m "cop" = some (.int c t) ∧ m "room" = some (.int room u) ∧ Rm room c
noncomputable def freeNames : List (Str × NameKind) := [("near", .local), ("folds", .local), ("low", .local), ("left", .local), ("cells", .local), ("cop", .local), ("room", .local), ("step", .local), ("free", .local), ("robber", .local), ("ways", .local), ("range", .globalImplicit), ("_law_spots", .globalImplicit), ("_law_hold", .globalImplicit), ("len", .globalImplicit)]
theorem loc_In {h : Heap} {l : List Int} : Loc h (IsIn l) := fun _ _ _ x _ => x
theorem fmod_nat (a : Int) {k : Nat} (hk : 0 < k) : ∃ c : Nat, a.fmod k = c ∧ c < k := by
  have h0 := Int.fmod_nonneg_of_pos a (b := k) (by omega)
  have h1 := Int.fmod_lt_of_pos a (b := k) (by omega)
  exact ⟨(a.fmod k).toNat, by omega, by omega⟩
theorem rng_nat {n : Nat} {i : Nat} {v : Int} (h : (rng 0 n)[i]? = some v) : v = i ∧ i < n := by
  have hi := (List.getElem?_eq_some_iff.mp h).1
  rw [rng_length] at hi
  rw [rng_get hi] at h
  have := Option.some.inj h
  omega
section
variable {prog : Program} {w : World} {mg mb : Str → Option Value} {H : Heap}
theorem free_ok (B : Base prog w mg mb H) {ln lc x dx : Addr} {near cells : List Int} {items : List Value} {fs : List (Nat × Nat)} {b : Nat} {left : Int} {Rm : Int → Nat → Prop} (hn : LI ln near H) (hl6 : near.length = 6) (ac : Acc x dx items H) (hf : FoldVs b H items fs) (hb : b ≤ 14) (hfs : ∀ p ∈ fs, p.1 < 6 ∧ p.2 < 6)
    (hc : LI lc cells H) (hc5 : cells.length = 5) (F : FreeL near fs left Rm) (tl tt : Tok) : CallP prog w (.ref 191) [.ref ln, .ref x, .int ((7 + b : Nat) : Int) tl, .int left tt, .ref lc] H 5 (IsB true) := by
  refine fnQ (B.at (n := "_law_free") (i := 70) (by decide)) B.lim freeNames [("near", .ref ln), ("folds", .ref x), ("low", .int ((7 + b : Nat) : Int) tl), ("left", .int left tt), ("cells", .ref lc)] (fun _ _ _ _ _ => rfl) rfl rfl rfl (of_decide_eq_true rfl) ?_ rfl rfl rfl
  intro A env s h₁ tk₁ m₀ cm₀ Q E o O y hm S q
  have mn := hm "near" _ rfl
  have mf := hm "folds" _ rfl
  have ml := hm "low" _ rfl
  have me := hm "left" _ rfl
  have mc := hm "cells" _ rfl
  clear hm
  have x₀ := y.trans S.ext
  obtain ⟨c, hcc, hc6⟩ := fmod_nat (cells.getD 0 0) (k := 6) (by decide)
  have o1 := o.less (e := 1) (by decide)
  refine st_asg S O.kind (O.of rfl) ((ev_mod (ev_item (vL O S.rd mc) (hc.ext x₀) ev_int (by decide) (by rw [hc5]; decide) (by decide)) ev_int (by decide)).mono fun _ _ _ (z : ∃ t, _) => (z.imp fun t e => by rw [e]; exact congrArg (Value.int · t) hcc : IsI (c : Int) _ _)) loc_I ?_
  rintro _ h₂ H₂ tk₂ S₂ x₂ ⟨t, rfl⟩
  refine st_asg S₂ O.kind (O.of rfl) (vL O S₂.rd me) loc_V ?_
  rintro _ h₃ H₃ tk₃ S₃ x₃ rfl
  have x₃' := x₂.trans x₃
  refine forQ0 (fun _ m _ => FreeJ Rm m₀ m) S₃ O.kind (O.of rfl) (src_range1 o.hh (vB (B.ext (y.trans (x₃'.trans S₃.ext))) O) ev_int (by decide) (by decide)) (fun _ h => nomatch h) ⟨Same.refl.upd.upd, left, c, t, tt, rfl, rfl, F.h0 c hc6⟩ ?_ ?_
  · clear S S₂ S₃ hcc hc6
    rintro i _ h tk H₄ m₄ cm₄ Q' E' hi ⟨n, tn, hn', rfl⟩ x₄ J S₄ bk nx
    obtain ⟨rfl, hi4⟩ := rng_nat (n := 4) hn'
    obtain ⟨room, c, t, u, m1, m2, hR⟩ := J.at_
    have J := J.same
    have k₄ := y.trans (x₃'.trans (x₄.trans S₄.ext))
    obtain ⟨hc6, hh6⟩ := F.h6 _ _ hR
    have hne := F.ne _ _ hR
    refine st_asg S₄ O.kind (O.of rfl) (ev_spots (B.ext k₄) O o1 (ev_and (nL O S₄.rd m2) (ev_sub ev_int (ev_item (vL O S₄.rd (J.get mn)) (hn.ext k₄) (ev_hold (B.ext k₄) O o1 (ac.ext k₄) (hf.ext k₄) hb hfs (nL O S₄.rd m1) (vL O S₄.rd (J.get mf)) (nL O S₄.rd (J.get ml))) (by omega) (by rw [hl6]; omega) (by omega))))) loc_LI ?_
    rintro _ h₅ H₅ tk₅ S₅ x₅ ⟨fr, rfl, _, lf⟩
    have k₅ := x₃'.trans (x₄.trans (x₅.trans S₅.ext))
    refine ifQ (decide (spotsI (Builtin.bitAnd room (63 - near.getD (holdN fs c) 0)) = [])) (evT_eqL (o.less (by decide)) (Ev.alV (lf.ext S₅.ext) (vL O S₅.rd rfl)) (ev_listI (ns := []) args_nil (by decide)).al) ?_
    rw [decide_eq_false hne]
    intro h₆ tk₆ Q₆ x₆ b₆ n₆
    refine wpAny_execs_nil (n₆ _ ?_)
    have S₆ := S₅.keep x₆
    have k₆ := y.trans (k₅.trans x₆)
    have lf6 := lf.ext (S₆.ext)
    refine st_asg S₆ O.kind (O.of rfl) (ev_pick (vL O S₆.rd rfl) lf6 hne (spots_len _) (ev_item (vL O S₆.rd (J.get mc)) (hc.ext k₆) (nL O S₆.rd rfl) (by omega) (by rw [hc5]; omega) (by omega)) (ev_len (vB (B.ext k₆) O) (vL O S₆.rd rfl) lf6 (spots_len _))) loc_In ?_
    rintro _ h₇ H₇ tk₇ S₇ x₇ ⟨_, hr, t₇, rfl⟩
    obtain ⟨r, rfl, hr6, _⟩ := spots_nat hr
    have k₇ := y.trans (x₃'.trans (x₄.trans (x₅.trans (x₇.trans S₇.ext))))
    refine st_asg S₇ O.kind (O.of rfl) (ev_spots (B.ext k₇) O o1 (ev_item (vL O S₇.rd (J.get mn)) (hn.ext k₇) (nL O S₇.rd m1) (by omega) (by rw [hl6]; omega) (by omega))) loc_LI ?_
    rintro _ h₈ H₈ tk₈ S₈ x₈ ⟨wy, rfl, _, lw⟩
    have k₈ := y.trans (x₃'.trans (x₄.trans (x₅.trans (x₇.trans (x₈.trans S₈.ext)))))
    have lw8 := lw.ext S₈.ext
    refine st_asg S₈ O.kind (O.of rfl) (ev_pick (vL O S₈.rd rfl) lw8 (F.way c hc6) (spots_len _) (ev_fdiv (ev_item (vL O S₈.rd (J.get mc)) (hc.ext k₈) (ev_add (nL O S₈.rd rfl) ev_int) (by omega) (by rw [hc5]; omega) (by omega)) ev_int (by decide) rfl) (ev_len (vB (B.ext k₈) O) (vL O S₈.rd rfl) lw8 (spots_len _))) loc_In ?_
    rintro _ h₉ H₉ tk₉ S₉ x₉ ⟨_, hc', t₉, rfl⟩
    obtain ⟨c', rfl, hc'6, _⟩ := spots_nat hc'
    obtain ⟨hne', hR'⟩ := F.nx room c r c' hR hr hc'
    refine ifQ ((c' : Int) == (r : Int)) (evT_eq (nL O S₉.rd rfl) (nL O S₉.rd rfl)) ?_
    rw [show ((c' : Int) == (r : Int)) = false from beq_eq_false_iff_ne.mpr fun q => hne' (Int.ofNat.inj q)]
    intro h₁₀ tk₁₀ Q₁₀ x₁₀ b₁₀ n₁₀
    refine wpAny_execs_nil (n₁₀ _ ?_)
    have S₁₀ := S₉.keep x₁₀
    have x₉' := x₅.trans (x₇.trans (x₈.trans x₉))
    refine st_asg S₁₀ O.kind (O.of rfl) (ev_and (nL O S₁₀.rd (J.get me)) (ev_item (vL O S₁₀.rd (J.get mn)) (hn.ext (y.trans (x₃'.trans (x₄.trans (x₉'.trans S₁₀.ext))))) (nL O S₁₀.rd rfl) (by omega) (by rw [hl6]; omega) (by omega))) loc_I ?_
    rintro _ h₁₁ H₁₁ tk₁₁ S₁₁ x₁₁ ⟨t₁₁, rfl⟩
    exact wpAny_execs_nil (nx _ _ _ _ _ S₁₁ (x₉'.trans x₁₁) ⟨J.upd.upd.upd.upd.upd.upd, _, c', t₉, t₁₁, rfl, rfl, hR'⟩)
  · rintro h' tk H' m' cm' S' x' _
    refine st_ret ev_bool ?_
    rintro _ h'' tk'' k rfl
    exact q _ _ _ (x₃'.trans (x'.trans (S'.ext.trans k))) rfl
end
end Mine
end

noncomputable section
open PySem PySem.W PySem.Calls PyProof.Rows
set_option maxRecDepth 100000
set_option maxHeartbeats 1000000
namespace Mine
noncomputable def ExtB (x : Addr) (h h' : Heap) : Prop := ∀ b o, b ≠ x → h.get? b = some o → h'.get? b = some o
section
variable {prog : Program} {w : World} {mg mb : Str → Option Value} {H : Heap}
theorem pop_call {A : Around} {env : Env} {Q E : Value → Shared → Prop} {s : Shared} {x dx : Addr} {items : List Value} {v : Value} {p0 p1 p2 : Pos} (B : Base prog w mg mb H) (y : Ext H s.heap) (o : AOK A 2) (ac : Acc x dx (items ++ [v]) s.heap) (hz : items.length < 1000)
    (hf : Ev prog w A env s.heap (.Name "folds" p0) (IsV (.ref x)))
    (h1 : eval (.Call (.Attribute (.Name "folds" p0) "pop" p1) [] [] p2) env = (do
      let ov ← eval (.Name "folds" p0) env
      standAt p1.atName
      let (f, first) ← holding [ov] (getMethod ov "pop" (do let r ← importBound (.Name "folds" p0) env; pure (r.getD true)))
      callWith p2 f first (backTo p2 (starEach [] env)) []))
    (q : ∀ h' tk, ExtB x s.heap h' → Acc x dx items h' → Q v { s with heap := h', toks := tk }) :
    wpAny (model prog w) A (eval (.Call (.Attribute (.Name "folds" p0) "pop" p1) [] [] p2) env) Q E s := by
  obtain ⟨K, X, k⟩ := B.cls
  refine MethodCall_ (hf _ _ _ (Ext.refl _) ?_) h1
  rintro _ h₁ tk₁ k₁ rfl
  have x₁ := y.trans k₁
  refine acc_gm (X.keeps x₁) k (ac.ext k₁) (by decide) (f := .ref 68) (by decide) (T := "function") k.fO.typ (by decide) ?_
  obtain ⟨od, osl, doc, pm, an, ct, cc, ccl, cdd, vs, ccs, file, tf, hfo, _⟩ := id k.fO
  exact callWith_meth0 rfl (X.keeps x₁ _ _ hfo) (pop_ok B x₁ (ac.ext k₁) hz o fun h' tk kx ac' => q h' tk (fun b o hb e => kx b o hb (k₁ _ _ e)) ac')
end
theorem FoldVs.take {b : Nat} {h : Heap} {vs : List Value} {fs : List (Nat × Nat)} (f : FoldVs b h vs fs) (j : Nat) : FoldVs b h (vs.take j) (fs.take j) := by
  refine ⟨by rw [List.length_take, List.length_take, f.1], fun i v e => ?_⟩
  rw [List.getElem?_take] at e ⊢
  split at e
  · rename_i hi; rw [if_pos hi]; exact f.2 i v e
  · cases e
structure CopL (near : List Int) (fs : List (Nat × Nat)) (Cp : Nat → Nat → Nat → Prop) : Prop where
  lt : ∀ j c r, Cp j c r → c < 6 ∧ r < 6
  step : ∀ j < 5, ∀ c r, Cp (j + 1) c r → holdN (fs.take j) r < 6 ∧ bit (near.getD c 0) (holdN (fs.take j) r : Nat) = true ∧ spotsI (near.getD r 0) ≠ [] ∧
    (holdN (fs.take j) r = r → Cp j r r) ∧ (holdN (fs.take j) r ≠ r → ∀ r' : Nat, (r' : Int) ∈ spotsI (near.getD r 0) → Cp j (holdN (fs.take j) r) r')
  fin : ∀ c r, Cp 0 c r → c = r
structure CopJ (Cp : Nat → Nat → Nat → Prop) (items : List Value) (x dx : Addr) (m₀ : Str → Option Value) (i : Nat) (H : Heap) (m : Str → Option Value) : Prop where
  same : Same ["cop", "robber", "step", "aim", "ways"] m₀ m
  acc : ∃ n, H.get? x = some (accObj dx (items.take (5 - i)).toArray n)
  at_ : ∃ (c r : Nat) (t u : Tok), m "cop" = some (.int c t) ∧ m "robber" = some (.int r u) ∧ Cp (5 - i) c r
noncomputable def caughtNames : List (Str × NameKind) := [("near", .local), ("folds", .local), ("low", .local), ("cop", .local), ("cells", .local), ("robber", .local), ("step", .local), ("aim", .local), ("ways", .local), ("range", .globalImplicit), ("_law_hold", .globalImplicit), ("_law_spots", .globalImplicit), ("len", .globalImplicit)]
theorem bit_no (a n : Int) : (Builtin.bitAnd (a.fdiv (2 ^ n.toNat)) 1 == 0) = !bit a n := by unfold bit bne; rw [Bool.not_not]
section
variable {prog : Program} {w : World} {mg mb : Str → Option Value} {H : Heap}
theorem EvT.cast {A : Around} {env : Env} {e : PySem.Expr} {b c : Bool} (h : EvT prog w A env H e b) (q : b = c) : EvT prog w A env H e c := q ▸ h
theorem not_mem1 {a b : Addr} (h : a ≠ b) : a ∉ [b] := fun q => h (List.mem_singleton.mp q)
theorem fmod_nat' (a : Int) {k : Nat} (hk : 0 < k) {h : Heap} {v : Value} (z : IsI (a.fmod k) v h) : ∃ c : Nat, IsI (c : Int) v h ∧ c < k := by
  obtain ⟨c, hc, hk⟩ := fmod_nat a hk
  exact ⟨c, hc ▸ z, hk⟩
theorem caught_ok (B : Base prog w mg mb H) {ln lc x dx : Addr} {near cells : List Int} {items : List Value} {fs : List (Nat × Nat)} {b : Nat} {cop : Nat} {Cp : Nat → Nat → Nat → Prop} (hn : LI ln near H) (hl6 : near.length = 6) (x0 : H.get? x = none) (ad : AD dx H) (hf : FoldVs b H items fs) (hb : b ≤ 14) (hfs : ∀ p ∈ fs, p.1 < 6 ∧ p.2 < 6) (h5 : fs.length = 5)
    (hc : LI lc cells H) (hc5 : cells.length = 5) (F : CopL near fs Cp) (h0 : ∀ r < 6, Cp 5 cop r) (tl tt : Tok) {A : Around} {Q E : Value → Shared → Prop} {s : Shared} (o : AOK A 5) (y : Ext H s.heap) (hx : ∃ n, s.heap.get? x = some (accObj dx items.toArray n)) (q : ∀ h' tk, ExtB x s.heap h' → Q (.bool true) { s with heap := h', toks := tk }) :
    wpAny (model prog w) A (call (.ref 184) [.ref ln, .ref x, .int ((7 + b : Nat) : Int) tl, .int (cop : Int) tt, .ref lc]) Q E s := by
  refine call_def (B.at (n := "_law_caught") (i := 69) (by decide)) B.lim o y caughtNames [("near", .ref ln), ("folds", .ref x), ("low", .int ((7 + b : Nat) : Int) tl), ("cop", .int (cop : Int) tt), ("cells", .ref lc)] (fun _ _ _ _ _ => rfl) rfl rfl rfl (of_decide_eq_true rfl) ?_ rfl rfl rfl
  clear o
  intro A env h₁ tk₁ m₀ cm₀ Q' E' o O hm S bk
  have mn := hm "near" _ rfl
  have mf := hm "folds" _ rfl
  have ml := hm "low" _ rfl
  have me := hm "cop" _ rfl
  have mc := hm "cells" _ rfl
  clear hm
  have h5i : items.length = 5 := hf.1.trans h5
  have G0 : Ext H (hideAll s.heap [x]) := fun b' o' e => hideAll_get _ (y _ _ e) (not_mem1 fun q => by rw [q, x0] at e; cases e)
  have GX : ∀ {h'}, Ext (hideAll s.heap [x]) h' → ExtB x s.heap h' := fun k b' o' hb' e => k _ _ (hideAll_get _ e (not_mem1 hb'))
  have Gx : (hideAll s.heap [x]).get? x = none := hideAll_none _ (.head _)
  have Gs : Ext (hideAll s.heap [x]) s.heap := fun _ _ e => of_hideAll _ e
  have q' : ∀ {h' tk}, Ext (hideAll s.heap [x]) h' → Q' (.ret (.bool true)) { s with heap := h', toks := tk } := fun k => bk _ _ (q _ _ (GX k))
  clear q bk GX
  revert G0 Gx Gs q'
  generalize hideAll s.heap [x] = G
  intro G0 Gx Gs q'
  have x₀ := y.trans S.ext
  have o1 := o.less (e := 1) (by decide)
  have hxh : x ∉ hid env := let ⟨_, e⟩ := hx; S.off e
  refine st_asg S O.kind (O.of rfl) ((ev_mod (ev_add (ev_add (nL O S.rd me) ev_int) (ev_mod (ev_item (vL O S.rd mc) (hc.ext x₀) ev_int (by decide) (by rw [hc5]; decide) (by decide)) ev_int (by decide))) ev_int (by decide)).mono fun _ _ _ z => fmod_nat' _ (k := 6) (by decide) z) (fun _ _ _ x _ => x) ?_
  rintro _ h₂ H₂ tk₂ S₂ x₂ ⟨r, ⟨t, rfl⟩, hr6⟩
  have hx2 : ∃ n, H₂.get? x = some (accObj dx (items.take 5).toArray n) := by rw [List.take_of_length_le (by omega)]; exact hx.imp fun _ e => x₂ _ _ e
  refine forQ [x] G (fun i H m _ => CopJ Cp items x dx m₀ i H m) (umL "step") S₂ (fun _ _ _ _ _ _ _ _ _ _ _ _ S₁ q => asgL O.kind (O.of rfl) S₁ q) (src_range1 o.hh (vB (B.ext (y.trans (x₂.trans S₂.ext))) O) ev_int (by decide) (by decide)) (Gs.trans x₂)
    (fun b' hb' => by rw [List.mem_singleton.mp hb']; exact ⟨Gx, let ⟨_, e⟩ := hx2; ⟨_, e⟩⟩) (fun _ h => nomatch h) (fun i H H' m _ J k => ⟨J.same, J.acc.imp fun n e => k _ _ e (fun T hT => by cases hT), J.at_⟩) (fun i H m _ J b' hb' => by rw [List.mem_singleton.mp hb']; exact let ⟨_, e⟩ := J.acc; ⟨_, e⟩) ⟨Same.refl.upd, hx2, cop, r, tt, t, me, rfl, h0 r hr6⟩ ?_ ?_
  · clear S S₂ hx2 hx q' hr6 h0
    rintro i _ h tk G₁ H₁ m₁ cm₁ _ _ Q₁ E₁ hi ⟨n, tn, hn', rfl⟩ xG hG1 x₁ J ⟨rfl, rfl⟩ S₁ bk nx
    obtain ⟨rfl, hi5⟩ := rng_nat (n := 5) hn'
    obtain ⟨c, r, t, u, m1, m2, hC⟩ := J.at_
    obtain ⟨na, ha⟩ := J.acc
    have J := J.same
    obtain ⟨j, hj1, hj2⟩ : ∃ j, 5 - i = j + 1 ∧ 5 - (i + 1) = j := ⟨4 - i, by omega, by omega⟩
    have hj5 : j < 5 := by omega
    rw [hj1] at hC ha
    rw [← List.take_append_getElem (by omega : j < items.length)] at ha
    have G1 : Ext H G₁ := G0.trans xG
    obtain ⟨hh6, hbit, hw, hs1, hs2⟩ := F.step j hj5 c r hC
    obtain ⟨hc6, hr6⟩ := F.lt _ _ _ hC
    clear hC G0
    have k₁ := G1.trans (x₁.trans S₁.ext)
    refine st_expr O.kind (pop_call (B.ext k₁) (Ext.refl _) (o.less (by decide)) ⟨na, S₁.ext _ _ ha, ad.ext k₁⟩ (by rw [List.length_take]; omega) (vL O S₁.rd (J.get mf)) rfl ?_)
    intro h₃ tk₃ kx ac3
    obtain ⟨S₃, k₃⟩ := S₁.mutR hxh kx
    have xG3 : Ext G₁ (rb env h₃) := fun b' o' e => k₃ b' o' (fun q => by rw [q, hG1 x (.head _)] at e; cases e) (x₁ _ _ e)
    obtain ⟨n3, ha3, _⟩ := ac3
    have ha3 := rb_get ha3 hxh
    clear kx k₃ ha S₁ k₁ x₁
    have k3 := G1.trans (xG3.trans S₃.ext)
    refine st_asg S₃ O.kind (O.of rfl) (ev_hold (B.ext k3) O o1 ⟨n3, S₃.ext _ _ ha3, ad.ext k3⟩ ((hf.take j).ext k3) hb (fun p hp => hfs p (List.mem_of_mem_take hp)) (nL O S₃.rd m2) (vL O S₃.rd (J.get mf)) (nL O S₃.rd (J.get ml))) loc_I ?_
    rintro _ h₄ H₄ tk₄ S₄ x₄ ⟨t4, rfl⟩
    have k4 := G1.trans (xG3.trans (x₄.trans S₄.ext))
    refine ifQ false (EvT.cast (evT_eq (ev_and (ev_shr (ev_item (vL O S₄.rd (J.get mn)) (hn.ext k4) (nL O S₄.rd m1) (by omega) (by rw [hl6]; omega) (by omega)) (nL O S₄.rd rfl) (by omega)) ev_int) ev_int) ((bit_no _ _).trans (by rw [Int.toNat_natCast, hbit]; rfl))) ?_
    intro h₅ tk₅ Q₅ x₅ b₅ n₅
    refine wpAny_execs_nil (n₅ _ ?_)
    have S₅ := S₄.keep x₅
    refine st_asg S₅ O.kind (O.of rfl) (vL O S₅.rd rfl) loc_V ?_
    rintro _ h₆ H₆ tk₆ S₆ x₆ rfl
    refine ifQ (((holdN (fs.take j) r : Nat) : Int) != (r : Int)) (evT_ne (nL O S₆.rd rfl) (nL O S₆.rd m2)) ?_
    intro h₇ tk₇ Q₇ x₇ b₇ n₇
    have S₇ := S₆.keep x₇
    have x₆' := x₄.trans x₆
    have ha7 := x₆' _ _ ha3
    by_cases he : holdN (fs.take j) r = r
    · rw [show (((holdN (fs.take j) r : Nat) : Int) != (r : Int)) = false by rw [he]; exact bne_self_eq_false _]
      exact wpAny_execs_nil (n₇ _ (wpAny_execs_nil (nx _ _ _ _ _ S₇ (xG3.trans x₆') ⟨J.upd.upd.upd, ⟨n3, by rw [hj2]; exact ha7⟩, _, r, _, _, rfl, m2, by rw [hj2, he]; exact hs1 he⟩)))
    · rw [show (((holdN (fs.take j) r : Nat) : Int) != (r : Int)) = true from bne_iff_ne.mpr fun q => he (Int.ofNat.inj q)]
      have k7 := G1.trans (xG3.trans (x₆'.trans S₇.ext))
      refine st_asg S₇ O.kind (O.of rfl) (ev_spots (B.ext k7) O o1 (ev_item (vL O S₇.rd (J.get mn)) (hn.ext k7) (nL O S₇.rd m2) (by omega) (by rw [hl6]; omega) (by omega))) loc_LI ?_
      rintro _ h₈ H₈ tk₈ S₈ x₈ ⟨wy, rfl, _, lw⟩
      have k8 := G1.trans (xG3.trans (x₆'.trans (x₈.trans S₈.ext)))
      have lw8 := lw.ext S₈.ext
      refine st_asg S₈ O.kind (O.of rfl) (ev_pick (vL O S₈.rd rfl) lw8 hw (spots_len _) (ev_item (vL O S₈.rd (J.get mc)) (hc.ext k8) (nL O S₈.rd rfl) (by omega) (by rw [hc5]; omega) (by omega)) (ev_len (vB (B.ext k8) O) (vL O S₈.rd rfl) lw8 (spots_len _))) loc_In ?_
      rintro _ h₉ H₉ tk₉ S₉ x₉ ⟨_, hr', t₉, rfl⟩
      obtain ⟨r', rfl, hr'6, _⟩ := spots_nat hr'
      have x₉' := x₈.trans x₉
      exact wpAny_execs_nil (n₇ _ (wpAny_execs_nil (nx _ _ _ _ _ S₉ (xG3.trans (x₆'.trans x₉')) ⟨J.upd.upd.upd.upd.upd, ⟨n3, by rw [hj2]; exact x₉' _ _ ha7⟩, _, r', _, _, rfl, rfl, by rw [hj2]; exact hs2 he r' hr'⟩)))
  · rintro h' tk H' m' cm' S' x' J
    obtain ⟨c, r, t, u, m1, m2, hC⟩ := J.at_
    rw [rng_length] at hC
    have := F.fin c r hC
    subst this
    refine st_ret (ev_cmp (c := (c : Int) == (c : Int)) (nL O S'.rd m1) (nL O S'.rd m2) fun _ _ _ _ _ q => PySem.P.eq_int q) ?_
    rintro _ h'' tk'' k rfl
    rw [beq_self_eq_true]
    exact q' (x'.trans (S'.ext.trans k))
end
end Mine
end

noncomputable section
open PySem PySem.W PySem.Calls PyProof.Rows
set_option maxRecDepth 100000
set_option maxHeartbeats 1000000
namespace Mine
section
variable {prog : Program} {w : World} {A : Around} {env : Env} {H h₀ : Heap} {m cm : Str → Option Value} {s : Shared} {Q : Flow → Shared → Prop} {E : Value → Shared → Prop} {rest : List Stmt} {pos tp : Pos} {value slice e : PySem.Expr} {tk₀ : Nat} {D : Addr} {ns : List Int} {i b : Int}
theorem st_augI (S : St env H m cm h₀) (hD : D ∉ hid env) (hl : LI D ns h₀) (hv : Ev prog w A env h₀ value (IsV (.ref D))) (hi : Ev prog w A env h₀ slice (IsI i)) (he : Ev prog w A env h₀ e (IsI b)) (h0 : 0 ≤ i) (h1 : i < ns.length) (h2 : i < 2 ^ 63)
    (next : ∀ h' tk, St env (rb env h') m cm h' → (∀ a o, a ≠ D → H.get? a = some o → (rb env h').get? a = some o) → LI D (ns.set i.toNat (ns.getD i.toNat 0 + b)) (rb env h') → wpAny (model prog w) A (execs rest env) Q E { s with heap := h', toks := tk })
    (ha : ∀ ov iv new, augStore slice ov iv new = (do holding [new, ov, iv] (setItem ov iv new); release [new, ov, iv] []; pure .next) := by intros; rfl) :
    wpAny (model prog w) A (execs (.AugAssign (.Subscript value slice tp) .Add e pos :: rest) env) Q E { s with heap := h₀, toks := tk₀ } := by
  refine wpAny_execs_cons (wpAny_AugAssign_SubscriptAny (hv _ _ _ (Ext.refl _) ?_) ha)
  rintro _ h₁ tk₁ y₁ rfl
  refine hi _ _ _ y₁ ?_
  rintro _ h₂ tk₂ y₂ ⟨t, rfl⟩
  have y := y₁.trans y₂
  obtain ⟨vs, p, z⟩ := (hl.ext y).list
  have hlt : i.toNat < ns.length := by omega
  obtain ⟨u, hu⟩ := z.get i.toNat (ns.getD i.toNat 0) (by rw [List.getD_eq_getElem?_getD, List.getElem?_eq_getElem hlt]; rfl)
  refine wpAny_getItem_list p h0 h2 (by simpa using hu) (he _ _ _ y ?_)
  rintro _ h₃ tk₃ y₃ ⟨t', rfl⟩
  refine PySem.P.iadd_int (wpAny_setItem_list (p.at fun o e => y₃ _ _ e) h0 h2 (by have := z.length; simp; omega) fun h' hl' hs => ?_)
  obtain ⟨S', k'⟩ := (S.keep (y.trans y₃)).mutR hD (fun a o ha e => hs.extBut a o ha e)
  have := hl'.at (h' := rb env h') fun o e => rb_get e hD
  exact next h' _ S' k' ⟨vs.set i.toNat (.int (ns.getD i.toNat 0 + b) tk₃), by simpa using this, ints_set z _⟩
end
noncomputable def nearNames : List (Str × NameKind) := [("cells", .local), ("near", .local), ("k", .local), ("j", .local), ("range", .globalImplicit)]
structure NearJ (l : List Str) (D : Addr) (m₀ : Str → Option Value) (P : List Nat → Prop) (H : Heap) (m : Str → Option Value) : Prop where
  same : Same l m₀ m
  at_ : ∃ nn, P nn ∧ LI D (nl nn) H
theorem NearJ.ofI {l : List Str} {D : Addr} {m₀ m : Str → Option Value} {P : List Nat → Prop} {H H' : Heap} (J : NearJ l D m₀ P H m) (k : ∀ nn, LI D (nl nn) H → LI D (nl nn) H') : NearJ l D m₀ P H' m := ⟨J.same, J.at_.imp fun nn z => ⟨z.1, k nn z.2⟩⟩
noncomputable def NO (k : Nat) (nn : List Nat) : Prop := NI k 0 nn ∧ (k < 6 → nn.getD k 0 = 2 ^ k)
theorem NI.nextO {k : Nat} {nn : List Nat} (x : NI k k nn) : NO (k + 1) nn := ⟨x.next, fun h => x.up _ h (Nat.lt_succ_self k)⟩
theorem nl_row {nn : List Nat} {k r : Nat} {a : Int} (h : nn.getD k 0 = 2 ^ k) (ha : a = (r : Int)) : (nl nn).set ((k : Int)).toNat ((nl nn).getD ((k : Int)).toNat 0 + (1 + a)) = nl (nn.set k (2 ^ k + (r + 1))) := by
  rw [Int.toNat_natCast, nl_get, h, ha, ← nl_set]
  congr 1
  omega
theorem nl_hit {nn : List Nat} {k j : Nat} : (nl nn).set ((j : Int)).toNat ((nl nn).getD ((j : Int)).toNat 0 + 1 * 2 ^ ((k : Int)).toNat) = nl (nn.set j (nn.getD j 0 + 2 ^ k)) := by
  rw [Int.toNat_natCast, Int.toNat_natCast, nl_get, ← nl_set]
  congr 1
  simp
theorem LI.ofI {a : Addr} {ns : List Int} {H h : Heap} (x : LI a ns H) (k : ExtI H h) : LI a ns h := let ⟨vs, ⟨o, e, c, r⟩, z⟩ := x; ⟨vs, ⟨o, k _ _ e (fun T hT => by rw [c] at hT; cases hT; decide), c, r⟩, z⟩
theorem LI.live {a : Addr} {ns : List Int} {H : Heap} (x : LI a ns H) : ∃ o, H.get? a = some o := let ⟨_, ⟨o, e, _⟩, _⟩ := x; ⟨o, e⟩
theorem rng_nat2 {a n : Nat} {i : Nat} {v : Int} (h : (rng a n)[i]? = some v) : v = ((a + i : Nat) : Int) ∧ a + i < n := by
  have hi := (List.getElem?_eq_some_iff.mp h).1
  rw [rng_length] at hi
  rw [rng_get hi] at h
  have := Option.some.inj h
  omega
section
variable {prog : Program} {w : World} {mg mb : Str → Option Value} {H : Heap}
theorem near_ok (B : Base prog w mg mb H) {lc : Addr} {cells : List Int} (hc : LI lc cells H) (hc5 : cells.length = 5) : CallP prog w (.ref 136) [.ref lc] H 2 (fun v h => ∃ nn, NewLI H (nl nn) v h ∧ Town nn) := by
  refine fnQ (B.at (n := "_law_near") (i := 61) (by decide)) B.lim nearNames [("cells", .ref lc)] (fun _ _ _ _ _ => rfl) rfl rfl rfl (of_decide_eq_true rfl) ?_ rfl rfl rfl
  intro A env s h₁ tk₁ m₀ cm₀ Q E o O y hm S q
  have mc := hm "cells" _ rfl
  clear hm
  refine st_asg S O.kind (O.of rfl) (ev_listI (ns := nl [1, 2, 4, 8, 16, 32]) (args_cons ev_int mono_I (args_cons ev_int mono_I (args_cons ev_int mono_I (args_cons ev_int mono_I (args_cons ev_int mono_I (args_cons ev_int mono_I args_nil)))))) (by decide)) loc_LI ?_
  rintro _ h₂ H₂ tk₂ S₂ x₂ ⟨D, rfl, hD, lD⟩
  have hDs : s.heap.get? D = none := ext_none S.ext hD
  have hDh := S.fresh hD
  have B₂ : Base prog w mg mb h₂ := B.ext (y.trans (x₂.trans S₂.ext))
  have mn : upd m₀ "near" (.ref D) "near" = some (.ref D) := upd_self
  have mc : upd m₀ "near" (.ref D) "cells" = _ := mc
  revert mn mc S₂
  generalize upd m₀ "near" (.ref D) = m₁
  intro S₂ mn mc
  refine forQ [D] s.heap (fun i H m _ => NearJ ["k", "j"] D m₁ (NO (i + 1)) H m) (umL "k") S₂ (fun _ _ _ _ _ _ _ _ _ _ _ _ S₁ q => asgL O.kind (O.of rfl) S₁ q) (src_range2 (a := ((1 : Nat) : Int)) (b := ((6 : Nat) : Int)) o.hh (vB B₂ O) ev_int ev_int (by decide) (by decide) (by decide)) x₂
    (fun b hb => by rw [List.mem_singleton.mp hb]; exact ⟨hDs, lD.live⟩) (fun _ h => nomatch h) (fun i H H' m _ J k => J.ofI fun _ l => l.ofI k) (fun i H m _ J b hb => by rw [List.mem_singleton.mp hb]; obtain ⟨_, _, l⟩ := J.at_; exact l.live) ⟨Same.refl, _, ⟨NI.start, fun _ => rfl⟩, lD⟩ ?_ ?_
  · clear S S₂ B₂ lD hD
    rintro i _ h₃ tk₃ G₁ H₁ m₂ cm₂ _ _ Q₁ E₁ hi ⟨n, tn, hn', rfl⟩ xG hG1 x₁ J ⟨rfl, rfl⟩ S₃ bk nx
    obtain ⟨rfl, hk6⟩ := rng_nat2 hn'
    obtain ⟨J, nn, ⟨hN, hNk⟩, lD⟩ := J
    have gD := hG1 D (.head _)
    clear hG1 hn' hi
    rw [Nat.add_comm 1 i] at *
    generalize hk : i + 1 = k at *
    have kG := y.trans xG
    clear xG
    have k₃ := kG.trans (x₁.trans S₃.ext)
    have k2 := Nat.one_lt_two_pow (n := k) (by omega)
    obtain ⟨r, hr, hrk⟩ := fmod_nat (cells.getD ((k : Int) - 1).toNat 0) (k := 2 ^ k - 1) (by omega)
    have hp : (2 : Int) ^ ((k : Int)).toNat - 1 = ((2 ^ k - 1 : Nat) : Int) := by rw [Int.toNat_natCast, Int.natCast_sub (by omega)]; simp
    refine st_augI S₃ hDh (lD.ext S₃.ext) (vL O S₃.rd (J.get mn)) (nL O S₃.rd rfl) (ev_add ev_int (ev_mod (ev_item (vL O S₃.rd (J.get mc)) (hc.ext k₃) (ev_sub (nL O S₃.rd rfl) ev_int) (by omega) (by rw [hc5]; omega) (by omega)) (ev_sub (ev_pow ev_int (nL O S₃.rd rfl) (by omega) (by omega) (by decide)) ev_int) (by rw [hp]; omega))) (by omega) (by rw [nl_len, hN.len]; omega) (by omega) ?_
    rw [hp, nl_row (hNk hk6) hr]
    intro h₄ tk₄ S₄ k₄ l₄
    have xG4 : Ext G₁ (rb env h₄) := fun b o e => k₄ b o (fun q => by rw [q, gD] at e; cases e) (x₁ _ _ e)
    have hN := hN.row hk6 (r := r + 1) (by omega)
    generalize nn.set k (2 ^ k + (r + 1)) = nn at *
    clear S₃ k₄ hr hrk hp k2 hNk x₁ lD
    have mk : upd m₂ "k" (.int (k : Int) tn) "k" = some (.int (k : Int) tn) := upd_self
    have J : Same ["k", "j"] m₁ (upd m₂ "k" (.int (k : Int) tn)) := J.upd
    revert mk J S₄
    generalize upd m₂ "k" (.int (k : Int) tn) = m₃
    intro S₄ mk J
    refine forQ [D] G₁ (fun j H m _ => NearJ ["j"] D m₃ (NI k j) H m) (umL "j") S₄ (fun _ _ _ _ _ _ _ _ _ _ _ _ S₁ q => asgL O.kind (O.of rfl) S₁ q) (src_range1 o.hh (vB (B.ext (kG.trans (xG4.trans S₄.ext))) O) (nL O S₄.rd mk) (by omega) (by omega)) xG4
      (fun b hb => by rw [List.mem_singleton.mp hb]; exact ⟨gD, l₄.live⟩) (fun _ h => nomatch h) (fun i H H' m _ J k => J.ofI fun _ l => l.ofI k) (fun i H m _ J b hb => by rw [List.mem_singleton.mp hb]; obtain ⟨_, _, l⟩ := J.at_; exact l.live) ⟨Same.refl, _, hN, l₄⟩ ?_ ?_
    · clear S₄ l₄ hN nn
      rintro j _ h₅ tk₅ G₂ H₂ m₄ cm₄ _ _ Q₂ E₂ hj ⟨n, tj, hn', rfl⟩ xG hG2 x₂ J' ⟨rfl, rfl⟩ S₅ bk' nx'
      obtain ⟨rfl, hjk⟩ := rng_nat (n := k) hn'
      obtain ⟨nn, hN, lD⟩ := J'.at_
      have J' := J'.same
      have l5 := lD.ext S₅.ext
      have nlen : (nl nn).length = 6 := by rw [nl_len, hN.len]
      refine ifQ ((nn.getD k 0).testBit j) (EvT.cast (evT_val (ev_and (ev_shr (ev_item (vL O S₅.rd (J'.get (J.get mn))) l5 (nL O S₅.rd (J'.get mk)) (by omega) (by rw [nlen]; omega) (by omega)) (nL O S₅.rd rfl) (by omega)) ev_int)) (by rw [← bit_nat, ← nl_get]; rfl)) ?_
      intro h₆ tk₆ Q₆ x₆ b₆ n₆
      have S₆ := S₅.keep x₆
      cases hb : (nn.getD k 0).testBit j with
      | true =>
        refine st_augI S₆ hDh (lD.ext S₆.ext) (vL O S₆.rd (J'.get (J.get mn))) (nL O S₆.rd rfl) (ev_shl ev_int (nL O S₆.rd (J'.get mk)) (by omega) (by omega) (by decide)) (by omega) (by rw [nlen]; omega) (by omega) ?_
        rw [nl_hit]
        intro h₇ tk₇ S₇ k₇ l₇
        exact wpAny_execs_nil (n₆ _ (wpAny_execs_nil (nx' _ _ _ _ _ S₇ (fun b o e => k₇ b o (fun q => by rw [q, hG2 D (.head _)] at e; cases e) (x₂ _ _ e)) ⟨J'.upd, _, hN.hit hk6 hjk hb, l₇⟩)))
      | false => exact wpAny_execs_nil (n₆ _ (wpAny_execs_nil (nx' _ _ _ _ _ S₆ x₂ ⟨J'.upd, _, hN.miss hb, lD⟩)))
    · rintro h' tk H' m' cm' S' x' J'
      rw [rng_length, Int.sub_zero, Int.toNat_natCast] at J'
      obtain ⟨nn, hN, lD⟩ := J'.at_
      subst hk
      exact wpAny_execs_nil (nx _ _ _ _ _ S' x' ⟨J.trans J'.same.more, nn, hN.nextO, lD⟩)
  · rintro h' tk H' m' cm' S' x' J
    obtain ⟨nn, hN, lD⟩ := J.at_
    refine st_ret (vL O S'.rd (J.same.get mn)) ?_
    rintro _ h'' tk'' k rfl
    exact q _ _ _ (x'.trans (S'.ext.trans k)) ⟨nn, ⟨D, rfl, ext_none y hDs, lD.ext (S'.ext.trans k)⟩, hN.1.town⟩
end
end Mine
end

noncomputable section
open PySem PySem.W PySem.Calls PyProof.Rows
set_option maxRecDepth 100000
set_option maxHeartbeats 1000000
namespace Mine
section
variable {prog : Program} {w : World} {A : Around} {E : Value → Shared → Prop} {s : Shared} {env : Env} {H : Heap} {a : Addr} {ns : List Int} {pos px : Pos} {x : Str} {e : PySem.Expr}
theorem sum_ok (hh : A.handled = none) (l : LI a ns H) : CallB prog w A (.builtin "sum") [.ref a] H (IsI ns.sum) := by
  intro Q E s y q
  obtain ⟨vs, p, z⟩ := (l.ext y).list
  obtain ⟨xs, e⟩ := z.allInts.items
  rw [e] at p
  refine sum_intListG hh p fun h' tk t' hk => q _ h' tk hk ⟨t', ?_⟩
  have : xs.toList.map (·.1) = ns := by rw [← nums_intItems, ← e]; exact z.numsOf
  rw [preSum_eq, List.take_of_length_le (by simp), this]
theorem ev_sum (hh : A.handled = none) (hf : Ev prog w A env H (.Name x px) (IsV (.builtin "sum"))) (he : Ev prog w A env H e (AL ns)) (hse : starEach [e] env = (false, eval e env) :: starEach [] env := by rfl) : Ev prog w A env H (.Call (.Name x px) [e] [] pos) (IsI ns.sum) := by
  refine ev_bcall hf (Rs := [AL ns]) (args_cons he (fun _ _ _ k ⟨a, e, l⟩ => ⟨a, e, l.ext k⟩) args_nil hse) ?_ hse rfl
  rintro _ h k ⟨_, _, rfl, ⟨a, rfl, l⟩, rfl⟩
  exact sum_ok hh l
theorem iadd_lists {l b : Addr} {xs ys : Array Value} {n n2 : Nat} {Q : Value → Shared → Prop} (hl : s.heap.get? l = some { cls := .type "list", data := .seq xs n }) (hb : s.heap.get? b = some { cls := .type "list", data := .seq ys n2 }) (hz : xs.size + ys.size ≤ 1000)
    (q : Q (.ref l) { s with heap := s.heap.update l (Obj.mapSeq fun x => x ++ ys) }) : wpAny (model prog w) A (inplaceOp .Add (.ref l) (.ref b)) Q E s := by
  have ta : s.TypeIs (.ref l) "list" := ⟨_, hl, rfl⟩
  have tb : s.TypeIs (.ref b) "list" := ⟨_, hb, rfl⟩
  have hfi : fillsInplaceSlot (.type "list") "add" (Operator.Add == .Add) = pure false := by
    unfold fillsInplaceSlot
    show (typeLookup (.type "list") (dunderI "add") >>= fun fi => pure (fi.isSome && !isSeqSlot fi)) = pure false
    rw [PySem.F.slot_list_iadd.lookup]; rfl
  have hsi : seqSlot? (.type "list") (dunderI "add") = pure (some (.builtin "list.__iadd__")) := by
    unfold seqSlot?
    rw [PySem.F.slot_list_iadd.lookup]; rfl
  unfold inplaceOp
  refine wpAny_holding (wpAny_bind (wpAny_typeOf ta (wpAny_bind (wpAny_of_eq hfi ?_))))
  show wpAny _ A (if false = true then _ else _) Q E s
  rw [if_neg Bool.false_ne_true]
  refine wpAny_bind (binaryOp1_none (nm := "add") ta tb noFill_list_add (wpAny_bind (wpAny_of_eq hsi (wpAny_bind (wpAny_rule ?_)))))
  have hs0 : ¬(!xs.isEmpty && Builtin.List.listTooLong (xs.size + ys.size)) = true := by
    simp [Builtin.List.listTooLong, sizeLine_eq]; omega
  exact call_meets PySem.F.slot_list_iadd ta PySem.F.entry_list_iadd (PySem.F.args_list_iadd_2 _ _) (AutoSeq1.list___iadd___list_list_0 l xs n b ys n2 hs0 (by rw [sizeLine_eq]; omega) (by rw [sizeLine_eq]; omega)) ⟨hl, hb, q⟩
theorem src_vals {vs : List Value} (hh : A.handled = none) (he : Ev prog w A env H e (IsV (.ref a))) (hl : H.IsList a vs.toArray) : Src prog w A env H e vs.length (fun i v => vs[i]? = some v) [a] := by
  intro Q E s y q
  refine he _ _ _ y ?_
  rintro _ h₁ tk₁ y₁ rfl
  exact src_at (fx := [a]) hh y₁ (hl.at fun o x => y₁ _ _ (y _ _ x)) (.inl (.head _)) q rfl
theorem asgR_pair {m cm : Str → Option Value} {h₁ : Heap} {tk₁ : Nat} {x y : Str} {p1 p2 tp : Pos} {kk : Nat} {v a b : Value} {Q' : Unit → Shared → Prop} (hh : A.handled = none) (hk : env.scope.kind = .function) (hx : env.kindOf x = some .local) (hy : env.kindOf y = some .local) (R : Rd env m cm h₁) (hL : ∀ n c, (n, c) ∈ env.cells → c ≠ env.locals) (ht : Tup2 h₁ v a b)
    (q : ∀ h₂ tk₂, Rd env (upd (upd m x a) y b) cm h₂ → (∀ b o, b ∉ [env.locals] → h₁.get? b = some o → h₂.get? b = some o) → (∀ b ∈ [env.locals], ∃ o, h₂.get? b = some o) → Q' () { s with heap := h₂, toks := tk₂ }) : wpAny (model prog w) A (assign (.Tuple [.Name x p1, .Name y p2] kk tp) env v) Q' E { s with heap := h₁, toks := tk₁ } := by
  obtain ⟨T, rfl, ht⟩ := ht
  refine kcp_assign hh ht hx hy (by rw [hk]; rfl) R.ns fun h' tk hn hkp => q h' tk ⟨hn, fun n c hm => (R.cl n c hm).imp fun o e => ⟨hkp c o (hL n c hm) e.1, e.2⟩⟩ (fun b o hb e => hkp b o (fun q => hb (List.mem_singleton.mpr q)) e) fun b hb => ?_
  rw [List.mem_singleton.mp hb]
  obtain ⟨o, _, _, e, _⟩ := hn
  exact ⟨o, e⟩
end
theorem Paired.mono {α β : Type} {F G : α → β → Prop} (h : ∀ a b, F a b → G a b) : ∀ {l : List α} {m : List β}, Paired F l m → Paired G l m
  | _, _, .nil => .nil
  | _, _, .cons x t => .cons (h _ _ x) (Paired.mono h t)
theorem Paired.append {α β : Type} {F : α → β → Prop} : ∀ {l l' : List α} {m m' : List β}, Paired F l m → Paired F l' m' → Paired F (l ++ l') (m ++ m')
  | _, _, _, _, .nil, y => y
  | _, _, _, _, .cons x t, y => .cons x (Paired.append t y)
theorem Paired.get {α β : Type} {F : α → β → Prop} {l : List α} {m : List β} (h : Paired F l m) : ∀ {i : Nat} {v : β}, m[i]? = some v → ∃ p, l[i]? = some p ∧ F p v := by
  induction h with
  | nil => intro i v e; cases e
  | cons x _ ih =>
    intro i v e
    cases i with
    | zero => cases e; exact ⟨_, rfl, x⟩
    | succ i => exact ih e
noncomputable def PV (h : Heap) (p : Int × Int) (v : Value) : Prop := ∃ t u, Tup2 h v (.int p.1 t) (.int p.2 u)
theorem PV.ext {H h : Heap} {p : Int × Int} {v : Value} (x : PV H p v) (k : Ext H h) : PV h p v := let ⟨t, u, y⟩ := x; ⟨t, u, y.ext k⟩
noncomputable def etest (k : Nat) (p : Int × Int) : Bool := bit p.2 k
noncomputable def emap (near : List Int) (k : Nat) (p : Int × Int) : Int × Int := (-p.1, Builtin.bitAnd p.2 (near.getD k 0))
noncomputable def erows (near : List Int) (fl : Int) : Nat → List (Int × Int)
  | 0 => [(-1, fl)]
  | k + 1 => erows near fl k ++ ((erows near fl k).filter (etest k)).map (emap near k)
noncomputable def eulerI (near : List Int) (fl : Int) : Int := ((erows near fl 6).map (·.1)).sum
theorem erows_len (near : List Int) (fl : Int) : ∀ k, (erows near fl k).length ≤ 2 ^ k
  | 0 => Nat.le_refl _
  | k + 1 => by
    have h := erows_len near fl k
    have h2 := List.length_filter_le (etest k) (erows near fl k)
    rw [erows, List.length_append, List.length_map, Nat.pow_succ]
    omega
theorem paired_len {α β : Type} {F : α → β → Prop} {l : List α} {m : List β} (h : Paired F l m) : m.length = l.length := h.length.symm
structure EulJ (near : List Int) (fl : Int) (D ln : Addr) (m₀ : Str → Option Value) (i : Nat) (H : Heap) (m cm : Str → Option Value) : Prop where
  rows : m "rows" = some (.ref D)
  nr : cm "near" = some (.ref ln)
  at_ : ∃ vs, H.PlainList D vs.toArray ∧ Paired (PV H) (erows near fl i) vs
noncomputable def eulerNames : List (Str × NameKind) := [("near", .cell), ("flags", .local), ("rows", .local), ("k", .cell), ("range", .globalImplicit), ("sum", .globalImplicit)]
section
variable {prog : Program} {w : World} {mg mb : Str → Option Value} {H : Heap}
theorem mono_NewT {H : Heap} {Rs : List (Value → Heap → Prop)} (h : ∀ R ∈ Rs, Mono R) : Mono (NewT H (All Rs)) := fun _ _ _ k ⟨a, vs, e, f, p, q⟩ => ⟨a, vs, e, f, k _ _ p, all_mono h k q⟩
theorem pv_of {H h : Heap} {a b : Int} {v : Value} (x : NewT H (All [IsI a, IsI b]) v h) : PV h (a, b) v ∧ ∃ T, v = .ref T ∧ H.get? T = none := by
  obtain ⟨T, _, rfl, f, p, _, _, rfl, ⟨t, rfl⟩, _, _, rfl, ⟨u, rfl⟩, rfl⟩ := x
  exact ⟨⟨t, u, T, rfl, _, p, rfl, 0, rfl⟩, T, rfl, f⟩
noncomputable def NewPV (H : Heap) (p : Int × Int) (v : Value) (h : Heap) : Prop := PV h p v ∧ ∃ T, v = .ref T ∧ H.get? T = none
theorem loc_PV {h : Heap} {p : Int × Int} : Loc h (NewPV h p) := fun v h' H' ⟨⟨t, u, T, e, o, x, y⟩, T', e', f⟩ k => by
  rw [e] at e'
  cases e'
  exact ⟨⟨t, u, T, e, o, k T o f x, y⟩, T, e, f⟩
theorem ev_pv {A : Around} {env : Env} {e1 e2 : PySem.Expr} {a b : Int} {k : Nat} {pos : Pos} (h1 : Ev prog w A env H e1 (IsI a)) (h2 : Ev prog w A env H e2 (IsI b)) (hs1 : starEach [e1, e2] env = (false, eval e1 env) :: starEach [e2] env := by rfl) (hs2 : starEach [e2] env = (false, eval e2 env) :: starEach [] env := by rfl) :
    Ev prog w A env H (.Tuple [e1, e2] k pos) (NewPV H (a, b)) :=
  (ev_tuple (Rs := [IsI a, IsI b]) (args_cons h1 mono_I (args_cons h2 mono_I args_nil hs2) hs1) (by simp [mono_I]) (of_decide_eq_true (p := 2 ≤ 1000) rfl)).mono fun _ _ _ => pv_of
theorem mono_PV {p : Int × Int} : Mono (NewPV H p) := fun _ _ _ k ⟨x, y⟩ => ⟨x.ext k, y⟩
theorem euler_ok (B : Base prog w mg mb H) {ln : Addr} {near : List Int} (hn : LI ln near H) (hl6 : near.length = 6) (fl : Int) (tf : Tok) : CallP prog w (.ref 177) [.ref ln, .int fl tf] H 1 (IsI (eulerI near fl)) := by
  refine fnQC (B.at (n := "_law_euler") (i := 68) (by decide)) B.lim eulerNames [("near", .ref ln), ("flags", .int fl tf)] (fun L => [("k", L + 2), ("near", L + 1)]) (fun _ _ _ _ _ => rfl) rfl rfl (by decide) (fun _ => rfl)
    [("flags", .int fl tf)] [("near", .ref ln)] (by simp only [List.forall_mem_cons]; exact ⟨rfl, fun _ h => nomatch h⟩) (by simp only [List.forall_mem_cons]; exact ⟨rfl, fun _ h => nomatch h⟩) ?_ rfl rfl rfl
  intro A env s h₁ tk₁ m₀ cm₀ Q E o O y hm hc S q
  have mf := hm "flags" _ rfl
  have mn := hc "near" _ rfl
  clear hm hc
  refine st_asg (R := fun v h => ∃ D T, v = .ref D ∧ h₁.get? D = none ∧ h.PlainList D [T].toArray ∧ NewPV h₁ (-1, fl) T h) S O.kind (O.of rfl) ((ev_list (Rs := [NewPV h₁ (-1, fl)]) (args_cons (ev_pv (ev_neg ev_int) (nL O S.rd mf)) mono_PV args_nil) (by simp [mono_PV]) (of_decide_eq_true (p := 1 ≤ 1000) rfl)).mono fun v h _ ⟨D, vs, e, f, p, T, _, e', z, e''⟩ => by subst e''; subst e'; exact ⟨D, T, e, f, p, z⟩) ?_ ?_
  · rintro v h' H' ⟨D, T, e, f, ⟨n, p⟩, z⟩ k
    exact ⟨D, T, e, f, ⟨n, k D _ f p⟩, loc_PV T h' H' z k⟩
  rintro _ h₂ H₂ tk₂ S₂ x₂ ⟨D, T, rfl, hD, lD, zT⟩
  have hDs : s.heap.get? D = none := ext_none S.ext hD
  have hDh := S.fresh hD
  have B₂ : Base prog w mg mb h₂ := B.ext (y.trans (x₂.trans S₂.ext))
  have mr : upd m₀ "rows" (.ref D) "rows" = some (.ref D) := upd_self
  revert mr S₂
  generalize upd m₀ "rows" (.ref D) = m₁
  intro S₂ mr
  have hcl : env.cells.lookup ("k" : Str) = some (env.locals + 2) := by rw [O.cells]; rfl
  have hnd : (env.cells.map (·.1)).Nodup := by rw [O.cells]; exact (by decide : (["k", "near"] : List Str).Nodup)
  refine forQ [D] s.heap (fun i H m cm => EulJ near fl D ln m₁ i H m cm) (umC "k") S₂ (fun _ _ _ _ _ _ _ _ _ _ _ _ S₁ q => asgC O.kind (O.of rfl) hcl hnd S₁ q) (src_range1 (b := ((6 : Nat) : Int)) o.hh (vB B₂ O) ev_int (by decide) (by decide)) x₂
    (fun b hb => by rw [List.mem_singleton.mp hb]; exact ⟨hDs, let ⟨_, e⟩ := lD; ⟨_, e⟩⟩) (fun _ h => nomatch h) ?_ (fun i H m _ J b hb => by rw [List.mem_singleton.mp hb]; obtain ⟨_, ⟨_, e⟩, _⟩ := J.at_; exact ⟨_, e⟩) ⟨mr, mn, [T], lD, .cons zT.1 .nil⟩ ?_ ?_
  · intro i H H' m cm J k
    obtain ⟨vs, ⟨n, e⟩, z⟩ := J.at_
    refine ⟨J.rows, J.nr, vs, ⟨n, k _ _ e fun T hT => by cases hT; decide⟩, Paired.mono (fun p v ⟨t, u, T, e1, o, e2, c, r⟩ => ⟨t, u, T, e1, o, k _ _ e2 fun T' hT => ?_, c, r⟩) z⟩
    rw [c] at hT; cases hT; decide
  · clear S S₂ B₂ lD hD zT
    rintro i _ h₃ tk₃ G₁ H₁ m₂ cm₂ _ _ Q₁ E₁ hi ⟨n, tn, hn', rfl⟩ xG hG1 x₁ J ⟨rfl, rfl⟩ S₃ bk nx
    obtain ⟨rfl, hk6⟩ := rng_nat (n := 6) hn'
    obtain ⟨vs, lD, pr⟩ := J.at_
    have gD := hG1 D (.head _)
    clear hG1 hn' hi
    have kG := y.trans xG
    have k₃ := kG.trans (x₁.trans S₃.ext)
    have hlen := erows_len near fl i
    have h64 : 2 ^ i ≤ 2 ^ 5 := Nat.pow_le_pow_right (by decide) (by omega)
    refine wpAny_execs_cons (wpAny_AugAssign_Name (wpAny_loadName_local O.kind (O.of rfl) S₃.ns J.rows ?_))
    refine (?ev : Ev prog w A env h₃ _ (NewJ h₃ ((fun j ys K => Paired (PV K) ((((erows near fl i).take j).filter (etest i)).map (emap near i)) ys) vs.length))) _ _ _ (Ext.refl _) ?_
    case ev =>
      refine compQ [("near", env.locals + 1), ("k", env.locals + 2)] (fun j ys K => Paired (PV K) ((((erows near fl i).take j).filter (etest i)).map (emap near i)) ys) (fun cm => cm "near" = some (.ref ln) ∧ cm "k" = some (.int (i : Int) tn))
        (fun j _ m₁ c₁ m₂ c₂ => c₂ = c₁ ∧ ∃ (p : Int × Int) (t u : Tok), (erows near fl i)[j]? = some p ∧ m₂ = upd (upd m₁ "odd" (.int p.1 t)) "common" (.int p.2 u)) O S₃.rd (src_vals o.hh (vL O S₃.rd J.rows) (lD.isList.at fun o e => S₃.ext _ _ e)) ?h0 ?hZ ?asg ?turn
        ?hlen ?hk ?h1 ?h2 (fun _ => rfl) (fun _ => rfl) ?hdj (fun _ => rfl)
      case h0 => exact fun K _ => .nil
      case hZ => exact ⟨J.nr, rfl⟩
      case hlen => rw [paired_len pr]; omega
      case hk => rfl
      case h1 => rfl
      case h2 => rfl
      case hdj => exact fun _ _ h => nomatch h
      case asg =>
        intro j v env' h tk s' m₁ cm₁ Q' E' hj hv O' hL hown x R' q'
        obtain ⟨p, hp, t, u, hT⟩ := Paired.get pr hv
        refine asgR_pair o.hh O'.kind (O'.of rfl) (O'.of rfl) R' (fun n c hm e => ?_) (hT.ext (S₃.ext.trans x)) fun h₂ tk₂ R₂ k₂ l₂ => q' h₂ tk₂ _ _ R₂ ⟨rfl, p, t, u, hp, rfl⟩ k₂ l₂
        rw [O'.cells] at hm
        have hm : (n, c) ∈ [(("near" : Str), env.locals + 1), ("k", env.locals + 2)] := hm
        have hm' : (n, c) ∈ env.cells := by
          rw [O.cells]
          rcases List.mem_cons.mp hm with q | q
          · cases q; exact .tail _ (.head _)
          · cases List.mem_singleton.mp q; exact .head _
        obtain ⟨o, ho, _⟩ := S₃.cl n c hm'
        rw [e, hL] at ho; cases ho
      case turn =>
        rintro j v ys env' K H' m₁ _ _ cm₂ hj hv O' x1 x2 jj z ⟨rfl, p, t, u, hp, rfl⟩ R'
        refine ⟨z, etest i p, NewPV H' (emap near i p), tests_one (evT_val (ev_and (ev_shr (nL O' R' rfl) (nC O' R' z.2) (by omega)) ev_int)), fun hb => ⟨ev_pv (ev_neg (nL O' R' rfl)) (ev_and (nL O' R' rfl) (ev_item (vC O' R' z.1) (hn.ext (k₃.trans (x1.trans x2))) (nC O' R' z.2) (by omega) (by rw [hl6]; omega) (by omega))), loc_PV, fun y K' k r => ?_⟩, fun hb => ?_⟩
        · show Paired _ ((((erows near fl i).take (j + 1)).filter (etest i)).map (emap near i)) _
          rw [take_succ_filter _ _ _ _ hp, if_pos hb, List.map_append]
          exact Paired.append (Paired.mono (fun _ _ x => x.ext k) jj) (.cons r.1 .nil)
        · show Paired _ ((((erows near fl i).take (j + 1)).filter (etest i)).map (emap near i)) _
          rw [take_succ_filter _ _ _ _ hp, if_neg (by rw [hb]; exact Bool.false_ne_true), List.append_nil]
          exact jj
    · rintro _ h₄ tk₄ y₄ ⟨D2, ys, K, rfl, hD2, ⟨n2, e2⟩, kK, _, jj⟩
      rw [List.take_of_length_le (by rw [paired_len pr]; exact Nat.le_refl _)] at jj
      obtain ⟨n1, e1⟩ := lD.at fun o e => y₄ _ _ (S₃.ext _ _ e)
      have hys := paired_len jj
      have hf := List.length_filter_le (etest i) (erows near fl i)
      rw [List.length_map] at hys
      have hvs := paired_len pr
      refine iadd_lists e1 e2 (by rw [List.size_toArray, List.size_toArray]; omega) ?_
      have hu := Heap.get?_update_self (Obj.mapSeq fun x => x ++ ys.toArray) e1 (by rfl)
      have kx : ∀ b o, b ≠ D → h₄.get? b = some o → (h₄.update D (Obj.mapSeq fun x => x ++ ys.toArray)).get? b = some o := fun b o hb e => (Heap.get?_update_ne _ _ _ _ hb).trans e
      obtain ⟨S₄, k₄⟩ := (S₃.keep y₄).mutR hDh kx
      have xG4 : Ext G₁ (rb env (h₄.update D (Obj.mapSeq fun x => x ++ ys.toArray))) := fun b o e => k₄ b o (fun q => by rw [q, gD] at e; cases e) (x₁ _ _ e)
      have pv : Paired (PV (rb env (h₄.update D (Obj.mapSeq fun x => x ++ ys.toArray)))) (erows near fl (i + 1)) (vs ++ ys) := by
        have ne : ∀ {p v T its}, Tup2 h₄ v p its → v = .ref T → T ≠ D ∧ T ∉ hid env := by
          rintro p v T its ⟨T', rfl, o, e, c, nn, dd⟩ q
          cases q
          exact ⟨fun q => (by rw [q, e1] at e; cases e; exact absurd (Value.type.inj c) (by decide)), (S₃.keep y₄).offSeq ⟨o, e, nn, dd⟩⟩
        have up : ∀ p v, PV h₄ p v → PV (rb env (h₄.update D (Obj.mapSeq fun x => x ++ ys.toArray))) p v := fun p v ⟨t, u, h⟩ => ⟨t, u, let ⟨T, e, x⟩ := id h; ⟨T, e, x.at fun o e' => rb_get (kx _ _ (ne h e).1 e') (ne h e).2⟩⟩
        exact Paired.append (Paired.mono (fun p v x => up p v (x.ext (S₃.ext.trans y₄))) pr) (Paired.mono (fun p v x => up p v (x.ext kK)) jj)
      refine wpAny_storeName_local (O.of rfl) S₄.ns (fun h₅ hn hsb => ?_) (by rw [O.kind]; rfl)
      exact wpAny_execs_nil (nx _ _ _ _ _ (S₄.setL hn hsb) xG4 ⟨upd_self, J.nr, vs ++ ys, ⟨_, rb_get (by rw [hu]; simp [Obj.mapSeq]; rfl) hDh⟩, pv⟩)
  · rintro h' tk H' m' cm' S' x' J
    obtain ⟨vs, lD, pr⟩ := J.at_
    rw [rng_length, Int.sub_zero, Int.toNat_natCast] at pr
    have hlen := erows_len near fl 6
    refine st_ret (ev_sum o.hh (vB (B.ext (y.trans (x'.trans S'.ext))) O) (ns := (erows near fl 6).map (·.1)) ((?ev : Ev prog w A env h' _ (NewJ h' ((fun j ys _ => IntsAre ys (((erows near fl 6).take j).map (·.1))) vs.length))).mono ?_)) ?_
    case ev =>
      refine compQ [] (fun j ys _ => IntsAre ys (((erows near fl 6).take j).map (·.1))) (fun _ => True) (fun j _ m₁ c₁ m₂ c₂ => c₂ = c₁ ∧ ∃ (p : Int × Int) (t u : Tok), (erows near fl 6)[j]? = some p ∧ m₂ = upd (upd m₁ "odd" (.int p.1 t)) "common" (.int p.2 u)) O S'.rd (src_vals o.hh (vL O S'.rd J.rows) (lD.isList.at fun o e => S'.ext _ _ e)) ?h0 ?hZ ?asg ?turn
        ?hlen ?hk ?h1 ?h2 ?cs ?on ?hdj (fun _ => rfl)
      case cs => exact fun _ => rfl
      case on => exact fun _ => rfl
      case h0 => exact fun K _ => .nil
      case hZ => trivial
      case hlen => rw [paired_len pr]; omega
      case hk => rfl
      case h1 => rfl
      case h2 => rfl
      case hdj => exact fun _ h => nomatch h
      case asg =>
        intro j v env' h tk s' m₁ cm₁ Q' E' hj hv O' hL hown x R' q'
        obtain ⟨p, hp, t, u, hT⟩ := Paired.get pr hv
        refine asgR_pair o.hh O'.kind (O'.of rfl) (O'.of rfl) R' (fun n c hm e => ?_) (hT.ext (S'.ext.trans x)) fun h₂ tk₂ R₂ k₂ l₂ => q' h₂ tk₂ _ _ R₂ ⟨rfl, p, t, u, hp, rfl⟩ k₂ l₂
        rw [O'.cells] at hm
        cases hm
      case turn =>
        rintro j v ys env' K H' m₁ _ _ cm₂ hj hv O' x1 x2 jj z ⟨rfl, p, t, u, hp, rfl⟩ R'
        refine ⟨trivial, true, IsI p.1, tests_nil, fun hb => ⟨nL O' R' rfl, loc_I, fun y K' k r => ?_⟩, fun hb => nomatch hb⟩
        obtain ⟨t, rfl⟩ := r
        show IntsAre _ (((erows near fl 6).take (j + 1)).map (·.1))
        rw [List.take_add_one, hp, List.map_append]
        exact IntsAre.append jj (.cons _ t .nil)
    · rintro _ h'' k ⟨D', ys, K, rfl, _, lD', _, _, jj⟩
      rw [List.take_of_length_le (by rw [paired_len pr]; exact Nat.le_refl _)] at jj
      exact ⟨D', rfl, ys, lD'.isList, jj⟩
    · rintro _ h'' tk'' k ⟨t, rfl⟩
      exact q _ _ _ (x'.trans (S'.ext.trans k)) ⟨t, rfl⟩
end
end Mine
end

noncomputable section
open PySem PySem.W PySem.Calls PyProof.Rows
set_option maxRecDepth 100000
set_option maxHeartbeats 1000000
namespace Mine
section
variable {prog : Program} {w : World} {mg mb : Str → Option Value} {A : Around} {env : Env} {H : Heap} {value u : PySem.Expr} {a : Addr} {ns : List Int} {k : Int} {p pos : Pos}
theorem ev_take (hv : Ev prog w A env H value (IsV (.ref a))) (l : LI a ns H) (hz : ns.length ≤ 1000) (hu : Ev prog w A env H u (IsI k)) (hk : 0 ≤ k) (ht : ∀ o r, letTemporaryGo value o r = pure () := by intro _ _; rfl) :
    Ev prog w A env H (.Subscript value (.Slice none (some u) none p) pos) (NewLI H (ns.take k.toNat)) := by
  intro Q E s y q
  refine wpAny_Subscript_list_slice (hv _ _ _ y ?_) ht
  rintro _ h₁ tk₁ y₁ rfl
  rw [evalPart_none]
  refine wpAny_pure ?_
  rw [evalPart_some]
  refine hu _ _ _ (y.trans y₁) ?_
  rintro _ h₂ tk₂ y₂ ⟨t, rfl⟩
  obtain ⟨vs, p, z⟩ := (l.ext ((y.trans y₁).trans y₂)).list
  refine ⟨a, _, none, some k, rfl, p, by have := z.length; rw [sizeLine_eq, List.size_toArray]; omega, .none, .int k t, ?_⟩
  refine q _ _ _ ((y₁.trans y₂).trans ((ext_push _ _).trans (ext_push _ _))) ⟨h₂.objs.size + 1, rfl, ext_none ((y.trans y₁).trans y₂) (none_above (Nat.le_succ _)), (slicePick vs.toArray none (some k) none).toList, ⟨_, Heap.get?_push_at (Heap.size_push ..).symm rfl, rfl, 0, by simp⟩, kmk_upto z hk⟩
theorem enum_item {e it l : Addr} {items : Array Value} (hh : A.handled = none) (hei : e ≠ it) (hle : l ≠ e) (hli : l ≠ it) {elts : List PySem.Expr} {kk : Nat} {tp : Pos} (i : Nat) (s : Shared) (Q : Option Value → Shared → Prop) (E : Value → Shared → Prop) (hi : i < items.size)
    (st : (∃ old, IsEnum s.heap e it i old) ∧ s.heap.IsListIter it l i ∧ s.heap.IsList l items)
    (q : ∀ v h' tk, (∀ (Q' : Unit → Shared → Prop) (E' : Value → Shared → Prop), (∀ h'' tk', (∃ t x, items[i]? = some x ∧ Tup2 h'' v (.int i t) x) → ((∃ old, IsEnum h'' e it ((i + 1 : Nat) : Int) old) ∧ h''.IsListIter it l (i + 1) ∧ h''.IsList l items) → (∀ b o, b ∉ [e, it] → s.heap.get? b = some o → h''.get? b = some o) → Q' () { s with heap := h'', toks := tk' }) → wpAny (model prog w) A (letOwnedTupleGo (.Tuple elts kk tp) (.ref e) v) Q' E' { s with heap := h', toks := tk }) → Q (some v) { s with heap := h', toks := tk }) :
    wpAny (model prog w) A (pyNext (.ref e)) Q E s := by
  have W := WalksT.enumerate (prog := prog) (w := w) hh e it l hei hle hli items
  refine W.item i s Q E hi st fun T vals h' tk ⟨t, x, hx, hv⟩ _ hT mid k => q _ h' tk fun Q' E' q' => W.go elts kk tp i T _ Q' E' mid fun h'' st' k' => q' h'' tk ⟨t, x, hx, T, rfl, ?_⟩ st' fun b o hb e => k' b o hb (k b o hb e)
  subst hv
  exact hT.at fun o e => k' T o (W.apart _ _ _ mid) e
theorem cells_ok (B : Base prog w mg mb H) {ls R : Addr} {ns cs : List Int} (hs : LI ls ns H) (hz : ns.length ≤ 1000) (x0 : H.get? R = none) {Q E : Value → Shared → Prop} {s : Shared} (o : AOK A 1) (y : Ext H s.heap) (hR : LI R cs s.heap) (hc5 : cs.length = 5)
    (q : ∀ h' tk cs', ExtB R s.heap h' → LI R cs' h' → cs'.length = 5 → Q (.ref R) { s with heap := h', toks := tk }) : wpAny (model prog w) A (call (.ref 129) [.ref ls, .ref R]) Q E s := by
  refine call_def (B.at (n := "_law_cells") (i := 60) (by decide)) B.lim o y [("script", .local), ("row", .local), ("place", .local), ("x", .local), ("enumerate", .globalImplicit), ("len", .globalImplicit)] [("script", .ref ls), ("row", .ref R)] (fun _ _ _ _ _ => rfl) rfl rfl rfl (of_decide_eq_true rfl) ?_ rfl rfl rfl
  clear o
  intro A env h₁ tk₁ m₀ cm₀ Q' E' o O hm S bk
  have msc := hm "script" _ rfl
  have mr := hm "row" _ rfl
  clear hm
  have hRh : R ∉ hid env := let ⟨_, e⟩ := hR.live; S.off e
  have G0 : Ext H (hideAll s.heap [R]) := fun b' o' e => hideAll_get _ (y _ _ e) (not_mem1 fun q => by rw [q, x0] at e; cases e)
  have GX : ∀ {h'}, Ext (hideAll s.heap [R]) h' → ExtB R s.heap h' := fun k b' o' hb' e => k _ _ (hideAll_get _ e (not_mem1 hb'))
  have Gx : (hideAll s.heap [R]).get? R = none := hideAll_none _ (.head _)
  have Gs : Ext (hideAll s.heap [R]) s.heap := fun _ _ e => of_hideAll _ e
  have q' : ∀ {h' tk cs'}, Ext (hideAll s.heap [R]) h' → LI R cs' h' → cs'.length = 5 → Q' (.ret (.ref R)) { s with heap := h', toks := tk } := fun k l e => bk _ _ (q _ _ _ (GX k) l e)
  clear q bk GX
  revert G0 Gx Gs q'
  generalize hideAll s.heap [R] = G
  intro G0 Gx Gs q'
  have x₀ := y.trans S.ext
  refine wpAny_execs_cons (wpAny_For (wpAny_Call_Name_kw (vB (B.ext x₀) O (v := .type "enumerate") (by decide) rfl rfl (by decide) (by decide) _ _ _ (Ext.refl _) ?_)) (fun _ => rfl))
  rintro _ h₂ tk₂ k₂ rfl
  refine PyProof.Rows.callWith_type rfl (evalArgs_plain (spliced_cons (ev_take (vL O S.rd msc) (hs.ext x₀) hz (ev_int (i := 12)) (by decide) (fun _ _ => rfl) _ _ _ k₂ ?_)))
  rintro _ h₃ tk₃ k₃ ⟨l, rfl, hl, lv⟩
  refine spliced_nil ?_
  obtain ⟨vs, pl, z⟩ := lv
  refine call_enumerate_list pl fun h₄ hE hit hsz k₄ => ?_
  have ke : (h₃.objs.size + 1 : Nat) ≠ h₃.objs.size := Nat.succ_ne_self _
  have l3 : l ≠ h₃.objs.size ∧ l ≠ (h₃.objs.size + 1 : Nat) := by
    obtain ⟨o, e, _⟩ := pl
    have := Heap.lt_size e
    exact ⟨Nat.ne_of_lt this, Nat.ne_of_lt (Nat.lt_succ_of_lt this)⟩
  have k₃' := k₂.trans k₃
  have k₄' : Ext h₁ h₄ := k₃'.trans k₄
  refine (WalksT.enumerate (prog := prog) (w := w) o.hh (h₃.objs.size + 1) h₃.objs.size l ke l3.2 l3.1 vs.toArray).self 0 _ _ _ ⟨⟨_, hE⟩, hit, pl.at fun o e => k₄ _ _ e⟩ ?_
  have W := WalksT.enumerate (prog := prog) (w := w) (A := A) o.hh (h₃.objs.size + 1) h₃.objs.size l ke l3.2 l3.1 vs.toArray
  refine forCode (wr := [h₃.objs.size + 1, h₃.objs.size]) (fp := [h₃.objs.size + 1, h₃.objs.size, l]) (fx := []) (own := [R]) (G := G) (n := vs.toArray.size) (P := fun i v h => ∃ t x, vs.toArray[i]? = some x ∧ Tup2 h v (.int i t) x)
    (um := fun i _ m₁ c₁ m₂ c₂ => c₂ = c₁ ∧ ∃ t n u, m₂ = upd (upd m₁ "place" (.int (i : Int) t)) "x" (.int n u)) (J := fun _ H m _ => m "row" = some (.ref R) ∧ ∃ cs, LI R cs H ∧ cs.length = 5)
    S k₄' ?_ W.frame (enum_item o.hh ke l3.2 l3.1) W.done ?_ ⟨⟨_, hE⟩, hit, pl.at fun o e => k₄ _ _ e⟩ ?_ ?_ Gs ?_ (fun _ h => nomatch h) ?_ ?_ ⟨mr, cs, hR, hc5⟩ ?_ ?_
  · intro b hb
    rcases List.mem_cons.mp hb with rfl | hb
    · exact ext_none k₃' (none_above (Nat.le_succ _))
    · rw [List.mem_singleton.mp hb]; exact ext_none k₃' (none_above (Nat.le_refl _))
  · rintro i h ⟨⟨old, hE⟩, ⟨o, e, c, _⟩, _⟩ b hb
    rcases List.mem_cons.mp hb with rfl | hb
    · exact ⟨_, _, hE, rfl, .head _⟩
    · rw [List.mem_singleton.mp hb]; exact ⟨o, _, e, c, by decide⟩
  · intro b hb
    rcases List.mem_cons.mp hb with rfl | hb
    · exact .inl (.head _)
    · rcases List.mem_cons.mp hb with rfl | hb
      · exact .inl (.tail _ (.head _))
      · rw [List.mem_singleton.mp hb]
        obtain ⟨o, e, _⟩ := pl
        exact .inr ⟨⟨o, k₄ _ _ e⟩, .inr hl⟩
  · rintro i v h tk H₁ m₁ cm₁ Q₁ E₁ hi ⟨t, x, hx, hT⟩ x₁ S₁ q
    obtain ⟨n, u, rfl, _⟩ := z.at i x (by simpa using hx)
    exact asg_pair o.hh S₁ O.kind (O.of rfl) (O.of rfl) hT fun h₂ tk₂ S₂ => q h₂ tk₂ _ _ S₂ ⟨rfl, t, n, u, rfl⟩
  · intro b hb
    rw [List.mem_singleton.mp hb]; exact ⟨Gx, hR.live⟩
  · exact fun i H H' m cm ⟨mr, cs, l, e⟩ k => ⟨mr, cs, l.ofI k, e⟩
  · rintro i H m cm ⟨_, cs, l, _⟩ b hb
    rw [List.mem_singleton.mp hb]; exact l.live
  · rintro i v h₀ h tk G₁ H₁ m₁ cm₁ m₂ _ Q₁ E₁ hi hv xG hG1 x₁ ⟨mr, cs, lR, e5⟩ ⟨rfl, t, n, u, rfl⟩ S₁ bk nx
    have l1 := lR.ext S₁.ext
    have hl5 : (0 : Int) < cs.length := by rw [e5]; decide
    refine st_augI S₁ hRh l1 (vL O S₁.rd mr) (ev_mod (nL O S₁.rd rfl) (ev_len (vB (B.ext (G0.trans (xG.trans (x₁.trans S₁.ext)))) O) (vL O S₁.rd mr) l1 (by rw [e5]; decide)) (Int.ne_of_gt hl5)) (ev_mod (nL O S₁.rd rfl) ev_int (by decide)) (Int.fmod_nonneg_of_pos _ hl5) (Int.fmod_lt_of_pos _ hl5) (by have := Int.fmod_lt_of_pos (i : Int) hl5; omega) ?_
    intro h' tk' S' k' l'
    exact wpAny_execs_nil (nx _ _ _ _ _ S' (fun b o e => k' b o (fun q => by rw [q, hG1 R (.head _)] at e; cases e) (x₁ _ _ e)) ⟨mr, _, l', by rw [List.length_set]; exact e5⟩)
  · rintro h' tk H' m' cm' S' x' ⟨mr, cs, l, e5⟩
    refine st_ret (vL O S'.rd mr) ?_
    rintro _ h'' tk'' k rfl
    exact q' (x'.trans (S'.ext.trans k)) (l.ext (S'.ext.trans k)) e5
end
end Mine
end

noncomputable section
open PySem PySem.W PySem.Calls PyProof.Rows
set_option maxRecDepth 100000
set_option maxHeartbeats 1000000
namespace Mine
noncomputable def iv : Value → Int
  | .int n _ => n
  | _ => 0
section
variable {prog : Program} {w : World} {A : Around} {env : Env} {H : Heap} {K : Type} [DecidableEq K] {knd : KeyKind prog w K} {D : Addr} {kvs : List (K × Value)} {e e' : PySem.Expr} {pos apos px px' kp : Pos} {x : Str} {n ep k : Nat}
noncomputable def IsView (H : Heap) (D : Addr) (v : Value) (h : Heap) : Prop := ∃ V, v = .ref V ∧ h.IsValuesView V D ∧ H.get? V = none
theorem ev_vals (he : Ev prog w A env H (.Name x px) (IsV (.ref D))) (hD : H.DictOf knd D kvs) (hs : (D == sysModules) = false) (h1 : eval (.Call (.Attribute (.Name x px) "values" apos) [] [] pos) env = (do
      let ov ← eval (.Name x px) env
      standAt apos.atName
      let (f, first) ← holding [ov] (getMethod ov "values" (do let r ← importBound (.Name x px) env; pure (r.getD true)))
      callWith pos f first (backTo pos (starEach [] env)) []) := by rfl) : Ev prog w A env H (.Call (.Attribute (.Name x px) "values" apos) [] [] pos) (IsView H D) := by
  intro Q E s y q
  refine MethodCall_ (he _ _ _ y ?_) h1
  rintro _ h₁ tk₁ y₁ rfl
  have hd := hD.keep fun b o e => y₁ b o (y b o e)
  refine getMethod_builtin hd.typeIs PySem.F.plainAttrs_dict PySem.F.slot_dict_values PySem.F.type_dict_values hd.mapOf.noDict ?_
  refine callWith_method0 (call_meetsIn PySem.F.slot_dict_values hd.typeIs PySem.F.entry_dict_values (PySem.F.args_dict_values_1 _) (meets_dict_values knd D hs) ⟨⟨kvs, hd⟩, ?_⟩)
  exact q _ _ tk₁ (y₁.trans (ext_push _ _)) ⟨_, rfl, ⟨_, Heap.get?_push_size _ rfl, rfl, rfl⟩, size_none (y.trans y₁)⟩
noncomputable def IsFil (H : Heap) (D : Addr) (n ep : Nat) (v : Value) (h : Heap) : Prop := ∃ F I, v = .ref F ∧ h.get? F = some (filObj I) ∧ h.IsValIter I D 0 n ep ∧ H.get? F = none ∧ H.get? I = none ∧ F ≠ I
theorem ev_fil (hf : Ev prog w A env H (.Name x px) (IsV (.type "filter"))) (he : Ev prog w A env H e (IsView H D)) (hD : H.DictAt knd D kvs ep) (hse : starEach [.Constant .none k px', e] env = [(false, eval (.Constant .none k px') env), (false, eval e env)] := by rfl) :
    Ev prog w A env H (.Call (.Name x px) [.Constant .none k px', e] [] pos) (IsFil H D kvs.length ep) := by
  intro Q E s y q
  refine wpAny_Call_Name_kw (hf _ _ _ y ?_)
  rintro _ h₁ tk₁ y₁ rfl
  refine PyProof.Rows.callWith_type (by rw [hse]; rfl) ?_
  rw [hse]
  refine evalArgs_plain (spliced_cons (wpAny_Constant_none (k := k) (pos := px') ?_))
  refine spliced_cons ?_
  refine he _ _ _ (y.trans y₁) ?_
  rintro _ h₂ tk₂ y₂ ⟨V, rfl, hV, _⟩
  refine spliced_nil ?_
  refine fil_call (wpAny_pyIter_values hV (hD.keep fun b o e => (y₁.trans y₂) b o (y b o e)) ⟨_, rfl, ?_⟩)
  have k : Ext H h₂ := (y.trans y₁).trans y₂
  refine q _ _ tk₂ ((y₁.trans y₂).trans ((ext_push _ _).trans (ext_push _ _))) ⟨_, _, rfl, Heap.get?_push_size _ rfl, ⟨_, Heap.get?_push_of_some _ (Heap.get?_push_size _ rfl), rfl, rfl⟩, ?_, size_none k, ?_⟩
  · exact size_none (k.trans (ext_push _ _))
  · simp [Heap.push]
noncomputable def topI (vs : List Value) : Int := (bestOf (fun i => iv ((vs.filter tv).getD i .none)) (vs.filter tv).length).getD (-1)
theorem ev_maxd (hh : A.handled = none) (hf : Ev prog w A env H (.Name x px) (IsV (.builtin "max"))) (he : ∀ H', Ext H H' → Ev prog w A env H' e (IsFil H' D kvs.length ep)) (hd : Ev prog w A env H e' (IsI (-1))) (hD : H.DictAt knd D kvs ep) (hin : ∀ p ∈ kvs, IN p.2)
    (hse : starEach [e] env = [(false, eval e env)] := by rfl) : Ev prog w A env H (.Call (.Name x px) [e] [⟨some "default", e', kp⟩] pos) (IsI (topI (kvs.map (·.2)))) := by
  intro Q E s y q
  refine wpAny_Call_Name_kw (hf _ _ _ y ?_)
  rintro _ h₁ tk₁ y₁ rfl
  refine callWith_kw ?_ (by rw [hse]; rfl) (by rw [hse]; rfl)
  rw [hse]
  refine spliced_cons (he s.heap y _ _ _ y₁ ?_)
  rintro _ h₂ tk₂ y₂ ⟨F, I, rfl, hF, hI, hF0, hI0, hFI⟩
  refine spliced_nil (kws_cons (hd _ _ _ ((y.trans y₁).trans y₂) ?_))
  rintro _ h₃ tk₃ y₃ ⟨t, rfl⟩
  refine kws_nil ?_
  have k₃ := ((y.trans y₁).trans y₂).trans y₃
  have hD₃ := hD.keep k₃
  have hF₃ := y₃ _ _ hF
  have hI₃ := hI.at fun o e => y₃ _ _ e
  have hDl : ∃ o, s.heap.get? D = some o := let ⟨o, _, e, _⟩ := hD; ⟨o, y _ _ e⟩
  have hdI : D ≠ I := fun q => by obtain ⟨o, e⟩ := hDl; rw [q, hI0] at e; cases e
  have W := fil_walk (prog := prog) (w := w) (A := A.in1) (knd := knd) (ep := ep) (F := F) (I := I) (d := D) hh hFI hdI hin
  refine maxd_call (W.self 0 _ _ _ ⟨hF₃, hD₃, 0, rfl, hI₃⟩ ⟨F, _, _, _, _, _, fun i => iv (((kvs.map (·.2)).filter tv).getD i .none), rfl, W, ⟨hF₃, hD₃, 0, rfl, hI₃⟩, ?_, ?_, ?_⟩)
  · intro b hb
    rcases List.mem_cons.mp hb with rfl | hb
    · exact Heap.lt_size hF₃
    · rcases List.mem_cons.mp hb with rfl | hb
      · obtain ⟨o, e, _⟩ := hI₃; exact Heap.lt_size e
      · rw [List.mem_singleton.mp hb]; exact hD₃.lt_size
  · intro i v hv
    have hm := List.mem_filter.mp (List.mem_of_getElem? hv)
    obtain ⟨p, hp, rfl⟩ := List.mem_map.mp hm.1
    rcases hin p hp with h | ⟨n, t, h⟩
    · rw [h] at hm; cases hm.2
    · refine ⟨t, ?_⟩
      show p.2 = .int (iv (((kvs.map (·.2)).filter tv).getD i .none)) t
      rw [List.getD_eq_getElem?_getD, hv, Option.getD_some, h]; rfl
  · intro v h' tk hv hk
    refine q v h' tk (fun b o e => hk b o (fun hb => ?_) (((y₁.trans y₂).trans y₃) b o e)) ?_
    · rw [List.mem_singleton.mp hb, hI0] at e; cases e
    · revert hv
      unfold MaxV topI
      cases bestOf _ _ with
      | none => exact fun e => ⟨_, e⟩
      | some b => exact id
theorem ev_str_int {i : Int} (hf : Ev prog w A env H (.Name x px) (IsV (.type "str"))) (he : Ev prog w A env H e (IsI i)) (hi : i.natAbs.log2 < 1920) (hse : starEach [e] env = [(false, eval e env)] := by rfl) :
    Ev prog w A env H (.Call (.Name x px) [e] [] pos) (IsS (toString i)) := by
  intro Q E s y q
  refine wpAny_Call_Name_kw (hf _ _ _ y ?_)
  rintro _ h₁ tk₁ y₁ rfl
  refine PyProof.Rows.callWith_type (by rw [hse]; rfl) ?_
  rw [hse]
  refine evalArgs_plain (spliced_cons (he _ _ _ (y.trans y₁) ?_))
  rintro _ h₂ tk₂ y₂ ⟨t, rfl⟩
  exact spliced_nil (PySem.P.str_of_int hi (q _ h₂ _ (y₁.trans y₂) ⟨_, rfl⟩))
theorem ev_lens {z : Str} (hf : Ev prog w A env H (.Name x px) (IsV (.builtin "len"))) (he : Ev prog w A env H e (IsS z)) (hz : z.length ≤ 1000) (hse : starEach [e] env = (false, eval e env) :: starEach [] env := by rfl) : Ev prog w A env H (.Call (.Name x px) [e] [] pos) (IsI z.length) := by
  refine ev_bcall hf (Rs := [IsS z]) (args_cons he mono_S args_nil hse) ?_ hse rfl
  rintro _ h k ⟨_, _, rfl, ⟨t, rfl⟩, rfl⟩
  intro Q E s y q
  exact PySem.P.len_str (by omega) (q _ s.heap _ (Ext.refl _) ⟨_, rfl⟩)
theorem evT_isnone {k : Nat} (he : Ev prog w A env H e (IsV (.ref D))) : EvT prog w A env H (.Compare e [.Is] [.Constant .none k px] pos) false := by
  intro Q E s y q
  refine wpAny_isTrue_Compare1 (he _ _ _ y ?_) (by with_unfolding_all rfl)
  rintro _ h₁ tk₁ y₁ rfl
  exact wpAny_Constant_none (wpAny_is_other rfl (by simp) (wpAny_truthy_bool (q h₁ tk₁ y₁)))
theorem evT_nonein {k : Nat} (hh : A.handled = none) (he : Ev prog w A env H e (IsView H D)) (hD : H.DictAt knd D kvs ep) (hin : ∀ p ∈ kvs, IN p.2) (hm : behindInMarks .In e = false := by with_unfolding_all rfl) : EvT prog w A env H (.Compare (.Constant .none k px) [.In] [e] pos) (kvs.any fun p => isN p.2) := by
  intro Q E s y q
  refine wpAny_isTrue_Compare1 (wpAny_Constant_none (he _ _ _ y ?_)) hm
  rintro _ h₁ tk₁ y₁ ⟨V, rfl, hV, _⟩
  show wpAny _ _ (do return Value.bool (← contains (.ref V) .none)) _ _ _
  refine wpAny_bind ?_
  unfold contains
  refine wpAny_holding ?_
  have hT : ({ s with heap := h₁, toks := tk₁ } : Shared).TypeIs (.ref V) "dict_values" := hV.typeIs
  rw [stdlibNamesSay?_ref]
  refine wpAny_bind (wpAny_specialOf hT vals_cont ?_)
  refine wpAny_bind (wpAny_callSpecialUnlessNone?_none hT vals_cont ?_)
  have hD₁ := hD.keep fun b o e => y₁ b o (y b o e)
  have hne : D ≠ h₁.objs.size := Nat.ne_of_lt hD₁.lt_size
  have W := Walks.dictValues (prog := prog) (w := w) (A := A.in1) (knd := knd) hh h₁.objs.size D hne kvs ep
  refine wpAny_bind (wpAny_rule (wpAny_bind (wpAny_tryCatch (wpAny_pyIter_values hV hD₁ ?_))))
  refine wpAny_bind (wpAny_runValue (cont_loop W ?_ (fun i => isN ((kvs.map (·.2)).getD i .none)) ?_ kvs.length 0 _ rfl (Nat.zero_le _) ⟨⟨_, Heap.get?_push_size _ rfl, rfl, rfl⟩, hD₁.push _⟩ (fun j hj => absurd hj (Nat.not_lt_zero _)) ?_))
  · rintro i v ⟨k, hk⟩; exact hin _ (List.mem_of_getElem? hk)
  · rintro i v ⟨k, hk⟩
    rw [List.getD_eq_getElem?_getD, List.getElem?_map, hk]; rfl
  · intro h' tk hk
    have e : ((List.range kvs.length).any fun i => isN ((kvs.map (·.2)).getD i .none)) = kvs.any fun p => isN p.2 := by
      rw [Bool.eq_iff_iff, List.any_eq_true, List.any_eq_true]
      constructor
      · rintro ⟨i, hi, h⟩
        have hi := List.mem_range.mp hi
        refine ⟨kvs[i], List.getElem_mem _, ?_⟩
        rw [List.getD_eq_getElem?_getD, List.getElem?_map, List.getElem?_eq_getElem hi] at h; exact h
      · rintro ⟨p, hp, h⟩
        obtain ⟨i, hi, rfl⟩ := List.getElem_of_mem hp
        refine ⟨i, List.mem_range.mpr hi, ?_⟩
        rw [List.getD_eq_getElem?_getD, List.getElem?_map, List.getElem?_eq_getElem hi]; exact h
    rw [e]
    refine wpAny_pure (wpAny_pure (wpAny_truthy_bool (q h' tk fun b o e => hk b o (fun hb => ?_) (Heap.get?_push_of_some _ (y₁ b o e)))))
    rw [List.mem_singleton.mp hb] at e
    exact Nat.lt_irrefl _ (Heap.lt_size (y₁ _ _ e))
end
end Mine
end

noncomputable section
open PySem PySem.W PySem.Calls PyProof.Rows
set_option maxRecDepth 100000
set_option maxHeartbeats 1000000
namespace Mine
noncomputable def widthI (vs : List Value) : Int :=
  if topI vs = -1 then 0 else
  if (decide (max 3 ((Str.ofString (toString (topI vs))).length : Int) < 4) && vs.any isN) = true then 4 else max 3 ((Str.ofString (toString (topI vs))).length : Int)
section
variable {prog : Program} {w : World} {mg mb : Str → Option Value} {H : Heap} {K : Type} [DecidableEq K] {knd : KeyKind prog w K} {D : Addr} {kvs : List (K × Value)}
theorem width_ok (B : Base prog w mg mb H) (hD : H.DictOf knd D kvs) (hs : (D == sysModules) = false) (hin : ∀ p ∈ kvs, IN p.2) (ht : (topI (kvs.map (·.2))).natAbs.log2 < 1920) (hl : (Str.ofString (toString (topI (kvs.map (·.2))))).length ≤ 1000) :
    CallP prog w (.ref 28) [.ref D] H 1 (IsI (widthI (kvs.map (·.2)))) := by
  refine fnQ (B.at (n := "_get_lineno_width") (i := 3) (by decide)) B.lim [("linestarts", .local), ("maxlineno", .local), ("lineno_width", .local), ("max", .globalImplicit), ("filter", .globalImplicit), ("len", .globalImplicit), ("str", .globalImplicit), ("_NO_LINENO", .globalImplicit)] [("linestarts", .ref D)] (fun _ _ _ _ _ => rfl) rfl rfl rfl (of_decide_eq_true rfl) ?_ rfl rfl rfl
  intro A env s h₁ tk₁ m cm Q E o O y hm S q
  obtain ⟨ep, hA⟩ := hD.dictAt
  have hd : ∀ {h : Heap}, Ext s.heap h → h.DictAt knd D kvs ep := fun k => hA.keep fun b o e => k b o (y b o e)
  refine ifQ false (evT_isnone (vL O S.rd (hm "linestarts" _ rfl))) ?_
  intro h₂ tk₂ Q₂ x₂ b₂ n₂
  refine wpAny_execs_nil (n₂ _ ?_)
  have S₂ := S.keep x₂
  have B₂ := B.ext (y.trans S₂.ext)
  refine st_asg S₂ O.kind (O.of rfl) (ev_maxd o.hh (vB B₂ O) (fun H' k => ev_fil (vB (B₂.ext k) O) (ev_vals (vL O (S₂.rd.ext k) (hm "linestarts" _ rfl)) (hd (S₂.ext.trans k)).dictOf hs) (hd (S₂.ext.trans k))) (ev_neg ev_int) (hd S₂.ext) hin) loc_I ?_
  rintro _ h₃ H₃ tk₃ S₃ x₃ ⟨t, rfl⟩
  have B₃ := B.ext (y.trans (x₃.trans S₃.ext))
  have hw : widthI (kvs.map (·.2)) = if topI (kvs.map (·.2)) = -1 then 0 else if (decide (max 3 ((Str.ofString (toString (topI (kvs.map (·.2))))).length : Int) < 4) && kvs.any fun p => isN p.2) = true then 4 else max 3 ((Str.ofString (toString (topI (kvs.map (·.2))))).length : Int) := by
    unfold widthI
    rw [List.any_map]; rfl
  refine ifQ (topI (kvs.map (·.2)) == -1) (evT_eq (nL O S₃.rd rfl) (ev_neg ev_int)) ?_
  intro h₄ tk₄ Q₄ x₄ b₄ n₄
  have S₄ := S₃.keep x₄
  have x' := x₃.trans S₄.ext
  cases hc : topI (kvs.map (·.2)) == -1 with
  | true =>
    rw [if_pos (beq_iff_eq.mp hc)] at hw
    refine st_ret ev_int ?_
    rintro v h' tk k ⟨u, rfl⟩
    exact b₄ _ _ (q _ h' tk (x'.trans k) ⟨u, by rw [hw]⟩)
  | false =>
    rw [if_neg (ne_of_beq_false hc)] at hw
    refine wpAny_execs_nil (n₄ _ ?_)
    have B₄ := B.ext (y.trans x')
    refine st_asg S₄ O.kind (O.of rfl) (ev_max o.hh (vB B₄ O) ev_int (ev_lens (vB B₄ O) (ev_str_int (vB B₄ O) (nL O S₄.rd rfl) ht) hl)) loc_I ?_
    rintro _ h₅ H₅ tk₅ S₅ x₅ ⟨u, rfl⟩
    have x'' := (x₃.trans x₅).trans S₅.ext
    have B₅ := B.ext (y.trans x'')
    have nl₅ : ∀ {h : Heap}, Ext s.heap h → ∀ pos, Ev prog w A env h (.Name "_NO_LINENO" pos) (IsS "  --") := fun k pos Q E s y q => by
      obtain ⟨u, hu⟩ := B.nl
      exact Name_function_global O.kind (O.of rfl) (loadGlobal_global (by rw [O.glob]; exact ((B.ext (Ext.trans ‹Ext H _› k)).g.keeps y)) hu (q _ s.heap s.toks (Ext.refl _) ⟨u, rfl⟩))
    refine ifQ _ (evT_and2 (evT_lt (nL O S₅.rd rfl) (ev_lens (vB B₅ O) (nl₅ x'' _) (by decide))) fun _ => evT_nonein o.hh (ev_vals (vL O S₅.rd (hm "linestarts" _ rfl)) (hd x'').dictOf hs) (hd x'') hin) ?_
    intro h₆ tk₆ Q₆ x₆ b₆ n₆
    have S₆ := S₅.keep x₆
    have x6 := (x₃.trans x₅).trans S₆.ext
    have B₆ := B.ext (y.trans x6)
    have e4 : ((Str.ofString "  --").length : Int) = 4 := by decide
    rw [show ((Str.length "  --" : Nat) : Int) = 4 from e4]
    cases hb : (decide (max 3 ((Str.ofString (toString (topI (kvs.map (·.2))))).length : Int) < 4) && kvs.any fun p => isN p.2) with
    | true =>
      rw [hb, if_pos rfl] at hw
      refine st_asg S₆ O.kind (O.of rfl) (ev_lens (vB B₆ O) (nl₅ x6 _) (by decide)) loc_I ?_
      rintro _ h₇ H₇ tk₇ S₇ x₇ ⟨u, rfl⟩
      refine wpAny_execs_nil (n₆ _ (st_ret (nL O S₇.rd rfl) ?_))
      rintro v h' tk k ⟨u, rfl⟩
      exact q _ h' tk (((x₃.trans x₅).trans x₇).trans (S₇.ext.trans k)) ⟨u, by rw [hw]; exact congrArg (Value.int · u) e4⟩
    | false =>
      rw [hb, if_neg Bool.false_ne_true] at hw
      refine wpAny_execs_nil (n₆ _ (st_ret (nL O S₆.rd rfl) ?_))
      rintro v h' tk k ⟨u, rfl⟩
      exact q _ h' tk (x6.trans k) ⟨u, by rw [hw]⟩
end
end Mine
end

noncomputable section
open PySem PySem.W PySem.Calls PyProof.Rows
set_option maxRecDepth 100000
set_option maxHeartbeats 1000000
namespace Mine
noncomputable def kvI (G : Int → Value) (ns : List Int) : List (Int × Value) := ns.map fun n => (n, G n)
noncomputable def fkI (v : Value) (k : Int) : Prop := ∃ t, v = .int k t
noncomputable def fvI (G : Int → Value) (v y : Value) : Prop := ∃ n t, v = .int n t ∧ y = G n
theorem stored_snoc {K : Type} [DecidableEq K] {kvs : List (K × Value)} {k : K} {v : Value} (h : k ∉ kvs.map (·.1)) : stored kvs k v = kvs ++ [(k, v)] := by
  unfold stored
  rw [if_neg]
  rw [List.any_eq_true]
  rintro ⟨p, hp, e⟩
  exact h (List.mem_map.mpr ⟨p, hp, of_decide_eq_true e⟩)
theorem ints_snoc {vs : List Value} {v : Value} {ns : List Int} (z : IntsAre (vs ++ [v]) ns) : ∃ ms k t, ns = ms ++ [k] ∧ IntsAre vs ms ∧ v = .int k t := by
  induction vs generalizing ns with
  | nil =>
    cases z with
    | cons k t z => cases z; exact ⟨[], k, t, rfl, .nil, rfl⟩
  | cons u vs ih =>
    cases z with
    | cons k t z => obtain ⟨ms, k', t', rfl, z', e⟩ := ih z; exact ⟨k :: ms, k', t', rfl, .cons _ _ z', e⟩
theorem stored_ints {G : Int → Value} {vs : List Value} {kvs : List (Int × Value)} (h : StoredAll fkI (fvI G) vs kvs) : ∀ {ns : List Int}, IntsAre vs ns → ns.Nodup → kvs = kvI G ns := by
  induction h with
  | nil => intro ns z _; cases z; rfl
  | @snoc l kvs v k y hs hk hy ih =>
    intro ns z nd
    obtain ⟨ms, k', t', rfl, z', rfl⟩ := ints_snoc z
    obtain ⟨t, e⟩ := hk
    obtain ⟨n, t2, e2, rfl⟩ := hy
    cases e; cases e2
    have nd' := List.nodup_append.mp nd
    have := ih z' nd'.1
    subst this
    rw [stored_snoc]
    · unfold kvI; rw [List.map_append]; rfl
    · intro hm
      unfold kvI at hm
      rw [List.map_map] at hm
      obtain ⟨n, hn, e⟩ := List.mem_map.mp hm
      exact nd'.2.2 n hn k (.head _) e
theorem filt_ints {pz : Int → Bool} : ∀ {vs : List Value} {ns : List Int}, IntsAre vs ns → IntsAre (vs.filter (tz pz)) (ns.filter pz)
  | _, _, .nil => .nil
  | _, _, .cons n t z => by
    rw [List.filter_cons, List.filter_cons]
    cases h : pz n with
    | false => rw [show tz pz (.int n t) = false from h]; exact filt_ints z
    | true => rw [show tz pz (.int n t) = true from h]; exact .cons _ _ (filt_ints z)
noncomputable def NewD (prog : Program) (w : World) (H : Heap) (kvs : List (Int × Value)) (v : Value) (h : Heap) : Prop := ∃ D, v = .ref D ∧ H.get? D = none ∧ h.DictOf (intKind prog w) D kvs
section
variable {prog : Program} {w : World} {A : Around} {env : Env} {H : Heap} {L : Addr} {cells cl : List (Str × Addr)} {names : List (Str × NameKind)} {m cm : Str → Option Value} {scope : Scope} {kx vx iter : PySem.Expr} {x y : Str} {px py pos spos : Pos} {ifs : List PySem.Expr} {fx : List Addr} {ns : List Int} {pz : Int → Bool} {G : Int → Value}
theorem quietD {s₂ : Shared} {I : Addr} (O : EnvOK env L cells names) (S : Rd env m cm H) (hk : scope.kind = .function) (hcl : ∀ p ∈ cl, p ∈ env.cells) (hH : Ext H s₂.heap) (hI : H.get? I = none)
    (ht : ∀ env' H' m' n t, n ∈ ns → Ext H H' → EnvOK env' env'.locals cl (relab scope.names names) → Rd env' m' cm H' → m' x = some (.int n t) → Tests prog w A env' H' ifs (pz n))
    (hx : ∀ env' H' m' n t, n ∈ ns → pz n = true → Ext H H' → EnvOK env' env'.locals cl (relab scope.names names) → Rd env' m' cm H' → m' x = some (.int n t) → Ev prog w A env' H' kx (IsI n))
    (hv : ∀ env' H' m' n t, n ∈ ns → pz n = true → Ext H H' → EnvOK env' env'.locals cl (relab scope.names names) → Rd env' m' cm H' → m' x = some (.int n t) → Ev prog w A env' H' vx (IsV (G n))) :
    QuietOnCD (intKind prog w) A env scope cl x ifs kx vx [I] (PI ns) (tz pz) fkI (fvI G) s₂ := by
  have up : ∀ {s₃ : Shared}, (∀ b o, b ∉ [I] → s₂.heap.get? b = some o → s₃.heap.get? b = some o) → Ext H s₃.heap := fun hk b o e => hk b o (fun q => by rw [List.mem_singleton.mp q, hI] at e; cases e) (hH _ _ e)
  refine ⟨?_, ?_, ?_⟩
  · rintro C i v s₃ m₃ E' ⟨n, t, hn, rfl⟩ hns hm k
    exact ht _ s₃.heap m₃ n t (List.mem_of_getElem? hn) (up k) (O.comp hk cl C) (S.comp (up k) hcl hns) hm _ _ s₃ (Ext.refl _) fun h' tk k => ⟨rfl, h', tk, rfl, k⟩
  · rintro C i v s₃ m₃ E' ⟨n, t, hn, rfl⟩ hp hns hm k
    exact hx _ s₃.heap m₃ n t (List.mem_of_getElem? hn) hp (up k) (O.comp hk cl C) (S.comp (up k) hcl hns) hm _ _ s₃ (Ext.refl _) fun v h' tk k ⟨u, hu⟩ => ⟨⟨n, by rw [hu]; exact intKind_is .., t, rfl⟩, h', tk, rfl, k⟩
  · rintro C i v s₃ m₃ E' ⟨n, t, hn, rfl⟩ hp hns hm k
    exact hv _ s₃.heap m₃ n t (List.mem_of_getElem? hn) hp (up k) (O.comp hk cl C) (S.comp (up k) hcl hns) hm _ _ s₃ (Ext.refl _) fun v h' tk k hu => ⟨⟨n, t, rfl, hu⟩, h', tk, rfl, k⟩
theorem ev_dcomp (cl : List (Str × Addr)) (pz : Int → Bool) (G : Int → Value) (O : EnvOK env L cells names) (S : Rd env m cm H) (src : SrcI prog w A env H iter ns fx) (nd : ns.Nodup)
    (ht : ∀ env' H' m' n t, n ∈ ns → Ext H H' → EnvOK env' env'.locals cl (relab scope.names names) → Rd env' m' cm H' → m' x = some (.int n t) → Tests prog w A env' H' ifs (pz n))
    (hx : ∀ env' H' m' n t, n ∈ ns → pz n = true → Ext H H' → EnvOK env' env'.locals cl (relab scope.names names) → Rd env' m' cm H' → m' x = some (.int n t) → Ev prog w A env' H' kx (IsI n))
    (hv : ∀ env' H' m' n t, n ∈ ns → pz n = true → Ext H H' → EnvOK env' env'.locals cl (relab scope.names names) → Rd env' m' cm H' → m' x = some (.int n t) → Ev prog w A env' H' vx (IsV (G n)))
    (hlen : ns.length ≤ 1000 := by decide) (hk : scope.kind = .function := by rfl)
    (h1 : (scope.names.all fun y => (y.2 != .free || (cells.lookup y.1).isSome) && y.2 != .cell && (y.2 != .local || scope.names.lookup y.1 == some .local)) = true := by rfl)
    (h2 : clos cells scope.names [] = cl := by rfl) (hxl : scope.names.lookup x = some .local := by rfl)
    (hs : ∀ x, foldedSetIterable iter env x = pure x := by intro _; rfl) :
    Ev prog w A env H (.DictComp kx vx [⟨.Name x px, iter, ifs, 0⟩] scope pos) (NewD prog w H (kvI G (ns.filter pz))) := by
  have C := compOK O hk h1 h2 hxl
  intro Q E s y q
  refine wpAny_DictComp_free (intKind prog w) (tz pz) fkI (fvI G) C.clos C.cell C.kind C.names C.x (src _ _ s y ?_) hs
  intro I fp Sw h' tk k hI hI' W _ hst hfp
  refine ⟨I, fp, [I], ns.length, PI ns, Sw, rfl, W, by rw [sizeLine_eq]; omega, hst, fun b hb => ?_, quietD O S hk (clos_in O h1 h2) (y.trans k) (ext_none y hI) ht hx hv, ?_⟩
  · rcases hfp b hb with rfl | ⟨⟨o, ho⟩, _⟩
    · obtain ⟨o, ho⟩ := hI'; exact Heap.lt_size ho
    · exact Heap.lt_size ho
  · intro D h'' tk' kvs vs hD hl hlen hP hF hk
    refine q _ h'' tk' (fun b o e => hk b o (fun q => ?_) (k _ _ e)) ⟨D, rfl, ext_none (y.trans k) hD, ?_⟩
    · rw [List.mem_singleton.mp q, hI] at e; cases e
    · rw [← stored_ints hF (filt_ints (ints_of hlen hP)) (nd.filter _)]; exact hl
theorem st_dcomp {h₀ : Heap} {tk₀ : Nat} {s : Shared} {Q : Flow → Shared → Prop} {E : Value → Shared → Prop} {rest : List Stmt} (cl : List (Str × Addr)) (pz : Int → Bool) (G : Int → Value) (O : EnvOK env L cells names) (S : St env H m cm h₀) (src : SrcI prog w A env h₀ iter ns fx) (nd : ns.Nodup)
    (ht : ∀ env' H' m' n t, n ∈ ns → Ext h₀ H' → EnvOK env' env'.locals cl (relab scope.names names) → Rd env' m' cm H' → m' x = some (.int n t) → Tests prog w A env' H' ifs (pz n))
    (hx : ∀ env' H' m' n t, n ∈ ns → pz n = true → Ext h₀ H' → EnvOK env' env'.locals cl (relab scope.names names) → Rd env' m' cm H' → m' x = some (.int n t) → Ev prog w A env' H' kx (IsI n))
    (hv : ∀ env' H' m' n t, n ∈ ns → pz n = true → Ext h₀ H' → EnvOK env' env'.locals cl (relab scope.names names) → Rd env' m' cm H' → m' x = some (.int n t) → Ev prog w A env' H' vx (IsV (G n)))
    (next : ∀ D h' H' tk, St env H' (upd m y (.ref D)) cm h' → Ext H H' → H.get? D = none → H'.DictOf (intKind prog w) D (kvI G (ns.filter pz)) → wpAny (model prog w) A (execs rest env) Q E { s with heap := h', toks := tk })
    (hy : names.lookup y = some .local := by rfl) (hyx : (scope.names.any fun z => z.1 == y && (z.2 == .local || z.2 == .cell)) = false := by rfl) (hline : (py.line == pos.line) = true := by rfl)
    (hlen : ns.length ≤ 1000 := by decide) (hk : scope.kind = .function := by rfl)
    (h1 : (scope.names.all fun y => (y.2 != .free || (cells.lookup y.1).isSome) && y.2 != .cell && (y.2 != .local || scope.names.lookup y.1 == some .local)) = true := by rfl)
    (h2 : clos cells scope.names [] = cl := by rfl) (hxl : scope.names.lookup x = some .local := by rfl)
    (hs : ∀ x, foldedSetIterable iter env x = pure x := by intro _; rfl) :
    wpAny (model prog w) A (execs (.Assign [.Name y py] (.DictComp kx vx [⟨.Name x px, iter, ifs, 0⟩] scope pos) spos :: rest) env) Q E { s with heap := h₀, toks := tk₀ } := by
  have C := compOK O hk h1 h2 hxl
  have hsw : swapsWith (.DictComp kx vx [⟨.Name x px, iter, ifs, 0⟩] scope pos) (some (.Name y py)) spos.line env = pure true := by
    show (pure (env.blockKind == .function && env.kindOf y == some .local && py.line == pos.line && !(scope.names.any fun z => z.1 == y && (z.2 == .local || z.2 == .cell))) : Sem Bool) = pure true
    rw [O.of hy, hline, hyx]
    have : env.blockKind = .function := by unfold Env.blockKind; rw [O.kind]; rfl
    rw [this]; rfl
  refine wpAny_execs_cons ?_
  rw [exec_Assign_Name_used _ _ _ _ hsw]
  refine wpAny_bind (wpAny_standAt (wpAny_bind ?_))
  show wpAny _ A (do let _ ← comprehension (.DictComp kx vx [⟨.Name x px, iter, ifs, 0⟩] scope pos) scope env _ newDict false (eval iter env) (some (assign (.Name y py) env))) _ _ _
  refine wpAny_bind (wpAny_mono (wpAny_comprehension_free (use := some (assign (.Name y py) env)) (Q := fun _ s' => wpAny (model prog w) A (execs rest env) Q E s') rfl hs C.clos C.kind C.names
    (src _ _ _ (Ext.refl _) ?_)) (fun _ s' hq => wpAny_pure (wpAny_pure hq)) fun _ _ e => e)
  intro I fp Sw h' tk k hI hI' W _ hst hfp
  have hIh := S.fresh hI
  refine comp_block_walkCD (knd := intKind prog w) (RR := fun acc C => compPost (model prog w) A E (some (assign (.Name y py) env)) (fun _ s' => wpAny (model prog w) A (execs rest env) Q E s') acc C) W (by rw [sizeLine_eq]; omega) (tz pz) fkI (fvI G) C.cell C.kind C.x hst (fun b hb => ?_)
    (quietD O S.rd hk (clos_in O h1 h2) k hI ht hx hv) ?_
  · rcases hfp b hb with rfl | ⟨⟨o, ho⟩, _⟩
    · obtain ⟨o, ho⟩ := hI'; exact Heap.lt_size ho
    · exact Heap.lt_size ho
  · intro D C' h'' tk' m' kvs vs hD hC hDC hnC hlD hlen hP hF hkk
    have fr : ∀ {b}, h'.get? b = none → b ∉ hid env := fun e q => by
      obtain ⟨o, ho⟩ := S.live q
      rw [k _ _ ho] at e; cases e
    have hDh := fr hD
    have hCh := fr hC
    have hLI : env.locals ≠ I := fun q => hIh (q ▸ mem_hidL)
    have hLC : env.locals ≠ C' := fun q => hCh (q ▸ mem_hidL)
    have hLD : env.locals ≠ D := fun q => hDh (q ▸ mem_hidL)
    have up : ∀ b o, h₀.get? b = some o → h''.get? b = some o := fun b o e => hkk b o (fun q => by rw [List.mem_singleton.mp q, hI] at e; cases e) (k _ _ e)
    show wpAny _ A (assign (.Name y py) env (.ref D)) _ _ _
    refine wpAny_assign_Name (wpAny_storeName_local (O.of hy) (S.ns.keeps up) (fun h₂ hn₂ hs₂ => ?_) (by rw [O.kind]; rfl))
    refine ⟨m', hnC.sameBut hs₂ (Ne.symm hLC), fun h₃ hs₃ => ?_⟩
    have up3 : ∀ b o, b ≠ env.locals → h₀.get? b = some o → h₃.get? b = some o := fun b o hb e => hs₃.extBut b o (fun q => by rw [q] at e; rw [k _ _ e] at hC; cases hC) (hs₂.extBut b o hb (up _ _ e))
    refine next D h₃ (rb env h₃) _ ⟨hn₂.sameBut hs₃ hLC, fun n c hm => ?_, fun _ _ e => of_rb e, rb_off mem_hidL, fun _ _ hm => rb_off (mem_hidC hm), S.apart, S.above⟩
      (fun b o e => rb_get (up3 b o (fun q => by rw [q, S.offL] at e; cases e) (S.ext _ _ e)) (S.off e)) (ext_none S.ext (ext_none k hD)) ?_
    · obtain ⟨o, ho, hd⟩ := S.cl n c hm
      exact ⟨o, up3 c o (S.above n c hm) ho, hd⟩
    · rw [← stored_ints hF (filt_ints (ints_of hlen hP)) (nd.filter _)]
      exact ((hlD.extBut hs₂.extBut (Ne.symm hLD)).extBut hs₃.extBut hDC).at fun o e => rb_get e hDh
end
end Mine
end

noncomputable section
open PySem PySem.W PySem.Calls PyProof.Rows
set_option maxRecDepth 100000
set_option maxHeartbeats 1000000
namespace Mine
noncomputable def Lns (fs : List (Nat × Nat)) (i : Nat) (kvs : List (Int × Value)) : Prop := kvs.length = i ∧ ∀ j, j < i → ∃ p t, fs[j]? = some p ∧ kvs[j]? = some ((p.1 : Int), .int (10 ^ (j + 1)) t)
theorem Lns.keys {fs : List (Nat × Nat)} {i : Nat} {kvs : List (Int × Value)} (l : Lns fs i kvs) {k : Int} (h : k ∈ kvs.map (·.1)) : ∃ j p, j < i ∧ fs[j]? = some p ∧ k = (p.1 : Int) := by
  obtain ⟨q, hq, rfl⟩ := List.mem_map.mp h
  obtain ⟨j, hj, rfl⟩ := List.getElem_of_mem hq
  obtain ⟨p, t, e, e'⟩ := l.2 j (by rw [← l.1]; exact hj)
  rw [List.getElem?_eq_getElem hj] at e'
  exact ⟨j, p, by rw [← l.1]; exact hj, e, by rw [Option.some.inj e']⟩
theorem Lns.snoc {fs : List (Nat × Nat)} {i : Nat} {kvs : List (Int × Value)} {p : Nat × Nat} {t : Tok} (l : Lns fs i kvs) (hp : fs[i]? = some p) (nd : (fs.map (·.1)).Nodup) : Lns fs (i + 1) (stored kvs (p.1 : Int) (.int (10 ^ (i + 1)) t)) := by
  rw [stored_snoc fun hm => ?_]
  · refine ⟨by rw [List.length_append, l.1]; rfl, fun j hj => ?_⟩
    rcases Nat.lt_or_eq_of_le (Nat.le_of_lt_succ hj) with h | rfl
    · obtain ⟨p', t', e, e'⟩ := l.2 j h
      exact ⟨p', t', e, by rw [List.getElem?_append_left (by rw [l.1]; exact h)]; exact e'⟩
    · exact ⟨p, t, hp, by rw [List.getElem?_append_right (by rw [l.1]; exact Nat.le_refl _), l.1, Nat.sub_self]; rfl⟩
  · obtain ⟨j, p', hj, e, hk⟩ := l.keys hm
    have hi := (List.getElem?_eq_some_iff.mp hp).1
    have hj' := (List.getElem?_eq_some_iff.mp e).1
    have e1 : (fs.map (·.1))[j]? = some p.1 := by rw [List.getElem?_map, e]; exact congrArg some (Int.ofNat.inj hk).symm
    have e2 : (fs.map (·.1))[i]? = some p.1 := by rw [List.getElem?_map, hp]; rfl
    exact absurd ((List.getElem?_inj (by rw [List.length_map]; exact hj') nd).mp (e1.trans e2.symm)) (Nat.ne_of_lt hj)
theorem Heap.DictOf.extI {prog : Program} {w : World} {H h : Heap} {D : Addr} {kvs : List (Int × Value)} (d : H.DictOf (intKind prog w) D kvs) (k : ExtI H h) : h.DictOf (intKind prog w) D kvs := by
  refine PySem.Heap.DictOf.at d fun o e => k D o e fun T hT => ?_
  obtain ⟨o', _, _, e', c, _⟩ := d
  cases e.symm.trans e'
  have := c.1.symm.trans hT
  cases this; decide
section
variable {prog : Program} {w : World} {mg mb : Str → Option Value} {H : Heap}
theorem sys_ne (B : Base prog w mg mb H) {D : Addr} (h : H.get? D = none) : (D == sysModules) = false := by
  obtain ⟨K, X, k⟩ := B.cls
  obtain ⟨o, e⟩ := k.sysm
  rw [beq_eq_false_iff_ne]
  intro q
  have : H.get? 1 = some o := X _ _ e
  rw [q] at h
  have h' : H.get? 1 = none := h
  rw [this] at h'; cases h'

section
variable {A : Around} {env : Env} {m cm : Str → Option Value} {s : Shared} {Q : Flow → Shared → Prop} {E : Value → Shared → Prop} {rest : List Stmt} {pos tp px apos : Pos} {value o i e : PySem.Expr} {D : Addr} {kvs : List (Int × Value)} {h₀ : Heap} {tk₀ : Nat} {k : Int} {x : Str}
theorem ev_newdict : Ev prog w A env H (.Dict [] [] pos) (NewD prog w H []) :=
  fun Q E s y q => wpAny_Dict_empty (q _ _ s.toks (ext_push _ _) ⟨_, rfl, size_none y, Heap.DictOf.new s.heap⟩)
theorem loc_D {h : Heap} : Loc h (NewD prog w h kvs) := fun _ _ _ ⟨D, e, hn, d⟩ k => ⟨D, e, hn, PySem.Heap.DictOf.at d fun o e => k D o hn e⟩
theorem st_setD {v : Value} (S : St env H m cm h₀) (hD : D ∉ hid env) (hd : h₀.DictOf (intKind prog w) D kvs) (hz : kvs.length ≤ 1000) (hv : Ev prog w A env h₀ value (IsV v)) (ho : Ev prog w A env h₀ o (IsV (.ref D))) (hi : Ev prog w A env h₀ i (IsI k))
    (next : ∀ h' tk, St env (rb env h') m cm h' → (∀ a o, a ≠ D → H.get? a = some o → (rb env h').get? a = some o) → (rb env h').DictOf (intKind prog w) D (stored kvs k v) → wpAny (model prog w) A (execs rest env) Q E { s with heap := h', toks := tk })
    (hs : swapsWith value (some (.Subscript o i tp)) pos.line env = pure false := by rfl) :
    wpAny (model prog w) A (execs (.Assign [.Subscript o i tp] value pos :: rest) env) Q E { s with heap := h₀, toks := tk₀ } := by
  refine wpAny_execs_cons (wpAny_Assign_Subscript (hv _ _ _ (Ext.refl _) ?_) hs)
  rintro _ h₁ tk₁ y₁ rfl
  refine ho _ _ _ y₁ ?_
  rintro _ h₂ tk₂ y₂ rfl
  refine hi _ _ _ (y₁.trans y₂) ?_
  rintro _ h₃ tk₃ y₃ ⟨t, rfl⟩
  have y := (y₁.trans y₂).trans y₃
  refine wpAny_setItem_pairs (intKind_is prog w k t) (hd.keep y) (fun h' hl' hs => ?_) (by rw [sizeLine_eq]; omega)
  obtain ⟨S', k'⟩ := (S.keep y).mutR hD (fun a o ha e => hs.extBut a o ha e)
  exact next h' _ S' k' (PySem.Heap.DictOf.at hl' fun o e => rb_get e hD)
theorem ev_ditem {v : Value} (hd : H.DictOf (intKind prog w) D kvs) (ho : Ev prog w A env H o (IsV (.ref D))) (hi : Ev prog w A env H i (IsI k)) (hv : valueAt kvs k = some v)
    (hs : ∀ t, subscripted i false (.ref D) (.int k t) = operate [.ref D, .int k t] (getItem (.ref D) (.int k t)) := by intro _; with_unfolding_all rfl) : Ev prog w A env H (.Subscript o i pos) (IsV v) := by
  intro Q E s y q
  refine Subscript_ (ho _ _ _ y ?_)
  rintro _ h₁ tk₁ y₁ rfl
  refine hi _ _ _ (y.trans y₁) ?_
  rintro _ h₂ tk₂ y₂ ⟨t, rfl⟩
  have d := (hd.keep ((y.trans y₁).trans y₂)).mapOf
  exact tail_any (s := { s with heap := h₂, toks := tk₂ }) d.typeIs slot_dict_getitem.lookup (wpAny_getItem_of (intKind_is prog w k t) d hv (q _ h₂ _ (y₁.trans y₂) rfl)) (hs t)
theorem evT_ind (hd : H.DictOf (intKind prog w) D kvs) (hn : (D == sysModules) = false) (hi : Ev prog w A env H i (IsI k)) (ho : Ev prog w A env H o (IsV (.ref D))) (hm : behindInMarks .In o = false := by with_unfolding_all rfl) : EvT prog w A env H (.Compare i [.In] [o] pos) (valueAt kvs k).isSome := by
  intro Q E s y q
  refine wpAny_isTrue_Compare1 (hi _ _ _ y ?_) hm
  rintro _ h₁ tk₁ y₁ ⟨t, rfl⟩
  refine ho _ _ _ (y.trans y₁) ?_
  rintro _ h₂ tk₂ y₂ rfl
  exact wpAny_in_of (intKind_is prog w k t) hn (hd.keep ((y.trans y₁).trans y₂)).mapOf (wpAny_truthy_bool (q h₂ _ (y₁.trans y₂)))
theorem ev_dget (hd : H.DictOf (intKind prog w) D kvs) (hn : (D == sysModules) = false) (ho : Ev prog w A env H (.Name x px) (IsV (.ref D))) (hi : Ev prog w A env H e (IsI k))
    (h1 : eval (.Call (.Attribute (.Name x px) "get" apos) [e] [] pos) env = (do
      let ov ← eval (.Name x px) env
      standAt apos.atName
      let (f, first) ← holding [ov] (getMethod ov "get" (do let r ← importBound (.Name x px) env; pure (r.getD true)))
      callWith pos f first (backTo pos (starEach [e] env)) []) := by rfl) (hse : backTo pos (starEach [e] env) = [(false, eval e env)] := by rfl) : Ev prog w A env H (.Call (.Attribute (.Name x px) "get" apos) [e] [] pos) (IsV ((valueAt kvs k).getD .none)) := by
  intro Q E s y q
  refine MethodCall_ (ho _ _ _ y ?_) h1
  rintro _ h₁ tk₁ y₁ rfl
  have d := hd.keep (y.trans y₁)
  refine getMethod_builtin d.typeIs PySem.F.plainAttrs_dict PySem.F.slot_dict_get PySem.F.type_dict_get d.mapOf.noDict ?_
  rw [hse]
  refine wpAny_dict_get1 (knd := intKind prog w) hn (hi _ _ _ (y.trans y₁) ?_)
  rintro _ h₂ tk₂ y₂ ⟨t, rfl⟩
  exact ⟨k, _, intKind_is prog w k t, (d.keep y₂).mapOf, q _ h₂ _ (y₁.trans y₂) rfl⟩
end
end
end Mine
end

noncomputable section
open PySem PySem.W PySem.Calls PyProof.Rows
set_option maxRecDepth 100000
set_option maxHeartbeats 1000000
namespace Mine
structure WJ (prog : Program) (w : World) (fs : List (Nat × Nat)) (b : Nat) (u : Tok) (D : Addr) (i : Nat) (H : Heap) (m cm : Str → Option Value) : Prop where
  lo : m "low" = some (.int ((7 + b : Nat) : Int) u)
  li : ∃ t, m "line" = some (.int (10 ^ i) t)
  ls : cm "lines" = some (.ref D)
  d : ∃ kvs, H.DictOf (intKind prog w) D kvs ∧ Lns fs i kvs
noncomputable def wid (kvs : List (Int × Value)) : List Int := [widthI (((rng 0 6).filter fun n => (valueAt kvs n).isSome).map fun n => (valueAt kvs n).getD .none), widthI ((rng 0 6).map fun n => (valueAt kvs n).getD .none)]
section
variable {prog : Program} {w : World} {mg mb : Str → Option Value} {H : Heap}
theorem widths_walk (B : Base prog w mg mb H) {x dx : Addr} {items : List Value} {fs : List (Nat × Nat)} {b : Nat} (a : Acc x dx items H) (hf : FoldVs b H items fs) (hb : b ≤ 14) (hfs : ∀ p ∈ fs, p.1 < 6 ∧ p.2 < 6) (nd : (fs.map (·.1)).Nodup) (hl : fs.length ≤ 5) (u : Tok) (ns : List Int)
    (hw : ∀ kvs, Lns fs fs.length kvs → (∀ n, IN ((valueAt kvs n).getD .none)) ∧ (∀ l : List Int, (topI (l.map fun n => (valueAt kvs n).getD .none)).natAbs.log2 < 1920 ∧ (Str.ofString (toString (topI (l.map fun n => (valueAt kvs n).getD .none)))).length ≤ 1000) ∧ wid kvs = ns) :
    CallP prog w (.ref 165) [.ref x, .int ((7 + b : Nat) : Int) u] H 2 (NewLI H ns) := by
  refine fnQC (B.at (n := "_law_widths") (i := 66) (by decide)) B.lim [("folds", .local), ("low", .local), ("lines", .cell), ("line", .local), ("corner", .local), ("hold", .local), ("bare", .local), ("EXACT_TOKEN_TYPES", .globalImplicit), ("range", .globalImplicit), ("_get_lineno_width", .globalImplicit)]
    [("folds", .ref x), ("low", .int ((7 + b : Nat) : Int) u)] (fun L => [("lines", L + 1)]) (fun _ _ _ _ _ => rfl) rfl rfl (by decide) (fun _ => rfl) [("folds", .ref x), ("low", .int ((7 + b : Nat) : Int) u)] [] (by rintro _ ⟨⟩; rfl; rename_i h; cases h; rfl; contradiction) (fun _ h => nomatch h) ?_ rfl rfl rfl
  intro A env s h₁ tk₁ m cm Q E o O y hm _ S q
  have ax : ∃ o, s.heap.get? x = some o := let ⟨_, e, _⟩ := a; ⟨_, y _ _ e⟩
  have cnd : (env.cells.map (·.1)).Nodup := by rw [O.cells]; exact List.Pairwise.cons (fun _ h => nomatch h) List.Pairwise.nil
  refine st_asgC S O.kind (O.of rfl) (by rw [O.cells]; rfl) cnd ev_newdict loc_D ?_
  rintro _ h₂ H₂ tk₂ S₂ x₂ ⟨D, rfl, hD1, hD⟩
  have hDh : D ∉ hid env := S.fresh hD1
  have hDs : s.heap.get? D = none := ext_none S.ext hD1
  have hsys : (D == sysModules) = false := sys_ne (B.ext y) hDs
  refine st_asg S₂ O.kind (O.of rfl) ev_int loc_I ?_
  rintro _ h₃ H₃ tk₃ S₃ x₃ ⟨t, rfl⟩
  have hD3 := hD.keep x₃
  have B₃ := B.ext (y.trans ((x₂.trans x₃).trans S₃.ext))
  obtain ⟨K, X, k⟩ := B₃.cls
  refine forQ [D] s.heap (fun i H m cm => WJ prog w fs b u D i H m cm)
    (fun i _ m c m' c' => c' = c ∧ ∃ (p : Nat × Nat) (t u : Tok), fs[i]? = some p ∧ m' = upd (upd m "corner" (.str (sgn (b + p.1)) t)) "hold" (.str (sgn (b + p.2)) u)) S₃ ?_
    (src_acc o.hh X k (vL O S₃.rd (hm "folds" _ rfl)) (a.ext (y.trans ((x₂.trans x₃).trans S₃.ext)))) (x₂.trans x₃) ?_ (fun b hb => List.mem_singleton.mp hb ▸ ax) ?_ ?_ ?_ ?_ ?_
  · intro i v h₄ tk₄ H₄ m₄ cm₄ Q' E' hi hv x₄ S₄ q
    obtain ⟨p, hp, t', u', hT⟩ := hf.2 i v hv
    exact asg_pair o.hh S₄ O.kind (O.of rfl) (O.of rfl) (hT.ext ((y.trans x₄).trans S₄.ext)) fun h₅ tk₅ S₅ => q h₅ tk₅ _ _ S₅ ⟨rfl, p, t', u', hp, rfl⟩
  · intro b hb
    rw [List.mem_singleton.mp hb]
    obtain ⟨o, _, _, e, _⟩ := hD3
    exact ⟨hDs, o, e⟩
  · rintro i H H' m cm j k
    exact ⟨j.lo, j.li, j.ls, let ⟨kvs, d, l⟩ := j.d; ⟨kvs, Heap.DictOf.extI d k, l⟩⟩
  · rintro i H m cm j b hb
    rw [List.mem_singleton.mp hb]
    obtain ⟨_, ⟨o, _, _, e, _⟩, _⟩ := j.d
    exact ⟨o, e⟩
  · exact ⟨hm "low" _ rfl, ⟨t, rfl⟩, rfl, [], hD3, rfl, fun j hj => absurd hj (Nat.not_lt_zero _)⟩
  · rintro i v h₄ tk₄ G₄ H₄ m₄ cm₄ m₅ _ Q' E' hi hv x₄ hG4 x₅ j ⟨rfl, p, tc, td, hp, rfl⟩ S₄ b₄ n₄
    obtain ⟨tl, hline⟩ := j.li
    obtain ⟨kvs, d, l⟩ := j.d
    have hi5 : i < fs.length := (List.getElem?_eq_some_iff.mp hp).1
    have hp6 := hfs p (List.mem_of_getElem? hp)
    have lo : upd (upd m₄ "corner" (.str (sgn (b + p.1)) tc)) "hold" (.str (sgn (b + p.2)) td) "low" = _ := j.lo
    have co : upd (upd m₄ "corner" (.str (sgn (b + p.1)) tc)) "hold" (.str (sgn (b + p.2)) td) "corner" = some (.str (sgn (b + p.1)) tc) := (upd_ne (by decide)).trans upd_self
    have li : upd (upd m₄ "corner" (.str (sgn (b + p.1)) tc)) "hold" (.str (sgn (b + p.2)) td) "line" = some (.int (10 ^ i) tl) := hline
    revert lo co li S₄
    generalize upd (upd m₄ "corner" (.str (sgn (b + p.1)) tc)) "hold" (.str (sgn (b + p.2)) td) = m₅
    intro S₄ lo co li
    refine st_aug S₄ O.kind (O.of rfl) li ev_int (fun t u s Q E q => PySem.P.imul_int q (PySem.IntMulOk.of_right (by decide))) ?_
    intro t' h₆ tk₆ S₆ x₆
    have xx : Ext G₄ h₆ := x₅.trans S₆.ext
    have B₆ := B.ext (y.trans (x₄.trans xx))
    refine st_setD S₆ hDh (d.keep S₆.ext) (by rw [l.1]; omega) (vL O S₆.rd upd_self) (vC O S₆.rd j.ls) (ev_sub (ev_tok B₆ (by omega) (vG B₆ O) (evS (vL O S₆.rd ((upd_ne (by decide)).trans co)))) (nL O S₆.rd ((upd_ne (by decide)).trans lo))) ?_
    intro h₇ tk₇ S₇ x₇ d₇
    refine wpAny_execs_nil (n₄ _ _ _ _ _ S₇ (fun b o e => x₇ b o (fun q => by rw [q, hG4 D (.head _)] at e; cases e) (x₅ _ _ e)) ⟨(upd_ne (by decide)).trans lo, ⟨t', upd_self⟩, j.ls, _, d₇, ?_⟩)
    have := l.snoc (t := t') hp nd
    rw [show ((7 + (b + p.1) : Nat) : Int) - ((7 + b : Nat) : Int) = (p.1 : Int) by omega]
    exact this
  · rintro h₄ tk₄ H₄ m₄ cm₄ S₄ x₄ j
    obtain ⟨kvs, d, l⟩ := j.d
    rw [hf.1] at l
    obtain ⟨hIN, hsz, rfl⟩ := hw kvs l
    have B₄ := B.ext (y.trans (x₄.trans S₄.ext))
    have rnd : (rng 0 6).Nodup := by decide
    refine st_dcomp [("lines", env.locals + 1)] (fun n => (valueAt kvs n).isSome) (fun n => (valueAt kvs n).getD .none) O S₄ (src_range1 o.hh (vB B₄ O) ev_int (by decide) (by decide)) rnd ?_ ?_ ?_ ?_
    · intro env' H' m' n t hn k' O' R' hm'
      exact tests_one (evT_ind ((d.keep S₄.ext).keep k') hsys (nL O' R' hm') (vC O' R' j.ls))
    · intro env' H' m' n t hn _ k' O' R' hm'
      exact nL O' R' hm'
    · intro env' H' m' n t hn hp k' O' R' hm'
      obtain ⟨v, hv⟩ := Option.isSome_iff_exists.mp hp
      rw [hv]
      exact ev_ditem ((d.keep S₄.ext).keep k') (vC O' R' j.ls) (nL O' R' hm') hv
    intro D₁ h₅ H₅ tk₅ S₅ x₅ hD₁ d₁
    have xx := x₄.trans (x₅.trans S₅.ext)
    have B₅ := B.ext (y.trans xx)
    have e2 : ∀ l : List Int, (kvI (fun n => (valueAt kvs n).getD .none) l).map (·.2) = l.map fun n => (valueAt kvs n).getD .none := fun l => by unfold kvI; rw [List.map_map]; rfl
    have wd : ∀ {h : Heap} {D' : Addr} (l : List Int), Ext s.heap h → s.heap.get? D' = none → h.DictOf (intKind prog w) D' (kvI (fun n => (valueAt kvs n).getD .none) l) → CallP prog w (.ref 28) [.ref D'] h 1 (IsI (widthI (l.map fun n => (valueAt kvs n).getD .none))) := by
      intro h D' l kk hn dd
      have := width_ok (B.ext (y.trans kk)) dd (sys_ne (B.ext y) hn) (fun p hp => by obtain ⟨n, _, rfl⟩ := List.mem_map.mp hp; exact hIN n) (by rw [e2]; exact (hsz l).1) (by rw [e2]; exact (hsz l).2)
      rwa [e2] at this
    refine st_ret (R := NewLI h₅ (wid kvs)) (ev_listI (ns := wid kvs) (args_cons (ev_fn (f := 28) (i := 3) B₅ O o (args_cons (vL O S₅.rd upd_self) mono_V args_nil) ?_) mono_I (args_cons (ev_fn (f := 28) (i := 3) B₅ O o (args_cons (ev_dcomp [("lines", env.locals + 1)] (fun _ => true) (fun n => (valueAt kvs n).getD .none) O S₅.rd (src_range1 o.hh (vB B₅ O) ev_int (by decide) (by decide)) rnd ?_ ?_ ?_) ?_ args_nil) ?_) mono_I args_nil)) (of_decide_eq_true (p := 2 ≤ 1000) rfl)) ?_
    · rintro _ h k' ⟨_, _, rfl, rfl, rfl⟩
      exact wd _ (xx.trans k') (ext_none x₄ hD₁) ((d₁.keep S₅.ext).keep k')
    · intro env' H' m' n t hn k' O' R' hm'
      exact tests_nil
    · intro env' H' m' n t hn _ k' O' R' hm'
      exact nL O' R' hm'
    · intro env' H' m' n t hn hp k' O' R' hm'
      exact ev_dget (((d.keep x₅).keep S₅.ext).keep k') hsys (vC O' R' j.ls) (nL O' R' hm')
    · rintro v h h' k' ⟨D', e, hn, dd⟩
      exact ⟨D', e, hn, dd.keep k'⟩
    · rintro _ h k' ⟨_, _, rfl, ⟨D', rfl, hn, dd⟩, rfl⟩
      have := wd _ (xx.trans k') (ext_none xx hn) dd
      rwa [List.filter_eq_self.mpr fun _ _ => rfl] at this
    · rintro _ h' tk k' ⟨c, rfl, hc, z⟩
      exact q _ h' tk (xx.trans k') ⟨c, rfl, ext_none (y.trans xx) hc, z⟩
end
end Mine
end

noncomputable section
open PySem PySem.W PySem.Calls PyProof.Rows
set_option maxRecDepth 100000
set_option maxHeartbeats 1000000
namespace Mine
theorem best_top {val : Nat → Int} : ∀ {m : Nat} {b : Int}, bestOf val m = some b → (∃ j, j < m ∧ b = val j) ∧ ∀ j, j < m → val j ≤ b
  | 0, _, h => nomatch h
  | m + 1, b, h => by
    unfold bestOf at h
    cases hb : bestOf val m with
    | none =>
      rw [hb] at h
      have h := (Option.some.inj h).symm
      have hm : m = 0 := by
        cases m with
        | zero => rfl
        | succ m => unfold bestOf at hb; cases hb
      subst hm
      exact ⟨⟨0, by omega, h⟩, fun j hj => by have : j = 0 := by omega
                                              rw [this, h]; exact Int.le_refl _⟩
    | some c =>
      rw [hb] at h
      have h : (if val m > c then val m else c) = b := Option.some.inj h
      obtain ⟨⟨j, hj, e⟩, hall⟩ := best_top hb
      by_cases hc : val m > c
      · rw [if_pos hc] at h
        refine ⟨⟨m, by omega, h.symm⟩, fun j hj => ?_⟩
        rcases Nat.lt_or_eq_of_le (Nat.le_of_lt_succ hj) with h' | rfl
        · have := hall j h'; omega
        · omega
      · rw [if_neg hc] at h
        refine ⟨⟨j, by omega, by rw [← h, e]⟩, fun j hj => ?_⟩
        rcases Nat.lt_or_eq_of_le (Nat.le_of_lt_succ hj) with h' | rfl
        · have := hall j h'; omega
        · omega
theorem best_none {val : Nat → Int} {m : Nat} (h : bestOf val m = none) : m = 0 := by
  cases m with
  | zero => rfl
  | succ m => unfold bestOf at h; cases h
noncomputable def Pw (n : Nat) (v : Value) : Prop := v = .none ∨ ∃ j t, j < n ∧ v = .int (10 ^ (j + 1)) t
theorem pow_le {i j : Nat} (h : i ≤ j) : (10 : Int) ^ i ≤ 10 ^ j := by
  have := Nat.pow_le_pow_right (n := 10) (by decide) h
  have e : ∀ k : Nat, (10 : Int) ^ k = ((10 ^ k : Nat) : Int) := fun k => by rw [Int.natCast_pow]; rfl
  rw [e, e]; omega
theorem top_or {vs : List Value} {n : Nat} (h1 : ∀ v ∈ vs, Pw n v) : (vs.filter tv = [] ∧ topI vs = -1) ∨ ∃ j, j < n ∧ topI vs = 10 ^ (j + 1) ∧ ∀ k t, Value.int (10 ^ (k + 1)) t ∈ vs → (10 : Int) ^ (k + 1) ≤ 10 ^ (j + 1) := by
  have hF : ∀ v ∈ vs.filter tv, ∃ j t, j < n ∧ v = .int (10 ^ (j + 1)) t := fun v hv => by
    obtain ⟨hm, ht⟩ := List.mem_filter.mp hv
    rcases h1 v hm with rfl | h
    · cases ht
    · exact h
  have hi : ∀ k t, Value.int (10 ^ (k + 1)) t ∈ vs → ∃ i, i < (vs.filter tv).length ∧ iv ((vs.filter tv).getD i .none) = 10 ^ (k + 1) := fun k t hm => by
    have : Value.int (10 ^ (k + 1)) t ∈ vs.filter tv := List.mem_filter.mpr ⟨hm, by
      show ((10 : Int) ^ (k + 1) != 0) = true
      have : (10 : Int) ^ 0 ≤ 10 ^ (k + 1) := pow_le (Nat.zero_le _)
      rw [bne_iff_ne]; intro e; rw [e] at this; exact absurd this (by decide)⟩
    obtain ⟨i, hi, e⟩ := List.getElem_of_mem this
    exact ⟨i, hi, by rw [List.getD_eq_getElem?_getD, List.getElem?_eq_getElem hi, e]; rfl⟩
  unfold topI
  cases hb : bestOf (fun i => iv ((vs.filter tv).getD i .none)) (vs.filter tv).length with
  | none => exact .inl ⟨List.length_eq_zero_iff.mp (best_none hb), rfl⟩
  | some b =>
    obtain ⟨⟨j, hj, e⟩, hall⟩ := best_top hb
    obtain ⟨j', t, hj', e'⟩ := hF _ (List.getElem_mem hj)
    have eb : b = 10 ^ (j' + 1) := by rw [e, List.getD_eq_getElem?_getD, List.getElem?_eq_getElem hj, e']; rfl
    refine .inr ⟨j', hj', eb, fun k t hm => ?_⟩
    obtain ⟨i, hi, ei⟩ := hi k t hm
    rw [← ei, ← eb]; exact hall i hi
theorem top_eq {vs : List Value} {n : Nat} (h1 : ∀ v ∈ vs, Pw n v) (h2 : 0 < n → ∃ t, Value.int (10 ^ n) t ∈ vs) : topI vs = if n = 0 then -1 else 10 ^ n := by
  rcases top_or h1 with ⟨h, e⟩ | ⟨j, hj, e, hall⟩
  · rw [e]
    cases n with
    | zero => rfl
    | succ n =>
      obtain ⟨t, hm⟩ := h2 (Nat.succ_pos _)
      have : Value.int (10 ^ (n + 1)) t ∈ vs.filter tv := List.mem_filter.mpr ⟨hm, by
        show ((10 : Int) ^ (n + 1) != 0) = true
        have : (10 : Int) ^ 0 ≤ 10 ^ (n + 1) := pow_le (Nat.zero_le _)
        rw [bne_iff_ne]; intro e; rw [e] at this; exact absurd this (by decide)⟩
      rw [h] at this; cases this
  · cases n with
    | zero => omega
    | succ n =>
      obtain ⟨t, hm⟩ := h2 (Nat.succ_pos _)
      rw [e, if_neg (Nat.succ_ne_zero _)]
      exact Int.le_antisymm (pow_le (by omega)) (hall n t hm)
theorem top_fits {vs : List Value} {n : Nat} (h1 : ∀ v ∈ vs, Pw n v) (hn : n ≤ 5) : (topI vs).natAbs.log2 < 1920 ∧ (Str.ofString (toString (topI vs))).length ≤ 1000 := by
  rcases top_or h1 with ⟨_, e⟩ | ⟨j, hj, e, _⟩
  · rw [e]; decide +kernel
  · rw [e]
    have : j = 0 ∨ j = 1 ∨ j = 2 ∨ j = 3 ∨ j = 4 := by omega
    rcases this with rfl | rfl | rfl | rfl | rfl <;> decide +kernel
theorem width_eq {vs : List Value} {n : Nat} (h1 : ∀ v ∈ vs, Pw n v) (h2 : 0 < n → ∃ t, Value.int (10 ^ n) t ∈ vs) (hn : n ≤ 5) : widthI vs = if n = 0 then 0 else if vs.any isN = true then max 4 ((n : Int) + 1) else max 3 ((n : Int) + 1) := by
  unfold widthI
  rw [top_eq h1 h2]
  have : n = 0 ∨ n = 1 ∨ n = 2 ∨ n = 3 ∨ n = 4 ∨ n = 5 := by omega
  rcases this with rfl | rfl | rfl | rfl | rfl | rfl <;> cases vs.any isN <;> decide +kernel
theorem valueAt_mem {K : Type} [DecidableEq K] {kvs : List (K × Value)} {k : K} {v : Value} (h : valueAt kvs k = some v) : (k, v) ∈ kvs := by
  unfold valueAt at h
  obtain ⟨p, hp, rfl⟩ := Option.map_eq_some_iff.mp h
  have := List.find?_some hp
  have e := of_decide_eq_true this
  subst e
  exact List.mem_of_find?_eq_some hp
theorem valueAt_nd {K : Type} [DecidableEq K] {kvs : List (K × Value)} {k : K} {v : Value} (nd : (kvs.map (·.1)).Nodup) (h : (k, v) ∈ kvs) : valueAt kvs k = some v := by
  cases e : valueAt kvs k with
  | none =>
    unfold valueAt at e
    have := List.find?_eq_none.mp (Option.map_eq_none_iff.mp e) _ h
    simp at this
  | some u =>
    have hu := valueAt_mem e
    obtain ⟨i, hi, ei⟩ := List.getElem_of_mem h
    obtain ⟨j, hj, ej⟩ := List.getElem_of_mem hu
    have : i = j := (List.getElem_inj (xs := kvs.map (·.1)) (h₀ := by rw [List.length_map]; exact hi) (h₁ := by rw [List.length_map]; exact hj) nd).mp (by rw [List.getElem_map, List.getElem_map, ei, ej])
    subst this
    rw [ei] at ej; rw [(Prod.mk.inj ej).2]
theorem nodup_len {α : Type} [DecidableEq α] : ∀ {l l' : List α}, l.Nodup → (∀ x ∈ l, x ∈ l') → l.length ≤ l'.length
  | [], _, _, _ => Nat.zero_le _
  | a :: l, l', nd, h => by
    rw [List.nodup_cons] at nd
    have ha := h a (.head _)
    have := nodup_len (l' := l'.erase a) nd.2 fun x hx => (List.mem_erase_of_ne fun e => nd.1 (by rw [← e]; exact hx)).mpr (h x (.tail _ hx))
    rw [List.length_erase_of_mem ha] at this
    have := List.length_pos_of_mem ha
    rw [List.length_cons]; omega
theorem lns_plain {fs : List (Nat × Nat)} (hfs : ∀ p ∈ fs, p.1 < 6 ∧ p.2 < 6) (nd : (fs.map (·.1)).Nodup) (hl : fs.length ≤ 5) (kvs : List (Int × Value)) (l : Lns fs fs.length kvs) :
    (∀ n, IN ((valueAt kvs n).getD .none)) ∧ (∀ l : List Int, (topI (l.map fun n => (valueAt kvs n).getD .none)).natAbs.log2 < 1920 ∧ (Str.ofString (toString (topI (l.map fun n => (valueAt kvs n).getD .none)))).length ≤ 1000) ∧ wid kvs = dueI (fs.length : Int) := by
  have ek : kvs.map (·.1) = (fs.map (·.1)).map fun n : Nat => (n : Int) := by
    apply List.ext_getElem?
    intro j
    rw [List.getElem?_map, List.getElem?_map, List.getElem?_map]
    by_cases hj : j < fs.length
    · obtain ⟨p, t, e, e'⟩ := l.2 j hj
      rw [e, e']; rfl
    · rw [List.getElem?_eq_none (by rw [l.1]; omega), List.getElem?_eq_none (by omega)]; rfl
  have ndk : (kvs.map (·.1)).Nodup := by
    rw [ek]
    exact List.Pairwise.map _ (fun _ _ h e => h (Int.ofNat.inj e)) nd
  have hv : ∀ {n v}, valueAt kvs n = some v → ∃ j t, j < fs.length ∧ v = .int (10 ^ (j + 1)) t := fun h => by
    obtain ⟨j, hj, e⟩ := List.getElem_of_mem (valueAt_mem h)
    have hj' : j < fs.length := by rw [← l.1]; exact hj
    obtain ⟨p, t, _, e'⟩ := l.2 j hj'
    rw [List.getElem?_eq_getElem hj, e] at e'
    exact ⟨j, t, hj', (Prod.mk.inj (Option.some.inj e')).2⟩
  have hP : ∀ n, Pw fs.length ((valueAt kvs n).getD .none) := fun n => by
    cases h : valueAt kvs n with
    | none => exact .inl rfl
    | some v => exact .inr (hv h)
  have hall : ∀ l : List Int, ∀ v ∈ l.map (fun n => (valueAt kvs n).getD .none), Pw fs.length v := fun l v hm => by obtain ⟨n, _, rfl⟩ := List.mem_map.mp hm; exact hP n
  have htop : 0 < fs.length → ∃ (k : Int) (t : Tok), k ∈ rng 0 6 ∧ valueAt kvs k = some (.int (10 ^ fs.length) t) := fun h => by
    obtain ⟨p, t, e, e'⟩ := l.2 (fs.length - 1) (by omega)
    refine ⟨p.1, t, ?_, ?_⟩
    · have := (hfs p (List.mem_of_getElem? e)).1
      exact List.mem_map.mpr ⟨p.1, List.mem_range.mpr (by show p.1 < 6; exact this), by omega⟩
    · rw [show fs.length = fs.length - 1 + 1 by omega]
      exact valueAt_nd ndk (List.mem_of_getElem? e')
  refine ⟨fun n => ?_, fun l' => top_fits (hall l') hl, ?_⟩
  · rcases hP n with h | ⟨j, t, _, h⟩
    · exact .inl h
    · exact .inr ⟨_, t, h⟩
  · unfold wid dueI
    rw [width_eq (hall _) (fun h => ?_) hl, width_eq (hall _) (fun h => ?_) hl]
    · have n1 : (((rng 0 6).filter fun n => (valueAt kvs n).isSome).map fun n => (valueAt kvs n).getD .none).any isN = false := by
        rw [List.any_eq_false]
        intro v hm
        obtain ⟨n, hn, rfl⟩ := List.mem_map.mp hm
        obtain ⟨v, hv'⟩ := Option.isSome_iff_exists.mp (List.mem_filter.mp hn).2
        obtain ⟨j, t, _, rfl⟩ := hv hv'
        rw [hv']; exact Bool.false_ne_true
      have n2 : ((rng 0 6).map fun n => (valueAt kvs n).getD .none).any isN = true := by
        cases h : ((rng 0 6).map fun n => (valueAt kvs n).getD .none).any isN with
        | true => rfl
        | false =>
          have hk : ∀ k ∈ rng 0 6, k ∈ kvs.map (·.1) := fun k hk => by
            have := List.any_eq_false.mp h _ (List.mem_map.mpr ⟨k, hk, rfl⟩)
            cases e : valueAt kvs k with
            | none => rw [e] at this; exact absurd rfl this
            | some v => exact List.mem_map.mpr ⟨_, valueAt_mem e, rfl⟩
          have := nodup_len (by decide : (rng 0 6).Nodup) hk
          rw [rng_length, List.length_map, l.1] at this
          have : (6 : Int).toNat ≤ fs.length := this
          have e6 : (6 : Int).toNat = 6 := rfl
          omega
      rw [n1, n2]
      by_cases h0 : fs.length = 0
      · rw [if_pos h0, if_pos h0, if_pos (by omega)]
      · rw [if_neg h0, if_neg h0, if_neg Bool.false_ne_true, if_pos rfl, if_neg (by omega)]
    · obtain ⟨k, t, hk, hv'⟩ := htop h
      exact ⟨t, List.mem_map.mpr ⟨k, hk, by rw [hv']; rfl⟩⟩
    · obtain ⟨k, t, hk, hv'⟩ := htop h
      exact ⟨t, List.mem_map.mpr ⟨k, List.mem_filter.mpr ⟨hk, by rw [hv']; rfl⟩, by rw [hv']; rfl⟩⟩
theorem widths_ok {prog : Program} {w : World} {mg mb : Str → Option Value} {H : Heap} (B : Base prog w mg mb H) {x dx : Addr} {items : List Value} {fs : List (Nat × Nat)} {b : Nat} (a : Acc x dx items H) (hf : FoldVs b H items fs) (hb : b ≤ 14) (hfs : ∀ p ∈ fs, p.1 < 6 ∧ p.2 < 6) (nd : (fs.map (·.1)).Nodup) (hl : fs.length ≤ 5) (u : Tok) :
    CallP prog w (.ref 165) [.ref x, .int ((7 + b : Nat) : Int) u] H 2 (NewLI H (dueI fs.length)) := widths_walk B a hf hb hfs nd hl u _ (lns_plain hfs nd hl)
end Mine
end

noncomputable section
open PySem PySem.W PySem.Calls PyProof.Rows
set_option maxRecDepth 100000
set_option maxHeartbeats 1000000
namespace Mine
noncomputable def sigs (b : Nat) : Str := ⟨((List.range 6).map fun k => (sgn (b + k)).cps.getD 0 0).toArray⟩
theorem sigs_at (b : Nat) : (sigs b).cps.size = 6 ∧ ∀ k < 6, (⟨#[(sigs b).cps.getD k 0]⟩ : Str) = sgn (b + k) := by
  refine ⟨rfl, fun k hk => ?_⟩
  have : k = 0 ∨ k = 1 ∨ k = 2 ∨ k = 3 ∨ k = 4 ∨ k = 5 := by omega
  rcases this with rfl | rfl | rfl | rfl | rfl | rfl <;> rfl
theorem sigs_cut : ∀ b : Nat, b < 15 → Builtin.Str.strSliceIndices (some (b : Int)) (some ((b : Int) + 6)) 1 20 = (List.range 6).map (fun k => b + k) ∧ (⟨(((List.range 6).map (fun k => b + k)).filterMap ((Str.ofString "()[]:,;+-*/|&<>=.%{}").cps[·]?)).toArray⟩ : Str) = sigs b := by decide +kernel
section
variable {prog : Program} {w : World} {mg mb : Str → Option Value} {A : Around} {env : Env} {H h₀ : Heap} {L : Addr} {cells : List (Str × Addr)} {names : List (Str × NameKind)} {m cm : Str → Option Value} {s : Shared} {Q : Flow → Shared → Prop} {E : Value → Shared → Prop} {rest : List Stmt} {value u l r e : PySem.Expr} {a : Addr} {ns : List Int} {k : Nat} {p pos px tp p1 p2 : Pos} {x y : Str} {tk₀ kk : Nat}
theorem ev_signs {b : Nat} {k0 : Nat} (hb : b < 15) (hl : Ev prog w A env H l (IsI (b : Int))) (hu : Ev prog w A env H u (IsI ((b : Int) + 6))) :
    Ev prog w A env H (.Subscript (.Constant (.str "()[]:,;+-*/|&<>=.%{}") k0 px) (.Slice (some l) (some u) none p) pos) (IsS (sigs b)) := by
  intro Q E s y q
  rw [eval_Subscript]
  refine wpAny_bind (wpAny_Constant_str (wpAny_bind (wpAny_holding (wpAny_Slice ?_))))
  rw [evalPart_some, evalPart_some, evalPart_none]
  refine hl _ _ _ y ?_
  rintro _ h₁ tk₁ y₁ ⟨t, rfl⟩
  refine hu _ _ _ (y.trans y₁) ?_
  rintro _ h₂ tk₂ y₂ ⟨t', rfl⟩
  obtain ⟨e1, e2⟩ := sigs_cut b hb
  have e3 : slicePicked "()[]:,;+-*/|&<>=.%{}" (some ((b : Int), t)) (some ((b : Int) + 6, t')) none = (List.range 6).map (fun k => b + k) := e1
  have hT := typeIs_str { s with heap := h₂.push { cls := .type "slice", data := .fields #[.int (b : Int) t, .int ((b : Int) + 6) t', .none] }, toks := tk₂ } "()[]:,;+-*/|&<>=.%{}" s.toks
  refine wpAny_pure (wpAny_bind (wpAny_standAt ?_))
  have fin : wpAny (model prog w) A (operate [.ref h₂.objs.size, .str "()[]:,;+-*/|&<>=.%{}" s.toks] (getItem (.str "()[]:,;+-*/|&<>=.%{}" s.toks) (.ref h₂.objs.size))) (fun r s₃ => wpAny (model prog w) A (letTemporaryGo (.Constant (.str "()[]:,;+-*/|&<>=.%{}") k0 px) (.str "()[]:,;+-*/|&<>=.%{}" s.toks) r >>= fun _ => pure r) Q E s₃) E
      { s with heap := h₂.push { cls := .type "slice", data := .fields #[.int (b : Int) t, .int ((b : Int) + 6) t', .none] }, toks := tk₂ } := by
    refine wpAny_operating (wpAny_getItem_str_slice (l := some ((b : Int), t)) (u := some ((b : Int) + 6, t')) (st := none) ⟨_, Heap.get?_push_size _ rfl, rfl, rfl⟩ rfl ?_)
    unfold sliceMade
    rw [e3, if_neg (by rw [List.length_map]; decide), e2]
    exact ⟨by rw [show (sigs b).length = 6 from rfl, sizeLine_eq]; decide, wpAny_bind (wpAny_pure (wpAny_pure (q _ _ _ ((y₁.trans y₂).trans (ext_push _ _)) ⟨_, rfl⟩)))⟩
  rw [getitemInPython_of_ne hT.not_modules]
  refine wpAny_bind (wpAny_bind (wpAny_specialOf hT PySem.F.slot_str_getitem.lookup ?_))
  first
    | exact wpAny_pure (wpAny_bind fin)
    | exact wpAny_bind (wpAny_pure (wpAny_bind fin))
    | exact wpAny_bind fin
theorem ev_rev (hv : Ev prog w A env H value (IsV (.ref a))) (hl : LI a ns H) (hz : ns.length ≤ 1000) (hu : Ev prog w A env H u (IsI (-1))) (ht : ∀ o r, letTemporaryGo value o r = pure () := by intro _ _; rfl) :
    Ev prog w A env H (.Subscript value (.Slice none none (some u) p) pos) (NewLI H ns.reverse) := by
  intro Q E s y q
  refine wpAny_Subscript_Slice_step (T := "list") slot_list_getitem.lookup (hv _ _ _ y ?_) ht
  rintro _ h₁ tk₁ y₁ rfl
  refine wpAny_Slice ?_
  rw [evalPart_none, evalPart_some]
  refine wpAny_pure (wpAny_pure (hu _ _ _ (y.trans y₁) ?_))
  rintro _ h₂ tk₂ y₂ ⟨t, rfl⟩
  obtain ⟨vs, pl, z⟩ := (hl.ext ((y.trans y₁).trans y₂)).list
  have pl' := pl.at (h' := h₂.push { cls := .type "slice", data := .fields #[.none, .none, .int (-1) t] }) fun o e => Heap.get?_push_of_some _ e
  refine ⟨pl'.typeIs, wpAny_getItem_list_slice pl' ⟨_, Heap.get?_push_size _ rfl, rfl, rfl⟩ .none .none (.int (-1) t) (by decide) ?_ (by have := z.length; rw [sizeLine_eq, List.size_toArray]; omega)⟩
  rw [krv_pick]
  exact q _ _ _ ((y₁.trans y₂).trans ((ext_push _ _).trans (ext_push _ _))) ⟨_, rfl, size_none (((y.trans y₁).trans y₂).trans (ext_push _ _)), vs.reverse, ⟨_, Heap.get?_push_size _ rfl, rfl, 0, rfl⟩, by simpa using z.reverse⟩
theorem st_pairCL {c : Addr} {R : Value → Value → Heap → Prop} (S : St env H m cm h₀) (hh : A.handled = none) (hk : env.scope.kind = .function) (hx : env.kindOf x = some .cell) (hc : env.cells.lookup x = some c) (hn : (env.cells.map (·.1)).Nodup) (hy : env.kindOf y = some .local)
    (he : Ev prog w A env h₀ e (fun v h => ∃ a b, Tup2 h v a b ∧ R a b h)) (hR : ∀ a b h₁, St env H m cm h₁ → (∀ c, h₀.get? c = none → c ∉ hid env) → R a b h₁ → R a b (rb env h₁))
    (next : ∀ a b h' H' tk, St env H' (upd m y b) (upd cm x a) h' → Ext H H' → R a b H' → wpAny (model prog w) A (execs rest env) Q E { s with heap := h', toks := tk })
    (hs : swapsWithSole [.Tuple [.Name x p1, .Name y p2] kk tp] e pos.line env = pure false := by rfl) (hw : swappedStores [.Tuple [.Name x p1, .Name y p2] kk tp] e env = pure none := by rfl) :
    wpAny (model prog w) A (execs (.Assign [.Tuple [.Name x p1, .Name y p2] kk tp] e pos :: rest) env) Q E { s with heap := h₀, toks := tk₀ } := by
  refine wpAny_execs_cons (PyProof.Rows.Assign_Tuple (he _ _ _ (Ext.refl _) ?_) hs hw)
  rintro _ h₁ tk₁ y₁ ⟨a, b, ⟨T, rfl, ht⟩, r⟩
  have S₁ := S.rebase y₁
  refine wpAny_assign_Tuple hh ht rfl rfl fun h₂ he₂ => ?_
  have S₂ := S₁.keep fun b o e => he₂ b o (Nat.ne_of_lt (Heap.lt_size e)) e
  show wpAny _ _ (assignInOrder [assign (.Name x p1) env, assign (.Name y p2) env] [a, b]) _ _ _
  have hm := mem_of_lookup hc
  refine assignInOrder_cons (wpAny_assign_Name (wpAny_storeName_cell hk hx hc (S₂.cl x c hm) fun h₃ hv hsb => ?_))
  have S₃ := S₂.setC hm hn hv hsb
  refine assignInOrder_cons (asg_name hk hy S₃ fun h₄ tk₄ S₄ => assignInOrder_nil ?_)
  exact next a b h₄ (rb env h₁) tk₄ S₄ (S.ext_rb y₁) (hR _ _ _ (S.keep y₁) (fun _ e => S.fresh e) r)
theorem evT_or2 {c : Bool} (hl : EvT prog w A env H l false) (hr : EvT prog w A env H r c) : EvT prog w A env H (.BoolOp .Or [l, r] pos) c := by
  intro Q E s y q
  refine wpAny_isTrue_BoolOp (wpAny_allTrue_Or_cons (hl _ _ _ y fun h₁ tk₁ y₁ => ?_))
  simp only [Bool.false_eq_true, if_false]
  refine wpAny_allTrue_Or_cons (hr _ _ _ (y.trans y₁) fun h₂ tk₂ y₂ => ?_)
  have := q h₂ tk₂ (y₁.trans y₂)
  cases hc : c with
  | true => simp only [if_true]; rw [hc] at this; exact this
  | false => simp only [Bool.false_eq_true, if_false]; rw [hc] at this; exact wpAny_allTrue_Or_nil this
theorem ev_sorted {ms : List Int} (hf : Ev prog w A env H (.Name x px) (IsV (.builtin "sorted"))) (he : Ev prog w A env H e (IsV (.ref a))) (hl : LI a ns H) (hz : ns.length < 64) (hp : ns.Perm ms) (hs : ms.Pairwise (· ≤ ·)) (hse : starEach [e] env = (false, eval e env) :: starEach [] env := by rfl) :
    Ev prog w A env H (.Call (.Name x px) [e] [] pos) (AL ms) := by
  refine ev_bcall hf (Rs := [IsV (.ref a)]) (args_cons he mono_V args_nil hse) ?_ hse rfl
  rintro _ h k ⟨_, _, rfl, rfl, rfl⟩
  intro Q E s y q
  obtain ⟨vs, pl, z⟩ := (hl.ext (k.trans y)).list
  refine sorted_ints pl z (by rw [z.length]; exact hz) fun out ns' z' pm so => ?_
  have : ns' = ms := (pm.trans hp).eq_of_pairwise (le := (· ≤ ·)) (fun _ _ _ _ => Int.le_antisymm) so hs
  subst this
  obtain ⟨e, he⟩ := sortedAll_at s.heap vs out
  exact q _ _ _ (fun b o e => sortedAll_old e) ⟨_, rfl, out.toList, ⟨_, he, rfl, e, by simp [seqObj]⟩, z'⟩
end
end Mine
end

noncomputable section
open PySem PySem.W PySem.Calls PyProof.Rows
set_option maxRecDepth 100000
set_option maxHeartbeats 1000000
namespace Mine
noncomputable def RowV (h : Heap) (r : List Int) (y : Value) : Prop := ∃ a, y = .ref a ∧ LI a r h
noncomputable def LL (rows : List (List Int)) (v : Value) (h : Heap) : Prop := ∃ D ys, v = .ref D ∧ h.PlainList D ys.toArray ∧ Paired (RowV h) rows ys
theorem LL.ext {rows : List (List Int)} {v : Value} {H h : Heap} (x : LL rows v H) (k : Ext H h) : LL rows v h := let ⟨D, ys, e, p, r⟩ := x; ⟨D, ys, e, p.at fun o e => k _ _ e, Paired.mono (fun _ _ ⟨a, e, l⟩ => ⟨a, e, l.ext k⟩) r⟩
noncomputable def dl (r : List Int) : Dat := .list (r.map .int)
theorem ints_reads {h : Heap} : ∀ {ns : List Int} {vs : List Value}, IntsAre vs ns → ∃ as, ReadsAll h vs (kqdPs (ns.map .int)) as
  | _, _, .nil => ⟨_, ReadsAll.nil⟩
  | _, _, .cons n t z => by
    obtain ⟨as, p⟩ := ints_reads (h := h) z
    rw [List.map_cons, kqdPs, kqdP]
    exact ⟨_, ReadsAll.cons (Reads.int n t) p⟩
theorem rows_reads {h : Heap} : ∀ {rows : List (List Int)} {ys : List Value}, Paired (RowV h) rows ys → ∃ as, ReadsAll h ys (kqdPs (rows.map dl)) as
  | _, _, .nil => ⟨_, ReadsAll.nil⟩
  | _, _, .cons ⟨a, e, vs, ⟨o, ho, hc, n, hd⟩, z⟩ t => by
    subst e
    obtain ⟨as, p⟩ := ints_reads (h := h) z
    obtain ⟨bs, q⟩ := rows_reads t
    rw [List.map_cons, kqdPs, dl, kqdP]
    exact ⟨_, ReadsAll.cons (reads_list_at ho hc hd (by simpa using p)) q⟩
theorem rows_ok (rows : List (List Int)) : ∀ d ∈ rows.map dl, kqdOk 8 d = true := fun d hd => by
  obtain ⟨r, _, rfl⟩ := List.mem_map.mp hd
  show (r.map Dat.int).all (kqdOk 7) = true
  rw [List.all_eq_true]
  intro e he
  obtain ⟨n, _, rfl⟩ := List.mem_map.mp he
  rfl
theorem evT_neLL {prog : Program} {w : World} {A : Around} {env : Env} {H : Heap} {rows : List (List Int)} {l r : PySem.Expr} {pos : Pos} (o : AOK A 4) (hl : Ev prog w A env H l (LL rows)) (hr : Ev prog w A env H r (LL rows)) (hb : behindInMarks .NotEq r = false := by with_unfolding_all rfl) : EvT prog w A env H (.Compare l [.NotEq] [r] pos) false := by
  intro Q E s y q
  refine wpAny_isTrue_Compare1 (hl _ _ _ y ?_) hb
  intro v₁ h₁ tk₁ y₁ r₁
  refine hr _ _ _ (y.trans y₁) ?_
  rintro _ h₂ tk₂ y₂ ⟨b, ys, rfl, p2, z2⟩
  obtain ⟨a, xs, rfl, p1, z1⟩ := r₁.ext y₂
  obtain ⟨as, ra⟩ := rows_reads z1
  obtain ⟨bs, rb⟩ := rows_reads z2
  have ok := rows_ok rows
  have la := kqd_lay 9 (.list (rows.map dl)) (by simpa [kqdOk] using ok)
  have e := (kqd_eqv 9 (.list (rows.map dl)) (.list (rows.map dl)) 9 (by simpa [kqdOk] using ok) (by simpa [kqdOk] using ok)).mpr rfl
  rw [kqdP] at la e
  obtain ⟨_, e1⟩ := p1
  obtain ⟨_, e2⟩ := p2
  refine ne_dataH (reads_list_at e1 rfl rfl (by simpa using ra)) (reads_list_at e2 rfl rfl (by simpa using rb)) ?_ ?_ (by have := o.hu; omega) (by rw [e]; exact wpAny_truthy_bool (q h₂ tk₂ (y₁.trans y₂)))
  · unfold SeqAt.shaped; rw [la.1, Bool.true_and]; exact decide_eq_true (Nat.le_trans la.2 (by decide))
  · unfold SeqAt.shaped; rw [la.1, Bool.true_and]; exact decide_eq_true (Nat.le_trans la.2 (by decide))
end Mine
end

noncomputable section
open PySem PySem.W PySem.Calls PyProof.Rows
set_option maxRecDepth 100000
set_option maxHeartbeats 1000000
namespace Mine
section
variable {prog : Program} {w : World} {A : Around} {E : Value → Shared → Prop} {s : Shared} {env : Env} {m cm : Str → Option Value}
theorem asgR_cell {h₁ : Heap} {tk₁ : Nat} {x : Str} {c : Addr} {px : Pos} {v : Value} {Q' : Unit → Shared → Prop} (hk : env.scope.kind = .function) (hx : env.kindOf x = some .cell) (hc : env.cells.lookup x = some c) (one : ∀ n c', (n, c') ∈ env.cells → (n = x ∧ c' = c) ∨ (n ≠ x ∧ c' ≠ c)) (hL : env.locals ≠ c) (R : Rd env m cm h₁)
    (q : ∀ h₂ tk₂, Rd env m (upd cm x v) h₂ → h₂.IsCell c (some v) → Heap.SameBut c h₁ h₂ → Q' () { s with heap := h₂, toks := tk₂ }) : wpAny (model prog w) A (assign (.Name x px) env v) Q' E { s with heap := h₁, toks := tk₁ } := by
  refine wpAny_assign_Name (wpAny_storeName_cell hk hx hc (R.cl x c (mem_of_lookup hc)) fun h₂ hv hsb => q h₂ tk₁ ⟨R.ns.sameBut hsb hL, fun n c' hm => ?_⟩ hv hsb)
  rcases one n c' hm with ⟨rfl, rfl⟩ | ⟨h1, h2⟩
  · rw [upd_self]; exact hv
  · rw [upd_ne h1]; exact (R.cl n c' hm).sameBut hsb h2
end
noncomputable def rowI (near ns : List Int) (n : Int) : List Int := ns.map fun b => Builtin.bitAnd ((near.getD n.toNat 0).fdiv (2 ^ b.toNat)) 1
section
variable {prog : Program} {w : World} {A : Around} {env : Env} {H : Heap} {L : Addr} {cells : List (Str × Addr)} {names : List (Str × NameKind)} {m cm : Str → Option Value}
theorem ev_matrix {ln lz cn cz : Addr} {near ns : List Int} {z : Str} (sc1 sc2 : Scope) (cl1 : List (Str × Addr)) (cl2 : Addr → List (Str × Addr)) {p0 p1 p2 p3 p4 p5 p6 p7 p8 p9 p10 p11 pos : Pos} {k0 : Nat} (hh : A.handled = none)
    (O : EnvOK env L cells names) (S : Rd env m cm H) (hln : LI ln near H) (hlz : LI lz ns H) (h6 : near.length = 6) (hns : ∀ n ∈ ns, 0 ≤ n ∧ n < 6) (hlen : ns.length ≤ 1000) (mn : cm "near" = some (.ref ln)) (mz : cm z = some (.ref lz)) (hza : z ≠ "a") (hzd : (z == ("__debug__" : Str)) = false)
    (a1 : names.lookup z = some .cell) (a2 : cells.lookup z = some cz)
    (b1 : sc1.kind = .function) (b2 : (sc1.names.all fun y => (y.2 != .free || (cells.lookup y.1).isSome) && (y.2 != .local || sc1.names.lookup y.1 == some .local)) = true) (b3 : clos cells sc1.names [] = cl1) (b4 : ∀ C, cellsFrom (C + 1) sc1.names cl1 = (("a" : Str), C + 1) :: cl1) (b5 : ∀ C, ow sc1 C = [(("a" : Str), C + 1)]) (b6 : ∀ p ∈ cl1, p.1 ≠ "a")
    (c1 : (relab sc1.names names).lookup ("a" : Str) = some .cell) (c2 : (relab sc1.names names).lookup z = some .cell) (c3 : ∀ C, ((("a" : Str), C + 1) :: cl1).lookup z = some cz)
    (d1 : sc2.kind = .function) (d2 : ∀ C, (sc2.names.all fun y => (y.2 != .free || (((("a" : Str), C + 1) :: cl1).lookup y.1).isSome) && y.2 != .cell && (y.2 != .local || sc2.names.lookup y.1 == some .local)) = true) (d3 : ∀ C, clos ((("a" : Str), C + 1) :: cl1) sc2.names [] = cl2 C) (d4 : sc2.names.lookup ("b" : Str) = some .local)
    (e1 : (relab sc2.names (relab sc1.names names)).lookup ("b" : Str) = some .local) (e2 : (relab sc2.names (relab sc1.names names)).lookup ("a" : Str) = some .cell) (e3 : (relab sc2.names (relab sc1.names names)).lookup ("near" : Str) = some .cell) (e4 : ∀ C, (cl2 C).lookup ("a" : Str) = some (C + 1)) (e5 : ∀ C, (cl2 C).lookup ("near" : Str) = some cn) :
    Ev prog w A env H (.ListComp (.ListComp (.BinOp (.BinOp (.Subscript (.Name "near" p0) (.Name "a" p1) p2) .RShift (.Name "b" p3) p4) .BitAnd (.Constant (.int 1) k0 p5) p6) [⟨.Name "b" p7, .Name z p8, [], 0⟩] sc2 p9) [⟨.Name "a" p10, .Name z p11, [], 0⟩] sc1 pos) (LL (ns.map (rowI near ns))) := by
  refine (?ev : Ev prog w A env H _ (NewJ H fun ys K => Paired (RowV K) ((ns.take ns.length).map (rowI near ns)) ys)).mono ?mono
  case mono =>
    rintro v h k ⟨D, ys, K, rfl, _, hp, kk, _, r⟩
    rw [List.take_length] at r
    exact ⟨D, ys, rfl, hp, Paired.mono (fun _ _ ⟨a, e, l⟩ => ⟨a, e, l.ext kk⟩) r⟩
  case ev =>
    refine compQ cl1 (fun i ys K => Paired (RowV K) ((ns.take i).map (rowI near ns)) ys) (fun cm => cm "near" = some (.ref ln) ∧ cm z = some (.ref lz)) (umC "a") O S (src_LI hh (vC O S mz a1 a2 hzd) hlz) (fun _ _ => .nil) ?hZ ?asg ?turn hlen b1 b2 b3 (fun C => by rw [b4, b5]; rfl) (fun C => by rw [b5, b5]; rfl) (fun p hp => by rw [b5]; intro q; exact b6 p hp (List.mem_singleton.mp q)) (fun _ => rfl)
    case hZ =>
      rw [b5]
      show (if ("near" : Str) ∈ [("a" : Str)] then none else cm "near") = _ ∧ (if z ∈ [("a" : Str)] then none else cm z) = _
      rw [if_neg (by decide), if_neg (fun q => hza (List.mem_singleton.mp q))]
      exact ⟨mn, mz⟩
    case asg =>
      intro i v env' h₁ tk₁ s m₁ cm₁ Q' E' hi hP O' hL hC x₁ R q
      rw [b5] at O'
      have hcl := (closQ O b2 b3).2.1
      have hal : H.get? (env'.locals + 1) = none ∧ env'.locals + 1 ≠ env'.locals := hC _ (by unfold owA; rw [b5]; exact .head _)
      refine asgR_cell O'.kind (O'.of c1) (c := env'.locals + 1) (by rw [O'.cells]; rfl) (fun n c' hm => ?_) (Ne.symm hal.2) R fun h₂ tk₂ R₂ hv hsb => q h₂ tk₂ m₁ _ R₂ ⟨rfl, rfl⟩ (fun b o hb e => hsb.extBut b o (fun q => hb (by unfold owA; rw [b5, q]; exact .tail _ (.head _))) e) fun b hb => ?_
      · rw [O'.cells] at hm
        rcases List.mem_cons.mp hm with hm | hm
        · cases hm; exact .inl ⟨rfl, rfl⟩
        · refine .inr ⟨b6 _ hm, fun q => ?_⟩
          obtain ⟨o, e, _⟩ := S.cl n c' (hcl _ hm)
          rw [q, hal.1] at e; cases e
      · unfold owA at hb
        rw [b5] at hb
        rcases List.mem_cons.mp hb with rfl | hb
        · obtain ⟨o, _, _, e, _⟩ := R₂.ns; exact ⟨o, e⟩
        · rw [List.mem_singleton.mp hb]; obtain ⟨o, e, _⟩ := hv; exact ⟨o, e⟩
    case turn =>
      rintro i v ys env' K H' m₁ cm₁ m₂ _ hi ⟨n, t, hn, rfl⟩ O' x₁ x₂ j ⟨z1, z2⟩ ⟨rfl, rfl⟩ R
      rw [b5] at O'
      have k := x₁.trans x₂
      have ez : upd cm₁ "a" (.int n t) z = some (.ref lz) := (upd_ne hza).trans z2
      have en : upd cm₁ "a" (.int n t) "near" = some (.ref ln) := (upd_ne (by decide)).trans z1
      have hn6 := hns n (List.mem_of_getElem? hn)
      refine ⟨⟨en, ez⟩, true, NewLI H' (rowI near ns n), tests_nil, fun _ => ⟨?_, loc_LI, fun y K' kk ⟨a, e, _, l⟩ => ?_⟩, fun h => nomatch h⟩
      · have := evcomp (prog := prog) (w := w) (A := A) (x := "b") (px := p7) (pos := p9) (iter := .Name z p8) (elt := .BinOp (.BinOp (.Subscript (.Name "near" p0) (.Name "a" p1) p2) .RShift (.Name "b" p3) p4) .BitAnd (.Constant (.int 1) k0 p5) p6) (ifs := []) (cl2 env'.locals) (fun _ => true) (fun b => Builtin.bitAnd ((near.getD n.toNat 0).fdiv (2 ^ b.toNat)) 1) O' R
          (src_LI hh (vC O' R ez c2 (c3 _) hzd) (hlz.ext k)) (fun _ _ _ _ _ _ _ _ _ _ => tests_nil) ?_ hlen d1 (d2 _) (d3 _) d4 (fun _ => rfl)
        · rwa [List.filter_eq_self.mpr fun _ _ => rfl] at this
        · intro env'' H'' m'' n' t' hn' _ k'' O'' R'' hm''
          have hn'6 := hns n' hn'
          exact ev_and (ev_shr (ev_item (vC O'' R'' en e3 (e5 _)) ((hln.ext k).ext k'') (nC O'' R'' upd_self e2 (e4 _)) hn6.1 (by rw [h6]; omega) (by omega)) (nL O'' R'' hm'' e1) hn'6.1) ev_int
      · rw [List.take_add_one, hn, List.map_append]
        exact Paired.append (Paired.mono (fun _ _ ⟨a, e, l⟩ => ⟨a, e, l.ext kk⟩) j) (.cons ⟨a, e, l⟩ .nil)
end
end Mine
end

noncomputable section
open PySem PySem.W PySem.Calls PyProof.Rows
set_option maxRecDepth 100000
set_option maxHeartbeats 1000000
namespace Mine
structure FoldA (b : Nat) (near order : List Int) (turn : Int) (x dx : Addr) (items : List Value) (fs : List (Nat × Nat)) (l : Int) (h : Heap) : Prop where
  acc : Acc x dx items h
  fv : FoldVs b h items fs
  f6 : ∀ p ∈ fs, p.1 < 6 ∧ p.2 < 6
  run : FoldR near order turn 63 fs l
  l0 : 0 ≤ l
noncomputable def FoldAV (H : Heap) (b : Nat) (near order : List Int) (turn : Int) (u v : Value) (h : Heap) : Prop := ∃ x dx items fs l t, u = .ref x ∧ v = .int l t ∧ H.get? x = none ∧ H.get? dx = none ∧ FoldA b near order turn x dx items fs l h
section
variable {prog : Program} {w : World} {mg mb : Str → Option Value} {A : Around} {env : Env} {H h₀ h₁ : Heap} {L : Addr} {cells : List (Str × Addr)} {names : List (Str × NameKind)} {m cm : Str → Option Value} {b : Nat} {near order : List Int} {turn l : Int} {x dx : Addr} {items : List Value} {fs : List (Nat × Nat)}
theorem FoldA.ext (f : FoldA b near order turn x dx items fs l H) (k : Ext H h₁) : FoldA b near order turn x dx items fs l h₁ := ⟨f.acc.ext k, f.fv.ext k, f.f6, f.run, f.l0⟩
theorem FoldAV.rb {u v : Value} (S : St env H m cm h₁) (fr : ∀ c, h₀.get? c = none → c ∉ hid env) (f : FoldAV h₀ b near order turn u v h₁) : FoldAV h₀ b near order turn u v (rb env h₁) := by
  obtain ⟨x, dx, items, fs, l, t, e1, e2, hx, hdx, f⟩ := f
  refine ⟨x, dx, items, fs, l, t, e1, e2, hx, hdx, f.acc.at fun c o hc e => rb_get e (fr c (by rcases hc with rfl | rfl <;> assumption)), ⟨f.fv.1, fun i v hi => ?_⟩, f.f6, f.run, f.l0⟩
  obtain ⟨p, hp, tc, td, T, e, hT⟩ := f.fv.2 i v hi
  exact ⟨p, hp, tc, td, T, e, hT.at fun o e => rb_get e (S.offSeq (isTuple_seq hT))⟩
theorem ev_folds {ln : Addr} {sg : Str} {p0 p1 p2 : Pos} {e1 e2 e3 : PySem.Expr} {x1 : Str} (B : Base prog w mg mb H) (O : EnvOK env L cells names) (o : AOK A 5) (hn : LI ln near H) (hlen : near.length = 6) (h1 : Ev prog w A env H (.Name x1 p1) (IsV (.ref ln))) (h2 : Ev prog w A env H e1 (AL order)) (h3 : Ev prog w A env H e2 (IsI turn)) (h4 : Ev prog w A env H e3 (IsS sg))
    (hord : ∀ k ∈ order, 0 ≤ k ∧ k < 6) (hol : order.length ≤ 1000) (htu : Builtin.Int.intBits turn ≤ 64) (hsg : ∀ k < 6, (⟨#[sg.cps.getD k 0]⟩ : Str) = sgn (b + k)) (hsl : sg.cps.size = 6)
    (hl : names.lookup ("_law_fold" : Str) = some .globalImplicit := by rfl) (hs1 : starEach [.Name x1 p1, e1, e2, e3] env = (false, eval (.Name x1 p1) env) :: starEach [e1, e2, e3] env := by rfl) (hs2 : starEach [e1, e2, e3] env = (false, eval e1 env) :: starEach [e2, e3] env := by rfl) (hs3 : starEach [e2, e3] env = (false, eval e2 env) :: starEach [e3] env := by rfl) (hs4 : starEach [e3] env = (false, eval e3 env) :: starEach [] env := by rfl) :
    Ev prog w A env H (.Call (.Name "_law_fold" p0) [.Name x1 p1, e1, e2, e3] [] p2) (fun v h => ∃ a c, Tup2 h v a c ∧ FoldAV H b near order turn a c h) := by
  refine ev_fn (f := 153) (i := 64) B O o (Rs := [IsV (.ref ln), AL order, IsI turn, IsS sg]) (args_cons h1 mono_V (args_cons h2 (fun _ _ _ k ⟨a, e, l⟩ => ⟨a, e, l.ext k⟩) (args_cons h3 mono_I (args_cons h4 mono_S args_nil hs4) hs3) hs2) hs1) ?_ (by decide) rfl hl rfl hs1
  rintro _ h k ⟨_, _, rfl, rfl, _, _, rfl, ⟨lo, rfl, hlo⟩, _, _, rfl, ⟨t, rfl⟩, _, _, rfl, ⟨u, rfl⟩, rfl⟩
  intro A' Q E s a' y q
  exact fold_ok (B.ext k) (hn.ext k) hlo hlen hord hol htu hsg hsl A' Q E s a' y fun v h' tk k' ⟨T, x, dx, items, fs, l, t, e, hT, _, hx, hdx, ac, fv, f6, run, l0⟩ =>
    q v h' tk k' ⟨_, _, ⟨T, e, _, hT, rfl, 0, rfl⟩, x, dx, items, fs, l, t, rfl, rfl, ext_none k hx, ext_none k hdx, ac, fv, f6, run, l0⟩
theorem ev_cells {ls : Addr} {ns : List Int} {p0 p1 p2 p3 p4 p5 p6 p7 p8 : Pos} {k0 k1 k2 k3 k4 : Nat} (B : Base prog w mg mb H) (O : EnvOK env L cells names) (o : AOK A 1) (hs : LI ls ns H) (hz : ns.length ≤ 1000) (h1 : Ev prog w A env H (.Name "script" p1) (IsV (.ref ls))) (hl : names.lookup ("_law_cells" : Str) = some .globalImplicit := by rfl) :
    Ev prog w A env H (.Call (.Name "_law_cells" p0) [.Name "script" p1, .List [.Constant (.int 13) k0 p4, .Constant (.int 1) k1 p5, .Constant (.int 4) k2 p6, .Constant (.int 10) k3 p7, .Constant (.int 22) k4 p8] p3] [] p2) (fun v h => ∃ cs, NewLI H cs v h ∧ cs.length = 5) := by
  intro Q E s y q
  refine wpAny_Call_Name_kw (evG B O (v := .ref 129) hl rfl rfl _ _ _ y ?_)
  rintro _ h₁ tk₁ y₁ rfl
  obtain ⟨fo, fd, hf, hd⟩ : ∃ fo fd, H.get? 129 = some fo ∧ fo.data = .func fd := let ⟨_, _, _, _, _, _, _, _, e, _⟩ := B.at (a := 129) (n := "_law_cells") (i := 60) (by decide); ⟨_, _, e, rfl⟩
  refine callWith_function (o := fo) (fd := fd) ?_
  refine evalArgs_plain ?_
  have ha : Args prog w A env s.heap [.Name "script" p1, .List [.Constant (.int 13) k0 p4, .Constant (.int 1) k1 p5, .Constant (.int 4) k2 p6, .Constant (.int 10) k3 p7, .Constant (.int 22) k4 p8] p3] (All [IsV (.ref ls), NewLI s.heap [13, 1, 4, 10, 22]]) :=
    args_cons (h1.ext y) mono_V (args_cons (ev_listI (ns := [13, 1, 4, 10, 22]) (args_cons ev_int mono_I (args_cons ev_int mono_I (args_cons ev_int mono_I (args_cons ev_int mono_I (args_cons ev_int mono_I args_nil))))) (by decide)) (fun _ _ _ k ⟨a, e, hn, l⟩ => ⟨a, e, hn, l.ext k⟩) args_nil)
  refine ha p2 _ E { s with heap := h₁, toks := tk₁ } y₁ ?_
  rintro _ h₂ tk₂ y₂ ⟨_, _, rfl, rfl, _, _, rfl, ⟨R, rfl, hR, lR⟩, rfl⟩
  refine ⟨⟨(y.trans (y₁.trans y₂)) _ _ hf, hd⟩, ?_⟩
  refine cells_ok (B.ext y) (hs.ext y) hz hR o (y₁.trans y₂) lR rfl ?_
  intro h' tk cs xB l h5
  exact q _ h' tk (fun b o e => xB b o (fun q => by rw [q, hR] at e; cases e) ((y₁.trans y₂) _ _ e)) ⟨cs, ⟨R, rfl, ext_none y hR, l⟩, h5⟩
theorem evmap {scope : Scope} {elt iter : PySem.Expr} {x : Str} {px pos : Pos} {fx : List Addr} {ns : List Int} (cl : List (Str × Addr)) (f : Int → Int) (O : EnvOK env L cells names) (S : Rd env m cm H) (src : SrcI prog w A env H iter ns fx)
    (he : ∀ env' H' m' n t, n ∈ ns → Ext H H' → EnvOK env' env'.locals cl (relab scope.names names) → Rd env' m' cm H' → m' x = some (.int n t) → Ev prog w A env' H' elt (IsI (f n)))
    (hlen : ns.length ≤ 1000) (hk : scope.kind = .function := by rfl)
    (h1 : (scope.names.all fun y => (y.2 != .free || (cells.lookup y.1).isSome) && y.2 != .cell && (y.2 != .local || scope.names.lookup y.1 == some .local)) = true := by rfl)
    (h2 : clos cells scope.names [] = cl := by rfl) (hx : scope.names.lookup x = some .local := by rfl)
    (hs : ∀ x, foldedSetIterable iter env x = pure x := by intro _; rfl) : Ev prog w A env H (.ListComp elt [⟨.Name x px, iter, [], 0⟩] scope pos) (NewLI H (ns.map f)) := by
  have := evcomp (px := px) (pos := pos) (elt := elt) cl (fun _ => true) f O S src (fun _ _ _ _ _ _ _ _ _ _ => tests_nil) (fun env' H' m' n t hn _ => he env' H' m' n t hn) hlen hk h1 h2 hx hs
  rwa [List.filter_eq_self.mpr fun _ _ => rfl] at this
end
end Mine
end

noncomputable section
open PySem PySem.W PySem.Calls PyProof.Rows
set_option maxRecDepth 100000
set_option maxHeartbeats 4000000
namespace Mine
noncomputable def thereN (fs : List (Nat × Nat)) (sp : List Int) : List Int := sp.map fun n => (holdN fs n.toNat : Int)
noncomputable def orderI (c : Int) : List Int := (rng 0 6).map fun k => (k + c).fmod 6
structure LawP (near : List Int) (fs1 fs2 : List (Nat × Nat)) (l1 l2 : Int) : Prop where
  n1 : (fs1.map (·.1)).Nodup
  g1 : fs1.length ≤ 5
  w1 : (fs1.length : Int) = 6 - (spotsI l1).length
  n2 : (fs2.map (·.1)).Nodup
  g2 : fs2.length ≤ 5
  w2 : (fs2.length : Int) = 6 - (spotsI l1).length
  t6 : ∀ n ∈ spotsI l1, holdN fs2 n.toNat < 6
  perm : (thereN fs2 (spotsI l1)).Perm (spotsI l2)
  back : thereN fs1 (thereN fs2 (spotsI l1)) = spotsI l1
  ties : (spotsI l1).map (rowI near (spotsI l1)) = (thereN fs2 (spotsI l1)).map (rowI near (thereN fs2 (spotsI l1)))
  euler : eulerI near 63 = eulerI near l1
  one : (spotsI l1).length = 1 → ∃ c : Nat, spotsI l1 = [(c : Int)] ∧ fs1.length = 5 ∧ ∃ Cp, CopL near fs1 Cp ∧ ∀ r < 6, Cp 5 c r
  more : (spotsI l1).length ≠ 1 → ∃ Rm, FreeL near fs1 l1 Rm
noncomputable def PlainLaw : Prop := ∀ nn : List Nat, Town nn → ∀ (c : Int) (fs1 fs2 : List (Nat × Nat)) (l1 l2 : Int), (∀ p ∈ fs1, p.1 < 6 ∧ p.2 < 6) → (∀ p ∈ fs2, p.1 < 6 ∧ p.2 < 6) → 0 ≤ l1 → 0 ≤ l2 →
  FoldR (nl nn) (orderI c) 1 63 fs1 l1 → FoldR (nl nn) (orderI c).reverse (-1) 63 fs2 l2 → LawP (nl nn) fs1 fs2 l1 l2
theorem order_in {c k : Int} (h : k ∈ orderI c) : 0 ≤ k ∧ k < 6 := by
  obtain ⟨n, _, rfl⟩ := List.mem_map.mp h
  exact ⟨Int.fmod_nonneg_of_pos _ (by decide), Int.fmod_lt_of_pos _ (by decide)⟩
theorem order_len (c : Int) : (orderI c).length = 6 := by unfold orderI; rw [List.length_map, rng_length]; rfl
noncomputable def lawNames : List (Str × NameKind) := [("script", .local), ("cells", .cell), ("near", .cell), ("base", .local), ("signs", .local), ("order", .local), ("folds", .cell), ("left", .local), ("other", .cell), ("kept", .local), ("low", .cell), ("spots", .cell), ("there", .cell),
  ("_law_cells", .globalImplicit), ("_law_near", .globalImplicit), ("range", .globalImplicit), ("_law_fold", .globalImplicit), ("_law_spots", .globalImplicit), ("sorted", .globalImplicit), ("_law_euler", .globalImplicit), ("_law_widths", .globalImplicit), ("_law_due", .globalImplicit), ("len", .globalImplicit), ("_law_caught", .globalImplicit), ("_law_free", .globalImplicit)]
noncomputable def lawCells (L : Addr) : List (Str × Addr) := [("there", L + 7), ("spots", L + 6), ("low", L + 5), ("other", L + 4), ("folds", L + 3), ("near", L + 2), ("cells", L + 1)]
section
variable {prog : Program} {w : World} {mg mb : Str → Option Value} {H : Heap}
theorem law_walk (PL : PlainLaw) (B : Base prog w mg mb H) {ls : Addr} {ns : List Int} (hs : LI ls ns H) (hz : ns.length ≤ 1000) : CallP prog w (.ref 196) [.ref ls] H 6 (IsB true) := by
  refine fnQC (B.at (n := "law") (i := 71) (by decide)) B.lim lawNames [("script", .ref ls)] lawCells (fun _ _ _ _ _ => rfl) rfl rfl (by decide) (fun _ => rfl) [("script", .ref ls)] [] (by simp only [List.forall_mem_cons]; exact ⟨rfl, fun _ h => nomatch h⟩) (fun _ h => nomatch h) ?_ rfl rfl rfl
  intro A env s h₁ tk₁ m₀ cm₀ Q E o O y hm _ S q
  have cnd : (env.cells.map (·.1)).Nodup := by rw [O.cells]; show ([("there" : Str), "spots", "low", "other", "folds", "near", "cells"] : List Str).Nodup; decide
  have lk : ∀ {x : Str} {c : Addr}, (lawCells env.locals).lookup x = some c → env.cells.lookup x = some c := fun h => by rw [O.cells]; exact h
  refine st_asgC S O.kind (O.of rfl) (lk rfl) cnd (ev_cells (B.ext (y.trans S.ext)) O (o.less (by decide)) (hs.ext (y.trans S.ext)) hz (vL O S.rd (hm "script" _ rfl))) (fun v h' H' ⟨cs, e, h5⟩ k => ⟨cs, loc_LI v h' H' e k, h5⟩) ?_
  rintro _ h₂ H₂ tk₂ S₂ x₂ ⟨cs, ⟨lc, rfl, _, hlc⟩, hc5⟩
  clear S hs hz
  have X₂ : Ext s.heap h₂ := x₂.trans S₂.ext
  have B₂ := B.ext (y.trans X₂)
  refine st_asgC (R := fun v h => ∃ nn, NewLI h₂ (nl nn) v h ∧ Town nn) S₂ O.kind (O.of rfl) (lk rfl) cnd (ev_fn (f := 136) (i := 61) B₂ O (o.less (e := 2) (by decide)) (Rs := [IsV (.ref lc)]) (args_cons (vC O S₂.rd rfl) mono_V args_nil) ?_) (fun v h' H' ⟨nn, e, t⟩ k => ⟨nn, loc_LI v h' H' e k, t⟩) ?_
  · rintro _ h k ⟨_, _, rfl, rfl, rfl⟩
    intro A' Q E s a' y q
    exact near_ok (B₂.ext k) ((hlc.ext S₂.ext).ext k) hc5 A' Q E s a' y fun v h' tk k' ⟨nn, ⟨b, e, f, l⟩, T⟩ => q v h' tk k' ⟨nn, ⟨b, e, ext_none k f, l⟩, T⟩
  rintro _ h₃ H₃ tk₃ S₃ x₃ ⟨nn, ⟨ln, rfl, _, hln⟩, T⟩
  replace hlc := hlc.ext x₃
  have n6 : (nl nn).length = 6 := by rw [nl_len]; exact T.len
  obtain ⟨b, hb, hb15⟩ := fmod_nat (cs.getD 0 0) (k := 15) (by decide)
  refine st_asg S₃ O.kind (O.of rfl) ((ev_mod (ev_item (vC O S₃.rd rfl) (hlc.ext S₃.ext) ev_int (by decide) (by rw [hc5]; decide) (by decide)) ev_int (by decide)).mono fun _ _ _ (z : ∃ t, _) => (z.imp fun t e => by rw [e]; exact congrArg (Value.int · t) hb : IsI (b : Int) _ _)) loc_I ?_
  rintro _ h₄ H₄ tk₄ S₄ x₄ ⟨t4, rfl⟩
  refine st_asg S₄ O.kind (O.of rfl) (ev_signs hb15 (nL O S₄.rd rfl) (ev_add (nL O S₄.rd rfl) ev_int)) loc_S ?_
  rintro _ h₅ H₅ tk₅ S₅ x₅ ⟨t5, rfl⟩
  replace hlc := hlc.ext (x₄.trans x₅)
  replace hln := hln.ext (x₄.trans x₅)
  have X₅ : Ext s.heap H₅ := ((x₂.trans x₃).trans x₄).trans x₅
  clear S₂ S₃ S₄ x₂ x₃ x₄ x₅ X₂ B₂
  refine stcomp [("cells", env.locals + 1)] (fun _ => true) (fun k => (k + (cs.getD 0 0).fdiv 15).fmod 6) O S₅ (src_range1 o.hh (vB (B.ext (y.trans (X₅.trans S₅.ext))) O) ev_int (by decide) (by decide)) (fun _ _ _ _ _ _ _ _ _ _ => tests_nil) ?_ ?_
  · intro env' H' m' n t hn _ k O' R' hm'
    exact ev_mod (ev_add (nL O' R' hm') (ev_fdiv (ev_item (vC O' R' rfl) ((hlc.ext S₅.ext).ext k) ev_int (by decide) (by rw [hc5]; decide) (by decide)) ev_int (by decide) rfl)) ev_int (by decide)
  intro lo h₆ H₆ tk₆ S₆ x₆ _ hlo
  rw [List.filter_eq_self.mpr fun _ _ => rfl] at hlo
  have hlo : LI lo (orderI ((cs.getD 0 0).fdiv 15)) H₆ := hlo
  generalize (cs.getD 0 0).fdiv 15 = c at hlo
  replace hlc := hlc.ext x₆
  replace hln := hln.ext x₆
  have X₆ : Ext s.heap H₆ := X₅.trans x₆
  obtain ⟨sz, sg⟩ := sigs_at b
  refine st_pairCL (R := FoldAV h₆ b (nl nn) (orderI c) 1) S₆ o.hh O.kind (O.of rfl) (lk rfl) cnd (O.of rfl) (ev_folds (B.ext (y.trans (X₆.trans S₆.ext))) O o (hln.ext S₆.ext) n6 (vC O S₆.rd rfl) (Ev.alV (hlo.ext S₆.ext) (vL O S₆.rd rfl)) ev_int (evS (vL O S₆.rd rfl)) (fun _ => order_in) (by rw [order_len]; decide) (by decide) sg sz) (fun _ _ _ S' fr f => f.rb S' fr) ?_
  rintro _ _ h₇ H₇ tk₇ S₇ x₇ ⟨fx, fdx, fi, fs1, l1, tl1, rfl, rfl, hfx, hfdx, F1⟩
  have hfx := ext_none (X₆.trans S₆.ext) hfx
  clear hfdx
  clear S₅ S₆
  refine st_pairCL (R := FoldAV h₇ b (nl nn) (orderI c).reverse (-1)) S₇ o.hh O.kind (O.of rfl) (lk rfl) cnd (O.of rfl) (ev_folds (B.ext (y.trans (X₆.trans (x₇.trans S₇.ext)))) O o (hln.ext (x₇.trans S₇.ext)) n6 (vC O S₇.rd rfl) (ev_rev (vL O S₇.rd rfl) (hlo.ext (x₇.trans S₇.ext)) (by rw [order_len]; decide) (ev_neg ev_int)).al (ev_neg ev_int) (evS (vL O S₇.rd rfl)) (fun _ h => order_in (List.mem_reverse.mp h)) (by rw [List.length_reverse, order_len]; decide) (by decide) sg sz) (fun _ _ _ S' fr f => f.rb S' fr) ?_
  rintro _ _ h₈ H₈ tk₈ S₈ x₈ ⟨gx, gdx, gi, fs2, l2, tl2, rfl, rfl, _, _, F2⟩
  have LP := PL nn T c fs1 fs2 l1 l2 F1.f6 F2.f6 F1.l0 F2.l0 F1.run F2.run
  replace F1 := F1.ext x₈
  clear hlo S₇
  refine st_asgC (R := IsI ((7 + b : Nat) : Int)) S₈ O.kind (O.of rfl) (lk rfl) cnd ((ev_add (a := 7) (b := (b : Int)) ev_int (nL O S₈.rd rfl)).mono fun _ _ _ z => (z : IsI (7 + (b : Int)) _ _)) loc_I ?_
  rintro _ h₉ H₉ tk₉ S₉ x₉ ⟨t9, rfl⟩
  have X₉ : Ext s.heap H₉ := X₆.trans ((x₇.trans x₈).trans x₉)
  replace F1 := F1.ext x₉
  replace F2 := F2.ext x₉
  replace hlc := hlc.ext ((x₇.trans x₈).trans x₉)
  replace hln := hln.ext ((x₇.trans x₈).trans x₉)
  clear S₈ x₇ x₈ x₉
  refine st_asgC S₉ O.kind (O.of rfl) (lk rfl) cnd (ev_spots (B.ext (y.trans (X₉.trans S₉.ext))) O (o.less (by decide)) (nL O S₉.rd rfl)) loc_LI ?_
  rintro _ hA HA tkA SA xA ⟨lsp, rfl, _, hsp⟩
  replace F1 := F1.ext xA
  replace F2 := F2.ext xA
  replace hlc := hlc.ext xA
  replace hln := hln.ext xA
  have XA : Ext s.heap HA := X₉.trans xA
  clear S₉ xA
  have hb14 : b ≤ 14 := by omega
  refine st_asgC (R := NewLI hA (thereN fs2 (spotsI l1))) SA O.kind (O.of rfl) (lk rfl) cnd ?_ loc_LI ?_ ?hs
  case hs =>
    have e : (env.kindOf "there" == some NameKind.local) = false := by rw [O.of (k := .cell) rfl]; rfl
    show (pure (env.blockKind == .function && env.kindOf "there" == some NameKind.local && _ && _) : Sem Bool) = pure false
    rw [e, Bool.and_false, Bool.false_and, Bool.false_and]
  · refine evmap [("other", env.locals + 4), ("low", env.locals + 5)] (fun n => (holdN fs2 n.toNat : Int)) O SA.rd (src_LI o.hh (vC O SA.rd rfl) (hsp.ext SA.ext)) (fun env' H' m' n t hn k O' R' hm' => ?_) (spots_len _)
    obtain ⟨i, rfl, _, _⟩ := spots_nat hn
    exact ev_hold (B.ext (y.trans (XA.trans (SA.ext.trans k)))) O' (o.less (by decide)) (F2.acc.ext (SA.ext.trans k)) (F2.fv.ext (SA.ext.trans k)) hb14 F2.f6 (nL O' R' hm') (vC O' R' rfl) (nC O' R' rfl)
  rintro _ hB HB tkB SB xB ⟨lth, rfl, _, hth⟩
  replace F1 := F1.ext xB
  replace F2 := F2.ext xB
  replace hlc := hlc.ext xB
  replace hln := hln.ext xB
  replace hsp := hsp.ext xB
  have XB : Ext s.heap HB := XA.trans xB
  clear SA xB XA X₆ X₅ X₉
  have BB := B.ext (y.trans (XB.trans SB.ext))
  have lth6 : (thereN fs2 (spotsI l1)).length = (spotsI l1).length := List.length_map ..
  have sp6 : (spotsI l1).length ≤ 6 := Nat.le_trans (List.length_filter_le _ _) (by rw [rng_length]; decide)
  have so : (spotsI l2).Pairwise (· ≤ ·) := List.Pairwise.filter _ (by decide : (rng 0 6).Pairwise (· ≤ ·))
  refine ifQ false (evT_or2 (EvT.cast (evT_neL (o.less (by decide)) (ev_sorted (vB BB O) (vC O SB.rd rfl) (hth.ext SB.ext) (by omega) LP.perm so) (ev_spots BB O (o.less (by decide)) (nL O SB.rd rfl)).al) (by rw [decide_eq_true rfl]; rfl)) (EvT.cast (evT_neL (ns := spotsI l1) (o.less (by decide)) ?_ (Ev.alV (hsp.ext SB.ext) (vC O SB.rd rfl))) (by rw [decide_eq_true rfl]; rfl))) ?_
  · refine (?cmp : Ev prog w A env hB _ (NewLI hB (spotsI l1))).al
    have e := LP.back
    rw [← e]
    refine evmap [("low", env.locals + 5), ("folds", env.locals + 3)] (fun n => (holdN fs1 n.toNat : Int)) O SB.rd (src_LI o.hh (vC O SB.rd rfl) (hth.ext SB.ext)) (fun env' H' m' n t hn k O' R' hm' => ?_) (by rw [lth6]; exact spots_len _)
    obtain ⟨_, _, rfl⟩ := List.mem_map.mp hn
    exact ev_hold (BB.ext k) O' (o.less (by decide)) (F1.acc.ext (SB.ext.trans k)) (F1.fv.ext (SB.ext.trans k)) hb14 F1.f6 (nL O' R' hm') (vC O' R' rfl) (nC O' R' rfl)
  intro hC tkC QC xC bC nC'
  refine wpAny_execs_nil (nC' _ ?_)
  clear bC nC'
  replace SB := SB.keep xC
  clear xC BB
  have sp0 : ∀ n ∈ spotsI l1, 0 ≤ n ∧ n < 6 := fun n hn => by obtain ⟨i, rfl, h, _⟩ := spots_nat hn; omega
  have th0 : ∀ n ∈ thereN fs2 (spotsI l1), 0 ≤ n ∧ n < 6 := fun n hn => by
    obtain ⟨i, hi, rfl⟩ := List.mem_map.mp hn
    have := LP.t6 i hi
    omega
  refine ifQ false (evT_neLL (rows := (spotsI l1).map (rowI (nl nn) (spotsI l1))) (o.less (by decide))
    (ev_matrix (z := "spots") (cn := env.locals + 2) (cz := env.locals + 6) _ _ [("spots", env.locals + 6), ("near", env.locals + 2)] (fun C => [("near", env.locals + 2), ("a", C + 1)]) o.hh O SB.rd (hln.ext SB.ext) (hsp.ext SB.ext) n6 sp0 (spots_len _) rfl rfl (by decide) (by decide) rfl rfl rfl rfl rfl (fun _ => rfl) (fun _ => rfl) (by simp only [List.forall_mem_cons]; exact ⟨by decide, by decide, fun _ h => nomatch h⟩) rfl rfl (fun _ => rfl) rfl (fun _ => rfl) (fun _ => rfl) rfl rfl rfl rfl (fun _ => rfl) (fun _ => rfl))
    ?_) ?_
  · rw [LP.ties]
    exact ev_matrix (z := "there") (cn := env.locals + 2) (cz := env.locals + 7) _ _ [("there", env.locals + 7), ("near", env.locals + 2)] (fun C => [("near", env.locals + 2), ("a", C + 1)]) o.hh O SB.rd (hln.ext SB.ext) (hth.ext SB.ext) n6 th0 (by rw [lth6]; exact spots_len _) rfl rfl (by decide) (by decide) rfl rfl rfl rfl rfl (fun _ => rfl) (fun _ => rfl) (by simp only [List.forall_mem_cons]; exact ⟨by decide, by decide, fun _ h => nomatch h⟩) rfl rfl (fun _ => rfl) rfl (fun _ => rfl) (fun _ => rfl) rfl rfl rfl rfl (fun _ => rfl) (fun _ => rfl)
  clear sp0 th0
  intro hD tkD QD xD bD nD
  refine wpAny_execs_nil (nD _ ?_)
  clear bD nD
  replace SB := SB.keep xD
  clear xD
  have BB := B.ext (y.trans (XB.trans SB.ext))
  have ln2 := hln.ext SB.ext
  have eu : ∀ {e2 : PySem.Expr} {p0 p1 p2 : Pos} (fl : Int), Ev prog w A env hD e2 (IsI fl) → starEach [.Name "near" p1, e2] env = (false, eval (.Name "near" p1) env) :: starEach [e2] env → starEach [e2] env = (false, eval e2 env) :: starEach [] env → Ev prog w A env hD (.Call (.Name "_law_euler" p0) [.Name "near" p1, e2] [] p2) (IsI (eulerI (nl nn) fl)) := fun fl he s1 s2 => by
    refine ev_fn (f := 177) (i := 68) BB O (o.less (e := 1) (by decide)) (Rs := [IsV (.ref ln), IsI fl]) (args_cons (vC O SB.rd rfl) mono_V (args_cons he mono_I args_nil s2) s1) ?_ (by decide) rfl rfl rfl s1
    rintro _ h k ⟨_, _, rfl, rfl, _, _, rfl, ⟨t, rfl⟩, rfl⟩
    exact euler_ok (BB.ext k) (ln2.ext k) n6 fl t
  refine ifQ false (EvT.cast (evT_ne (eu 63 ev_int rfl rfl) (eu l1 (nL O SB.rd rfl) rfl rfl)) (by rw [LP.euler]; exact bne_self_eq_false _)) ?_
  clear eu BB ln2
  intro hE tkE QE xE bE nE
  refine wpAny_execs_nil (nE _ ?_)
  clear bE nE
  replace SB := SB.keep xE
  clear xE
  have BB := B.ext (y.trans (XB.trans SB.ext))
  have wd : ∀ {z : Str} {p0 p1 p2 p3 : Pos} {x dx : Addr} {items : List Value} {fs : List (Nat × Nat)} {l tn : Int} {od : List Int}, FoldA b (nl nn) od tn x dx items fs l HB → (fs.map (·.1)).Nodup → fs.length ≤ 5 → Ev prog w A env hE (.Name z p1) (IsV (.ref x)) → Ev prog w A env hE (.Call (.Name "_law_widths" p0) [.Name z p1, .Name "low" p2] [] p3) (AL (dueI fs.length)) := fun F n g he => by
    refine (ev_fn (f := 165) (i := 66) BB O (o.less (e := 2) (by decide)) (Rs := [IsV _, IsI ((7 + b : Nat) : Int)]) (args_cons he mono_V (args_cons (nC O SB.rd rfl) mono_I args_nil)) ?_ : Ev prog w A env hE _ (NewLI hE _)).al
    rintro _ h k ⟨_, _, rfl, rfl, _, _, rfl, ⟨t, rfl⟩, rfl⟩
    intro A' Q E s a' y q
    exact widths_ok (BB.ext k) (F.acc.ext (SB.ext.trans k)) (F.fv.ext (SB.ext.trans k)) hb14 F.f6 n g t A' Q E s a' y fun v h' tk k' ⟨c, e, f, l⟩ => q v h' tk k' ⟨c, e, ext_none k f, l⟩
  have du : ∀ {z : Str} {p0 p1 p2 : Pos} {a : Addr} {ms : List Int} , LI a ms HB → ms.length ≤ 1000 → Ev prog w A env hE (.Name z p1) (IsV (.ref a)) → Ev prog w A env hE (.Call (.Name "_law_due" p0) [.Name z p1] [] p2) (AL (dueI (6 - ms.length))) := fun l g he => by
    refine (ev_fn (f := 172) (i := 67) BB O (o.less (e := 1) (by decide)) (Rs := [IsV _]) (args_cons he mono_V args_nil) ?_ : Ev prog w A env hE _ (NewLI hE _)).al
    rintro _ h k ⟨_, _, rfl, rfl, rfl⟩
    intro A' Q E s a' y q
    exact due_ok (BB.ext k) (l.ext (SB.ext.trans k)) g A' Q E s a' y fun v h' tk k' ⟨c, e, f, l⟩ => q v h' tk k' ⟨c, e, ext_none k f, l⟩
  refine ifQ false (evT_or2 (EvT.cast (evT_neL (o.less (by decide)) (wd F1 LP.n1 LP.g1 (vC O SB.rd rfl)) (du hsp (spots_len _) (vC O SB.rd rfl))) (by rw [LP.w1, decide_eq_true rfl]; rfl)) (EvT.cast (evT_neL (o.less (by decide)) (wd F2 LP.n2 LP.g2 (vC O SB.rd rfl)) (du hth (by rw [lth6]; exact spots_len _) (vC O SB.rd rfl))) (by rw [lth6, LP.w2, decide_eq_true rfl]; rfl))) ?_
  clear wd du BB
  intro hF tkF QF xF bF nF
  refine wpAny_execs_nil (nF _ ?_)
  clear bF nF
  replace SB := SB.keep xF
  clear xF
  have BB := B.ext (y.trans (XB.trans SB.ext))
  refine ifQ (((spotsI l1).length : Int) == 1) (evT_eq (ev_len (vB BB O) (vC O SB.rd rfl) (hsp.ext SB.ext) (spots_len _)) ev_int) ?_
  intro hG tkG QG xG bG nG
  replace SB := SB.keep xG
  clear xG BB
  have BB := B.ext (y.trans (XB.trans SB.ext))
  cases h1 : ((spotsI l1).length : Int) == 1 with
  | false =>
    have h1 : (spotsI l1).length ≠ 1 := fun e => by rw [e] at h1; exact absurd h1 (by decide)
    obtain ⟨Rm, FL⟩ := LP.more h1
    refine wpAny_execs_nil (nG _ ?_)
    refine st_ret (R := IsB true) (ev_fn (f := 191) (i := 70) BB O o (Rs := [IsV (.ref ln), IsV (.ref fx), IsI ((7 + b : Nat) : Int), IsI l1, IsV (.ref lc)]) (args_cons (vC O SB.rd rfl) mono_V (args_cons (vC O SB.rd rfl) mono_V (args_cons (nC O SB.rd rfl) mono_I (args_cons (nL O SB.rd rfl) mono_I (args_cons (vC O SB.rd rfl) mono_V args_nil))))) ?_) ?_
    · rintro _ h k ⟨_, _, rfl, rfl, _, _, rfl, rfl, _, _, rfl, ⟨t, rfl⟩, _, _, rfl, ⟨u, rfl⟩, _, _, rfl, rfl, rfl⟩
      have k' := SB.ext.trans k
      exact free_ok (BB.ext k) (hln.ext k') n6 (F1.acc.ext k') (F1.fv.ext k') hb14 F1.f6 (hlc.ext k') hc5 FL t u
    · rintro v h' tk k rfl
      exact q _ h' tk (XB.trans (SB.ext.trans k)) rfl
  | true =>
    have h1 : (spotsI l1).length = 1 := Int.ofNat.inj (beq_iff_eq.mp h1)
    obtain ⟨cc, hcc, h5, Cp, CL, h0⟩ := LP.one h1
    refine wpAny_execs_cons (wpAny_Return_some (wpAny_Call_Name_kw (evG BB O (v := .ref 184) rfl rfl rfl _ _ _ (Ext.refl _) ?_)))
    rintro _ hI tkI yI rfl
    obtain ⟨fo, fd, hf, hd⟩ : ∃ fo fd, hG.get? 184 = some fo ∧ fo.data = .func fd := let ⟨_, _, _, _, _, _, _, _, e, _⟩ := BB.at (a := 184) (n := "_law_caught") (i := 69) (by decide); ⟨_, _, e, rfl⟩
    refine callWith_function (o := fo) (fd := fd) (evalArgs_plain ?_)
    have it : ∀ {p0 p1 p2 : Pos} {k0 : Nat}, Ev prog w A env hG (.Subscript (.Name "spots" p0) (.Constant (.int 0) k0 p1) p2) (IsI (cc : Int)) := fun {p0 p1 p2 k0} => by
      have e : (spotsI l1).getD (0 : Int).toNat 0 = cc := by rw [hcc]; rfl
      rw [← e]
      exact ev_item (vC O SB.rd rfl) (hsp.ext SB.ext) ev_int (by decide) (by rw [h1]; decide) (by decide)
    have ha : ∀ {p0 p1 p2 p3 p4 p5 p6 : Pos} {k0 : Nat}, Args prog w A env hG [.Name "near" p0, .Name "folds" p1, .Name "low" p2, .Subscript (.Name "spots" p3) (.Constant (.int 0) k0 p4) p5, .Name "cells" p6] (All [IsV (.ref ln), IsV (.ref fx), IsI ((7 + b : Nat) : Int), IsI (cc : Int), IsV (.ref lc)]) :=
      args_cons (vC O SB.rd rfl) mono_V (args_cons (vC O SB.rd rfl) mono_V (args_cons (nC O SB.rd rfl) mono_I (args_cons it mono_I (args_cons (vC O SB.rd rfl) mono_V args_nil))))
    refine ha _ _ _ _ yI ?_
    rintro _ hJ tkJ yJ ⟨_, _, rfl, rfl, _, _, rfl, rfl, _, _, rfl, ⟨t, rfl⟩, _, _, rfl, ⟨u, rfl⟩, _, _, rfl, rfl, rfl⟩
    refine ⟨⟨(yI.trans yJ) _ _ hf, hd⟩, ?_⟩
    have k := SB.ext.trans (yI.trans yJ)
    have F := F1.ext k
    have no : ∀ {a : Addr}, a ≠ fx → a ∉ [fx] := fun h q => h (List.mem_singleton.mp q)
    have kS : Ext s.heap (hideAll hJ [fx]) := fun b o e => hideAll_get _ ((XB.trans k) b o e) (no fun q => by rw [q, hfx] at e; cases e)
    have ll : ∀ {a : Addr} {ms : List Int}, LI a ms HB → LI a ms (hideAll hJ [fx]) := fun l => (l.ext k).at fun o l' e => hideAll_get _ e (no (F.acc.neL l'))
    obtain ⟨nx, ex, md, hmd, hmn⟩ := id F.acc
    have ne : fdx ≠ fx := by
      rintro rfl
      obtain ⟨_, _, _, e', d', _⟩ := hmd
      rw [ex] at e'; cases e'; cases d'
    refine caught_ok (B.ext (y.trans kS)) (ll hln) n6 (hideAll_none _ (.head _)) ⟨md, hmd.at' fun o e => hideAll_get _ e (no ne), hmn⟩ ⟨F.fv.1, fun i v hi => ?_⟩ hb14 F.f6 h5 (ll hlc) hc5 CL h0 t u o (fun b o e => of_hideAll _ e) ⟨nx, ex⟩ ?_
    · obtain ⟨p, hp, tc, td, T, e, hT⟩ := F.fv.2 i v hi
      exact ⟨p, hp, tc, td, T, e, hT.at fun o e => hideAll_get _ e (no (F.acc.neT hT))⟩
    · intro h' tk xB
      exact bG _ _ (q _ h' tk (fun b o e => xB b o (fun q => by rw [q, hfx] at e; cases e) ((XB.trans k) _ _ e)) rfl)
end
end Mine
end

noncomputable section
open PySem PySem.W PySem.Calls PyProof.Rows
namespace Mine
inductive FV (N : Nat → Nat → Bool) : Nat → List (Nat × Nat) → Nat → Prop
  | nil {m : Nat} : FV N m [] m
  | cons {m m' u v : Nat} {fs : List (Nat × Nat)} : u < 6 → v < 6 → m.testBit u = true → m.testBit v = true → u ≠ v → (∀ x < 6, m.testBit x = true → N u x = true → N v x = true) → FV N (m - 2 ^ u) fs m' → FV N m ((u, v) :: fs) m'
noncomputable def Stiff (N : Nat → Nat → Bool) (m : Nat) : Prop := ∀ u < 6, ∀ v < 6, m.testBit u = true → m.testBit v = true → u ≠ v → ∃ x < 6, m.testBit x = true ∧ N u x = true ∧ N v x = false
theorem sub_bit : ∀ m < 64, ∀ u < 6, m.testBit u = true → m - 2 ^ u < 64 ∧ ∀ x < 6, (m - 2 ^ u).testBit x = (m.testBit x && x != u) := by decide +kernel
noncomputable abbrev f1 (p : Nat × Nat) (s : Nat) : Nat := if p.1 = s then p.2 else s
theorem hold_cons (p : Nat × Nat) (fs : List (Nat × Nat)) (s : Nat) : holdN (p :: fs) s = holdN fs (f1 p s) := rfl
structure Ties (N : Nat → Nat → Bool) : Prop where
  rf : ∀ a < 6, N a a = true
  sy : ∀ a < 6, ∀ b < 6, N a b = N b a
section
variable {N : Nat → Nat → Bool} {m m' : Nat} {fs : List (Nat × Nat)}
theorem one_in {u v : Nat} (hm : m < 64) (hu : u < 6) (hv : v < 6) (bu : m.testBit u = true) (bv : m.testBit v = true) (ne : u ≠ v) {x : Nat} (hx : x < 6) (bx : m.testBit x = true) : f1 (u, v) x < 6 ∧ (m - 2 ^ u).testBit (f1 (u, v) x) = true := by
  have := (sub_bit m hm u hu bu).2
  unfold f1
  by_cases e : u = x
  · rw [if_pos e, this v hv, bv]; exact ⟨hv, by simpa using Ne.symm ne⟩
  · rw [if_neg e, this x hx, bx]; exact ⟨hx, by simpa using Ne.symm e⟩
theorem one_half {u v : Nat} (dom : ∀ x < 6, m.testBit x = true → N u x = true → N v x = true) {x y : Nat} (hy : y < 6) (by' : m.testBit y = true) (h : N x y = true) : N (f1 (u, v) x) y = true := by
  unfold f1
  by_cases e : u = x
  · rw [if_pos e]; exact dom y hy by' (by rw [e]; exact h)
  · rw [if_neg e]; exact h
theorem one_tie (T : Ties N) {u v : Nat} (hu : u < 6) (hv : v < 6) (bv : m.testBit v = true) (dom : ∀ x < 6, m.testBit x = true → N u x = true → N v x = true) {x y : Nat} (hx : x < 6) (hy : y < 6) (bx : m.testBit x = true) (by' : m.testBit y = true) (h : N x y = true) : N (f1 (u, v) x) (f1 (u, v) y) = true := by
  have h1 := one_half dom hy by' h
  have fx : f1 (u, v) x < 6 ∧ m.testBit (f1 (u, v) x) = true := by
    unfold f1
    by_cases e : u = x
    · rw [if_pos e]; exact ⟨hv, bv⟩
    · rw [if_neg e]; exact ⟨hx, bx⟩
  rw [T.sy _ fx.1 _ hy] at h1
  have h2 := one_half dom fx.1 fx.2 h1
  have fy : f1 (u, v) y < 6 := by
    unfold f1
    by_cases e : u = y
    · rw [if_pos e]; exact hv
    · rw [if_neg e]; exact hy
  rw [T.sy _ fx.1 _ fy]; exact h2
structure Folded (N : Nat → Nat → Bool) (m : Nat) (fs : List (Nat × Nat)) (m' : Nat) : Prop where
  lt : m' < 64
  sub : ∀ x < 6, m'.testBit x = true → m.testBit x = true
  into : ∀ x < 6, m.testBit x = true → holdN fs x < 6 ∧ m'.testBit (holdN fs x) = true
  fix : ∀ x < 6, m'.testBit x = true → holdN fs x = x
  tie : ∀ x < 6, ∀ y < 6, m.testBit x = true → m.testBit y = true → N x y = true → N (holdN fs x) (holdN fs y) = true
  gone : ∀ x < 6, x ∈ fs.map (·.1) ↔ (m.testBit x = true ∧ m'.testBit x = false)
  six : ∀ x ∈ fs.map (·.1), x < 6
  nd : (fs.map (·.1)).Nodup
theorem FV.folded (T : Ties N) (F : FV N m fs m') : m < 64 → Folded N m fs m' := by
  induction F with
  | nil => exact fun h => ⟨h, fun _ _ e => e, fun x hx e => ⟨hx, e⟩, fun _ _ _ => rfl, fun _ _ _ _ _ _ e => e, fun x _ => ⟨(fun h => nomatch h), fun h => absurd h.1 (by rw [h.2]; exact Bool.false_ne_true)⟩, (fun _ h => nomatch h), List.Pairwise.nil⟩
  | @cons m m' u v fs hu hv bu bv ne dom _ ih =>
    intro h
    obtain ⟨h', sb⟩ := sub_bit m h u hu bu
    have I := ih h'
    have un : m'.testBit u = false := by
      cases e : m'.testBit u with
      | false => rfl
      | true => have := I.sub u hu e; rw [sb u hu] at this; simp at this
    refine ⟨I.lt, fun x hx e => ?_, fun x hx e => ?_, fun x hx e => ?_, fun x hx y hy bx by' e => ?_, fun x hx => ?_, fun x hx => ?_, ?_⟩
    · have := I.sub x hx e
      rw [sb x hx, Bool.and_eq_true] at this; exact this.1
    · obtain ⟨a, b⟩ := one_in h hu hv bu bv ne hx e
      exact I.into _ a b
    · rw [hold_cons, show f1 (u, v) x = x from if_neg (fun q => by rw [← (show u = x from q), un] at e; cases e)]
      exact I.fix x hx e
    · obtain ⟨a, b⟩ := one_in h hu hv bu bv ne hx bx
      obtain ⟨c, d⟩ := one_in h hu hv bu bv ne hy by'
      exact I.tie _ a _ c b d (one_tie T hu hv bv dom hx hy bx by' e)
    · rw [List.map_cons, List.mem_cons, I.gone x hx, sb x hx]
      constructor
      · rintro (rfl | ⟨h1, h2⟩)
        · exact ⟨bu, un⟩
        · rw [Bool.and_eq_true] at h1; exact ⟨h1.1, h2⟩
      · rintro ⟨h1, h2⟩
        by_cases e : x = u
        · exact .inl e
        · exact .inr ⟨by rw [h1]; simpa using e, h2⟩
    · rw [List.map_cons, List.mem_cons] at hx
      rcases hx with rfl | hx
      · exact hu
      · exact I.six x hx
    · rw [List.map_cons, List.nodup_cons]
      refine ⟨fun q => ?_, I.nd⟩
      have := ((I.gone u hu).mp q).1
      rw [sb u hu] at this; simp at this
theorem back_id (T : Ties N) {k : Nat} {gs : List (Nat × Nat)} {l : Nat} (G : Folded N k gs l) (st : Stiff N l) (F : FV N m fs m') : m < 64 → (∀ x < 6, m.testBit x = true → k.testBit x = true) → ∀ h : Nat → Nat, (∀ x < 6, l.testBit x = true → h x < 6 ∧ m.testBit (h x) = true) →
    (∀ x < 6, ∀ z < 6, l.testBit x = true → l.testBit z = true → N x z = true → N (h x) (h z) = true) → (∀ x < 6, l.testBit x = true → holdN gs (h x) = x) → ∀ x < 6, l.testBit x = true → holdN gs (holdN fs (h x)) = x := by
  induction F with
  | nil => exact fun _ _ h _ _ h3 x hx bx => h3 x hx bx
  | @cons m m' u v fs hu hv bu bv ne dom _ ih =>
    intro hm hmk h h1 h2 h3 x hx bx
    obtain ⟨hm', sb⟩ := sub_bit m hm u hu bu
    refine ih hm' (fun x hx e => hmk x hx (by rw [sb x hx, Bool.and_eq_true] at e; exact e.1)) (fun x => f1 (u, v) (h x)) (fun x hx bx => one_in hm hu hv bu bv ne (h1 x hx bx).1 (h1 x hx bx).2) (fun x hx z hz bx bz e => one_tie T hu hv bv dom (h1 x hx bx).1 (h1 z hz bz).1 (h1 x hx bx).2 (h1 z hz bz).2 (h2 x hx z hz bx bz e)) ?_ x hx bx
    intro x hx bx
    obtain ⟨a, b⟩ := one_in hm hu hv bu bv ne (h1 x hx bx).1 (h1 x hx bx).2
    have bk : k.testBit (f1 (u, v) (h x)) = true := hmk _ a (by rw [sb _ a, Bool.and_eq_true] at b; exact b.1)
    obtain ⟨c, d⟩ := G.into _ a bk
    by_cases e : holdN gs (f1 (u, v) (h x)) = x
    · exact e
    · obtain ⟨z, hz, bz, n1, n2⟩ := st x hx _ c bx d (Ne.symm e)
      have := one_half dom (h1 z hz bz).1 (h1 z hz bz).2 (h2 x hx z hz bx bz n1)
      have := G.tie _ a _ (h1 z hz bz).1 bk (hmk _ (h1 z hz bz).1 (h1 z hz bz).2) this
      rw [h3 z hz bz, n2] at this; cases this
theorem back_all (T : Ties N) {gs : List (Nat × Nat)} {l : Nat} (G : Folded N 63 gs l) (st : Stiff N l) (F : FV N 63 fs m') : ∀ x < 6, l.testBit x = true → holdN gs (holdN fs x) = x :=
  back_id T G st F (by decide) (fun _ _ e => e) (fun x => x) (fun x hx e => ⟨hx, G.sub x hx e⟩) (fun _ _ _ _ _ _ e => e) fun x hx e => G.fix x hx e
theorem cop_step (T : Ties N) (F : FV N m fs m') : m < 64 → ∀ j < fs.length, ∀ s < 6, ∀ r < 6, m.testBit s = true → m.testBit r = true → N s r = true → N (holdN (fs.take (j + 1)) s) (holdN (fs.take j) r) = true := by
  induction F with
  | nil => exact fun _ j hj => absurd hj (Nat.not_lt_zero _)
  | @cons m m' u v fs hu hv bu bv ne dom _ ih =>
    intro hm j hj s hs r hr bs br h
    obtain ⟨hm', sb⟩ := sub_bit m hm u hu bu
    cases j with
    | zero =>
      show N (f1 (u, v) s) r = true
      exact one_half dom hr br h
    | succ j =>
      obtain ⟨a, b⟩ := one_in hm hu hv bu bv ne hs bs
      obtain ⟨c, d⟩ := one_in hm hu hv bu bv ne hr br
      rw [List.take_succ_cons, List.take_succ_cons, hold_cons, hold_cons]
      exact ih hm' j (Nat.lt_of_succ_lt_succ hj) _ a _ c b d (one_tie T hu hv bv dom hs hr bs br h)
theorem take_six (F : FV N m fs m') : m < 64 → ∀ j, ∀ s < 6, m.testBit s = true → holdN (fs.take j) s < 6 := by
  induction F with
  | nil => intro _ j s hs _; rw [List.take_nil]; exact hs
  | @cons m m' u v fs hu hv bu bv ne dom _ ih =>
    intro hm j s hs bs
    cases j with
    | zero => exact hs
    | succ j =>
      obtain ⟨a, b⟩ := one_in hm hu hv bu bv ne hs bs
      rw [List.take_succ_cons, hold_cons]
      exact ih (sub_bit m hm u hu bu).1 j _ a b
theorem some_left (F : FV N m fs m') : m < 64 → (∃ x < 6, m.testBit x = true) → ∃ x < 6, m'.testBit x = true := by
  induction F with
  | nil => exact fun _ h => h
  | @cons m m' u v fs hu hv bu bv ne dom _ ih =>
    intro hm _
    obtain ⟨hm', sb⟩ := sub_bit m hm u hu bu
    exact ih hm' ⟨v, hv, by rw [sb v hv, bv]; simpa using Ne.symm ne⟩
end
end Mine
end

noncomputable section
open PySem PySem.W PySem.Calls PyProof.Rows
namespace Mine
noncomputable def Cl (N : Nat → Nat → Bool) : List Nat → (Nat → Bool) → Int
  | [], _ => 1
  | k :: ks, S => Cl N ks S - if S k = true then Cl N ks (fun x => S x && N k x) else 0
section
variable {N : Nat → Nat → Bool}
theorem cl_congr : ∀ {ks : List Nat} {S S' : Nat → Bool}, (∀ x ∈ ks, S x = S' x) → Cl N ks S = Cl N ks S'
  | [], _, _, _ => rfl
  | k :: ks, S, S', h => by
    unfold Cl
    rw [cl_congr fun x hx => h x (.tail _ hx), h k (.head _), cl_congr (S := fun x => S x && N k x) (S' := fun x => S' x && N k x) fun x hx => by rw [h x (.tail _ hx)]]
theorem cl_perm {ks ls : List Nat} (p : ks.Perm ls) : (∀ a ∈ ks, ∀ b ∈ ks, N a b = N b a) → ∀ S, Cl N ks S = Cl N ls S := by
  induction p with
  | nil => exact fun _ _ => rfl
  | cons a _ ih =>
    intro sy S
    have ih := ih fun a ha b hb => sy a (.tail _ ha) b (.tail _ hb)
    unfold Cl
    rw [ih, ih]
  | swap a b l =>
    intro sy S
    have e : N a b = N b a := sy a (.tail _ (.head _)) b (.head _)
    unfold Cl
    unfold Cl
    have c : (fun x => (S x && N b x) && N a x) = fun x => (S x && N a x) && N b x := by
      funext x; cases S x <;> cases N b x <;> cases N a x <;> rfl
    simp only [e, c]
    cases S a <;> cases S b <;> cases N b a <;> simp <;> omega
  | trans p q ih1 ih2 =>
    intro sy S
    rw [ih1 sy, ih2 fun a ha b hb => sy a (p.mem_iff.mpr ha) b (p.mem_iff.mpr hb)]
theorem cl_cone {v : Nat} {ks : List Nat} {S : Nat → Bool} (hv : S v = true) (h : ∀ x ∈ ks, S x = true → N v x = true) : Cl N (v :: ks) S = 0 := by
  unfold Cl
  rw [if_pos hv, cl_congr (S := fun x => S x && N v x) (S' := S) fun x hx => ?_, Int.sub_self]
  cases e : S x with
  | false => rfl
  | true => rw [h x hx e]; rfl
theorem cl_fold (T : Ties N) {ks : List Nat} (nd : ks.Nodup) (h6 : ∀ x ∈ ks, x < 6) {S S' : Nat → Bool} {u v : Nat} (hu : u ∈ ks) (hv : v ∈ ks) (su : S u = true) (sv : S v = true) (ne : u ≠ v) (dom : ∀ x < 6, S x = true → N u x = true → N v x = true) (hS : ∀ x ∈ ks, S' x = (S x && x != u)) : Cl N ks S = Cl N ks S' := by
  have sy : ∀ a ∈ ks, ∀ b ∈ ks, N a b = N b a := fun a ha b hb => T.sy a (h6 a ha) b (h6 b hb)
  have p := List.perm_cons_erase hu
  rw [cl_perm p sy S, cl_perm p sy S']
  have hv' : v ∈ ks.erase u := (List.mem_erase_of_ne (Ne.symm ne)).mpr hv
  have un : u ∉ ks.erase u := fun q => (nd.mem_erase_iff.mp q).1 rfl
  have sub : ∀ x ∈ ks.erase u, x ∈ ks := fun x hx => List.mem_of_mem_erase hx
  have z : Cl N (ks.erase u) (fun x => S x && N u x) = 0 := by
    rw [cl_perm (List.perm_cons_erase hv') (fun a ha b hb => sy a (sub a ha) b (sub b hb))]
    refine cl_cone ?_ fun x hx h => ?_
    · rw [sv, T.sy u (h6 u hu) v (h6 v hv), dom u (h6 u hu) su (T.rf u (h6 u hu))]; rfl
    · rw [Bool.and_eq_true] at h
      exact dom x (h6 x (sub x (List.mem_of_mem_erase hx))) h.1 h.2
  have c : Cl N (ks.erase u) S = Cl N (ks.erase u) S' := cl_congr fun x hx => by
    rw [hS x (sub x hx), show (x != u) = true by rw [bne_iff_ne]; exact fun q => un (q ▸ hx), Bool.and_true]
  unfold Cl
  rw [if_pos su, if_neg (by rw [hS u hu]; simp), z, c]
theorem cl_folds (T : Ties N) {ks : List Nat} (nd : ks.Nodup) (h6 : ∀ x, x ∈ ks ↔ x < 6) {m m' : Nat} {fs : List (Nat × Nat)} (F : FV N m fs m') : m < 64 → Cl N ks (m.testBit ·) = Cl N ks (m'.testBit ·) := by
  induction F with
  | nil => exact fun _ => rfl
  | @cons m m' u v fs hu hv bu bv ne dom _ ih =>
    intro hm
    obtain ⟨hm', sb⟩ := sub_bit m hm u hu bu
    rw [← ih hm']
    exact cl_fold T nd (fun x hx => (h6 x).mp hx) ((h6 u).mpr hu) ((h6 v).mpr hv) bu bv ne dom fun x hx => sb x ((h6 x).mp hx)
end
theorem bit_land (a b k : Nat) : bit (Builtin.bitAnd (a : Int) (b : Int)) (k : Int) = (bit (a : Int) (k : Int) && bit (b : Int) (k : Int)) := by
  show bit ((a &&& b : Nat) : Int) (k : Int) = _
  rw [bit_nat, bit_nat, bit_nat, Nat.testBit_and]
noncomputable def tiesN (nn : List Nat) (a b : Nat) : Bool := (nn.getD a 0).testBit b
noncomputable def rowsW (nn : List Nat) (ks : List Nat) (rows : List (Int × Int)) : Int := (rows.map fun p => p.1 * Cl (tiesN nn) ks (fun x => bit p.2 (x : Int))).sum
theorem rows_step (nn : List Nat) (k : Nat) (ks : List Nat) : ∀ rows : List (Int × Int), (∀ p ∈ rows, ∃ c : Nat, p.2 = c) → rowsW nn ks (rows ++ (rows.filter (etest k)).map (emap (nl nn) k)) = rowsW nn (k :: ks) rows := by
  have key : ∀ rows : List (Int × Int), (∀ p ∈ rows, ∃ c : Nat, p.2 = c) → rowsW nn ks rows + rowsW nn ks ((rows.filter (etest k)).map (emap (nl nn) k)) = rowsW nn (k :: ks) rows := by
    intro rows
    induction rows with
    | nil => exact fun _ => rfl
    | cons p rows ih =>
      intro h
      have ih := ih fun q hq => h q (.tail _ hq)
      obtain ⟨c, hc⟩ := h p (.head _)
      have e1 : rowsW nn ks (p :: rows) = p.1 * Cl (tiesN nn) ks (fun x => bit p.2 (x : Int)) + rowsW nn ks rows := rfl
      have e2 : rowsW nn (k :: ks) (p :: rows) = p.1 * Cl (tiesN nn) (k :: ks) (fun x => bit p.2 (x : Int)) + rowsW nn (k :: ks) rows := rfl
      rw [e1, e2, ← ih, List.filter_cons]
      have e3 : Cl (tiesN nn) (k :: ks) (fun x => bit p.2 (x : Int)) = Cl (tiesN nn) ks (fun x => bit p.2 (x : Int)) - if bit p.2 (k : Int) = true then Cl (tiesN nn) ks (fun x => bit p.2 (x : Int) && tiesN nn k x) else 0 := rfl
      rw [e3]
      cases hb : bit p.2 (k : Int) with
      | false =>
        rw [show etest k p = false from hb, if_neg Bool.false_ne_true, if_neg Bool.false_ne_true, Int.sub_zero, Int.add_assoc]
      | true =>
        rw [show etest k p = true from hb, if_pos rfl, if_pos rfl, List.map_cons]
        have e4 : rowsW nn ks (emap (nl nn) k p :: (rows.filter (etest k)).map (emap (nl nn) k)) = -p.1 * Cl (tiesN nn) ks (fun x => bit p.2 (x : Int) && tiesN nn k x) + rowsW nn ks ((rows.filter (etest k)).map (emap (nl nn) k)) := by
          show -p.1 * Cl (tiesN nn) ks (fun x => bit (Builtin.bitAnd p.2 ((nl nn).getD k 0)) (x : Int)) + _ = _
          congr 3
          funext x
          rw [hc, nl_get, bit_land, bit_nat (nn.getD k 0)]; rfl
        rw [e4, Int.mul_sub, Int.neg_mul]
        omega
  intro rows h
  rw [← key rows h]
  unfold rowsW
  rw [List.map_append, List.sum_append]
theorem rows_nat (nn : List Nat) (fl : Nat) : ∀ k, ∀ p ∈ erows (nl nn) (fl : Int) k, ∃ c : Nat, p.2 = c
  | 0, p, h => by rw [List.mem_singleton.mp h]; exact ⟨fl, rfl⟩
  | k + 1, p, h => by
    unfold erows at h
    rcases List.mem_append.mp h with h | h
    · exact rows_nat nn fl k p h
    · obtain ⟨q, hq, rfl⟩ := List.mem_map.mp h
      obtain ⟨c, hc⟩ := rows_nat nn fl k q (List.mem_filter.mp hq).1
      exact ⟨c &&& nn.getD k 0, by show Builtin.bitAnd q.2 _ = _; rw [hc, nl_get]; rfl⟩
theorem euler_cl (nn : List Nat) (fl : Nat) : eulerI (nl nn) (fl : Int) = -Cl (tiesN nn) [0, 1, 2, 3, 4, 5] (fl.testBit ·) := by
  have st : ∀ k ks, rowsW nn ks (erows (nl nn) (fl : Int) (k + 1)) = rowsW nn (k :: ks) (erows (nl nn) (fl : Int) k) := fun k ks => by
    rw [erows]; exact rows_step nn k ks _ (rows_nat nn fl k)
  have e : eulerI (nl nn) (fl : Int) = rowsW nn [] (erows (nl nn) (fl : Int) 6) := by
    unfold eulerI rowsW
    congr 1
    exact List.map_congr_left fun p _ => (Int.mul_one p.1).symm
  rw [e, st, st, st, st, st, st]
  show -1 * Cl (tiesN nn) [0, 1, 2, 3, 4, 5] (fun x => bit (fl : Int) (x : Int)) + 0 = _
  rw [Int.add_zero, Int.neg_mul, Int.one_mul]
  congr 2
  funext x
  exact bit_nat fl x
theorem euler_folds {nn : List Nat} (T : Ties (tiesN nn)) {m m' : Nat} {fs : List (Nat × Nat)} (F : FV (tiesN nn) m fs m') (hm : m < 64) : eulerI (nl nn) (m : Int) = eulerI (nl nn) (m' : Int) := by
  rw [euler_cl, euler_cl, cl_folds T (ks := [0, 1, 2, 3, 4, 5]) (by decide) (fun x => by simp; omega) F hm]
end Mine
end

noncomputable section
open PySem PySem.W PySem.Calls PyProof.Rows
namespace Mine
theorem inv_bit : ∀ n < 64, (63 - n < 64) ∧ ∀ x < 6, (63 - n).testBit x = !n.testBit x := by decide +kernel
theorem high_bit {n x : Nat} (h : n < 64) (hx : ¬ x < 6) : n.testBit x = false := Nat.testBit_lt_two_pow (Nat.lt_of_lt_of_le h (show 2 ^ 6 ≤ 2 ^ x from Nat.pow_le_pow_right (by decide) (by omega)))
theorem inv_int (nn : List Nat) {v : Nat} (h : nn.getD v 0 < 64) : (63 : Int) - (nl nn).getD v 0 = ((63 - nn.getD v 0 : Nat) : Int) := by
  rw [nl_get]; omega
theorem dom_iff {nn : List Nat} (T : Town nn) {m u v : Nat} {turn : Int} (ht : turn ≠ 0) (hv : v < 6) : domI (nl nn) (m : Int) turn (u : Int) (v : Int) = true ↔ u ≠ v ∧ ∀ x < 6, m.testBit x = true → tiesN nn u x = true → tiesN nn v x = true := by
  unfold domI
  rw [Int.toNat_natCast, Int.toNat_natCast, inv_int nn (T.rg v hv), nl_get, Bool.and_eq_true, bne_iff_ne, beq_iff_eq, Int.mul_eq_zero]
  have e : Builtin.bitAnd (Builtin.bitAnd (m : Int) (nn.getD u 0 : Nat)) ((63 - nn.getD v 0 : Nat) : Int) = ((m &&& nn.getD u 0 &&& (63 - nn.getD v 0) : Nat) : Int) := rfl
  rw [e]
  obtain ⟨hlt, hinv⟩ := inv_bit _ (T.rg v hv)
  refine and_congr ⟨fun h q => h (by rw [q]), fun h q => h (by omega)⟩ ⟨fun h x hx bm bu => ?_, fun h => .inr ?_⟩
  · have h : m &&& nn.getD u 0 &&& (63 - nn.getD v 0) = 0 := by
      rcases h with h | h
      · exact absurd h ht
      · omega
    have := congrArg (fun n => n.testBit x) h
    simp only [Nat.testBit_and, Nat.zero_testBit] at this
    rw [bm, show (nn.getD u 0).testBit x = true from bu, hinv x hx] at this
    simpa [tiesN] using this
  · have : m &&& nn.getD u 0 &&& (63 - nn.getD v 0) = 0 := by
      apply Nat.eq_of_testBit_eq
      intro x
      rw [Nat.testBit_and, Nat.testBit_and, Nat.zero_testBit]
      by_cases hx : x < 6
      · rw [hinv x hx]
        cases bm : m.testBit x with
        | false => rfl
        | true =>
          cases bu : (nn.getD u 0).testBit x with
          | false => rfl
          | true => rw [show (nn.getD v 0).testBit x = true from h x hx bm bu]; rfl
      · rw [high_bit hlt hx, Bool.and_false]
    rw [this]; rfl
theorem corner_some {near order : List Int} {left turn a b : Int} (h : corner near left turn order = [a, b]) : (a ∈ order ∧ bit left a = true) ∧ (b ∈ order ∧ bit left b = true) ∧ domI near left turn a b = true := by
  unfold corner cornerI at h
  cases e : (order.filter (bit left)).findSome? fun u => firstOf near left turn u (order.filter (bit left)) with
  | none => rw [e] at h; cases h
  | some r =>
    obtain ⟨u, hu, hr⟩ := List.exists_of_findSome?_eq_some e
    obtain ⟨v, hv, hr'⟩ := Option.map_eq_some_iff.mp hr
    rw [e] at h
    have h : r = [a, b] := h
    rw [← hr'] at h
    cases h
    exact ⟨List.mem_filter.mp hu, List.mem_filter.mp (List.mem_of_find?_eq_some hv), List.find?_some hv⟩
theorem corner_nil {near order : List Int} {left turn : Int} (h : corner near left turn order = []) : ∀ a ∈ order, bit left a = true → ∀ b ∈ order, bit left b = true → domI near left turn a b = false := by
  intro a ha ba b hb bb
  unfold corner cornerI at h
  cases e : (order.filter (bit left)).findSome? fun u => firstOf near left turn u (order.filter (bit left)) with
  | none =>
    have := List.findSome?_eq_none_iff.mp e a (List.mem_filter.mpr ⟨ha, ba⟩)
    have := List.find?_eq_none.mp (Option.map_eq_none_iff.mp this) b (List.mem_filter.mpr ⟨hb, bb⟩)
    exact Bool.eq_false_iff.mpr this
  | some r =>
    obtain ⟨u, hu, hr⟩ := List.exists_of_findSome?_eq_some e
    obtain ⟨v, hv, hr'⟩ := Option.map_eq_some_iff.mp hr
    rw [e] at h
    have h : r = [] := h
    rw [← hr'] at h
    cases h
theorem conv {nn : List Nat} (T : Town nn) {order : List Int} {turn : Int} (ht : turn ≠ 0) (ho : ∀ k ∈ order, 0 ≤ k ∧ k < 6) (hc : ∀ k : Nat, k < 6 → (k : Int) ∈ order) {left l : Int} {fs : List (Nat × Nat)} (F : FoldR (nl nn) order turn left fs l) :
    ∀ m : Nat, left = m → m < 64 → ∃ ml : Nat, l = ml ∧ FV (tiesN nn) m fs ml ∧ Stiff (tiesN nn) ml := by
  induction F with
  | done h =>
    rintro m rfl hm
    refine ⟨m, rfl, .nil, fun u hu v hv bu bv ne => ?_⟩
    have := corner_nil h u (hc u hu) (by rw [bit_nat]; exact bu) v (hc v hv) (by rw [bit_nat]; exact bv)
    have nd := (not_congr (dom_iff T (m := m) ht hv (u := u))).mp (by rw [this]; exact Bool.false_ne_true)
    have : ¬ ∀ x < 6, m.testBit x = true → tiesN nn u x = true → tiesN nn v x = true := fun q => nd ⟨ne, q⟩
    apply Classical.byContradiction
    intro q
    refine this fun x hx bm bu => ?_
    cases e : tiesN nn v x with
    | true => rfl
    | false => exact absurd ⟨x, hx, bm, bu, e⟩ q
  | @step left l' p fs h _ ih =>
    rintro m rfl hm
    obtain ⟨⟨h1, b1⟩, ⟨h2, b2⟩, hd⟩ := corner_some h
    have hu : p.1 < 6 := by have := (ho _ h1).2; omega
    have hv : p.2 < 6 := by have := (ho _ h2).2; omega
    rw [bit_nat] at b1 b2
    obtain ⟨ne, dom⟩ := (dom_iff T ht hv).mp hd
    have hm' := (sub_bit m hm p.1 hu b1).1
    have hle := bit_le m hm p.1 hu (by rw [bit_nat]; exact b1)
    obtain ⟨ml, e, F, st⟩ := ih (m - 2 ^ p.1) (by rw [Int.natCast_sub hle, Int.natCast_pow]; rfl) hm'
    exact ⟨ml, e, .cons (u := p.1) (v := p.2) hu hv b1 b2 ne dom F, st⟩
theorem order_all (c : Int) {k : Nat} (hk : k < 6) : (k : Int) ∈ orderI c := by
  refine List.mem_map.mpr ⟨((k : Int) - c).fmod 6, ?_, ?_⟩
  · have h0 := Int.fmod_nonneg_of_pos ((k : Int) - c) (b := 6) (by decide)
    have h1 := Int.fmod_lt_of_pos ((k : Int) - c) (b := 6) (by decide)
    exact List.mem_map.mpr ⟨(((k : Int) - c).fmod 6).toNat, List.mem_range.mpr (by show _ < 6; omega), by omega⟩
  · rw [Int.fmod_eq_emod_of_nonneg _ (by decide), Int.fmod_eq_emod_of_nonneg _ (by decide)]; omega
theorem spots_iff {m : Nat} {n : Int} : n ∈ spotsI (m : Int) ↔ ∃ k : Nat, n = k ∧ k < 6 ∧ m.testBit k = true := by
  constructor
  · intro h
    obtain ⟨k, e, hk, hb⟩ := spots_nat h
    exact ⟨k, e, hk, by rw [← bit_nat]; exact hb⟩
  · rintro ⟨k, rfl, hk, hb⟩
    exact List.mem_filter.mpr ⟨List.mem_map.mpr ⟨k, List.mem_range.mpr (by show k < 6; exact hk), by omega⟩, by rw [bit_nat]; exact hb⟩
theorem spots_k {m k : Nat} : (k : Int) ∈ spotsI (m : Int) ↔ k < 6 ∧ m.testBit k = true := spots_iff.trans ⟨fun ⟨j, e, h⟩ => by have : k = j := by omega
                                                                                                                                rw [this]; exact h, fun h => ⟨k, rfl, h⟩⟩
theorem spots_nd (m : Int) : (spotsI m).Nodup := List.Pairwise.filter _ (by decide : (rng 0 6).Nodup)
theorem filter_two {α : Type} (p : α → Bool) : ∀ l : List α, (l.filter p).length + (l.filter fun x => !p x).length = l.length
  | [] => rfl
  | a :: l => by
    have := filter_two p l
    rw [List.filter_cons, List.filter_cons]
    cases p a <;> simp <;> omega
theorem spots_count {N : Nat → Nat → Bool} {fs : List (Nat × Nat)} {m : Nat} (D : Folded N 63 fs m) : (fs.length : Int) = 6 - (spotsI (m : Int)).length := by
  have b63 : ∀ x < 6, (63 : Nat).testBit x = true := by decide
  have h1 : (spotsI (m : Int)).length = ((List.range 6).filter fun k => m.testBit k).length := by
    have : spotsI (m : Int) = ((List.range 6).filter fun k => m.testBit k).map fun k : Nat => (0 : Int) + k := by
      show ((List.range 6).map _).filter _ = _
      rw [List.filter_map]
      congr 2
      funext k
      show bit (m : Int) ((0 : Int) + (k : Int)) = _
      rw [Int.zero_add, bit_nat]
    rw [this, List.length_map]
  have h2 := filter_two (fun k => m.testBit k) (List.range 6)
  have h3 : (fs.map (·.1)).length = ((List.range 6).filter fun k => !m.testBit k).length := by
    have e : ∀ x, x ∈ fs.map (·.1) ↔ x ∈ (List.range 6).filter fun k => !m.testBit k := fun x => by
      rw [List.mem_filter, List.mem_range]
      constructor
      · intro h
        have hx := D.six x h
        exact ⟨hx, by rw [((D.gone x hx).mp h).2]; rfl⟩
      · rintro ⟨hx, hb⟩
        exact (D.gone x hx).mpr ⟨b63 x hx, by simpa using hb⟩
    exact Nat.le_antisymm (nodup_len D.nd fun x h => (e x).mp h) (nodup_len (List.Pairwise.filter _ (by decide)) fun x h => (e x).mpr h)
  rw [List.length_map] at h3
  rw [List.length_range] at h2
  omega
end Mine
end

noncomputable section
open PySem PySem.W PySem.Calls PyProof.Rows
namespace Mine
theorem ties_of {nn : List Nat} (T : Town nn) : Ties (tiesN nn) := ⟨T.dg, T.sy⟩
theorem flag_nat (x k : Nat) : Builtin.bitAnd ((x : Int).fdiv (2 ^ ((k : Int)).toNat)) 1 = if x.testBit k = true then 1 else 0 := by
  have e : ((x : Int)).fdiv (2 ^ ((k : Int)).toNat) = ((x / 2 ^ k : Nat) : Int) := by
    rw [Int.toNat_natCast, Int.fdiv_eq_ediv_of_nonneg _ (Int.le_of_lt (Int.pow_pos (by decide)))]
    simp
  rw [e]
  show ((x / 2 ^ k &&& 1 : Nat) : Int) = _
  rw [Nat.and_one_is_mod, Nat.testBit_eq_decide_div_mod_eq]
  by_cases h : x / 2 ^ k % 2 = 1
  · rw [h]; simp
  · rw [show x / 2 ^ k % 2 = 0 by omega]; simp
theorem free_iff {nn : List Nat} {h : Nat} (hn : nn.getD h 0 < 64) {rm : Nat} {k : Nat} : (k : Int) ∈ spotsI (Builtin.bitAnd (rm : Int) (63 - (nl nn).getD h 0)) ↔ k < 6 ∧ rm.testBit k = true ∧ tiesN nn h k = false := by
  rw [inv_int nn hn]
  show (k : Int) ∈ spotsI ((rm &&& (63 - nn.getD h 0) : Nat) : Int) ↔ _
  rw [spots_k]
  refine and_congr_right fun hk => ?_
  rw [Nat.testBit_and, (inv_bit _ hn).2 k hk, Bool.and_eq_true, Bool.not_eq_true']; rfl
section
variable {nn : List Nat} {fs : List (Nat × Nat)} {m : Nat}
theorem spots_ne {x k : Nat} (hk : k < 6) (hb : x.testBit k = true) : spotsI (x : Int) ≠ [] := fun q => by
  have := spots_k.mpr ⟨hk, hb⟩
  rw [q] at this; cases this
noncomputable def CpN (nn : List Nat) (fs : List (Nat × Nat)) (j c r : Nat) : Prop := c < 6 ∧ r < 6 ∧ if j = 0 then c = r else ∃ s < 6, tiesN nn s r = true ∧ c = holdN (fs.take j) s
theorem cop_plain (T : Town nn) (F : FV (tiesN nn) 63 fs m) (h5 : fs.length = 5) : CopL (nl nn) fs (CpN nn fs) := by
  have b63 : ∀ x < 6, (63 : Nat).testBit x = true := by decide
  have Tn := ties_of T
  refine ⟨fun j c r h => ⟨h.1, h.2.1⟩, fun j hj c r h => ?_, fun c r h => h.2.2⟩
  obtain ⟨hc, hr, h⟩ := h
  rw [if_neg (Nat.succ_ne_zero j)] at h
  obtain ⟨s, hs, ht, rfl⟩ := h
  have h6 := take_six F (by decide) j r hr (b63 r hr)
  refine ⟨h6, ?_, ?_, fun e => ⟨hr, hr, ?_⟩, fun ne r' hr' => ⟨h6, ?_, ?_⟩⟩
  · rw [nl_get, bit_nat]
    exact cop_step Tn F (by decide) j (by rw [h5]; exact hj) s hs r hr (b63 s hs) (b63 r hr) ht
  · rw [nl_get]; exact spots_ne hr (T.dg r hr)
  · by_cases h0 : j = 0
    · rw [if_pos h0]
    · rw [if_neg h0]; exact ⟨r, hr, T.dg r hr, e.symm⟩
  · rw [nl_get] at hr'; exact (spots_k.mp hr').1
  · by_cases h0 : j = 0
    · subst h0; exact absurd rfl ne
    · rw [if_neg h0]
      rw [nl_get] at hr'
      exact ⟨r, hr, (spots_k.mp hr').2, rfl⟩
noncomputable def RmN (nn : List Nat) (fs : List (Nat × Nat)) (m : Nat) (room : Int) (c : Nat) : Prop := c < 6 ∧ ∃ rm : Nat, room = rm ∧ (rm = m ∨ ∃ r c0, r < 6 ∧ m.testBit r = true ∧ c0 < 6 ∧ tiesN nn c0 c = true ∧ tiesN nn (holdN fs c0) r = false ∧ rm = m &&& nn.getD r 0)
theorem free_plain (T : Town nn) (D : Folded (tiesN nn) 63 fs m) (st : Stiff (tiesN nn) m) (two : ∀ h < 6, m.testBit h = true → ∃ y < 6, m.testBit y = true ∧ y ≠ h) : FreeL (nl nn) fs (m : Int) (RmN nn fs m) := by
  have b63 : ∀ x < 6, (63 : Nat).testBit x = true := by decide
  have Tn := ties_of T
  have into := fun c hc => D.into c hc (b63 c hc)
  refine ⟨fun c hc => ⟨hc, m, rfl, .inl rfl⟩, fun room c h => ⟨h.1, (into c h.1).1⟩, fun c hc => by rw [nl_get]; exact spots_ne hc (T.dg c hc), ?_, ?_⟩
  · rintro _ c ⟨hc, rm, rfl, h⟩
    obtain ⟨hh, bh⟩ := into c hc
    suffices ∃ x < 6, rm.testBit x = true ∧ tiesN nn (holdN fs c) x = false by
      obtain ⟨x, hx, b1, b2⟩ := this
      intro q
      have := (free_iff (T.rg _ hh)).mpr ⟨hx, b1, b2⟩
      rw [q] at this; cases this
    rcases h with rfl | ⟨r, c0, hr, br, hc0, t1, t2, rfl⟩
    · obtain ⟨y, hy, by', ne⟩ := two _ hh bh
      obtain ⟨x, hx, bx, _, n2⟩ := st y hy _ hh by' bh ne
      exact ⟨x, hx, bx, n2⟩
    · have t3 := D.tie c0 hc0 c hc (b63 c0 hc0) (b63 c hc) t1
      have ne : r ≠ holdN fs c := fun q => by rw [q, t3] at t2; cases t2
      obtain ⟨x, hx, bx, n1, n2⟩ := st r hr _ hh br bh ne
      exact ⟨x, hx, by rw [Nat.testBit_and, bx]; exact n1, n2⟩
  · rintro _ c r c' ⟨hc, rm, rfl, h⟩ hr' hc'
    obtain ⟨hh, bh⟩ := into c hc
    obtain ⟨hr, b1, b2⟩ := (free_iff (T.rg _ hh)).mp hr'
    rw [nl_get] at hc'
    obtain ⟨hc6, tc⟩ := spots_k.mp hc'
    have br : m.testBit r = true := by
      rcases h with rfl | ⟨r0, c0, _, _, _, _, _, rfl⟩
      · exact b1
      · rw [Nat.testBit_and, Bool.and_eq_true] at b1; exact b1.1
    refine ⟨fun q => ?_, hc6, m &&& nn.getD r 0, by rw [nl_get]; rfl, .inr ⟨r, c, hr, br, hc, tc, b2, rfl⟩⟩
    have := D.tie c hc r hr (b63 c hc) (b63 r hr) (by rw [← q]; exact tc)
    rw [D.fix r hr br, b2] at this; cases this
end
theorem plain_law : PlainLaw := by
  intro nn T c fs1 fs2 l1 l2 _ _ _ _ F1 F2
  have Tn := ties_of T
  have b63 : ∀ x < 6, (63 : Nat).testBit x = true := by decide
  obtain ⟨m1, rfl, V1, st1⟩ := conv T (by decide) (fun _ => order_in) (fun _ => order_all c) F1 63 rfl (by decide)
  obtain ⟨m2, rfl, V2, st2⟩ := conv T (by decide) (fun _ h => order_in (List.mem_reverse.mp h)) (fun _ h => List.mem_reverse.mpr (order_all c h)) F2 63 rfl (by decide)
  have D1 := V1.folded Tn (by decide)
  have D2 := V2.folded Tn (by decide)
  have A := back_all Tn D1 st1 V2
  have A' := back_all Tn D2 st2 V1
  have into1 := fun x hx => D1.into x hx (b63 x hx)
  have into2 := fun x hx => D2.into x hx (b63 x hx)
  have back : thereN fs1 (thereN fs2 (spotsI (m1 : Int))) = spotsI (m1 : Int) := by
    unfold thereN
    rw [List.map_map]
    refine (List.map_congr_left fun n hn => ?_).trans (List.map_id' _)
    obtain ⟨k, rfl, hk, bk⟩ := spots_iff.mp hn
    show ((holdN fs1 ((holdN fs2 ((k : Int)).toNat : Int)).toNat : Nat) : Int) = (k : Int)
    rw [Int.toNat_natCast, Int.toNat_natCast, A k hk bk]
  have nd : (thereN fs2 (spotsI (m1 : Int))).Nodup := by
    have h := spots_nd (m1 : Int)
    rw [← back] at h
    exact List.Pairwise.of_map _ (fun a b h e => h (by rw [e])) h
  have perm : (thereN fs2 (spotsI (m1 : Int))).Perm (spotsI (m2 : Int)) := by
    refine (List.perm_ext_iff_of_nodup nd (spots_nd _)).mpr fun n => ⟨fun h => ?_, fun h => ?_⟩
    · obtain ⟨k, hk, rfl⟩ := List.mem_map.mp h
      obtain ⟨k, rfl, hk, bk⟩ := spots_iff.mp hk
      exact spots_k.mpr (into2 k hk)
    · obtain ⟨k, rfl, hk, bk⟩ := spots_iff.mp h
      obtain ⟨a, b⟩ := into1 k hk
      exact List.mem_map.mpr ⟨_, spots_k.mpr ⟨a, b⟩, by rw [Int.toNat_natCast, A' k hk bk]⟩
  have cnt1 := spots_count D1
  have cnt2 := spots_count D2
  have pl := perm.length_eq
  have tl : (thereN fs2 (spotsI (m1 : Int))).length = (spotsI (m1 : Int)).length := List.length_map ..
  obtain ⟨x0, hx0, bx0⟩ := some_left V1 (by decide) ⟨0, by decide, by decide⟩
  have pos : 0 < (spotsI (m1 : Int)).length := List.length_pos_of_mem (spots_k.mpr ⟨hx0, bx0⟩)
  refine ⟨D1.nd, by omega, cnt1, D2.nd, by omega, by omega, fun n hn => ?_, perm, back, ?_, euler_folds Tn V1 (by decide), fun h => ?_, fun h => ?_⟩
  · obtain ⟨k, rfl, hk, bk⟩ := spots_iff.mp hn
    exact (into2 k hk).1
  · unfold thereN
    rw [List.map_map]
    refine List.map_congr_left fun n hn => ?_
    obtain ⟨k, rfl, hk, bk⟩ := spots_iff.mp hn
    show rowI _ _ _ = rowI _ (List.map _ _) _
    unfold rowI
    rw [List.map_map]
    refine List.map_congr_left fun n' hn' => ?_
    obtain ⟨k', rfl, hk', bk'⟩ := spots_iff.mp hn'
    show Builtin.bitAnd (Int.fdiv ((nl nn).getD ((k : Int)).toNat 0) _) 1 = Builtin.bitAnd (Int.fdiv ((nl nn).getD (((holdN fs2 ((k : Int)).toNat : Nat) : Int)).toNat 0) (2 ^ (((holdN fs2 ((k' : Int)).toNat : Nat) : Int)).toNat)) 1
    rw [nl_get, nl_get, flag_nat, flag_nat, Int.toNat_natCast, Int.toNat_natCast, Int.toNat_natCast]
    have e : tiesN nn k k' = tiesN nn (holdN fs2 k) (holdN fs2 k') := by
      rw [Bool.eq_iff_iff]
      refine ⟨fun h => D2.tie k hk k' hk' (b63 k hk) (b63 k' hk') h, fun h => ?_⟩
      have := D1.tie _ (into2 k hk).1 _ (into2 k' hk').1 (b63 _ (into2 k hk).1) (b63 _ (into2 k' hk').1) h
      rwa [A k hk bk, A k' hk' bk'] at this
    show (if tiesN nn k k' = true then (1 : Int) else 0) = if tiesN nn (holdN fs2 k) (holdN fs2 k') = true then 1 else 0
    rw [e]
  · obtain ⟨a, ha⟩ := List.length_eq_one_iff.mp h
    obtain ⟨k, rfl, hk, bk⟩ := spots_iff.mp (show a ∈ spotsI (m1 : Int) by rw [ha]; exact .head _)
    have h5 : fs1.length = 5 := by omega
    refine ⟨k, ha, h5, CpN nn fs1, cop_plain T V1 h5, fun r hr => ⟨hk, hr, r, hr, T.dg r hr, ?_⟩⟩
    have hm := spots_k.mpr (into1 r hr)
    rw [ha] at hm
    have := List.mem_singleton.mp hm
    rw [List.take_of_length_le (by omega)]
    omega
  · refine ⟨RmN nn fs1 m1, free_plain T D1 st1 fun h hh bh => ?_⟩
    apply Classical.byContradiction
    intro q
    have all : ∀ x ∈ spotsI (m1 : Int), x = (h : Int) := fun x hx => by
      obtain ⟨k, rfl, hk, bk⟩ := spots_iff.mp hx
      apply Classical.byContradiction
      intro ne
      exact q ⟨k, hk, bk, fun e => ne (by rw [e])⟩
    have := nodup_len (l' := [(h : Int)]) (spots_nd (m1 : Int)) fun x hx => by rw [all x hx]; exact .head _
    rw [List.length_singleton] at this
    omega
end Mine
end

noncomputable section
open PySem PySem.W PySem.W.X PySem.Calls PyProof.Rows
set_option maxRecDepth 100000
namespace Mine
noncomputable def obAt (K : Frag) (a : Addr) : Obj := (K.lookup a).getD default
noncomputable def fdOf (o : Obj) : FuncData := match o.data with | .func f => f | _ => default
noncomputable def cdOf (o : Obj) : ClassData := match o.data with | .cls c => c | _ => default
noncomputable def vsOf (o : Obj) : Array Value := match o.data with | .fields vs => vs | _ => #[]
noncomputable def esOf (o : Obj) : List DictEntry := match o.data with | .dict es _ => es.toList | _ => []
noncomputable def epOf (o : Obj) : Nat := match o.data with | .dict _ n => n | _ => 0
noncomputable def rfOf : Value → Addr | .ref a => a | _ => 0
noncomputable def stOf : Value → Str | .str x _ => x | _ => default
noncomputable def tkOf : Value → Tok | .str _ t => t | .int _ t => t | _ => default
noncomputable def kyOf (P : Params) (e : DictEntry) : DictEntry := ⟨PyData.keyHash P (stOf e.key), .str (stOf e.key) (tkOf e.key), e.val⟩
noncomputable def gtOf (x : Option (Option Value)) : Value := (x.getD none).getD .none

noncomputable abbrev FnIn (K : Frag) (a : Addr) (n : Str) (st : Stmt) : Prop := K.lookup a = some ⟨(obAt K a).cls, (obAt K a).dict, .func (fnOf n n (paramsOf st) (bodyOf st) (scopeOf st) .none .none (fdOf (obAt K a)).doc (fdOf (obAt K a)).pyModule (fdOf (obAt K a)).annotations (fdOf (obAt K a)).code (fdOf (obAt K a)).closureTuple), (obAt K a).slots⟩
noncomputable def CdIn (K : Frag) (a : Addr) (n : Str) : Bool := codeIn K (fdOf (obAt K a)).code n
theorem FnIn.at {K : Frag} {H : Heap} {a : Addr} {n : Str} {st : Stmt} (X : K.In H) (h : FnIn K a n st) (c : CdIn K a n = true) : FnAt H a n st :=
  ⟨_, _, _, _, _, _, _, _, X _ _ h, codeRec_of X c⟩
noncomputable def ccOf (K : Frag) (f : Addr) : Addr := rfOf (fdOf (obAt K f)).code
noncomputable abbrev MeIn (K : Frag) (f : Addr) (n q : Str) (i : Nat) (dv : Value) : Prop := K.lookup f = some ⟨.type "function", (obAt K f).dict, .func (fnX n q (paramsOf (inCls i (stAt 6))) (bodyOf (inCls i (stAt 6))) (scopeOf (inCls i (stAt 6))) (if i = 1 then [] else [("__class__", 32)]) dv .none (fdOf (obAt K f)).doc (fdOf (obAt K f)).pyModule (fdOf (obAt K f)).annotations (.ref (ccOf K f)) (fdOf (obAt K f)).closureTuple), (obAt K f).slots⟩
noncomputable abbrev MfIn (K : Frag) (f : Addr) : Prop := K.lookup (ccOf K f) = some ⟨(obAt K (ccOf K f)).cls, (obAt K (ccOf K f)).dict, .fields (vsOf (obAt K (ccOf K f))), (obAt K (ccOf K f)).slots⟩
noncomputable def flOf (K : Frag) (f : Addr) : Value := ((vsOf (obAt K (ccOf K f)))[2]?).getD .none
noncomputable abbrev MvIn (K : Frag) (f : Addr) : Prop := (vsOf (obAt K (ccOf K f)))[2]? = some (.str (stOf (flOf K f)) (tkOf (flOf K f)))
noncomputable def MbIn (prog : Program) (K : Frag) (f : Addr) (q : Str) : Bool := codeIn K (.ref (ccOf K f)) q && ((prog.main.file : Str) == stOf (flOf K f))
theorem MeIn.at {prog : Program} {K : Frag} {f : Addr} {n q : Str} {i : Nat} {dv : Value} (h : MeIn K f n q i dv) (h1 : MfIn K f) (h2 : MvIn K f) (h3 : MbIn prog K f q = true) : MethAt prog K f n q i dv :=
  ⟨_, _, _, _, _, _, _, _, _, _, _, _, _, h, (Bool.and_eq_true_iff.mp h3).1, h1, h2, (Bool.and_eq_true_iff.mp h3).2⟩
theorem of_map {α β : Type} {l : List α} {f g : α → β} (h : l.map f = l.map g) : ∀ x ∈ l, f x = g x := List.map_inj_left.mp h
theorem keysLit_map {P : Params} : ∀ l : List DictEntry, KeysLit P (l.map (kyOf P))
  | [] => trivial
  | _ :: r => ⟨⟨_, _, rfl, rfl⟩, keysLit_map r⟩

structure Facts (w : World) (K : Frag) : Prop where
  hf : FnIn K 28 "_get_lineno_width" (stAt 3) ∧ FnIn K 122 "ISEOF" (stAt 58) ∧ FnIn K 129 "_law_cells" (stAt 60) ∧ FnIn K 136 "_law_near" (stAt 61) ∧ FnIn K 141 "_law_spots" (stAt 62) ∧ FnIn K 146 "_law_corner" (stAt 63) ∧ FnIn K 153 "_law_fold" (stAt 64) ∧
    FnIn K 160 "_law_hold" (stAt 65) ∧ FnIn K 165 "_law_widths" (stAt 66) ∧ FnIn K 172 "_law_due" (stAt 67) ∧ FnIn K 177 "_law_euler" (stAt 68) ∧ FnIn K 184 "_law_caught" (stAt 69) ∧ FnIn K 191 "_law_free" (stAt 70) ∧ FnIn K 196 "law" (stAt 71)
  hc : (fns.map fun x => CdIn K x.1 x.2.1) = fns.map fun _ => true
  hg : (glo.map fun x => nsIn K mainGlobals x.1) = glo.map fun x => some (some x.2)
  hn : (blt.map fun x => nsIn K mainGlobals x) = blt.map fun _ => some none
  he : nsIn K mainGlobals "ENDMARKER" = some (some (.int 0 (tkOf (gtOf (nsIn K mainGlobals "ENDMARKER")))))
  hl : nsIn K mainGlobals "_NO_LINENO" = some (some (.str "  --" (tkOf (gtOf (nsIn K mainGlobals "_NO_LINENO")))))
  hk : K.lookup 113 = some ⟨.type "dict", none, .dict ((esOf (obAt K 113)).map (kyOf w.params)).toArray (epOf (obAt K 113)), #[]⟩
  ht : ((List.range 20).map fun k => nsIn K 113 (sgn k)) = (List.range 20).map fun k => some (some (.int ((7 + k : Nat) : Int) (tkOf (gtOf (nsIn K 113 (sgn k))))))
theorem base_of {prog p : Program} {loose : List Str} {mean : ExcName → Option Value} {w : World} {mg mb : Str → Option Value} {H : Heap} {K : Frag} (X : K.In H) (T : Top p loose mean mg mb H) (C : AccK prog K) (F : Facts w K) : Base prog w mg mb H :=
  ⟨⟨K, X, C⟩, ⟨_, mapOf_K (prog := prog) X F.hk (keysLit_map _), fun k h => ⟨_, find_K F.hk (of_map F.ht k (List.mem_range.mpr h))⟩⟩, fun x hx => by
      have c := of_map F.hc x hx
      revert c
      revert x
      simp only [fns, List.forall_mem_cons]
      exact ⟨F.hf.1.at X, F.hf.2.1.at X, F.hf.2.2.1.at X, F.hf.2.2.2.1.at X, F.hf.2.2.2.2.1.at X, F.hf.2.2.2.2.2.1.at X, F.hf.2.2.2.2.2.2.1.at X, F.hf.2.2.2.2.2.2.2.1.at X, F.hf.2.2.2.2.2.2.2.2.1.at X, F.hf.2.2.2.2.2.2.2.2.2.1.at X, F.hf.2.2.2.2.2.2.2.2.2.2.1.at X, F.hf.2.2.2.2.2.2.2.2.2.2.2.1.at X, F.hf.2.2.2.2.2.2.2.2.2.2.2.2.1.at X, F.hf.2.2.2.2.2.2.2.2.2.2.2.2.2.at X, fun _ h => nomatch h⟩,
    fun x hx => mg_of X T.g (of_map F.hg x hx), fun x hx => mg_none_of X T.g (of_map F.hn x hx), ⟨_, mg_of X T.g F.he⟩, ⟨_, mg_of X T.g F.hl⟩, T.g, T.b, T.nolimit, T.builtins⟩

noncomputable def tpOf (o : Obj) : Value := match o.data with | .seq vs _ => vs.getD 0 .none | _ => .none
noncomputable def slOf (o : Obj) (i : Nat) : Option Value := o.slots.getD i .none
theorem accK_of {prog : Program} {K : Frag} (h1 : (accTab.map fun p => findIn K (.ref 108) p.1) = accTab.map fun p => some p.2) (h2 : mroIn K 108 (.type "list") = some true)
    (h3 : K.lookup 108 = some (excClassObj (cdOf (obAt K 108)).name "_Accumulator" 108 107 (cdOf (obAt K 108)).bases [.type "list", .type "object"] true (cdOf (obAt K 108)).slotNames (cdOf (obAt K 108)).subclasses false (cdOf (obAt K 108)).collection (obAt K 108).dict
      (slOf (obAt K 108) 0) (slOf (obAt K 108) 1) (slOf (obAt K 108) 2) (slOf (obAt K 108) 3) (slOf (obAt K 108) 5) "list.__new__"))
    (m1 : MeIn K 45 "__init__" "_Accumulator.__init__" 0 (.ref 37) ∧ MeIn K 52 "push" "_Accumulator.push" 1 .none ∧ MeIn K 68 "pop" "_Accumulator.pop" 3 .none ∧ MeIn K 105 "part_count" "_Accumulator.part_count" 8 .none)
    (m2 : MfIn K 45 ∧ MfIn K 52 ∧ MfIn K 68 ∧ MfIn K 105) (m3 : MvIn K 45 ∧ MvIn K 52 ∧ MvIn K 68 ∧ MvIn K 105)
    (m4 : MbIn prog K 45 "_Accumulator.__init__" = true ∧ MbIn prog K 52 "_Accumulator.push" = true ∧ MbIn prog K 68 "_Accumulator.pop" = true ∧ MbIn prog K 105 "_Accumulator.part_count" = true)
    (h4 : K.lookup 37 = some { cls := .type "tuple", data := .seq #[.int 0 (tkOf (tpOf (obAt K 37)))] }) (h5 : K.lookup 32 = some ⟨(obAt K 32).cls, (obAt K 32).dict, .cell (some (.ref 108)), (obAt K 32).slots⟩)
    (h6 : nsIn K cStatics "thirdparty.any" = some none) (h7 : K.lookup 1 = some (obAt K 1)) (h8 : (prog.main.scope.names.lookup ("super" : Str)).isSome = false) : AccK prog K :=
  ⟨of_map h1, h2, ⟨_, _, _, _, _, _, _, _, _, _, _, h3⟩, m1.1.at m2.1 m3.1 m4.1, ⟨_, h4⟩, m1.2.1.at m2.2.1 m3.2.1 m4.2.1, m1.2.2.1.at m2.2.2.1 m3.2.2.1 m4.2.2.1, m1.2.2.2.at m2.2.2.2 m3.2.2.2 m4.2.2.2, ⟨_, _, _, h5⟩, h6, ⟨_, h7⟩, h8⟩
theorem ends_true {c : ClaimW} {cl : Str → Option Addr} {mean : ExcName → Option Value} {args : List WData} {s₁ : Shared} {h : Heap} {t : Nat} (k : Ext s₁.heap h) (hg : s₁.gens = #[]) (hr : ∀ cls, c.raises args cls = false) (hp : c.post args (.bool true) args = true) :
    GoodWG c cl mean args s₁ (.ok (.ret (.bool true))) { s₁ with heap := h, toks := t } :=
  ⟨.inl ⟨_, _, [], rfl, hr, ReadsW.bool true, hp, fun _ => ⟨List.nodup_nil, fun _ hm => (nomatch hm)⟩⟩, .of_keep k, rfl, .of_eq hg⟩
theorem finish {p q : Program} {loose : List Str} {mean mean' : ExcName → Option Value} {w : World} {mg mb : Str → Option Value} {s₁ : Shared} {K : Frag} {c : ClaimW} {cl : Str → Option Addr} {args : List WData} {a : Addr} {vs : List Value} {ns : List Int}
    (X : K.In s₁.heap) (T : Top q loose mean mg mb s₁.heap) (C : AccK p K) (F : Facts w K) (hg : s₁.gens = #[]) (hl : s₁.heap.IsList a vs.toArray) (hi : IntsAre vs ns) (hz : ns.length ≤ 1000) (hr : ∀ cls, c.raises args cls = false) (hp : c.post args (.bool true) args = true) :
    wpAny (model p w) callerA (call (.ref 196) [.ref a]) (fun v s' => GoodWG c cl mean' args s₁ (.ok (.ret v)) s') (fun e s' => GoodWG c cl mean' args s₁ (.error e) s') s₁ :=
  law_walk plain_law (base_of X T C F) ⟨_, hl, hi⟩ hz callerA _ _ s₁ ⟨rfl, by decide, by decide⟩ (Ext.refl _) fun v h' tk k e => by
    cases (show v = .bool true from e)
    exact ends_true k hg hr hp
end Mine
end
open PySem PySem.W PySem.W.X PyProof.Rows
namespace Mine
noncomputable def row : OpenLaw := by
  refine haveI : PySem.Challenge.rw_wk0024_01 = ?s := (by
    delta PySem.Challenge.rw_wk0024_01 PySem.Challenge.pw_wk0024_01
    simp only [Str.ofString_eq_toList, String.reduceToList, List.map_cons, List.map_nil, Char.reduceToNat]
    exact rfl); ?s
theorem row_eq : PySem.Challenge.rw_wk0024_01 = row := rfl
end Mine
set_option maxRecDepth 100000 in
set_option maxHeartbeats 0 in
theorem PySem.Challenge.cw_wk0024_01_holds : PySem.Challenge.rw_wk0024_01.Holds := by
  rw [Mine.row_eq]; delta Mine.row
  w_on; o_law; z_head; (case hw => w_witness2); k_fill
  intro w s₀ s₁ mg mb G y fa o pm cd doc dV kV ho hd hcd hD hmg hg args vals as L hpre hlay hrd hwl hlo
  z_open y L KX ZH ZN ZT
  refine Ground.open G ?_
  intro T B D TE TW
  wrow_args hpre hlay hrd hwl hlo
  x_fa T KX hmg
  refine Mine.finish KX T ?_ ?_ hg (by assumption) (by assumption) (by omega) (fun _ => by kernel_rfl) (by kernel_rfl)
  · refine Mine.accK_of ?_ ?_ ?_ ⟨?_, ?_, ?_, ?_⟩ ⟨?_, ?_, ?_, ?_⟩ ⟨?_, ?_, ?_, ?_⟩ ⟨?_, ?_, ?_, ?_⟩ ?_ ?_ ?_ ?_ ?_
    all_goals kernel_rfl
  · refine ⟨⟨?_, ?_, ?_, ?_, ?_, ?_, ?_, ?_, ?_, ?_, ?_, ?_, ?_, ?_⟩, ?_, ?_, ?_, ?_, ?_, ?_, ?_⟩
    all_goals kernel_rfl
