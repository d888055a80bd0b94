import PyProof.Rows.All
import Wide.All
import OpenK.AllK
import Wide.FinOn
import PySem.Challenge.RW_oc0098_01
set_option Elab.async false

-- HD
section
open PySem PySem.W PyProof.Rows
namespace Mine
set_option maxRecDepth 100000
set_option maxHeartbeats 8000000
open_top hd for PySem.Challenge.rw_oc0098_01
end Mine
end

-- M1
section
open PySem PySem.W PyProof.Rows PySem.Calls PySem.Spec
set_option maxRecDepth 100000
set_option maxHeartbeats 1000000
namespace Mine

noncomputable abbrev PG : Program := Challenge.rw_oc0098_01.row.prog
noncomputable abbrev KF (w : World) : Frag := hd.heap_39 w.params
noncomputable abbrev MM (w : World) : Model := model PG w

noncomputable def Ext (h h' : Heap) : Prop := ∀ b o, h.get? b = some o → h'.get? b = some o
theorem Ext.refl (h : Heap) : Ext h h := fun _ _ e => e
theorem Ext.trans {a b c : Heap} (x : Ext a b) (y : Ext b c) : Ext a c := fun q o e => y q o (x q o e)

structure Okk (A : Around) (n : Nat) : Prop where
  hd : A.handled = none
  dp : A.depth + n < recursionLimit
  un : A.units + 100 * n < cLine
theorem Okk.down {A : Around} {n k : Nat} (x : Okk A n) (hk : k ≤ n) : Okk A k := ⟨x.hd, Nat.lt_of_le_of_lt (Nat.add_le_add_left hk _) x.dp, Nat.lt_of_le_of_lt (Nat.add_le_add_left (Nat.mul_le_mul_left _ hk) _) x.un⟩
theorem Okk.deeper {A : Around} {n : Nat} {env : Env} (x : Okk A (n + 1)) : Okk (A.deeper env) n := by
  obtain ⟨a, b, c⟩ := x
  refine ⟨a, ?_, ?_⟩
  · show A.depth + 1 + n < _; omega
  · show A.units + 3 + 100 * n < _; omega
structure Grd (w : World) (h : Heap) : Prop where
  K : (KF w).In h
  nl : h.NoLimit
  gb : ∃ mg mb, h.Ns mainGlobals mg ∧ h.Ns builtinsNs mb ∧ ∀ x : Str, x ≠ "__name__" → mb x = bootBuiltins x
theorem Grd.ext {w : World} {h h' : Heap} (G : Grd w h) (x : Ext h h') : Grd w h' :=
  ⟨fun a o e => x _ _ (G.K a o e), G.nl.keeps x, let ⟨mg, mb, a, b, c⟩ := G.gb; ⟨mg, mb, a.keeps x, b.keeps x, c⟩⟩

/-- a name's value, in every heap that keeps h -/
noncomputable def Lk (w : World) (h : Heap) (env : Env) (x : Str) (v : Value) : Prop :=
  ∀ (A : Around) (s : Shared) (Q : Value → Shared → Prop) (E : Value → Shared → Prop) (pos : Pos), Ext h s.heap → Q v s → wpAny (MM w) A (eval (.Name x pos) env) Q E s
theorem Lk.ext {w : World} {h h' : Heap} {env : Env} {x : Str} {v : Value} (l : Lk w h env x v) (e : Ext h h') : Lk w h' env x v :=
  fun A s Q E pos k q => l A s Q E pos (e.trans k) q

structure FnEnv (env : Env) : Prop where
  kind : env.scope.kind = .function
  gl : env.globals = mainGlobals
  bi : env.builtins = builtinsNs

section
variable {w : World} {h : Heap} {env : Env} {x : Str} {v : Value}
theorem Lk.loc {m : Str → Option Value} (hn : h.Ns env.locals m) (hv : m x = some v) (he : FnEnv env) (hx : env.kindOf x = some .local) (hd : (x == ("__debug__" : Str)) = false) : Lk w h env x v :=
  fun _ _ _ _ _ k q => wpAny_Name (wpAny_loadName_local he.kind hx (hn.keeps k) hv q) hd
theorem Lk.glob (G : Grd w h) (he : FnEnv env) (hx : env.kindOf x = some .globalImplicit) (e : nsIn (KF w) mainGlobals x = some (some v)) (hd : (x == ("__debug__" : Str)) = false) : Lk w h env x v := by
  intro A s Q E pos k q
  obtain ⟨mg, mb, g, b, _⟩ := G.gb
  exact Name_function_global he.kind hx (loadGlobal_global (by rw [he.gl]; exact g.keeps k) (mg_of G.K g e) q) hd
theorem Lk.blt (G : Grd w h) (he : FnEnv env) (hx : env.kindOf x = some .globalImplicit) (e : nsIn (KF w) mainGlobals x = some none) (hb : bootBuiltins x = some v) (hn : x ≠ "__name__") (hd : (x == ("__debug__" : Str)) = false) : Lk w h env x v := by
  intro A s Q E pos k q
  obtain ⟨mg, mb, g, b, c⟩ := G.gb
  exact Name_function_global he.kind hx (loadGlobal_builtin (by rw [he.gl]; exact g.keeps k) (mg_none_of G.K g e) (by rw [he.bi]; exact b.keeps k) (by rw [c x hn]; exact hb) q) hd
end

/-- an expression, in every state that keeps h: its value v, the heap before and behind -/
noncomputable def Ev (w : World) (n : Nat) (h : Heap) (env : Env) (e : Expr) (P : Value → Heap → Heap → Prop) : Prop :=
  ∀ (A : Around) (s : Shared) (Q : Value → Shared → Prop) (E : Value → Shared → Prop), Okk A n → Ext h s.heap →
    (∀ v h' tk, Ext s.heap h' → P v s.heap h' → Q v { s with heap := h', toks := tk }) → wpAny (MM w) A (eval e env) Q E s
/-- a call, likewise -/
noncomputable def Cl (w : World) (n : Nat) (h : Heap) (f : Value) (args : List Value) (P : Value → Heap → Heap → Prop) : Prop :=
  ∀ (A : Around) (s : Shared) (Q : Value → Shared → Prop) (E : Value → Shared → Prop), Okk A n → Ext h s.heap →
    (∀ v h' tk, Ext s.heap h' → P v s.heap h' → Q v { s with heap := h', toks := tk }) → wpAny (MM w) A (call f args) Q E s
/-- a test, likewise -/
noncomputable def Tr (w : World) (n : Nat) (h : Heap) (env : Env) (e : Expr) (b : Bool) : Prop :=
  ∀ (A : Around) (s : Shared) (Q : Bool → Shared → Prop) (E : Value → Shared → Prop), Okk A n → Ext h s.heap →
    (∀ h' tk, Ext s.heap h' → Q b { s with heap := h', toks := tk }) → wpAny (MM w) A (isTrue e env (eval e env)) Q E s

noncomputable abbrev isI (i : Int) : Value → Heap → Heap → Prop := fun v _ _ => ∃ t, v = .int i t
noncomputable abbrev isS (x : Str) : Value → Heap → Heap → Prop := fun v _ _ => ∃ t, v = .str x t
noncomputable abbrev isB (b : Bool) : Value → Heap → Heap → Prop := fun v _ _ => v = .bool b
noncomputable abbrev isV (u : Value) : Value → Heap → Heap → Prop := fun v _ _ => v = u
/-- a new list of these values -/
inductive isL (P : List Value → Prop) (v : Value) (h h' : Heap) : Prop
  | mk (T : Addr) (vs : List Value) (e : v = .ref T) (hn : h.get? T = none) (hl : h'.IsList T vs.toArray) (hp : P vs) : isL P v h h'

section
variable {w : World} {n : Nat} {h : Heap} {env : Env}
theorem Ev.mono {e : Expr} {P P' : Value → Heap → Heap → Prop} (x : Ev w n h env e P) (hp : ∀ v a b, Ext h a → Ext a b → P v a b → P' v a b) : Ev w n h env e P' :=
  fun A s Q E ok k q => x A s Q E ok k fun v h' tk e p => q v h' tk e (hp v _ _ k e p)
theorem Ev.ext {e : Expr} {P : Value → Heap → Heap → Prop} {h' : Heap} (x : Ev w n h env e P) (k : Ext h h') : Ev w n h' env e P :=
  fun A s Q E ok k' q => x A s Q E ok (k.trans k') q
theorem Ev.up {e : Expr} {P : Value → Heap → Heap → Prop} {n' : Nat} (x : Ev w n h env e P) (hn : n ≤ n') : Ev w n' h env e P :=
  fun A s Q E ok k' q => x A s Q E (ok.down hn) k' q
theorem Cl.ext {f : Value} {args : List Value} {P : Value → Heap → Heap → Prop} {h' : Heap} (x : Cl w n h f args P) (k : Ext h h') : Cl w n h' f args P :=
  fun A s Q E ok k' q => x A s Q E ok (k.trans k') q
theorem Cl.up {f : Value} {args : List Value} {P : Value → Heap → Heap → Prop} {n' : Nat} (x : Cl w n h f args P) (hn : n ≤ n') : Cl w n' h f args P :=
  fun A s Q E ok k' q => x A s Q E (ok.down hn) k' q
theorem Cl.mono {f : Value} {args : List Value} {P P' : Value → Heap → Heap → Prop} (x : Cl w n h f args P) (hp : ∀ v a b, Ext h a → Ext a b → P v a b → P' v a b) : Cl w n h f args P' :=
  fun A s Q E ok k q => x A s Q E ok k fun v h' tk e p => q v h' tk e (hp v _ _ k e p)

theorem Ev.name {x : Str} {v : Value} {pos : Pos} (l : Lk w h env x v) : Ev w n h env (.Name x pos) (isV v) :=
  fun A s Q E _ k q => l A s Q E pos k (q v s.heap s.toks (.refl _) rfl)
theorem Ev.int {i : Int} {k : Nat} {pos : Pos} : Ev w n h env (.Constant (.int i) k pos) (isI i) :=
  fun _ s _ _ _ _ q => wpAny_Constant_int (q _ s.heap _ (.refl _) ⟨_, rfl⟩)
theorem Ev.str {x : Str} {k : Nat} {pos : Pos} : Ev w n h env (.Constant (.str x) k pos) (isS x) :=
  fun _ s _ _ _ _ q => wpAny_Constant_str (q _ s.heap _ (.refl _) ⟨_, rfl⟩)
theorem Ev.bool {b : Bool} {k : Nat} {pos : Pos} : Ev w n h env (.Constant (.bool b) k pos) (isB b) :=
  fun _ s _ _ _ _ q => wpAny_Constant_bool (q _ s.heap s.toks (.refl _) rfl)

end
end Mine
end

-- M2
section
open PySem PySem.W PyProof.Rows PySem.Calls PySem.Spec
set_option maxRecDepth 100000
set_option maxHeartbeats 1000000
namespace Mine

noncomputable def Anti (P : Value → Heap → Heap → Prop) : Prop := ∀ v h1 h2 h3, Ext h1 h2 → P v h2 h3 → P v h1 h3
theorem Ext.none {h h' : Heap} (x : Ext h h') {a : Addr} (e : h'.get? a = none) : h.get? a = none := by
  cases q : h.get? a with
  | none => rfl
  | some o => rw [x a o q] at e; cases e
theorem Ext.push (h : Heap) (o : Obj) : Ext h (h.push o) := fun _ _ e => Heap.get?_push_of_some _ e
theorem anti_I (i : Int) : Anti (isI i) := fun _ _ _ _ _ p => p
theorem anti_S (x : Str) : Anti (isS x) := fun _ _ _ _ _ p => p
theorem anti_B (x : Bool) : Anti (isB x) := fun _ _ _ _ _ p => p
theorem anti_V (x : Value) : Anti (isV x) := fun _ _ _ _ _ p => p
theorem anti_L (P : List Value → Prop) : Anti (isL P) := fun _ _ _ _ e p => let ⟨T, vs, a, b, c, d⟩ := p; ⟨T, vs, a, e.none b, c, d⟩
theorem keptExt (h : Heap) : KeptH (Ext h) := fun h' o e => e.trans (Ext.push h' o)

noncomputable def Bop (w : World) (n : Nat) (op : Operator) (a b : Value) (h : Heap) (P : Value → Heap → Heap → Prop) : Prop :=
  ∀ (A : Around) (s : Shared) (Q : Value → Shared → Prop) (E : Value → Shared → Prop), Okk A n → Ext h s.heap →
    (∀ v h' tk, Ext s.heap h' → P v s.heap h' → Q v { s with heap := h', toks := tk }) → wpAny (MM w) A (binaryOp op a b) Q E s
noncomputable def Cmp (w : World) (n : Nat) (op : CmpOp) (a b : Value) (h : Heap) (c : Bool) : Prop :=
  ∀ (A : Around) (s : Shared) (Q : Value → Shared → Prop) (E : Value → Shared → Prop), Okk A n → Ext h s.heap →
    (∀ h' tk, Ext s.heap h' → Q (.bool c) { s with heap := h', toks := tk }) → wpAny (MM w) A (compareOp op a b) Q E s
noncomputable def Evs (w : World) (n : Nat) (h : Heap) (env : Env) (es : List Expr) (P : List Value → Heap → Heap → Prop) : Prop :=
  ∀ (A : Around) (s : Shared) (Q : List Value → Shared → Prop) (E : Value → Shared → Prop) (pos : Pos), Okk A n → Ext h s.heap →
    (∀ vs h' tk, Ext s.heap h' → P vs s.heap h' → Q vs { s with heap := h', toks := tk }) → wpAny (MM w) A (spliced (backTo pos (starEach es env))) Q E s

section
variable {w : World} {n : Nat} {h : Heap} {env : Env} {P P1 P2 P3 : Value → Heap → Heap → Prop} {l r e : Expr} {pos : Pos}
theorem Ev.binop {op : Operator} (hl : Ev w n h env l P1) (hr : Ev w n h env r P2)
    (hop : ∀ a b h1 h2 h3, Ext h h1 → Ext h1 h2 → Ext h2 h3 → P1 a h1 h2 → P2 b h2 h3 → Bop w n op a b h3 P) (an : Anti P) : Ev w n h env (.BinOp l op r pos) P := by
  intro A s Q E ok k q
  refine wpAny_BinOp (hl A s _ E ok k fun a h2 tk e p => hr A _ _ E ok (k.trans e) fun b h3 tk' e' p' => ?_)
  exact hop a b s.heap h2 h3 k e e' p p' A _ Q E ok (.refl _) fun v h' tk'' e'' pv => q v h' tk'' ((e.trans e').trans e'') (an _ _ _ _ (e.trans e') pv)
theorem Ev.cmp {op : CmpOp} {c : Bool} (hl : Ev w n h env l P1) (hr : Ev w n h env r P2)
    (hop : ∀ a b h1 h2 h3, Ext h h1 → Ext h1 h2 → Ext h2 h3 → P1 a h1 h2 → P2 b h2 h3 → Cmp w n op a b h3 c) (hm : behindInMarks op r = false := by with_unfolding_all rfl) : Ev w n h env (.Compare l [op] [r] pos) (isB c) := by
  intro A s Q E ok k q
  refine wpAny_Compare1 (hl A s _ E ok k fun a h2 tk e p => hr A _ _ E ok (k.trans e) fun b h3 tk' e' p' => ?_) hm
  exact hop a b s.heap h2 h3 k e e' p p' A _ Q E ok (.refl _) fun h' tk'' e'' => q _ h' tk'' ((e.trans e').trans e'') rfl
theorem Tr.cmp {op : CmpOp} {c : Bool} (hl : Ev w n h env l P1) (hr : Ev w n h env r P2)
    (hop : ∀ a b h1 h2 h3, Ext h h1 → Ext h1 h2 → Ext h2 h3 → P1 a h1 h2 → P2 b h2 h3 → Cmp w n op a b h3 c) (hm : behindInMarks op r = false := by with_unfolding_all rfl) : Tr w n h env (.Compare l [op] [r] pos) c := by
  intro A s Q E ok k q
  refine wpAny_isTrue_Compare1 (hl A s _ E ok k fun a h2 tk e p => hr A _ _ E ok (k.trans e) fun b h3 tk' e' p' => ?_) hm
  exact hop a b s.heap h2 h3 k e e' p p' A _ _ E ok (.refl _) fun h' tk'' e'' => wpAny_truthy_bool (q h' tk'' ((e.trans e').trans e''))
theorem Tr.ofB {c : Bool} (x : Ev w n h env e (isB c)) (he : ∀ whole, isTrue e env whole = (do let v ← whole; standAt e.pos; holding [v] (truthy v)) := by intro _; rfl) : Tr w n h env e c := by
  intro A s Q E ok k q
  refine wpAny_isTrue_value (x A s _ E ok k fun v h' tk e p => ?_) (he _)
  rw [p]
  exact wpAny_truthy_bool (q h' tk e)
theorem Ev.ifT {t b o : Expr} (x : Tr w n h env t true) (y : Ev w n h env b P) (an : Anti P) : Ev w n h env (.IfExp t b o pos) P := by
  intro A s Q E ok k q
  refine wpAny_IfExp (x A s _ E ok k fun h' tk e => ?_)
  exact y A _ Q E ok (k.trans e) fun v h'' tk' e' p => q v h'' tk' (e.trans e') (an _ _ _ _ e p)
theorem Ev.ifF {t b o : Expr} (x : Tr w n h env t false) (y : Ev w n h env o P) (an : Anti P) : Ev w n h env (.IfExp t b o pos) P := by
  intro A s Q E ok k q
  refine wpAny_IfExp (x A s _ E ok k fun h' tk e => ?_)
  exact y A _ Q E ok (k.trans e) fun v h'' tk' e' p => q v h'' tk' (e.trans e') (an _ _ _ _ e p)
theorem Ev.neg {i : Int} (x : Ev w n h env e (isI i)) : Ev w n h env (.UnaryOp .USub e pos) (isI (-i)) := by
  intro A s Q E ok k q
  refine wpAny_UnaryOp (x A s _ E ok k fun v h' tk e p => ?_)
  obtain ⟨t, rfl⟩ := p
  exact PyProof.Rows.neg_int (q _ h' _ e ⟨_, rfl⟩)

-- operations on values
variable {a b : Int} {t u : Tok} {x y : Str}
theorem Bop.addI : Bop w n .Add (.int a t) (.int b u) h (isI (a + b)) := fun _ s _ _ _ _ q => PyProof.Rows.add_int (q _ s.heap _ (.refl _) ⟨_, rfl⟩)
theorem Bop.subI : Bop w n .Sub (.int a t) (.int b u) h (isI (a - b)) := fun _ s _ _ _ _ q => PyProof.Rows.sub_int (q _ s.heap _ (.refl _) ⟨_, rfl⟩)
theorem Bop.modI (hb : b ≠ 0) : Bop w n .Mod (.int a t) (.int b u) h (isI (a.fmod b)) := fun _ s _ _ _ _ q => mod_int' hb (q _ s.heap _ (.refl _) ⟨_, rfl⟩)
theorem Bop.divI (hb : b ≠ 0) (hp : b.natAbs < 1073741824) : Bop w n .FloorDiv (.int a t) (.int b u) h (isI (a.fdiv b)) := fun _ s _ _ _ _ q => floordiv_int hb (q _ s.heap _ (.refl _) ⟨_, rfl⟩) (.inl (PyProof.noPylong_small hp))
theorem Bop.powI (hn : 0 ≤ b) (hn2 : b ≤ 1000000) (ha : a.natAbs < 2 ^ 64) : Bop w n .Pow (.int a t) (.int b u) h (isI (a ^ b.toNat)) := fun _ s _ _ _ _ q => pow_int_small hn hn2 ha (q _ s.heap _ (.refl _) ⟨_, rfl⟩)
theorem Bop.andI : Bop w n .BitAnd (.int a t) (.int b u) h (isI (Builtin.bitAnd a b)) := fun _ s _ _ _ _ q => and_int (q _ s.heap _ (.refl _) ⟨_, rfl⟩)
theorem Bop.addS (hz : x.length + y.length ≤ sizeLine) : Bop w n .Add (.str x t) (.str y u) h (isS (x ++ y)) := fun _ s _ _ _ _ q => PyProof.Rows.add_str (fun _ _ => q _ s.heap _ (.refl _) ⟨_, rfl⟩) hz
theorem Cmp.eqI : Cmp w n .Eq (.int a t) (.int b u) h (a == b) := fun _ s _ _ _ _ q => PyProof.Rows.eq_int (q s.heap s.toks (.refl _))
theorem Cmp.neI : Cmp w n .NotEq (.int a t) (.int b u) h (a != b) := fun _ s _ _ _ _ q => PyProof.Rows.ne_int (q s.heap s.toks (.refl _))
theorem Cmp.ltI : Cmp w n .Lt (.int a t) (.int b u) h (decide (a < b)) := fun _ s _ _ _ _ q => PyProof.Rows.lt_int (q s.heap s.toks (.refl _))
theorem Cmp.eqS : Cmp w n .Eq (.str x t) (.str y u) h (x == y) := fun _ s _ _ _ _ q => PyProof.Rows.eq_str (q s.heap s.toks (.refl _))
theorem Cmp.neS : Cmp w n .NotEq (.str x t) (.str y u) h (x != y) := fun _ s _ _ _ _ q => PyProof.Rows.ne_str (q s.heap s.toks (.refl _))
theorem Cmp.ltS : Cmp w n .Lt (.str x t) (.str y u) h (decide (x.cps.toList < y.cps.toList)) := fun _ s _ _ _ _ q => PyProof.Rows.lt_str (q s.heap s.toks (.refl _))
theorem Cmp.gtS : Cmp w n .Gt (.str x t) (.str y u) h (decide (y.cps.toList < x.cps.toList)) := fun _ s _ _ _ _ q => PySem.P.gt_str (q s.heap s.toks (.refl _))
theorem Cmp.eqB {c d : Bool} : Cmp w n .Eq (.bool c) (.bool d) h (c == d) := fun _ s _ _ _ _ q => PyProof.Rows.eq_bool (q s.heap s.toks (.refl _))
theorem Cmp.inS : Cmp w n .In (.str y u) (.str x t) h (!(Builtin.Str.occurrences x y 0 x.length 1).isEmpty) := fun _ s _ _ _ _ q => PyProof.Rows.in_str (q s.heap s.toks (.refl _))
theorem Cmp.ninS : Cmp w n .NotIn (.str y u) (.str x t) h ((Builtin.Str.occurrences x y 0 x.length 1).isEmpty) := fun _ s _ _ _ _ q => PyProof.Rows.notIn_str (by rw [Bool.not_not]; exact q s.heap s.toks (.refl _))
theorem Cmp.inLS {T : Addr} {vs : List Value} {ys : List Str} (hl : h.IsList T vs.toArray) (hi : StrsAre vs ys) : Cmp w n .In (.str x t) (.ref T) h (ys.any (· == x)) :=
  fun _ s _ _ _ k q => in_list_strs (hl.at fun o e => k _ o e) hi (q s.heap s.toks (.refl _))
theorem Cmp.inLI {T : Addr} {vs : List Value} {ns : List Int} (hl : h.IsList T vs.toArray) (hi : IntsAre vs ns) : Cmp w n .In (.int a t) (.ref T) h (ns.any (· == a)) :=
  fun _ s _ _ _ k q => in_list_ints (hl.at fun o e => k _ o e) hi (q s.heap s.toks (.refl _))
end
end Mine
end

-- M3
section
open PySem PySem.W PyProof.Rows PySem.Calls PySem.Spec
set_option maxRecDepth 100000
set_option maxHeartbeats 1000000
namespace Mine
section
variable {w : World} {n : Nat} {h : Heap} {env : Env} {P P1 P2 P3 : Value → Heap → Heap → Prop} {e e1 e2 e3 : Expr} {es : List Expr} {pos : Pos}
inductive ConsP (P1 : Value → Heap → Heap → Prop) (R : List Value → Heap → Heap → Prop) (vs : List Value) (a c : Heap) : Prop
  | mk (v : Value) (r : List Value) (b : Heap) (e : vs = v :: r) (x1 : Ext a b) (x2 : Ext b c) (p : P1 v a b) (q : R r b c) : ConsP P1 R vs a c
inductive TupP (R : List Value → Heap → Heap → Prop) (v : Value) (a c : Heap) : Prop
  | mk (T : Addr) (vs : List Value) (b : Heap) (e : v = .ref T) (hn : a.get? T = none) (x1 : Ext a b) (x2 : Ext b c) (ht : c.IsTuple T vs.toArray) (q : R vs a b) : TupP R v a c
theorem Evs.nil : Evs w n h env [] (fun vs _ _ => vs = []) := fun _ s _ _ _ _ _ q => wpAny_items_nil (q _ s.heap s.toks (.refl _) rfl)
theorem Evs.cons {R : List Value → Heap → Heap → Prop} (x : Ev w n h env e P1) (y : Evs w n h env es R) (he : starEach (e :: es) env = (false, eval e env) :: starEach es env := by rfl) :
    Evs w n h env (e :: es) (ConsP P1 R) := by
  intro A s Q E pos ok k q
  refine wpAny_items_cons (x A s _ E ok k fun v h2 tk e p => y A _ _ E pos ok (k.trans e) fun r h3 tk' e' p' => ?_) he
  exact q _ h3 tk' (e.trans e') ⟨v, r, h2, rfl, e, e', p, p'⟩

/-- a new tuple of these values -/
noncomputable abbrev isT (vs : List Value) : Value → Heap → Heap → Prop := fun v h h' => ∃ T, v = .ref T ∧ h.get? T = none ∧ h'.IsTuple T vs.toArray
theorem next_none (h : Heap) : h.get? h.objs.size = none := by
  cases e : h.get? h.objs.size with
  | none => rfl
  | some o => exact absurd (Heap.lt_size e) (Nat.lt_irrefl _)
theorem Ev.list {R : List Value → Heap → Heap → Prop} {S : List Value → Prop} (x : Evs w n h env es R) (hz : ∀ vs a b, R vs a b → vs.length ≤ sizeLine ∧ S vs) : Ev w n h env (.List es pos) (isL S) := by
  intro A s Q E ok k q
  refine wpAny_List (x A s _ E pos ok k fun vs h2 tk e p => ⟨(hz _ _ _ p).1, ?_⟩)
  exact q _ _ _ (e.trans (Ext.push _ _)) ⟨_, vs, rfl, e.none (next_none h2), ⟨_, Heap.get?_push_size _ rfl, rfl, _, rfl⟩, (hz _ _ _ p).2⟩
theorem Ev.tuple {R : List Value → Heap → Heap → Prop} {k : Nat} (x : Evs w n h env es R) (hz : ∀ vs a b, R vs a b → vs.length ≤ sizeLine) :
    Ev w n h env (.Tuple es k pos) (TupP R) := by
  intro A s Q E ok k q
  refine wpAny_Tuple (x A s _ E pos ok k fun vs h2 tk e p => ⟨hz _ _ _ p, ?_⟩)
  exact q _ _ _ (e.trans (Ext.push _ _)) ⟨_, vs, h2, rfl, e.none (next_none h2), e, Ext.push _ _, ⟨_, Heap.get?_push_size _ rfl, rfl, _, rfl⟩, p⟩

-- calls of a name
theorem Ev.callB {f : Str} {id : String} {p : Pos} {R : List Value → Heap → Heap → Prop} (lf : Lk w h env f (.builtin id)) (x : Evs w n h env (e :: es) R)
    (hc : ∀ vs a b, Ext h a → Ext a b → R vs a b → Cl w n b (.builtin id) vs P) (an : Anti P) (he : starEach (e :: es) env = (false, eval e env) :: starEach es env := by rfl)
    (hplain : (backTo pos (starEach es env)).any (·.1) = false := by rfl) : Ev w n h env (.Call (.Name f p) (e :: es) [] pos) P := by
  intro A s Q E ok k q
  refine Call_Name rfl (lf A s _ E p k ?_)
  have y := x A s (fun vs s₁ => wpAny (MM w) A (call (.builtin id) ([] ++ vs)) Q E s₁) E pos ok k fun vs h2 tk e p =>
    hc vs _ _ k e p A { s with heap := h2, toks := tk } Q E ok (.refl _) fun v h3 tk' e' p' => q v h3 tk' (e.trans e') (an _ _ _ _ e p')
  rw [he] at y ⊢
  exact callWith_builtin (by show (false || (backTo pos (starEach es env)).any (·.1)) = false; rw [hplain]; rfl) (evalArgs_plain y)
theorem Ev.callT {f : Str} {id : String} {p : Pos} {R : List Value → Heap → Heap → Prop} (lf : Lk w h env f (.type id)) (x : Evs w n h env (e :: es) R)
    (hc : ∀ vs a b, Ext h a → Ext a b → R vs a b → Cl w n b (.type id) vs P) (an : Anti P) (he : starEach (e :: es) env = (false, eval e env) :: starEach es env := by rfl)
    (hplain : (backTo pos (starEach es env)).any (·.1) = false := by rfl) : Ev w n h env (.Call (.Name f p) (e :: es) [] pos) P := by
  intro A s Q E ok k q
  refine Call_Name rfl (lf A s _ E p k ?_)
  have y := x A s (fun vs s₁ => wpAny (MM w) A (call (.type id) ([] ++ vs)) Q E s₁) E pos ok k fun vs h2 tk e p =>
    hc vs _ _ k e p A { s with heap := h2, toks := tk } Q E ok (.refl _) fun v h3 tk' e' p' => q v h3 tk' (e.trans e') (an _ _ _ _ e p')
  rw [he] at y ⊢
  exact PyProof.Rows.callWith_type (by show (false || (backTo pos (starEach es env)).any (·.1)) = false; rw [hplain]; rfl) (evalArgs_plain y)
theorem Ev.callF {f : Str} {a : Addr} {o : Obj} {fd : FuncData} {p : Pos} {R : List Value → Heap → Heap → Prop} (lf : Lk w h env f (.ref a)) (ho : h.get? a = some o) (hd : o.data = .func fd) (x : Evs w n h env (e :: es) R)
    (hc : ∀ vs a' b, Ext h a' → Ext a' b → R vs a' b → Cl w n b (.ref a) vs P) (an : Anti P) (he : starEach (e :: es) env = (false, eval e env) :: starEach es env := by rfl) :
    Ev w n h env (.Call (.Name f p) (e :: es) [] pos) P := by
  intro A s Q E ok k q
  refine Call_Name rfl (lf A s _ E p k ?_)
  have y := x A s (fun vs s₁ => (s₁.heap.get? a = some o ∧ o.data = .func fd) ∧ wpAny (MM w) A (call (.ref a) ([] ++ vs)) Q E s₁) E pos ok k fun vs h2 tk e p =>
    ⟨⟨e _ _ (k _ _ ho), hd⟩, hc vs _ _ k e p A { s with heap := h2, toks := tk } Q E ok (.refl _) fun v h3 tk' e' p' => q v h3 tk' (e.trans e') (an _ _ _ _ e p')⟩
  rw [he] at y ⊢
  exact callWith_function (evalArgs_plain y)

-- a method of a built-in type, one or no argument
theorem Ev.meth1 {o : Expr} {name : Str} {T id : String} {apos : Pos} {pl : Sem Bool} (hT : ∀ v a b, P1 v a b → ∀ (s : Shared), Ext b s.heap → s.TypeIs v T ∧ ∀ ad, v = .ref ad → ∃ ob, s.heap.get? ad = some ob ∧ ob.dict = none)
    (pa : PlainAttrs T) (slot : Slot T name id) (hty : typeOf (.builtin id) = pure (.type "method_descriptor")) (x : Ev w n h env o P1) (y : Ev w n h env e P2)
    (hc : ∀ u v a b c, Ext h a → Ext a b → Ext b c → P1 u a b → P2 v b c → Cl w n c (.builtin id) [u, v] P) (an : Anti P) (hs : starEach [e] env = [(false, eval e env)] := by rfl)
    (he : eval (.Call (.Attribute o name apos) [e] [] pos) env = (do
      let ov ← eval o env
      standAt apos.atName
      let (f, first) ← holding [ov] (getMethod ov name pl)
      callWith pos f first (backTo pos (starEach [e] env)) []) := by rfl) : Ev w n h env (.Call (.Attribute o name apos) [e] [] pos) P := by
  intro A s Q E ok k q
  refine MethodCall_ (pl := pl) (x A s _ E ok k fun u h2 tk e1 p => ?_) he
  obtain ⟨t1, t2⟩ := hT u _ _ p { s with heap := h2, toks := tk } (.refl _)
  refine getMethod_builtin t1 pa slot hty t2 ?_
  dsimp only
  have y' := y A { s with heap := h2, toks := tk } (fun v s₁ => wpAny (MM w) A (call (.builtin id) ([u] ++ [v])) Q E s₁) E ok (k.trans e1) fun v h3 tk' e2 p' =>
    hc u v _ _ _ k e1 e2 p p' A _ Q E ok (.refl _) fun r h4 tk'' e3 p'' => q r h4 tk'' ((e1.trans e2).trans e3) (an _ _ _ _ (e1.trans e2) p'')
  rw [show backTo pos (starEach [e] env) = [(false, eval e env)] from by rw [hs]; rfl]
  exact callWith_builtin rfl (evalArgs_plain (spliced_cons (wpAny_mono y' (fun v s₁ h₁ => spliced_nil h₁) fun _ _ e => e)))
end
end Mine
end

-- M4
section
open PySem PySem.W PyProof.Rows PySem.Calls PySem.Spec
set_option maxRecDepth 100000
set_option maxHeartbeats 1000000
namespace Mine
section
variable {w : World} {n : Nat} {h : Heap} {env : Env} {T : Addr} {vs : List Value} {ss : List Str} {ns : List Int} {x y : Str} {t u : Tok}
theorem isList_ext {h h' : Heap} {T : Addr} {its : Array Value} (hl : h.IsList T its) (k : Ext h h') : h'.IsList T its := hl.at fun o e => k _ o e
theorem isTuple_ext {h h' : Heap} {T : Addr} {its : Array Value} (hl : h.IsTuple T its) (k : Ext h h') : h'.IsTuple T its := hl.at fun o e => k _ o e
theorem Cl.lenS (hz : x.length < 1000000) : Cl w n h (.builtin "len") [.str x t] (isI x.length) :=
  fun _ s _ _ _ _ q => PyProof.Rows.len_str (by omega) (q _ s.heap _ (.refl _) ⟨_, rfl⟩)
theorem Cl.lenL (hl : h.IsList T vs.toArray) (hz : vs.length < 1000000) : Cl w n h (.builtin "len") [.ref T] (isI vs.length) :=
  fun _ s _ _ _ k q => PyProof.Rows.len_list (isList_ext hl k) (by simp; omega) (by simpa using q _ s.heap _ (.refl _) ⟨_, rfl⟩)
theorem inLong_of {x : Int} (h0 : 0 ≤ x) (h1 : x ≤ 1000000 * ((1000 : Nat) : Int)) : InLong x := by unfold InLong; constructor <;> omega
theorem sumFits_small {ns : List Int} (h1 : ∀ a ∈ ns, 0 ≤ a ∧ a ≤ 1000000) (h2 : ns.length ≤ 1000) : PySem.SumFits ns := by
  intro j hj
  have g : ns.getD j 0 ∈ ns := getD_mem hj
  have b1 := h1 _ g
  have key : ∀ l : List Int, (∀ a ∈ l, 0 ≤ a ∧ a ≤ 1000000) → 0 ≤ l.sum ∧ l.sum ≤ 1000000 * l.length := by
    intro l
    induction l with
    | nil => intro _; simp
    | cons a l ih =>
      intro hh
      have h1 := hh a (List.mem_cons_self ..)
      have h2 := ih fun b hb => hh b (List.mem_cons_of_mem _ hb)
      rw [List.sum_cons, List.length_cons]
      constructor
      · omega
      · push_cast; omega
  have k := key (ns.take (j + 1)) fun a ha => h1 a (List.mem_of_mem_take ha)
  have hlen : (ns.take (j + 1)).length ≤ 1000 := by rw [List.length_take]; omega
  exact ⟨inLong_of b1.1 (Int.le_trans b1.2 (by decide)), inLong_of k.1 (Int.le_trans k.2 (Int.mul_le_mul_of_nonneg_left (Int.ofNat_le.mpr hlen) (by decide)))⟩
theorem Cl.sumL (hl : h.IsList T vs.toArray) (hi : IntsAre vs ns) (hf : PySem.SumFits ns) : Cl w n h (.builtin "sum") [.ref T] (isI ns.sum) := by
  intro A s Q E ok k q
  obtain ⟨xs, hx⟩ := hi.allInts.items
  have hn : xs.toList.map (·.1) = ns := by rw [← nums_intItems, ← hx]; exact hi.numsOf
  refine sum_intList ok.hd (hx ▸ isList_ext hl k) (fun j hj => ?_) fun h' tk t' hk => ?_
  · rw [numAt_eq, preSum_eq, hn]; exact hf j (by rw [← hn]; simpa using hj)
  · rw [preSum_eq, List.take_of_length_le (by simp), hn]; exact q _ h' tk hk ⟨_, rfl⟩
theorem Cl.minL (hl : h.IsList T vs.toArray) (hi : IntsAre vs ns) (hne : 0 < ns.length) {M : Int} (h1 : M ∈ ns) (h2 : ∀ a ∈ ns, M ≤ a) : Cl w n h (.builtin "min") [.ref T] (isI M) := by
  intro A s Q E ok k q
  obtain ⟨xs, hx⟩ := hi.allInts.items
  have hn : xs.toList.map (·.1) = ns := by rw [← nums_intItems, ← hx]; exact hi.numsOf
  have hsz : 0 < xs.size := by rw [← hn] at hne; simpa using hne
  refine min_intList ok.hd (hx ▸ isList_ext hl k) hsz fun v h' tk hv hk => ?_
  obtain ⟨t, rfl⟩ := intItems_at hv
  obtain ⟨g1, g2⟩ := argBest_lt (numAt xs) (xs.size - 1)
  refine q _ h' tk hk ⟨t, ?_⟩
  congr 1
  apply Int.le_antisymm
  · obtain ⟨j, hj, e⟩ := mem_getD h1
    rw [← hn] at hj e
    rw [List.length_map, Array.length_toList] at hj
    rw [← e, ← numAt_eq]; exact g2 j (Nat.le_sub_one_of_lt hj)
  · refine h2 _ ?_
    rw [numAt_eq, ← hn]; exact getD_mem (by rw [List.length_map, Array.length_toList]; omega)
theorem Cl.sortedL (hl : h.IsList T vs.toArray) (hi : StrsAre vs ss) (h64 : vs.length < 64) :
    Cl w n h (.builtin "sorted") [.ref T] (isL fun vs' => ∃ ss', StrsAre vs' ss' ∧ ss'.Perm ss ∧ sortedS ss' = true) := by
  intro A s Q E ok k q
  refine sorted_strs (isList_ext hl k) hi h64 fun out ss' a1 a2 a3 => ?_
  obtain ⟨e, he⟩ := sortedAll_at s.heap vs out
  refine q _ _ s.toks (fun b o e => sortedAll_old e) ⟨_, out.toList, rfl, ?_, ⟨_, he, rfl, _, rfl⟩, ss', a1, a2, a3⟩
  cases g : s.heap.get? (s.heap.objs.size + 1) with
  | none => rfl
  | some o => exact absurd (Heap.lt_size g) (Nat.not_lt.mpr (Nat.le_succ _))
theorem Cl.listS (hz : x.cps.size ≤ 1000) : Cl w n h (.type "list") [.str x t] (isL fun vs' => StrsAre vs' (x.cps.toList.map fun c => ⟨#[c]⟩)) := by
  intro A s Q E ok k q
  refine call_list_str ok.hd x t (fun h' tk acc' c' hk he hi => ?_) (by rw [sizeLine_eq]; omega)
  refine q _ h' tk hk ⟨_, acc'.toList, rfl, next_none _, ⟨_, he, rfl, _, rfl⟩, ?_⟩
  obtain ⟨hs, hv⟩ := hi
  have gen : ∀ (l : List Value) (cs : List Nat), l.length = cs.length → (∀ (j : Nat) v, l[j]? = some v → ∃ c u, cs[j]? = some c ∧ v = .str ⟨#[c]⟩ u) → StrsAre l (cs.map fun c => ⟨#[c]⟩) := by
    intro l
    induction l with
    | nil => intro cs hl _; cases cs with
      | nil => exact .nil
      | cons _ _ => simp at hl
    | cons v l ih => intro cs hl hh; cases cs with
      | nil => simp at hl
      | cons c cs =>
        obtain ⟨c', u, e1, e2⟩ := hh 0 v rfl
        have : c = c' := by simpa using e1
        subst this e2
        exact .cons _ _ (ih cs (by simpa using hl) fun j v hj => by simpa using hh (j + 1) v (by simpa using hj))
  exact gen _ _ (by simp [hs]) fun j v hj => by
    obtain ⟨c, u, e1, e2⟩ := hv j v (by simpa using hj)
    exact ⟨c, u, by simpa using e1, e2⟩
theorem Cl.joinL (hl : h.IsList T vs.toArray) (hi : StrsAre vs ss) (hz : (ss.map (·.length)).sum + ss.length * x.length ≤ 16777216) : Cl w n h (.builtin "str.join") [.str x t, .ref T] (isS (Txt.join x ss)) :=
  fun _ s _ _ _ k q => PyProof.Rows.join_list (isList_ext hl k) (by simpa using hi) hz fun t' k' => q _ s.heap k' (.refl _) ⟨_, rfl⟩
theorem Cl.indexS {i : Nat} {rest : List Nat} (ho : Builtin.Str.occurrences x y 0 x.length 1 = i :: rest) : Cl w n h (.builtin "str.index") [.str x t, .str y u] (isI i) :=
  fun _ s _ _ _ _ q => SC.index ho (q _ s.heap _ (.refl _) ⟨_, rfl⟩)
end
end Mine
end

-- M5
section
open PySem PySem.W PyProof.Rows PySem.Calls PySem.Spec
set_option maxRecDepth 100000
set_option maxHeartbeats 1000000
namespace Mine
section
variable {w : World} {n : Nat} {h : Heap} {env : Env} {T : Addr} {vs : List Value} {v : Value} {k : Int} {x : Str} {value slice e : Expr} {pos sp : Pos}
theorem Ev.item (hv : Ev w n h env value (isV (.ref T))) (hl : h.IsList T vs.toArray) (hi : Ev w n h env slice (isI k)) (h0 : 0 ≤ k) (hk : k < 1000000) (hx : vs[k.toNat]? = some v)
    (hs : ∀ u, subscripted slice false (.ref T) (.int k u) = operate [.ref T, .int k u] (getItem (.ref T) (.int k u)) := by intro _; with_unfolding_all rfl) : Ev w n h env (.Subscript value slice pos) (isV v) := by
  intro A s Q E ok kk q
  refine Subscript_ (hv A s _ E ok kk fun o h2 tk e p => hi A _ _ E ok (kk.trans e) fun i h3 tk' e' p' => ?_)
  obtain ⟨u, rfl⟩ := p'
  rw [p]
  have hl3 : h3.IsList T vs.toArray := isList_ext hl ((kk.trans e).trans e')
  exact tail_any (Heap.IsList.typeIs (s := { s with heap := h3, toks := tk' }) hl3) list_getitem_lookup (wpAny_getItem_list hl3 h0 (by omega) (by simpa using hx) (q _ h3 tk' (e.trans e') rfl)) (hs u)
theorem Ev.itemNeg (hv : Ev w n h env value (isV (.ref T))) (hl : h.IsList T vs.toArray) (hi : Ev w n h env slice (isI k)) (h0 : k < 0) (h1 : -(vs.length : Int) ≤ k) (hk : -1000000 < k) (hx : vs[(k + vs.length).toNat]? = some v)
    (hs : ∀ u, subscripted slice false (.ref T) (.int k u) = operate [.ref T, .int k u] (getItem (.ref T) (.int k u)) := by intro _; with_unfolding_all rfl) : Ev w n h env (.Subscript value slice pos) (isV v) := by
  intro A s Q E ok kk q
  refine Subscript_ (hv A s _ E ok kk fun o h2 tk e p => hi A _ _ E ok (kk.trans e) fun i h3 tk' e' p' => ?_)
  obtain ⟨u, rfl⟩ := p'
  rw [p]
  have hl3 : h3.IsList T vs.toArray := isList_ext hl ((kk.trans e).trans e')
  exact tail_any (Heap.IsList.typeIs (s := { s with heap := h3, toks := tk' }) hl3) list_getitem_lookup (wpAny_getItem_list_neg hl3 h0 (by simpa using h1) (by omega) (by simpa using hx) (q _ h3 tk' (e.trans e') rfl)) (hs u)

/-- a slice's part -/
noncomputable def Pt (w : World) (n : Nat) (h : Heap) (env : Env) (e : Option Expr) (o : Option Int) : Prop :=
  ∀ (A : Around) (s : Shared) (Q : Value → Shared → Prop) (E : Value → Shared → Prop), Okk A n → Ext h s.heap →
    (∀ v h' tk, Ext s.heap h' → IsPart v o → Q v { s with heap := h', toks := tk }) → wpAny (MM w) A (evalPart e env) Q E s
theorem Pt.none : Pt w n h env none none := fun _ s _ _ _ _ q => wpAny_evalPart_none (q _ s.heap s.toks (.refl _) .none)
theorem Pt.some {i : Int} (x : Ev w n h env e (isI i)) : Pt w n h env (some e) (some i) :=
  fun A s Q E ok k q => wpAny_evalPart_some (x A s Q E ok k fun v h' tk e p => q v h' tk e (by obtain ⟨t, rfl⟩ := p; exact .int _ _))
theorem Ev.sliceL {lo hi : Option Int} {e1 e2 : Option Expr} (hv : Ev w n h env value (isV (.ref T))) (hl : h.IsList T vs.toArray) (p1 : Pt w n h env e1 lo) (p2 : Pt w n h env e2 hi) (hz : vs.length ≤ 1000000)
    (hs : ∀ a, subscripted (.Slice e1 e2 none sp) false (.ref T) (.ref a) = operate [.ref a, .ref T] (getItem (.ref T) (.ref a)) := by intro _; with_unfolding_all rfl) :
    Ev w n h env (.Subscript value (.Slice e1 e2 none sp) pos) (isL fun vs' => vs' = (slicePick vs.toArray lo hi none).toList) := by
  intro A s Q E ok kk q
  refine Subscript_ (hv A s _ E ok kk fun o h2 tk e p => wpAny_Slice (p1 A _ _ E ok (kk.trans e) fun a h3 tk3 e3 q1 => p2 A _ _ E ok ((kk.trans e).trans e3) fun b h4 tk4 e4 q2 => wpAny_evalPart_none ?_))
  rw [p]
  have hl4 : h4.IsList T vs.toArray := isList_ext hl (((kk.trans e).trans e3).trans e4)
  have hl5 := isList_ext hl4 (Ext.push h4 { cls := .type "slice", data := .fields #[a, b, .none] })
  refine tail_any (Heap.IsList.typeIs (s := { s with heap := h4.push { cls := .type "slice", data := .fields #[a, b, .none] }, toks := tk4 }) hl5) list_getitem_lookup
    (wpAny_getItem_list_slice hl5 (Heap.IsSliceOf.new ..) q1 q2 .none (by simp) ?_ (by rw [sizeLine_eq]; simp; omega)) (hs _)
  refine q _ _ _ (((e.trans e3).trans e4).trans ((Ext.push _ _).trans (Ext.push _ _))) ⟨_, _, rfl, ((e.trans e3).trans (e4.trans (Ext.push _ _))).none (next_none _), ⟨_, Heap.get?_push_size _ rfl, rfl, _, rfl⟩, rfl⟩
theorem Ev.sliceS {lo hi : Option Int} {e1 e2 : Option Expr} (hv : Ev w n h env value (isS x)) (p1 : Pt w n h env e1 lo) (p2 : Pt w n h env e2 hi) (hz : x.length ≤ 1000000)
    (hs : ∀ t a, subscripted (.Slice e1 e2 none sp) false (.str x t) (.ref a) = operate [.ref a, .str x t] (getItem (.str x t) (.ref a)) := by intro _ _; with_unfolding_all rfl) :
    Ev w n h env (.Subscript value (.Slice e1 e2 none sp) pos) (isS (Txt.slice x lo hi)) := by
  intro A s Q E ok kk q
  refine Subscript_ (hv A s _ E ok kk fun o h2 tk e p => wpAny_Slice (p1 A _ _ E ok (kk.trans e) fun a h3 tk3 e3 q1 => p2 A _ _ E ok ((kk.trans e).trans e3) fun b h4 tk4 e4 q2 => wpAny_evalPart_none ?_))
  obtain ⟨t, rfl⟩ := p
  have fin : ItemOn (MM w) A E (.str x t) (.ref h4.objs.size) Q { s with heap := h4.push { cls := .type "slice", data := .fields #[a, b, .none] }, toks := tk4 } := by
    cases q1 with
    | none => cases q2 with
      | none => exact SBH.sliceItem_nn (s := { s with heap := h4, toks := tk4 }) (keptExt s.heap) ((e.trans e3).trans e4) (fun h' t' k' x => q _ h' k' x ⟨_, rfl⟩) (by rw [sizeLine_eq]; omega)
      | int i u => exact SBH.sliceItem_ns (s := { s with heap := h4, toks := tk4 }) (keptExt s.heap) ((e.trans e3).trans e4) (fun h' t' k' x => q _ h' k' x ⟨_, rfl⟩) (by rw [sizeLine_eq]; omega)
    | int i u => cases q2 with
      | none => exact SBH.sliceItem_sn (s := { s with heap := h4, toks := tk4 }) (keptExt s.heap) ((e.trans e3).trans e4) (fun h' t' k' x => q _ h' k' x ⟨_, rfl⟩) (by rw [sizeLine_eq]; omega)
      | int j u' => exact SBH.sliceItem_ss (s := { s with heap := h4, toks := tk4 }) (keptExt s.heap) ((e.trans e3).trans e4) (fun h' t' k' x => q _ h' k' x ⟨_, rfl⟩) (by rw [sizeLine_eq]; omega)
  obtain ⟨T', id, hl, hT, hg⟩ := fin
  exact tail_any hT hl hg (hs t _)
end
end Mine
end

-- M6
section
open PySem PySem.W PyProof.Rows PySem.Calls PySem.Spec
set_option maxRecDepth 100000
set_option maxHeartbeats 1000000
namespace Mine
noncomputable abbrev relS (y : Str) (v : Value) : Prop := ∃ t, v = .str y t
noncomputable abbrev relI (y : Int) (v : Value) : Prop := ∃ t, v = .int y t
noncomputable abbrev relB (y : Bool) (v : Value) : Prop := v = .bool y
noncomputable def decS : Value → Str
  | .str y _ => y
  | _ => Str.empty
noncomputable def decI : Value → Int
  | .int y _ => y
  | _ => 0
theorem decS_of {y : Str} {v : Value} (h : relS y v) : decS v = y := by obtain ⟨t, rfl⟩ := h; rfl
theorem decI_of {y : Int} {v : Value} (h : relI y v) : decI v = y := by obtain ⟨t, rfl⟩ := h; rfl

/-- a source of items: what it is iterated as -/
noncomputable def Src (w : World) (n : Nat) (h : Heap) (env : Env) (iter : Expr) (S : List Addr) {α : Type} (items : List α) (rel : α → Value → Prop) : Prop :=
  ∀ (A : Around) (s : Shared) (Q : Value → Shared → Prop) (E : Value → Shared → Prop), Okk A n → Ext h s.heap →
    (∀ h' tk I fp wr (P : Nat → Value → Prop) (St : Nat → Heap → Prop), Ext s.heap h' → Walks PG w A I fp wr items.length P St → (∀ i v, P i v → ∃ a, items[i]? = some a ∧ rel a v) → St 0 h' → (∀ b ∈ fp, b < h'.objs.size ∧ (s.heap.get? b = none ∨ b ∈ S)) →
      (∀ b ∈ wr, s.heap.get? b = none) → (∀ (i : Nat) (v : Value) (target : Expr) (s' : Shared) (Q' : Unit → Shared → Prop) (E' : Value → Shared → Prop), St i s'.heap → Q' () s' → wpAny (MM w) A (letOwnedTupleGo target (.ref I) v) Q' E' s') → Q (.ref I) { s with heap := h', toks := tk }) →
    wpAny (MM w) A (eval iter env) (fun xv s₁ => wpAny (MM w) A (pyIter xv) Q E s₁) E s
section
variable {w : World} {n : Nat} {h : Heap} {env : Env} {T : Addr} {vs : List Value} {α : Type} {items : List α} {rel : α → Value → Prop} {iter : Expr}

/-- the values of a list, one by one -/
noncomputable def Are {α : Type} (rel : α → Value → Prop) (items : List α) (vs : List Value) : Prop := Paired rel items vs
theorem paired_at {α β : Type} {F : α → β → Prop} {l₁ : List α} {l₂ : List β} (h : Paired F l₁ l₂) : ∀ (i : Nat) b, l₂[i]? = some b → ∃ a, l₁[i]? = some a ∧ F a b := by
  induction h with
  | nil => intro i b h; exact absurd h (by simp)
  | cons f _ ih =>
    intro i b h
    cases i with
    | zero => exact ⟨_, rfl, Option.some.inj h ▸ f⟩
    | succ i => exact ih i b h
theorem are_strs {ss : List Str} (h : StrsAre vs ss) : Paired relS ss vs := by
  induction h with
  | nil => exact .nil
  | cons y t _ ih => exact .cons ⟨t, rfl⟩ ih
theorem strs_are {ss : List Str} (h : Paired relS ss vs) : StrsAre vs ss := by
  induction h with
  | nil => exact .nil
  | cons f _ ih => obtain ⟨t, rfl⟩ := f; exact .cons _ _ ih
theorem are_ints {ss : List Int} (h : IntsAre vs ss) : Paired relI ss vs := by
  induction h with
  | nil => exact .nil
  | cons y t _ ih => exact .cons ⟨t, rfl⟩ ih
theorem ints_are {ss : List Int} (h : Paired relI ss vs) : IntsAre vs ss := by
  induction h with
  | nil => exact .nil
  | cons f _ ih => obtain ⟨t, rfl⟩ := f; exact .cons _ _ ih
theorem paired_map {α β γ : Type} {F : β → γ → Prop} {f : α → β} {l : List α} {ys : List γ} (h : Paired (fun a y => F (f a) y) l ys) : Paired F (l.map f) ys := by
  induction h with
  | nil => exact .nil
  | cons g _ ih => exact .cons g ih

theorem src_ofList {s : Shared} {A : Around} (ok : A.handled = none) {Q : Value → Shared → Prop} {E : Value → Shared → Prop} (hl : s.heap.IsList T vs.toArray) (ha : Paired rel items vs)
    (q : ∀ I fp wr (P : Nat → Value → Prop) (St : Nat → Heap → Prop) h', Ext s.heap h' → Walks PG w A I fp wr items.length P St → (∀ i v, P i v → ∃ a, items[i]? = some a ∧ rel a v) → St 0 h' → (∀ b ∈ fp, b < h'.objs.size ∧ (s.heap.get? b = none ∨ b ∈ [T])) →
      (∀ b ∈ wr, s.heap.get? b = none) → (∀ (i : Nat) (v : Value) (target : Expr) (s' : Shared) (Q' : Unit → Shared → Prop) (E' : Value → Shared → Prop), St i s'.heap → Q' () s' → wpAny (MM w) A (letOwnedTupleGo target (.ref I) v) Q' E' s') → Q (.ref I) { s with heap := h' }) :
    wpAny (MM w) A (pyIter (.ref T)) Q E s := by
  refine wpAny_pyIter_list hl ?_
  have hlt : T < s.heap.objs.size := by obtain ⟨o, ho, _⟩ := hl; exact Heap.lt_size ho
  have W := Walks.list (prog := PG) (w := w) ok s.heap.objs.size T (Nat.ne_of_lt hlt) vs.toArray
  have hn : vs.toArray.size = items.length := by simp [ha.length]
  rw [hn] at W
  refine q _ _ _ _ _ _ (Ext.push _ _) W (fun i v hp => paired_at ha i v (by simpa using hp)) ⟨⟨_, Heap.get?_push_size _ rfl, rfl, rfl⟩, isList_ext hl (Ext.push _ _)⟩ (fun b hb => ?_) (fun b hb => ?_) fun i v tg s' Q' E' st q' => letGo_listiter st.1 q'
  · rw [Heap.size_push]
    rcases List.mem_cons.mp hb with rfl | hb
    · exact ⟨Nat.lt_succ_self _, .inl (next_none _)⟩
    · rw [List.mem_singleton.mp hb]; exact ⟨Nat.lt_succ_of_lt hlt, .inr (List.mem_singleton.mpr rfl)⟩
  · rw [List.mem_singleton.mp hb]; exact next_none _
theorem Src.list (hv : Ev w n h env iter (isV (.ref T))) (hl : h.IsList T vs.toArray) (ha : Paired rel items vs) : Src w n h env iter [T] items rel := by
  intro A s Q E ok k q
  refine hv A s _ E ok k fun v h' tk e p => ?_
  rw [p]
  exact src_ofList (s := { s with heap := h', toks := tk }) ok.hd (isList_ext hl (k.trans e)) ha fun I fp wr P St h2 e2 W hp st hf hw lg => q h2 tk I fp wr P St (e.trans e2) W hp st (fun b hb => ⟨(hf b hb).1, (hf b hb).2.imp e.none id⟩) (fun b hb => e.none (hw b hb)) lg
theorem Src.new (hv : Ev w n h env iter (isL (fun vs => Paired rel items vs))) : Src w n h env iter [] items rel := by
  intro A s Q E ok k q
  refine hv A s _ E ok k fun v h' tk e p => ?_
  obtain ⟨T, vs, rfl, hfr, hl, ha⟩ := p
  exact src_ofList (s := { s with heap := h', toks := tk }) ok.hd hl ha fun I fp wr P St h2 e2 W hp st hf hw lg => q h2 tk I fp wr P St (e.trans e2) W hp st (fun b hb => ⟨(hf b hb).1, .inl ((hf b hb).2.elim e.none fun hb' => by rw [List.mem_singleton.mp hb']; exact hfr)⟩) (fun b hb => e.none (hw b hb)) lg

theorem letGo_other {E : Value → Shared → Prop} {A : Around} {target : Expr} {I : Addr} {v : Value} {Q' : Unit → Shared → Prop} {s' : Shared} {o : Obj} {ty : String} {vs : Array Value} (ho : s'.heap.get? I = some o) (hc : o.cls = .type ty) (hd : o.data = .fields vs)
    (hn : ["enumerate", "zip", "dict_itemiterator", "dict_reverseitemiterator", "odict_iterator", "itertools.zip_longest", "itertools.pairwise"].contains ty = false) (h : Q' () s') : wpAny (MM w) A (letOwnedTupleGo target (.ref I) v) Q' E s' := by
  unfold letOwnedTupleGo
  cases target <;> first
    | exact wpAny_pure h
    | (cases v <;> first
        | exact wpAny_pure h
        | (refine wpAny_bind (wpAny_load ho ?_)
           rw [hc, hd]
           dsimp only
           rw [hn]
           exact wpAny_pure h))
theorem walks_bound {A : Around} {I : Addr} {fp wr : List Addr} {N : Nat} {P : Nat → Value → Prop} {St : Nat → Heap → Prop} (W : Walks PG w A I fp wr N P St) : Walks PG w A I fp wr N (fun i v => i < N ∧ P i v) St where
  sub := W.sub
  frame := W.frame
  item := fun i s Q E hi st hQ => W.item i s Q E hi st fun v h' tk hP st' hk => hQ v h' tk ⟨hi, hP⟩ st' hk
  done := W.done
  self := W.self
theorem Src.range {f : Str} {p pos : Pos} {e : Expr} {N : Nat} (lf : Lk w h env f (.type "range")) (hv : Ev w n h env e (isI N)) (hz : N < 1000000) (hs : starEach [e] env = [(false, eval e env)] := by rfl) :
    Src w n h env (.Call (.Name f p) [e] [] pos) [] (List.range N) (fun i v => ∃ t, v = .int (i : Nat) t) := by
  intro A s Q E ok k q
  have y : Ev w n h env (.Call (.Name f p) [e] [] pos) (fun v a b => ∃ T t1 t2 t3, v = .ref T ∧ a.get? T = none ∧ IsRange b T 0 N 1 t1 t2 t3) :=
    Ev.callT lf (Evs.cons hv .nil hs) (fun vs a b _ _ p => by
      obtain ⟨v, r, b', rfl, _, _, ⟨t, rfl⟩, rfl⟩ := p
      intro A s Q E ok k q
      exact call_range_1 (q _ _ _ (Ext.push _ _) ⟨s.heap.objs.size, s.toks, t, s.toks + 1, rfl, next_none _, Heap.get?_push_size _ rfl⟩)) (fun v h1 h2 h3 x p => by obtain ⟨T, t1, t2, t3, a, b, c⟩ := p; exact ⟨T, t1, t2, t3, a, x.none b, c⟩) hs
  refine y A s _ E ok k fun v h' tk e p => ?_
  obtain ⟨T, t1, t2, t3, rfl, hfr, hr⟩ := p
  have hsz : Builtin.Range.rangeSize 0 N 1 = N := by rw [PyProof.Rows.rangeSize_nat, Int.sub_zero, Int.toNat_natCast]
  have hsm : Builtin.Range.small 0 N 1 = true := small_one (by decide) (by decide) (Int.le_trans (by decide) (Int.natCast_nonneg N)) (Int.lt_trans (Int.ofNat_lt.mpr hz) (by decide))
  refine wpAny_pyIter_range (s := { s with heap := h', toks := tk }) hr hsm ?_
  rw [hsz]
  have W := Walks.range (prog := PG) (w := w) ok.hd h'.objs.size 0 1 N
  have W' := walks_bound W
  refine q _ _ _ _ _ _ _ (e.trans (Ext.push _ _)) (by rw [List.length_range]; exact W') ?_ ?_ ?_ ?_ ?_
  · rintro i v ⟨hi, t, rfl⟩
    exact ⟨i, by simp [hi], t, by simp⟩
  · have e1 : (0 : Int) + ((0 : Nat) : Int) * 1 = 0 := by simp
    have e2 : (N : Int) - ((0 : Nat) : Int) = N := by simp
    rw [e1, e2]
    exact Heap.get?_push_size _ rfl
  · intro b hb
    rw [List.mem_singleton.mp hb, Heap.size_push]
    exact ⟨Nat.lt_succ_self _, .inl (e.none (next_none _))⟩
  · intro b hb
    rw [List.mem_singleton.mp hb]; exact e.none (next_none _)
  · intro i v tg s' Q' E' st q'
    exact letGo_other st rfl rfl (by decide) q'
theorem Lk.cell {x : Str} {c : Addr} {v : Value} (hc : env.cells.lookup x = some c) (hv : h.IsCell c (some v)) (he : FnEnv env) (hx : env.kindOf x = some .cell) (hd : (x == ("__debug__" : Str)) = false) : Lk w h env x v :=
  fun _ _ _ _ _ k q => wpAny_Name (wpAny_loadName_cell he.kind hx hc (let ⟨o, a, b⟩ := hv; ⟨o, k _ _ a, b⟩) q) hd
theorem FnEnv.comp {scope : Scope} {cl : List (Str × Addr)} {C : Addr} (he : FnEnv env) (hk : scope.kind = .function) : FnEnv (compEnvC scope cl C env) := ⟨by show (relabel scope env).kind = _; unfold relabel; exact hk, he.gl, he.bi⟩

/-- the tests of a comprehension, none or one -/
noncomputable def Tests (w : World) (n : Nat) (h : Heap) (cenv : Env) (ifs : List Expr) (b : Bool) : Prop := match ifs with
  | [] => b = true
  | [c] => Tr w n h cenv c b
  | _ => False
theorem Tests.run {A : Around} {s : Shared} {cenv : Env} {ifs : List Expr} {b : Bool} {Q : Bool → Shared → Prop} {E : Value → Shared → Prop} (x : Tests w n h cenv ifs b) (ok : Okk A n) (k : Ext h s.heap) (q : ∀ h' tk, Ext s.heap h' → Q b { s with heap := h', toks := tk }) :
    wpAny (MM w) A (forIn ifs true fun c r => if r = true then do let ok ← isTrue c cenv (eval c cenv); pure (ForInStep.yield ok) else pure (ForInStep.yield r)) Q E s := by
  match ifs, x with
  | [], x => subst x; exact wpAny_tests_nil (q s.heap s.toks (.refl _))
  | [c], x => exact wpAny_tests_one (x A s Q E ok k q)

theorem Ev.comp {elt : Expr} {x : Str} {px pos : Pos} {ifs : List Expr} {scope : Scope} {cl : List (Str × Addr)} {S : List Addr} {p : α → Bool} {relY : α → Value → Prop} {dec : Value → α}
    (src : Src w n h env iter S items rel) (hdec : ∀ a v, rel a v → dec v = a) (hz : items.length ≤ 1000) (hclos : closureFor scope env = pure cl) (hcell : ∀ y ∈ scope.names, y.2 ≠ .cell) (hkind : scope.kind = .function)
    (hnames : ∀ y ∈ scope.names, y.2 = .local → scope.names.lookup y.1 = some .local) (hx : scope.names.lookup x = some .local) (hd : (x == ("__debug__" : Str)) = false) (he : FnEnv env)
    (tests : ∀ a v hc C, a ∈ items → rel a v → Ext h hc → Lk w hc (compEnvC scope cl C env) x v → Tests w n hc (compEnvC scope cl C env) ifs (p a))
    (elt' : ∀ a v hc C, a ∈ items → p a = true → rel a v → Ext h hc → Lk w hc (compEnvC scope cl C env) x v → Ev w n hc (compEnvC scope cl C env) elt (fun y _ _ => relY a y))
    (hs : ∀ x, foldedSetIterable iter env x = pure x := by intro _; rfl) :
    Ev w n h env (.ListComp elt [⟨.Name x px, iter, ifs, 0⟩] scope pos) (isL fun vs => Paired relY (items.filter p) vs) := by
  intro A s Q E ok k q
  refine wpAny_ListComp_free (fun v => p (dec v)) (fun v y => relY (dec v) y) hclos hcell hkind hnames hx (src A s _ E ok k fun h2 tk I fp wr P St e W hp st hf hw lg => ?_) hs
  have up : ∀ hc : Heap, (∀ b o, b ∉ wr → h2.get? b = some o → hc.get? b = some o) → Ext s.heap hc := fun hc hk b o eb =>
    hk b o (fun hb => by rw [hw b hb] at eb; cases eb) (e b o eb)
  have lk : ∀ (C : Addr) (v : Value) (hc : Heap) (m : Str → Option Value), hc.Ns C m → m x = some v → Lk w hc (compEnvC scope cl C env) x v := fun C v hc m hn hm =>
    Lk.loc (env := compEnvC scope cl C env) hn hm (he.comp hkind) (lookup_relabel_local hx) hd
  refine ⟨I, fp, wr, items.length, P, St, rfl, W, by rw [sizeLine_eq]; omega, st, fun b hb => (hf b hb).1, ⟨?_, ?_⟩, ?_⟩
  · intro C i v s₃ m₃ E' hC hP hn hm hk htk
    obtain ⟨a, ha, hr⟩ := hp i v hP
    have t := tests a v s₃.heap C (List.mem_of_getElem? ha) hr (k.trans (up _ hk)) (lk C v _ _ hn hm)
    rw [← hdec a v hr] at t
    exact t.run ok (.refl _) fun h' tk' e' => ⟨rfl, h', tk', rfl, e'⟩
  · intro C i v s₃ m₃ E' hC hP hpv hn hm hk htk
    obtain ⟨a, ha, hr⟩ := hp i v hP
    have hpa : p a = true := by rw [← hdec a v hr]; exact hpv
    have t := elt' a v s₃.heap C (List.mem_of_getElem? ha) hpa hr (k.trans (up _ hk)) (lk C v _ _ hn hm)
    exact t A s₃ _ E' ok (.refl _) fun y h' tk' e' py => ⟨by rw [hdec a v hr]; exact py, h', tk', rfl, e'⟩
  · intro D h' tk' ys vs hD hl _ hlen hP hF hk
    refine q _ h' tk' (up _ hk) ⟨D, ys.toList, rfl, e.none hD, by simpa using hl, ?_⟩
    have key : ∀ (vs : List Value) (items : List α), vs.length = items.length → (∀ (j : Nat) v, vs[j]? = some v → ∃ a, items[j]? = some a ∧ rel a v) → ∀ ys : List Value, Paired (fun v y => relY (dec v) y) (vs.filter fun v => p (dec v)) ys → Paired relY (items.filter p) ys := by
      intro vs
      induction vs with
      | nil => intro items hl _ ys hy; cases items with
        | nil => rw [List.filter_nil] at hy ⊢; cases hy; exact .nil
        | cons _ _ => simp at hl
      | cons v vs ih => intro items hl hh ys hy; cases items with
        | nil => simp at hl
        | cons a items =>
          obtain ⟨a', e1, e2⟩ := hh 0 v rfl
          have : a = a' := by simpa using e1
          subst this
          have hda := hdec a v e2
          have rest := ih items (by simpa using hl) fun j v hj => by simpa using hh (j + 1) v (by simpa using hj)
          cases hpa : p a with
          | false =>
            rw [List.filter_cons_of_neg (by rw [hda, hpa]; simp)] at hy
            rw [List.filter_cons_of_neg (by rw [hpa]; simp)]
            exact rest ys hy
          | true =>
            rw [List.filter_cons_of_pos (by rw [hda, hpa])] at hy
            rw [List.filter_cons_of_pos hpa]
            cases hy with
            | cons f t => exact .cons (hda ▸ f) (rest _ t)
    exact key vs items hlen (fun j v hj => hp j v (hP j v hj)) _ hF
end
end Mine
end

-- M7
section
open PySem PySem.W PyProof.Rows PySem.Calls PySem.Spec
set_option maxRecDepth 100000
set_option maxHeartbeats 1000000
namespace Mine
theorem Cl.code {w : World} {n : Nat} {h : Heap} {f : Addr} {o : Obj} {fd : FuncData} {body : List Stmt} {args : List Value} {binds : List (Str × Value)} {P : Value → Heap → Heap → Prop}
    (G : Grd w h) (hk : (KF w).lookup f = some o) (hd : o.data = .func fd) (hb : fd.body = .stmts body) (hbind : bindArgs fd ⟨args, []⟩ = pure binds) (hcd : codeIn (KF w) fd.code fd.qualname = true)
    (hcell : ∀ x ∈ fd.scope.names, x.2 ≠ .cell) (hloc : ∀ x ∈ binds, fd.scope.names.lookup x.1 = some .local)
    (run : ∀ (A : Around) (s : Shared) (h0 : Heap) (env : Env) (Q : Flow → Shared → Prop) (E : Value → Shared → Prop), (∃ L, env = callEnv fd L f) → Okk A n → Grd w h0 → Ext h h0 → Fr h0 env.locals s.heap (fun x => binds.reverse.lookup x) →
      (∀ v h' tk, Ext h0 h' → P v h0 h' → Q (.ret v) { s with heap := h', toks := tk }) → wpAny (MM w) A (execs body env) Q E s)
    (hco : fd.scope.isCoroutine = false := by rfl) (hgen : fd.scope.isGenerator = false := by rfl) (hki : fd.scope.kind = .function := by rfl) :
    Cl w (n + 1) h (.ref f) args P := by
  intro A s Q E ok k q
  have G' := G.ext k
  refine wpAny_call (codeAny_call_def (fd := fd) (body := body) (binds := binds) (by have := ok.dp; omega) (G'.K _ _ hk) hd G'.nl (codeRec_of G'.K hcd) hb (.of_eq hbind) hcell hloc (fun h₁ hns hx => ?_) hco hgen hki)
  refine run _ _ s.heap (callEnv fd s.heap.objs.size f) _ _ ⟨_, rfl⟩ ok.deeper G' k ⟨hns, hx, Nat.le_refl _⟩ fun v h' tk e p => ?_
  exact q v h' tk e p
theorem FnEnv.call {fd : FuncData} {L f : Addr} (h1 : fd.scope.kind = .function) (h2 : fd.globals = mainGlobals) (h3 : fd.builtins = builtinsNs) : FnEnv (callEnv fd L f) := ⟨h1, h2, h3⟩
/-- one sign as a text -/
noncomputable def ch (c : Nat) : Str := ⟨#[c]⟩
noncomputable abbrev relC (c : Nat) (v : Value) : Prop := ∃ t, v = .str (ch c) t
noncomputable def decC : Value → Nat
  | .str x _ => x.cps.toList.headD 0
  | _ => 0
theorem decC_of (c : Nat) (v : Value) (h : relC c v) : decC v = c := by obtain ⟨t, rfl⟩ := h; rfl
theorem Tr.b {w : World} {n : Nat} {h : Heap} {env : Env} {e : Expr} {b c : Bool} (x : Tr w n h env e b) (hb : b = c) : Tr w n h env e c := hb ▸ x
theorem Ev.i {w : World} {n : Nat} {h : Heap} {env : Env} {e : Expr} {b c : Int} (x : Ev w n h env e (isI b)) (hb : b = c) : Ev w n h env e (isI c) := hb ▸ x
theorem Ev.s {w : World} {n : Nat} {h : Heap} {env : Env} {e : Expr} {b c : Str} (x : Ev w n h env e (isS b)) (hb : b = c) : Ev w n h env e (isS c) := hb ▸ x
section
variable {w : World} {n : Nat} {h : Heap} {env : Env} {l r e : Expr} {pos : Pos} {a b : Int} {x y : Str}
theorem Ev.addI (hl : Ev w n h env l (isI a)) (hr : Ev w n h env r (isI b)) : Ev w n h env (.BinOp l .Add r pos) (isI (a + b)) :=
  Ev.binop hl hr (fun _ _ _ _ _ _ _ _ p q => by obtain ⟨t, rfl⟩ := p; obtain ⟨u, rfl⟩ := q; exact Bop.addI) (anti_I _)
theorem Ev.subI (hl : Ev w n h env l (isI a)) (hr : Ev w n h env r (isI b)) : Ev w n h env (.BinOp l .Sub r pos) (isI (a - b)) :=
  Ev.binop hl hr (fun _ _ _ _ _ _ _ _ p q => by obtain ⟨t, rfl⟩ := p; obtain ⟨u, rfl⟩ := q; exact Bop.subI) (anti_I _)
theorem Ev.modI (hl : Ev w n h env l (isI a)) (hr : Ev w n h env r (isI b)) (hb : 0 < b) : Ev w n h env (.BinOp l .Mod r pos) (isI (a % b)) :=
  Ev.binop hl hr (fun _ _ _ _ _ _ _ _ p q => by obtain ⟨t, rfl⟩ := p; obtain ⟨u, rfl⟩ := q; rw [← Int.fmod_eq_emod_of_nonneg _ (Int.le_of_lt hb)]; exact Bop.modI (by omega)) (anti_I _)
theorem Ev.divI (hl : Ev w n h env l (isI a)) (hr : Ev w n h env r (isI b)) (hb : 0 < b) (hz : b.natAbs < 1073741824) : Ev w n h env (.BinOp l .FloorDiv r pos) (isI (a / b)) :=
  Ev.binop hl hr (fun _ _ _ _ _ _ _ _ p q => by obtain ⟨t, rfl⟩ := p; obtain ⟨u, rfl⟩ := q; rw [← Int.fdiv_eq_ediv_of_nonneg _ (Int.le_of_lt hb)]; exact Bop.divI (by omega) hz) (anti_I _)
theorem Ev.powI (hl : Ev w n h env l (isI a)) (hr : Ev w n h env r (isI b)) (hb : 0 ≤ b) (hz : b ≤ 1000000) (ha : a.natAbs < 2 ^ 64) : Ev w n h env (.BinOp l .Pow r pos) (isI (a ^ b.toNat)) :=
  Ev.binop hl hr (fun _ _ _ _ _ _ _ _ p q => by obtain ⟨t, rfl⟩ := p; obtain ⟨u, rfl⟩ := q; exact Bop.powI hb hz ha) (anti_I _)
theorem Ev.andI (hl : Ev w n h env l (isI a)) (hr : Ev w n h env r (isI b)) : Ev w n h env (.BinOp l .BitAnd r pos) (isI (Builtin.bitAnd a b)) :=
  Ev.binop hl hr (fun _ _ _ _ _ _ _ _ p q => by obtain ⟨t, rfl⟩ := p; obtain ⟨u, rfl⟩ := q; exact Bop.andI) (anti_I _)
theorem Ev.addS (hl : Ev w n h env l (isS x)) (hr : Ev w n h env r (isS y)) (hz : x.length + y.length ≤ 1000000) : Ev w n h env (.BinOp l .Add r pos) (isS (x ++ y)) :=
  Ev.binop hl hr (fun _ _ _ _ _ _ _ _ p q => by obtain ⟨t, rfl⟩ := p; obtain ⟨u, rfl⟩ := q; exact Bop.addS (by rw [sizeLine_eq]; omega)) (anti_S _)
theorem Ev.nameI {z : Str} {t : Tok} (l : Lk w h env z (.int a t)) : Ev w n h env (.Name z pos) (isI a) := (Ev.name l).mono fun _ _ _ _ _ p => ⟨t, p⟩
theorem Ev.nameS {z : Str} {t : Tok} (l : Lk w h env z (.str x t)) : Ev w n h env (.Name z pos) (isS x) := (Ev.name l).mono fun _ _ _ _ _ p => ⟨t, p⟩
theorem Ev.nameB {z : Str} {c : Bool} (l : Lk w h env z (.bool c)) : Ev w n h env (.Name z pos) (isB c) := Ev.name l
theorem Ev.indexS {o : Expr} {apos : Pos} {pl : Sem Bool} {i : Nat} {rest : List Nat} (hx : Ev w n h env o (isS x)) (hy : Ev w n h env e (isS y)) (ho : Builtin.Str.occurrences x y 0 x.length 1 = i :: rest)
    (hs : starEach [e] env = [(false, eval e env)] := by rfl)
    (he : eval (.Call (.Attribute o "index" apos) [e] [] pos) env = (do
      let ov ← eval o env
      standAt apos.atName
      let (f, first) ← holding [ov] (getMethod ov "index" pl)
      callWith pos f first (backTo pos (starEach [e] env)) []) := by rfl) : Ev w n h env (.Call (.Attribute o "index" apos) [e] [] pos) (isI i) :=
  Ev.meth1 (T := "str") (id := "str.index") (pl := pl) (fun v a b p s k => by obtain ⟨t, rfl⟩ := p; exact ⟨typeIs_str _ _ _, fun _ e => by cases e⟩) F.plainAttrs_str F.slot_str_index F.type_str_index hx hy
    (fun u v a b c _ _ _ p q => by obtain ⟨t, rfl⟩ := p; obtain ⟨t', rfl⟩ := q; exact Cl.indexS ho) (anti_I _) hs he
theorem Ev.sumC {f : Str} {p : Pos} {ns : List Int} (lf : Lk w h env f (.builtin "sum")) (hy : Ev w n h env e (isL fun vs => IntsAre vs ns)) (hf : PySem.SumFits ns) (hs : starEach [e] env = [(false, eval e env)] := by rfl) :
    Ev w n h env (.Call (.Name f p) [e] [] pos) (isI ns.sum) :=
  Ev.callB lf (Evs.cons hy .nil hs) (fun vs a b _ _ p => by obtain ⟨v, r, b', rfl, e1, e2, ⟨T, vs', rfl, _, hl, hi⟩, rfl⟩ := p; exact Cl.sumL (isList_ext hl e2) hi hf) (anti_I _) hs
end
section
variable {w : World} {n : Nat} {h : Heap} {env : Env} {A : Around} {s : Shared} {Q : Flow → Shared → Prop} {E : Value → Shared → Prop} {e : Expr} {pos : Pos} {rest : List Stmt}
theorem run_ret {P : Value → Heap → Heap → Prop} (ok : Okk A n) (k : Ext h s.heap) (x : Ev w n h env e P) (q : ∀ v h' tk, Ext s.heap h' → P v s.heap h' → Q (.ret v) { s with heap := h', toks := tk }) :
    wpAny (MM w) A (execs (.Return (some e) pos :: rest) env) Q E s :=
  wpAny_execs_cons (wpAny_Return_some (x A s _ E ok k fun v h' tk e p => q v h' tk e p))
end
end Mine
end

-- M8
section
open PySem PySem.W PyProof.Rows PySem.Calls PySem.Spec
set_option maxRecDepth 100000
set_option maxHeartbeats 1000000
namespace Mine
noncomputable def upd (m : Str → Option Value) (x : Str) (v : Value) : Str → Option Value := fun y => if y = x then some v else m y
theorem upd_eq {m : Str → Option Value} {x : Str} {v : Value} : upd m x v x = some v := if_pos rfl
theorem upd_ne {m : Str → Option Value} {x y : Str} {v : Value} {r : Option Value} (h : m y = r) (hn : y ≠ x := by decide) : upd m x v y = r := (if_neg hn).trans h
/-- all objects kept but those of M -/
noncomputable def ExtB (M : List Addr) (h h' : Heap) : Prop := ∀ b o, b ∉ M → h.get? b = some o → h'.get? b = some o
theorem ExtB.refl (M : List Addr) (h : Heap) : ExtB M h h := fun _ _ _ e => e
theorem ExtB.trans {M : List Addr} {a b c : Heap} (x : ExtB M a b) (y : ExtB M b c) : ExtB M a c := fun q o hq e => y q o hq (x q o hq e)
theorem Ext.b {M : List Addr} {a b : Heap} (x : Ext a b) : ExtB M a b := fun q o _ e => x q o e
theorem sameB {M : List Addr} {a : Addr} {h h' : Heap} (x : Heap.SameBut a h h') (hm : a ∈ M) : ExtB M h h' := fun b o hb e => x.extBut b o (fun e' => hb (e' ▸ hm)) e
theorem ExtB.base {M : List Addr} {hb h h' : Heap} (x : ExtB M h h') (k : Ext hb h) (hn : ∀ a ∈ M, hb.get? a = none) : Ext hb h' := fun b o e => x b o (fun hm => by rw [hn b hm] at e; cases e) (k b o e)
theorem ExtB.mono {M M' : List Addr} {h h' : Heap} (x : ExtB M h h') (hm : ∀ a ∈ M, a ∈ M') : ExtB M' h h' := fun b o hb e => x b o (fun h => hb (hm _ h)) e
theorem ns_same {h h' : Heap} {a b : Addr} {m : Str → Option Value} (x : h.Ns a m) (s : Heap.SameBut b h h') (hn : a ≠ b) : h'.Ns a m := x.at' fun o e => s.extBut a o hn e
theorem ns_ne {h : Heap} {L T : Addr} {m : Str → Option Value} (x : h.Ns L m) (e : h.get? T = none) : T ≠ L := by
  rintro rfl; obtain ⟨o, _, _, ho, _⟩ := x; rw [ho] at e; cases e

theorem nm1 {a x : Addr} (h : a ≠ x) : a ∉ [x] := fun hm => h (List.mem_singleton.mp hm)
theorem nmc {a x : Addr} {l : List Addr} (h : a ≠ x) (t : a ∉ l) : a ∉ x :: l := fun hm => (List.mem_cons.mp hm).elim h t
theorem nm2 {a x y : Addr} (h : a ≠ x) (h2 : a ≠ y) : a ∉ [x, y] := nmc h (nm1 h2)
theorem gne {h : Heap} {a b : Addr} {o : Obj} (ho : h.get? a = some o) (hn : h.get? b = none) : a ≠ b := fun e => by rw [e, hn] at ho; cases ho
theorem noget {h : Heap} {a : Addr} {o : Obj} {C : Prop} (ho : h.get? a = some o) (hn : h.get? a = none) : C := by rw [hn] at ho; cases ho
inductive FInv (s : Shared) (St : Nat → Heap → Prop) (hb : Heap) (M : List Addr) (L : Addr) (J : Nat → (Str → Option Value) → Heap → Prop) (N kk : Nat) (s' : Shared) : Prop
  | mk (h1 : Heap) (tk1 : Tok) (m1 : Str → Option Value) (i : Nat) (e : s' = { s with heap := h1, toks := tk1 }) (st : St i h1) (k1 : Ext hb h1) (kb : ExtB M s.heap h1) (hn : h1.Ns L m1) (hj : J i m1 h1) (hi : i ≤ N) (hk : N + 1 ≤ kk + i) : FInv s St hb M L J N kk s'
theorem fpos {N kk i : Nat} (h : N + 1 ≤ kk + i) (hi : i ≤ N) : ∃ k, kk = k + 1 := ⟨kk - 1, by omega⟩
theorem fstep {N k i : Nat} (h : N + 1 ≤ k + 1 + i) : N + 1 ≤ k + (i + 1) := by omega
theorem fend {N i : Nat} (h : ¬ i < N) (hi : i ≤ N) : i = N := Nat.le_antisymm hi (Nat.le_of_not_lt h)
section
variable {w : World} {n : Nat} {hb : Heap} {env : Env} {A : Around} {s : Shared} {Q : Flow → Shared → Prop} {E : Value → Shared → Prop} {e t : Expr} {pos px : Pos} {rest body orelse : List Stmt} {x : Str} {m : Str → Option Value}
theorem run_assign {P : Value → Heap → Heap → Prop} (ok : Okk A n) (he : FnEnv env) (hx : env.kindOf x = some .local) (hn : s.heap.Ns env.locals m) (y : Ev w n s.heap env e P)
    (next : ∀ v h' h'' tk, Ext s.heap h' → P v s.heap h' → Heap.SameBut env.locals h' h'' → h''.Ns env.locals (upd m x v) → wpAny (MM w) A (execs rest env) Q E { s with heap := h'', toks := tk })
    (hs : swapsWith e (some (.Name x px)) pos.line env = pure false := by rfl) :
    wpAny (MM w) A (execs (.Assign [.Name x px] e pos :: rest) env) Q E s := by
  refine wpAny_execs_cons (wpAny_Assign_Name (y A s _ E ok (.refl _) fun v h' tk ex p => ?_) hs)
  refine wpAny_storeName_local hx (hn.keeps ex) (fun h'' hn' hs' => ?_) (by rw [he.kind]; rfl)
  exact next v h' h'' _ ex p hs' hn'
theorem run_if {b : Bool} (ok : Okk A n) (y : Tr w n s.heap env t b)
    (next : ∀ h' tk, Ext s.heap h' → wpAny (MM w) A (execs (if b then body else orelse) env) (fun f s' => match f with | .next => wpAny (MM w) A (execs rest env) Q E s' | f => Q f s') E { s with heap := h', toks := tk }) :
    wpAny (MM w) A (execs (.If t body orelse pos :: rest) env) Q E s := by
  refine wpAny_execs_cons (wpAny_If (y A s _ E ok (.refl _) fun h' tk ex => ?_))
  have := next h' tk ex
  cases b <;> exact this
theorem run_nil (q : Q .next s) : wpAny (MM w) A (execs [] env) Q E s := wpAny_execs_nil q
theorem run_append {P : Value → Heap → Heap → Prop} {l : Addr} {its : Array Value} {k : Nat} {apos : Pos} {pl : Sem Bool} (ok : Okk A n) (lx : Lk w s.heap env x (.ref l)) (hl : s.heap.get? l = some (W.listOf its k)) (y : Ev w n s.heap env e P) (hz : its.size ≤ 100000)
    (next : ∀ v h' h'' tk, Ext s.heap h' → P v s.heap h' → Heap.SameBut l h' h'' → h''.get? l = some (W.listOf (its.push v) (k + 1)) → wpAny (MM w) A (execs rest env) Q E { s with heap := h'', toks := tk })
    (hi : interactive env = false) (hs : starEach [e] env = [(false, eval e env)] := by rfl) 
    (he : eval (.Call (.Attribute (.Name x px) "append" apos) [e] [] pos) env = (do
      let ov ← eval (.Name x px) env
      standAt apos.atName
      let (f, first) ← holding [ov] (getMethod ov "append" pl)
      callWith pos f first (backTo pos (starEach [e] env)) []) := by rfl) :
    wpAny (MM w) A (execs (.Expr (.Call (.Attribute (.Name x px) "append" apos) [e] [] pos) pos :: rest) env) Q E s := by
  refine wpAny_execs_cons (wpAny_Expr (MethodCall_ (pl := pl) (lx A s _ E px (.refl _) ?_) he) hi rfl)
  have hl' : s.heap.IsList l its := ⟨_, hl, rfl, _, rfl⟩
  refine getMethod_builtin hl'.typeIs F.plainAttrs_list F.slot_list_append F.type_list_append (fun a e => by cases e; exact ⟨_, hl, rfl⟩) ?_
  dsimp only
  rw [show backTo pos (starEach [e] env) = [(false, eval e env)] from by rw [hs]; rfl]
  refine callWith_builtin rfl (evalArgs_plain (spliced_cons (y A s _ E ok (.refl _) fun v h' tk ex p => spliced_nil ?_)))
  have hl2 : h'.get? l = some (W.listOf its k) := ex _ _ hl
  refine call_meets F.slot_list_append (s := { s with heap := h', toks := tk }) (Heap.IsList.typeIs (s := { s with heap := h', toks := tk }) ⟨_, hl2, rfl, _, rfl⟩) F.entry_list_append (F.args_list_append_2 _ _) (list_append l its k v (by rw [sizeLine_eq]; omega)) ⟨hl2, ?_⟩
  refine next v h' _ tk ex p (Heap.SameBut.update ..) ((Heap.get?_update_self _ hl2 rfl).trans ?_)
  show some (Obj.mk _ _ _ _) = _
  simp [Array.size_push]

theorem run_for {α : Type} {items : List α} {rel : α → Value → Prop} {S : List Addr} {iter : Expr} (ok : Okk A n) (he : FnEnv env) (hx : env.kindOf x = some .local) (hn : s.heap.Ns env.locals m)
    (src : Src w n s.heap env iter S items rel) (k : Ext hb s.heap) (M : List Addr) (hM : ∀ a ∈ env.locals :: M, hb.get? a = none ∧ ∃ o, s.heap.get? a = some o) (hS : ∀ a ∈ S, a ∉ env.locals :: M) (hLM : env.locals ∉ M)
    (J : Nat → (Str → Option Value) → Heap → Prop) (hJ : ∀ i m h h', J i m h → (∀ a ∈ M, ∀ o, h.get? a = some o → h'.get? a = some o) → J i m h') (h0 : J 0 m s.heap)
    (turn : ∀ i a v m1 h1 tk1 (Q' : Flow → Shared → Prop) (E' : Value → Shared → Prop), items[i]? = some a → rel a v → J i m1 h1 → h1.Ns env.locals (upd m1 x v) → Ext hb h1 → ExtB (env.locals :: M) s.heap h1 →
      (∀ h2 tk2 m2, ExtB (env.locals :: M) h1 h2 → h2.Ns env.locals m2 → J (i + 1) m2 h2 → Q' .next { s with heap := h2, toks := tk2 }) → (∀ v s2, Q (.ret v) s2 → Q' (.ret v) s2) →
      wpAny (MM w) A (execs body env) Q' E' { s with heap := h1, toks := tk1 })
    (done : ∀ h' tk m', ExtB (env.locals :: M) s.heap h' → Ext hb h' → h'.Ns env.locals m' → J items.length m' h' → wpAny (MM w) A (execs rest env) Q E { s with heap := h', toks := tk })
    (hs : ∀ x, foldedSetIterable iter env x = pure x := by intro _; rfl) :
    wpAny (MM w) A (execs (.For (.Name x px) iter body [] pos :: rest) env) Q E s := by
  refine wpAny_execs_cons (wpAny_For (src A s _ E ok (.refl _) fun h' tk I fp wr P St e W hp st hf hw lg => ?_) hs)
  have hLM' : ∀ a ∈ env.locals :: M, a ∉ fp := fun a ha hfp => by
    rcases (hf a hfp).2 with h1 | h1
    · obtain ⟨o, ho⟩ := (hM a ha).2; rw [ho] at h1; cases h1
    · exact hS a h1 ha
  have hwM : ∀ a ∈ env.locals :: M, a ∉ wr := fun a ha hwr => hLM' a ha (W.sub _ hwr)
  have hwb : ∀ b o, hb.get? b = some o → b ∉ wr := fun b o eb hbw => by have := k b o eb; rw [hw b hbw] at this; cases this
  have hwS : ∀ b o, s.heap.get? b = some o → b ∉ wr := fun b o eb hbw => by rw [hw b hbw] at eb; cases eb
  refine codeAny_forLoop_any
    (FInv s St hb (env.locals :: M) env.locals J items.length) ?_ (items.length + 1)
    ⟨h', tk, m, 0, rfl, st, k.trans e, e.b, hn.keeps e, hJ 0 m _ _ h0 (fun a _ o eo => e a o eo), Nat.zero_le _, Nat.le_refl _⟩
  rintro kk s' ⟨h1, tk1, m1, i, rfl, st1, k1, kb1, hn1, hj1, hi, hkk⟩
  obtain ⟨k0, rfl⟩ := fpos hkk hi
  by_cases hlt : i < items.length
  · refine W.item i _ _ _ hlt st1 fun v h2 tk2 hP st2 hk2 => ?_
    obtain ⟨a, ha, hr⟩ := hp i v hP
    have hn2 : h2.Ns env.locals m1 := hn1.at' fun o eo => hk2 _ o (hwM _ (List.mem_cons_self ..)) eo
    have hj2 : J i m1 h2 := hJ i m1 _ _ hj1 fun a ha o eo => hk2 a o (hwM a (List.mem_cons_of_mem _ ha)) eo
    refine lg (i + 1) v _ _ _ _ st2 ?_
    refine wpAny_assign_Name (wpAny_storeName_local hx hn2 (fun h3 hn3 hs3 => ?_) (by rw [he.kind]; rfl))
    have hj3 : J i m1 h3 := hJ i m1 _ _ hj2 fun a ha o eo => hs3.extBut a o (fun e => hLM (e ▸ ha)) eo
    have kb3 : ExtB (env.locals :: M) s.heap h3 := fun b o hb' eo => hs3.extBut b o (fun e => hb' (e ▸ List.mem_cons_self ..)) (hk2 b o (hwS b o eo) (kb1 b o hb' eo))
    have st3 : St (i + 1) h3 := W.frame _ _ _ st2 fun b hbf o eo => hs3.extBut b o (fun e => hLM' _ (List.mem_cons_self ..) (e ▸ hbf)) eo
    have k3 : Ext hb h3 := kb3.base k fun a ha => (hM a ha).1
    refine turn i a v m1 h3 _ _ _ ha hr hj3 hn3 k3 kb3 (fun h4 tk4 m4 kb4 hn4 hj4 => ?_) fun v s2 hq => hq
    refine ⟨k0, Nat.lt_succ_self _, h4, tk4, m4, i + 1, rfl, ?_, kb4.base k3 fun a ha => (hM a ha).1, kb3.trans kb4, hn4, hj4, hlt, fstep hkk⟩
    exact W.frame _ _ _ st3 fun b hbf o eo => kb4 b o (fun hm => hLM' b hm hbf) eo
  · have : i = items.length := fend hlt hi
    subst this
    refine W.done _ _ _ st1 fun h2 tk2 hk2 => wpAny_execs_nil ?_
    have kb2 : ExtB (env.locals :: M) s.heap h2 := fun b o hb' eo => hk2 b o (hwS b o eo) (kb1 b o hb' eo)
    exact done h2 tk2 m1 kb2 (kb2.base k fun a ha => (hM a ha).1) (hn1.at' fun o eo => hk2 _ o (hwM _ (List.mem_cons_self ..)) eo) (hJ _ m1 _ _ hj1 fun a ha o eo => hk2 a o (hwM a (List.mem_cons_of_mem _ ha)) eo)
end
end Mine
end

-- M9
section
open PySem PySem.W PyProof.Rows PySem.Calls PySem.Spec
set_option maxRecDepth 100000
set_option maxHeartbeats 1000000
namespace Mine
theorem Cl.codeC {w : World} {n : Nat} {h : Heap} {f : Addr} {o : Obj} {fd : FuncData} {body : List Stmt} {args : List Value} {binds : List (Str × Value)} {P : Value → Heap → Heap → Prop}
    (G : Grd w h) (hk : (KF w).lookup f = some o) (hd : o.data = .func fd) (hb : fd.body = .stmts body) (hbind : bindArgs fd ⟨args, []⟩ = pure binds) (hcd : codeIn (KF w) fd.code fd.qualname = true) (hclo : fd.closure = [])
    (hkind : (binds.all fun y => fd.scope.names.lookup y.1 == some .local || fd.scope.names.lookup y.1 == some .cell) = true)
    (run : ∀ (A : Around) (s : Shared) (h0 : Heap) (env : Env) (Q : Flow → Shared → Prop) (E : Value → Shared → Prop), env = callEnvC fd h0.objs.size f → Okk A n → Grd w h0 → Ext h h0 → Ext h0 s.heap → s.heap.Ns env.locals (bindL env.kindOf binds fun _ => none) →
      (∀ nm c, env.cells.lookup nm = some c → s.heap.IsCell c (bindC env.kindOf binds (fun _ => none) nm)) →
      (∀ v h' tk, Ext h0 h' → P v h0 h' → Q (.ret v) { s with heap := h', toks := tk }) → wpAny (MM w) A (execs body env) Q E s)
    (hco : fd.scope.isCoroutine = false := by rfl) (hgen : fd.scope.isGenerator = false := by rfl) (hki : fd.scope.kind = .function := by rfl) :
    Cl w (n + 1) h (.ref f) args P := by
  intro A s Q E ok k q
  have G' := G.ext k
  refine wpAny_call (codeAny_call_cells (fd := fd) (body := body) (binds := binds) (by have := ok.dp; omega) (G'.K _ _ hk) hd G'.nl (codeRec_of G'.K hcd) hb hbind hclo (kindsX hkind _) (fun s₁ x => ?_) hco hgen hki)
  obtain ⟨h₁, tk, e⟩ := x.toInCall.same
  subst e
  refine run _ _ s.heap (callEnvC fd s.heap.objs.size f) _ _ rfl ok.deeper G' k x.toInCall.keep x.toInCall.ns x.cell fun v h' tk' e p => ?_
  exact q v h' tk' e p
theorem size_none {h : Heap} {a : Addr} (ha : h.objs.size ≤ a) : h.get? a = none := by
  cases e : h.get? a with
  | none => rfl
  | some o => exact absurd (Heap.lt_size e) (Nat.not_lt.mpr ha)
section
variable {w : World} {n : Nat} {hb : Heap} {env : Env} {A : Around} {s : Shared} {Q : Flow → Shared → Prop} {E : Value → Shared → Prop} {e t : Expr} {pos px : Pos} {rest body orelse : List Stmt} {x : Str} {m : Str → Option Value}
theorem run_assignC {P : Value → Heap → Heap → Prop} {c : Addr} {v0 : Option Value} (ok : Okk A n) (he : FnEnv env) (hx : env.kindOf x = some .cell) (hc : env.cells.lookup x = some c) (hv : s.heap.IsCell c v0) (y : Ev w n s.heap env e P)
    (next : ∀ v h' h'' tk, Ext s.heap h' → P v s.heap h' → Heap.SameBut c h' h'' → h''.IsCell c (some v) → wpAny (MM w) A (execs rest env) Q E { s with heap := h'', toks := tk })
    (hs : swapsWith e (some (.Name x px)) pos.line env = pure false := by rfl) :
    wpAny (MM w) A (execs (.Assign [.Name x px] e pos :: rest) env) Q E s := by
  refine wpAny_execs_cons (wpAny_Assign_Name (y A s _ E ok (.refl _) fun v h' tk ex p => ?_) hs)
  refine wpAny_storeName_cell he.kind hx hc (hv.keeps ex) (fun h'' hn' hs' => ?_)
  exact next v h' h'' _ ex p hs' hn'
end
theorem isCell_same {h h' : Heap} {a c : Addr} {v : Option Value} (x : h.IsCell c v) (s : Heap.SameBut a h h') (hn : c ≠ a) : h'.IsCell c v := let ⟨o, ho, hd⟩ := x; ⟨o, s.extBut c o hn ho, hd⟩
theorem isList_same {h h' : Heap} {a c : Addr} {v : Array Value} (x : h.IsList c v) (s : Heap.SameBut a h h') (hn : c ≠ a) : h'.IsList c v := let ⟨o, ho, hd⟩ := x; ⟨o, s.extBut c o hn ho, hd⟩

section
variable {w : World} {n : Nat} {h : Heap} {env : Env} {P P1 P2 : Value → Heap → Heap → Prop} {e t b o e1 e2 : Expr} {es : List Expr} {pos p : Pos} {x y : Str} {i j : Int} {f : Str}
/-- a new list, as an object -/
inductive isLo (S : List Value → Prop) (v : Value) (h h' : Heap) : Prop
  | mk (T : Addr) (vs : List Value) (e : v = .ref T) (hn : h.get? T = none) (hl : h'.get? T = some (W.listOf vs.toArray 0)) (hp : S vs) : isLo S v h h'
theorem Ev.listO {R : List Value → Heap → Heap → Prop} {S : List Value → Prop} (x : Evs w n h env es R) (hz : ∀ vs a b, R vs a b → vs.length ≤ sizeLine ∧ S vs) : Ev w n h env (.List es pos) (isLo S) := by
  intro A s Q E ok k q
  refine wpAny_List (x A s _ E pos ok k fun vs h2 tk e p => ⟨(hz _ _ _ p).1, ?_⟩)
  exact q _ _ _ (e.trans (Ext.push _ _)) ⟨_, vs, rfl, e.none (next_none h2), Heap.get?_push_size _ rfl, (hz _ _ _ p).2⟩
theorem Ev.nilO : Ev w n h env (.List [] pos) (isLo fun vs => vs = []) := Ev.listO Evs.nil fun vs a b hv => ⟨by rw [hv, sizeLine_eq]; decide, hv⟩
theorem Ev.ofI {tk : Tok} (x : Ev w n h env e (isV (.int i tk))) : Ev w n h env e (isI i) := x.mono fun _ _ _ _ _ p => ⟨tk, p⟩
theorem Ev.ofS {tk : Tok} (z : Ev w n h env e (isV (.str x tk))) : Ev w n h env e (isS x) := z.mono fun _ _ _ _ _ p => ⟨tk, p⟩
theorem Ev.ifI {c : Bool} (ht : Tr w n h env t c) (hb : Ev w n h env b (isI i)) (ho : Ev w n h env o (isI j)) : Ev w n h env (.IfExp t b o pos) (isI (if c then i else j)) := by
  cases c
  · exact Ev.ifF ht ho (anti_I _)
  · exact Ev.ifT ht hb (anti_I _)
theorem Ev.ifS {c : Bool} (ht : Tr w n h env t c) (hb : c = true → Ev w n h env b (isS x)) (ho : c = false → Ev w n h env o (isS x)) : Ev w n h env (.IfExp t b o pos) (isS x) := by
  cases c
  · exact Ev.ifF ht (ho rfl) (anti_S _)
  · exact Ev.ifT ht (hb rfl) (anti_S _)
theorem Ev.ifL {S : List Value → Prop} {c : Bool} (ht : Tr w n h env t c) (hb : c = true → Ev w n h env b (isL S)) (ho : c = false → Ev w n h env o (isL S)) : Ev w n h env (.IfExp t b o pos) (isL S) := by
  cases c
  · exact Ev.ifF ht (ho rfl) (anti_L _)
  · exact Ev.ifT ht (hb rfl) (anti_L _)
theorem Tr.or {c d : Bool} (hx : Tr w n h env e1 c) (hy : c = false → Tr w n h env e2 d) : Tr w n h env (.BoolOp .Or [e1, e2] pos) (c || d) := by
  intro A s Q E ok k q
  refine wpAny_isTrue_BoolOp (wpAny_allTrue_Or_cons (hx A s _ E ok k fun h' tk e => ?_))
  cases c with
  | true => exact q h' tk e
  | false =>
    refine wpAny_allTrue_Or_cons (hy rfl A _ _ E ok (k.trans e) fun h2 tk2 e2 => ?_)
    cases d with
    | true => exact q h2 tk2 (e.trans e2)
    | false => exact wpAny_allTrue_Or_nil (q h2 tk2 (e.trans e2))
theorem Ev.minC {ns : List Int} {M : Int} (lf : Lk w h env f (.builtin "min")) (hy : Ev w n h env e (isL fun vs => IntsAre vs ns)) (hne : 0 < ns.length) (h1 : M ∈ ns) (h2 : ∀ a ∈ ns, M ≤ a) (hs : starEach [e] env = [(false, eval e env)] := by rfl) :
    Ev w n h env (.Call (.Name f p) [e] [] pos) (isI M) :=
  Ev.callB lf (Evs.cons hy .nil hs) (fun vs a b _ _ p => by obtain ⟨v, r, b', rfl, e1, e2, ⟨T, vs', rfl, _, hl, hi⟩, rfl⟩ := p; exact Cl.minL (isList_ext hl e2) hi hne h1 h2) (anti_I _) hs
theorem Ev.lenL {T : Addr} {vs : List Value} (lf : Lk w h env f (.builtin "len")) (hy : Ev w n h env e (isV (.ref T))) (hl : h.IsList T vs.toArray) (hz : vs.length < 1000000) (hs : starEach [e] env = [(false, eval e env)] := by rfl) :
    Ev w n h env (.Call (.Name f p) [e] [] pos) (isI vs.length) :=
  Ev.callB lf (Evs.cons hy .nil hs) (fun vs a b ea eb p => by obtain ⟨v, r, b', rfl, e1, e2, rfl, rfl⟩ := p; exact Cl.lenL (isList_ext hl (ea.trans eb)) hz) (anti_I _) hs
theorem Ev.lenS (lf : Lk w h env f (.builtin "len")) (hy : Ev w n h env e (isS x)) (hz : x.length < 1000000) (hs : starEach [e] env = [(false, eval e env)] := by rfl) :
    Ev w n h env (.Call (.Name f p) [e] [] pos) (isI x.length) :=
  Ev.callB lf (Evs.cons hy .nil hs) (fun vs a b ea eb p => by obtain ⟨v, r, b', rfl, e1, e2, ⟨t, rfl⟩, rfl⟩ := p; exact Cl.lenS hz) (anti_I _) hs
theorem Tr.eqI (hx : Ev w n h env e1 (isI i)) (hy : Ev w n h env e2 (isI j)) (hm : behindInMarks .Eq e2 = false := by with_unfolding_all rfl) : Tr w n h env (.Compare e1 [.Eq] [e2] pos) (i == j) :=
  Tr.cmp hx hy (fun _ _ _ _ _ _ _ _ p q => by obtain ⟨t, rfl⟩ := p; obtain ⟨u, rfl⟩ := q; exact Cmp.eqI) hm
theorem Ev.eqI (hx : Ev w n h env e1 (isI i)) (hy : Ev w n h env e2 (isI j)) (hm : behindInMarks .Eq e2 = false := by with_unfolding_all rfl) : Ev w n h env (.Compare e1 [.Eq] [e2] pos) (isB (i == j)) :=
  Ev.cmp hx hy (fun _ _ _ _ _ _ _ _ p q => by obtain ⟨t, rfl⟩ := p; obtain ⟨u, rfl⟩ := q; exact Cmp.eqI) hm
theorem Tr.neI (hx : Ev w n h env e1 (isI i)) (hy : Ev w n h env e2 (isI j)) (hm : behindInMarks .NotEq e2 = false := by with_unfolding_all rfl) : Tr w n h env (.Compare e1 [.NotEq] [e2] pos) (i != j) :=
  Tr.cmp hx hy (fun _ _ _ _ _ _ _ _ p q => by obtain ⟨t, rfl⟩ := p; obtain ⟨u, rfl⟩ := q; exact Cmp.neI) hm
theorem Tr.ltI (hx : Ev w n h env e1 (isI i)) (hy : Ev w n h env e2 (isI j)) (hm : behindInMarks .Lt e2 = false := by with_unfolding_all rfl) : Tr w n h env (.Compare e1 [.Lt] [e2] pos) (decide (i < j)) :=
  Tr.cmp hx hy (fun _ _ _ _ _ _ _ _ p q => by obtain ⟨t, rfl⟩ := p; obtain ⟨u, rfl⟩ := q; exact Cmp.ltI) hm
theorem Tr.eqB {c d : Bool} (hx : Ev w n h env e1 (isB c)) (hy : Ev w n h env e2 (isB d)) (hm : behindInMarks .Eq e2 = false := by with_unfolding_all rfl) : Tr w n h env (.Compare e1 [.Eq] [e2] pos) (c == d) :=
  Tr.cmp hx hy (fun _ _ _ _ _ _ _ _ p q => by rw [p, q]; exact Cmp.eqB) hm
end

noncomputable def cloOf (cells : List (Str × Addr)) : List (Str × NameKind) → List (Str × Addr) → Option (List (Str × Addr))
  | [], acc => some acc
  | (n, k) :: r, acc => if k == .free then (match cells.lookup n with | some a => cloOf cells r ((n, a) :: acc) | none => none) else cloOf cells r acc
theorem closureFor_eq {scope : Scope} {env : Env} {cl : List (Str × Addr)} (h : cloOf env.cells scope.names [] = some cl) : closureFor scope env = pure cl := by
  have key : ∀ (names : List (Str × NameKind)) (acc : List (Str × Addr)), cloOf env.cells names acc = some cl →
      (forIn names acc fun x cs => match x with | (name, kind) => (if (kind == NameKind.free) = true then do let a ← cellOf env name; pure (ForInStep.yield ((name, a) :: cs)) else pure (ForInStep.yield cs) : Sem (ForInStep (List (Str × Addr))))) = pure cl := by
    intro names
    induction names with
    | nil => intro acc h; cases h; rfl
    | cons x r ih =>
      intro acc h
      obtain ⟨nm, kd⟩ := x
      rw [cloOf] at h
      rw [List.forIn_cons]
      dsimp only
      by_cases hk : (kd == NameKind.free) = true
      · rw [if_pos hk] at h ⊢
        cases hc : env.cells.lookup nm with
        | none => rw [hc] at h; cases h
        | some a =>
          rw [hc] at h
          have e : cellOf env nm = pure a := by unfold cellOf; rw [hc]
          rw [e]
          exact ih _ h
      · rw [if_neg hk] at h ⊢
        exact ih _ h
  have := key scope.names [] h
  show (forIn scope.names [] _ >>= fun cs => pure cs) = _
  have e : (forIn scope.names [] fun x cs => match x with | (name, kind) => (if (kind == NameKind.free) = true then do let a ← cellOf env name; pure (ForInStep.yield ((name, a) :: cs)) else pure (ForInStep.yield cs) : Sem (ForInStep (List (Str × Addr))))) >>= (fun cs => pure cs) = (pure cl : Sem _) := by rw [this]; rfl
  exact e
theorem relabel_lookup {env : Env} {scope : Scope} {x : Str} {k : NameKind} (h : scope.names.lookup x = some k) (hk : (k == NameKind.free) = false) : (relabel scope env).names.lookup x = some k := by
  unfold relabel
  dsimp only
  generalize scope.names = names at h
  induction names with
  | nil => simp at h
  | cons y r ih =>
    obtain ⟨nm, kd⟩ := y
    rw [List.map_cons]
    cases hx : x == nm with
    | true =>
      rw [List.lookup_cons, hx] at h
      cases h
      simp [List.lookup_cons, hx, hk]
    | false =>
      rw [List.lookup_cons, hx] at h
      have := ih h
      dsimp only
      split <;> (rw [List.lookup_cons, hx]; exact this)
theorem relabel_cell {env : Env} {scope : Scope} {x : Str} (h : scope.names.lookup x = some .free) (he : FnEnv env) (hk : env.kindOf x = some .cell) : (relabel scope env).names.lookup x = some .cell := by
  unfold relabel
  dsimp only
  generalize scope.names = names at h
  induction names with
  | nil => simp at h
  | cons y r ih =>
    obtain ⟨nm, kd⟩ := y
    rw [List.map_cons]
    cases hx : x == nm with
    | true =>
      rw [List.lookup_cons, hx] at h
      cases h
      have hxn : x = nm := by simpa using hx
      subst hxn
      simp [List.lookup_cons, he.kind, hk]
    | false =>
      rw [List.lookup_cons, hx] at h
      have := ih h
      dsimp only
      split <;> (rw [List.lookup_cons, hx]; exact this)
theorem pow9 : ∀ k : Nat, k < 9 → ((2 : Int) ^ k).natAbs < 1073741824 := by decide
theorem pow9b : ∀ k : Nat, k < 9 → 0 < (2 : Int) ^ (8 - k) ∧ (2 : Int) ^ (8 - k) ≤ 256 := by decide
theorem paired_append {α β : Type} {F : α → β → Prop} {l₁ l₁' : List α} {l₂ l₂' : List β} (h : Paired F l₁ l₂) (h' : Paired F l₁' l₂') : Paired F (l₁ ++ l₁') (l₂ ++ l₂') := by
  induction h with
  | nil => exact h'
  | cons f _ ih => exact .cons f ih
theorem paired_unmap {α β γ : Type} {F : β → γ → Prop} {f : α → β} : ∀ {l : List α} {ys : List γ}, Paired F (l.map f) ys → Paired (fun a y => F (f a) y) l ys
  | [], _, .nil => .nil
  | _ :: _, _, .cons h t => .cons h (paired_unmap t)
theorem ch_lens (cs : List Nat) : ((cs.map ch).map (·.length)).sum = cs.length := by
  induction cs with
  | nil => rfl
  | cons c cs ih => rw [List.map_cons, List.map_cons, List.sum_cons, ih, List.length_cons]; show 1 + _ = _; omega
end Mine
end

-- P0
section
namespace Mine
noncomputable def bitI (r : Int) (k : Nat) : Bool := r / 2 ^ (8 - k) % 2 == 1
/-- the heights up to step k -/
noncomputable def hts (r : Int) (op : Bool) : Nat → List Int
  | 0 => [0]
  | k + 1 => hts r op k ++ [(hts r op k).getLastD 0 + (if bitI r k == op then 1 else -1)]
noncomputable def minL : List Int → Int
  | [] => 0
  | [a] => a
  | a :: l => min a (minL l)
noncomputable def freeTest (H : List Int) (k : Nat) : Bool := decide (H.getD (k + 1) 0 < minL (H.take (k + 1))) || decide (H.getD k 0 < minL (H.drop (k + 1)))
noncomputable def freeH (r : Int) (op : Bool) : List Int := ((List.range 9).filter (freeTest (hts r op 9))).map fun k => (2 : Int) ^ (8 - k)
noncomputable def keptH (r : Int) (op : Bool) : Int := r - ((freeH r op).filter fun b => r / b % 2 == 1).sum
noncomputable def someH (f : List Int) (op : Bool) (k : Nat) : List Int := if op then f.drop (f.length - k) else f.take k
noncomputable def byH (r : Int) (op : Bool) : List Int := (List.range ((freeH r op).length + 1)).map fun k => keptH r op + (someH (freeH r op) op k).sum
theorem hts_len (r : Int) (op : Bool) : ∀ k, (hts r op k).length = k + 1
  | 0 => rfl
  | k + 1 => by rw [hts, List.length_append, hts_len r op k]; rfl
theorem minL_mem : ∀ (l : List Int), l ≠ [] → minL l ∈ l
  | [], h => absurd rfl h
  | [a], _ => by simp [minL]
  | a :: b :: l, _ => by
    have e : minL (a :: b :: l) = min a (minL (b :: l)) := rfl
    rw [e]
    rcases Int.le_total a (minL (b :: l)) with h | h
    · rw [Int.min_eq_left h]; exact List.mem_cons_self ..
    · rw [Int.min_eq_right h]; exact List.mem_cons_of_mem _ (minL_mem (b :: l) (by simp))
theorem minL_le : ∀ (l : List Int), ∀ a ∈ l, minL l ≤ a
  | [], _, h => by simp at h
  | [b], a, h => by simp at h; subst h; simp [minL]
  | b :: c :: l, a, h => by
    have e : minL (b :: c :: l) = min b (minL (c :: l)) := rfl
    rw [e]
    rcases List.mem_cons.mp h with rfl | h
    · exact Int.min_le_left ..
    · exact Int.le_trans (Int.min_le_right ..) (minL_le (c :: l) a h)
end Mine
end

-- N1
section
open PySem PySem.W PyProof.Rows PySem.Calls PySem.Spec
set_option maxRecDepth 100000
set_option maxHeartbeats 1000000
namespace Mine
noncomputable def numF (cs : List Nat) : Int := (cs.map fun c => (256 / 2 ^ (c - 97) : Int)).sum
theorem occD : ∀ d < 9, Builtin.Str.occurrences (Str.ofString "abcdefghi") (ch (97 + d)) 0 (Str.ofString "abcdefghi").length 1 = [d] := by decide +kernel
theorem d9 {c : Nat} (h1 : 97 ≤ c) (h2 : c ≤ 105) : c - 97 < 9 := Nat.sub_lt_left_of_lt_add h1 (Nat.lt_succ_of_le h2)
theorem occ9 {c : Nat} (h1 : 97 ≤ c) (h2 : c ≤ 105) : Builtin.Str.occurrences (Str.ofString "abcdefghi") (ch c) 0 (Str.ofString "abcdefghi").length 1 = (c - 97) :: [] := by
  have := occD (c - 97) (d9 h1 h2)
  rwa [Nat.add_sub_cancel' h1] at this
theorem num9 : ∀ k : Nat, k < 9 → 0 ≤ (256 / 2 ^ k : Int) ∧ (256 / 2 ^ k : Int) ≤ 1000000 := by decide
theorem number_cl {w : World} {h : Heap} {T : Addr} {vs : List Value} {cs : List Nat} (G : Grd w h) (hl : h.IsList T vs.toArray) (hi : StrsAre vs (cs.map ch)) (hr : ∀ c ∈ cs, 97 ≤ c ∧ c ≤ 105) (hz : cs.length ≤ 100) :
    Cl w 3 h (.ref 169) [.ref T] (isI (numF cs)) := by
  refine Cl.code (n := 2) (binds := [(Str.ofString "letters", .ref T)]) G (by rfl) rfl rfl (by rfl) (by rfl) (by decide) (locs rfl) ?_
  intro A s h0 env Q E hv ok G0 e0 F q
  have he : FnEnv env := by obtain ⟨L, rfl⟩ := hv; exact .call rfl rfl rfl
  have kl : env.kindOf (Str.ofString "letters") = some .local := by obtain ⟨L, rfl⟩ := hv; rfl
  have ks : env.kindOf (Str.ofString "sum") = some .globalImplicit := by obtain ⟨L, rfl⟩ := hv; rfl
  have Gs := G0.ext (h' := s.heap) F.keep
  have ll : Lk w s.heap env (Str.ofString "letters") (.ref T) := .loc F.ns rfl he kl (by decide)
  have ls : Lk w s.heap env (Str.ofString "sum") (.builtin "sum") := .blt Gs he ks (by rfl) (by rfl) (by decide) (by decide)
  have hl' : s.heap.IsList T vs.toArray := isList_ext hl (e0.trans F.keep)
  refine run_ret (P := isI (numF cs)) ok (.refl _) ?_ fun v h' tk e p => q v h' tk (Ext.trans F.keep e) p
  refine Ev.sumC (ns := cs.map fun c => (256 / 2 ^ (c - 97) : Int)) ls ?_ ?_
  · refine (Ev.comp (p := fun _ => true) (relY := fun c v => relI (256 / 2 ^ (c - 97)) v) (cl := []) (dec := decC) (rel := relC) (items := cs) (Src.list (Ev.name ll) hl' (paired_unmap (F := relS) (f := ch) (are_strs hi))) decC_of (Nat.le_trans hz (by decide)) (closureFor_none (by decide)) (by decide) rfl (by decide) rfl (by decide) he ?_ ?_).mono ?_
    · intro a v hc C _ _ _ _
      exact rfl
    · intro c v hc C hm _ hrel ex lk
      obtain ⟨t, rfl⟩ := hrel
      obtain ⟨h1, h2⟩ := hr c hm
      refine ((Ev.divI .int (Ev.powI .int (Ev.indexS .str (Ev.nameS lk) (occ9 h1 h2)) (Int.natCast_nonneg _) (Int.ofNat_le.mpr (Nat.le_trans (Nat.le_of_lt (d9 h1 h2)) (by decide))) (by decide)) ?_ ?_).i ?_).mono fun v _ _ _ _ p => p
      · exact Int.pow_pos (by decide)
      · exact pow9 _ (d9 h1 h2)
      · rfl
    · intro v a b _ _ p
      obtain ⟨T', vs', h1, h2, h3, h4⟩ := p
      rw [List.filter_eq_self.mpr (by simp)] at h4
      exact ⟨T', vs', h1, h2, h3, ints_are (paired_map h4)⟩
  · refine sumFits_small (fun a ha => ?_) (by rw [List.length_map]; exact Nat.le_trans hz (by decide))
    obtain ⟨c, hc, rfl⟩ := List.mem_map.mp ha
    obtain ⟨h1, h2⟩ := hr c hc
    exact num9 (c - 97) (d9 h1 h2)
end Mine
end

-- N2
section
open PySem PySem.W PyProof.Rows PySem.Calls PySem.Spec
set_option maxRecDepth 100000
set_option maxHeartbeats 1000000
namespace Mine
structure A9 (a : Nat) : Prop where
  p0 : (0 : Int) ≤ 8 - (a : Nat)
  p1 : (8 : Int) - (a : Nat) ≤ 1000000
  e8 : ((8 : Int) - (a : Nat)).toNat = 8 - a
  lt : 8 - a < 9
  n0 : (0 : Int) ≤ (a : Nat)
  n1 : ((a : Nat) : Int) < 1000000
  s0 : (0 : Int) ≤ ((a : Nat) : Int) + 1
  s1 : ((a : Nat) : Int) + 1 < 1000000
  s2 : (((a : Nat) : Int) + 1).toNat = a + 1
  l1 : a + 1 < 10
  l0 : a < 10
theorem a9 {a : Nat} (h : a < 9) : A9 a := by constructor <;> omega
theorem i_range {i a N : Nat} (h : (List.range N)[i]? = some a) : i < N ∧ a = i := by
  rw [List.getElem?_eq_some_iff] at h
  obtain ⟨h1, h2⟩ := h
  simp at h1 h2
  exact ⟨h1, h2.symm⟩
theorem last_neg {l a : Nat} (h : l = a + 1) : -(l : Int) ≤ -1 ∧ ((-1 : Int) + (l : Int)).toNat = a := by
  subst h
  refine ⟨Int.neg_le_neg (Int.ofNat_le.mpr (Nat.succ_le_succ (Nat.zero_le a))), ?_⟩
  show ((-1 : Int) + ((a : Int) + 1)).toNat = a
  rw [Int.add_comm, Int.add_neg_cancel_right]
  rfl
theorem hts_at (r : Int) (op : Bool) {a : Nat} (h : a < 10) : (hts r op 9)[a]? = some ((hts r op 9).getD a 0) := by
  rw [List.getD_eq_getElem?_getD, List.getElem?_eq_getElem (by rw [hts_len]; exact h)]; rfl
theorem size_le {vs : List Value} {n : Nat} (h : vs.length ≤ n) (hn : n ≤ 1000) : vs.toArray.size ≤ 100000 := Nat.le_trans (Nat.le_trans h hn) (by decide)
theorem pos_take {l : List Int} {a : Nat} (h : l.length = 10) : 0 < (l.take (a + 1)).length := by rw [List.length_take]; omega
theorem pos_drop {l : List Int} {a : Nat} (h : l.length = 10) (ha : a < 9) : 0 < (l.drop (a + 1)).length := by rw [List.length_drop]; omega
theorem b256 {b : Int} (h : 0 < b ∧ b ≤ 256) : b.natAbs < 1073741824 ∧ 0 ≤ b ∧ b ≤ 1000000 := by omega
theorem sub_nat {l f a : Nat} (h : l = f) (ha : a ≤ f) : 0 ≤ ((l : Nat) : Int) - (a : Nat) ∧ (((l : Nat) : Int) - (a : Nat)).toNat = f - a := by omega
theorem some_len {f : List Int} {op : Bool} {k : Nat} : (someH f op k).length ≤ f.length := by
  unfold someH
  split
  · rw [List.length_drop]; omega
  · rw [List.length_take]; omega
theorem some_mem {f : List Int} {op : Bool} {k : Nat} : ∀ x ∈ someH f op k, x ∈ f := by
  intro x hx
  unfold someH at hx
  split at hx
  · exact List.mem_of_mem_drop hx
  · exact List.mem_of_mem_take hx
inductive JH (N H : Addr) (is : List Int) (m : Str → Option Value) (h : Heap) : Prop
  | mk (a : m (Str.ofString "heights") = some (.ref N)) (kk : Nat) (vs : List Value) (b : h.get? H = some (W.listOf vs.toArray kk)) (c : IntsAre vs is) : JH N H is m h
theorem heights_cl {w : World} {h : Heap} {r : Int} {t : Tok} {op : Bool} (G : Grd w h) (h0r : 0 ≤ r) (h1r : r < 512) :
    Cl w 5 h (.ref 184) [.int r t, .bool op] (isL fun vs => IntsAre vs (byH r op)) := by
  refine Cl.codeC (n := 4) (binds := [(Str.ofString "rights", .int r t), (Str.ofString "opening", .bool op)]) G (by rfl) rfl rfl (by rfl) (by rfl) rfl (by rfl) ?_
  intro A s h0 env Q E henv ok G0 e0 F hn hcl q
  have he : FnEnv env := by rw [henv]; exact ⟨rfl, rfl, rfl⟩
  have hL : env.locals = h0.objs.size := by rw [henv]; rfl
  have i1 : interactive env = false := by rw [henv]; rfl
  have k1 : env.kindOf (Str.ofString "rights") = some .cell := by rw [henv]; rfl
  have k2 : env.kindOf (Str.ofString "opening") = some .cell := by rw [henv]; rfl
  have k3 : env.kindOf (Str.ofString "free") = some .cell := by rw [henv]; rfl
  have k4 : env.kindOf (Str.ofString "kept") = some .cell := by rw [henv]; rfl
  have k5 : env.kindOf (Str.ofString "heights") = some .local := by rw [henv]; rfl
  have k6 : env.kindOf (Str.ofString "k") = some .local := by rw [henv]; rfl
  have k7 : env.kindOf (Str.ofString "there") = some .local := by rw [henv]; rfl
  have k8 : env.kindOf (Str.ofString "range") = some .globalImplicit := by rw [henv]; rfl
  have k9 : env.kindOf (Str.ofString "min") = some .globalImplicit := by rw [henv]; rfl
  have k10 : env.kindOf (Str.ofString "sum") = some .globalImplicit := by rw [henv]; rfl
  have k11 : env.kindOf (Str.ofString "len") = some .globalImplicit := by rw [henv]; rfl
  have c1 : env.cells.lookup (Str.ofString "rights") = some (h0.objs.size + 1) := by rw [henv]; rfl
  have c2 : env.cells.lookup (Str.ofString "opening") = some (h0.objs.size + 1 + 1) := by rw [henv]; rfl
  have c3 : env.cells.lookup (Str.ofString "free") = some (h0.objs.size + 1 + 1 + 1) := by rw [henv]; rfl
  have c4 : env.cells.lookup (Str.ofString "kept") = some (h0.objs.size + 1 + 1 + 1 + 1) := by rw [henv]; rfl
  have v1 : s.heap.IsCell (h0.objs.size + 1) (some (.int r t)) := by have := hcl _ _ c1; rw [henv] at this; exact this
  have v2 : s.heap.IsCell (h0.objs.size + 1 + 1) (some (.bool op)) := by have := hcl _ _ c2; rw [henv] at this; exact this
  have v3 : s.heap.IsCell (h0.objs.size + 1 + 1 + 1) none := by have := hcl _ _ c3; rw [henv] at this; exact this
  have v4 : s.heap.IsCell (h0.objs.size + 1 + 1 + 1 + 1) none := by have := hcl _ _ c4; rw [henv] at this; exact this
  have hcells : env.cells = [(Str.ofString "kept", h0.objs.size + 1 + 1 + 1 + 1), (Str.ofString "free", h0.objs.size + 1 + 1 + 1), (Str.ofString "opening", h0.objs.size + 1 + 1), (Str.ofString "rights", h0.objs.size + 1)] := by rw [henv]; rfl
  clear hcl henv
  -- heights = [0]
  refine run_assign ok he k5 hn (P := isLo fun vs => ∃ u, vs = [.int 0 u]) (Ev.listO (Evs.cons .int .nil) ?_) ?_
  · rintro vs a b ⟨v, r', b', rfl, _, _, ⟨u, rfl⟩, rfl⟩
    exact ⟨by rw [sizeLine_eq]; simp, u, rfl⟩
  rintro v h1 h2 tk2 x1 ⟨H, vs, rfl, hf, hl, u, rfl⟩ sb hn2
  have hHL : H ≠ env.locals := ns_ne hn hf
  have cn : ∀ {c v}, s.heap.IsCell c v → c ≠ env.locals ∧ c ≠ H := fun {c v} hv => by
    obtain ⟨o, ho, hd⟩ := hv
    refine ⟨?_, fun e => by rw [e, hf] at ho; cases ho⟩
    rintro rfl
    obtain ⟨o', es, ep, ho', hd', _⟩ := hn
    rw [ho] at ho'; cases ho'; rw [hd] at hd'; cases hd'
  have w1 := isCell_same (v1.keeps x1) sb (cn v1).1
  have w2 := isCell_same (v2.keeps x1) sb (cn v2).1
  have w3 := isCell_same (v3.keeps x1) sb (cn v3).1
  have w4 := isCell_same (v4.keeps x1) sb (cn v4).1
  have hl2 : h2.get? H = some (W.listOf #[.int 0 u] 0) := sb.extBut H _ hHL hl
  have kL : h0.get? env.locals = none := size_none (by rw [hL]; exact Nat.le_refl _)
  have e2 : Ext h0 h2 := ((F.trans x1).b (M := [env.locals])).trans (sameB sb (List.mem_singleton.mpr rfl)) |>.base (Ext.refl _) (fun a ha => by rw [List.mem_singleton.mp ha]; exact kL)
  have lr : Lk w h2 env (Str.ofString "range") (.type "range") := .blt (G0.ext e2) he k8 (by rfl) (by rfl) (by decide) (by decide)
  -- the first loop
  refine run_for (hb := h0) (x := Str.ofString "k") (s := { s with heap := h2, toks := tk2 }) ok he k6 hn2 (Src.range (N := 9) lr .int (by decide)) e2 [H] ?_ (by simp) (by simpa using Ne.symm hHL)
    (fun k => JH H H (hts r op k)) ?_ ⟨upd_eq, 0, [.int 0 u], hl2, .cons _ _ .nil⟩ ?_ ?_
  · intro a ha
    rcases List.mem_cons.mp ha with rfl | ha
    · obtain ⟨o, _, _, ho, _⟩ := hn2
      exact ⟨kL, o, ho⟩
    · rw [List.mem_singleton.mp ha]
      exact ⟨F.none hf, _, hl2⟩
  · rintro k m g g' ⟨a, kk, vs, b, c⟩ hk
    exact ⟨a, kk, vs, hk H (List.mem_singleton.mpr rfl) _ b, c⟩
  · rintro i a v m1 h3 tk3 Q' E' hi hr ⟨hm, kk, vs, hH, hI⟩ hn3 e3 kb3 qn _
    obtain ⟨hi9, rfl⟩ := i_range hi
    have A := a9 hi9
    obtain ⟨tv, rfl⟩ := hr
    have cnH : ∀ {c v}, s.heap.IsCell c v → h2.IsCell c v → h3.IsCell c v := fun {c v} hv hw => by
      obtain ⟨o, ho, hd⟩ := hw
      exact ⟨o, kb3 c o (nm2 ((cn hv).1) ((cn hv).2)) ho, hd⟩
    have y1 := cnH v1 w1
    have y2 := cnH v2 w2
    have lrt : Lk w h3 env (Str.ofString "rights") (.int r t) := .cell c1 y1 he k1 (by decide)
    have lk : Lk w h3 env (Str.ofString "k") (.int a tv) := .loc hn3 upd_eq he k6 (by decide)
    have e8 := A.e8
    -- there = ..
    refine run_assign (s := { s with heap := h3, toks := tk3 }) (P := isB (bitI r a)) ok he k7 hn3 ?_ ?_
    · refine (Ev.eqI (Ev.modI (Ev.divI (Ev.nameI lrt) (Ev.powI .int (Ev.subI .int (Ev.nameI lk)) A.p0 A.p1 (by decide)) ?_ ?_) .int (by decide)) .int).mono ?_
      · exact Int.pow_pos (by decide)
      · rw [e8]; exact pow9 _ A.lt
      · intro v _ _ _ _ p; rw [p, e8]; rfl
    rintro v h4 h5 tk5 x4 rfl sb5 hn5
    have l5 : h5.get? H = some (W.listOf vs.toArray kk) := sb5.extBut H _ hHL (x4 _ _ hH)
    have z2 := isCell_same (y2.keeps x4) sb5 (cn v2).1
    have lo5 : Lk w h5 env (Str.ofString "opening") (.bool op) := .cell c2 z2 he k2 (by decide)
    have lt5 : Lk w h5 env (Str.ofString "there") (.bool (bitI r a)) := .loc hn5 upd_eq he k7 (by decide)
    have lh5 : Lk w h5 env (Str.ofString "heights") (.ref H) := .loc hn5 (upd_ne (upd_ne hm)) he k5 (by decide)
    have hlen : vs.length = a + 1 := by rw [hI.length, hts_len]
    obtain ⟨tl, hlast⟩ := hI.get a ((hts r op a).getLastD 0) (by
      have : (hts r op a).length = a + 1 := hts_len ..
      rw [List.getLastD_eq_getLast?, List.getLast?_eq_getElem?, this]
      simp [this])
    refine run_append (s := { s with heap := h5, toks := tk5 }) (P := isI ((hts r op a).getLastD 0 + (if bitI r a == op then 1 else -1))) ok lh5 l5 ?_ (size_le (Nat.le_of_eq hlen) (Nat.le_trans (Nat.le_of_lt A.l1) (by decide))) ?_ i1
    · refine Ev.addI (Ev.ofI (tk := tl) (Ev.itemNeg (vs := vs) (k := -1) (Ev.name lh5) ⟨_, l5, rfl, _, rfl⟩ (Ev.neg .int) (by decide) (last_neg hlen).1 (by decide) ?_)) (Ev.ifI (Tr.eqB (Ev.nameB lt5) (Ev.nameB lo5)) .int (Ev.neg .int))
      rw [(last_neg hlen).2]
      exact hlast
    rintro v h6 h7 tk7 x6 ⟨tn, rfl⟩ sb7 l7
    refine run_nil (qn h7 tk7 _ ?_ (ns_same (hn5.keeps x6) sb7 (Ne.symm hHL)) ⟨upd_ne (upd_ne hm), kk + 1, vs ++ [.int ((hts r op a).getLastD 0 + (if bitI r a == op then 1 else -1)) tn], by rw [← List.push_toArray]; exact l7, ?_⟩)
    · exact (((x4.b).trans (sameB sb5 (by simp))).trans x6.b).trans (sameB sb7 (by simp))
    · exact ints_are (paired_append (are_ints hI) (.cons ⟨tn, rfl⟩ .nil))
  intro h3 tk3 m3 kb3 e3 hn3 hj3
  obtain ⟨hm, kk, vs, hH, hI⟩ := hj3
  have hI9 : IntsAre vs (hts r op 9) := hI
  clear hI
  have up3 : ∀ {c v}, s.heap.IsCell c v → h2.IsCell c v → h3.IsCell c v := fun {c v} hv hw => by
    obtain ⟨o, ho, hd⟩ := hw
    exact ⟨o, kb3 c o (nm2 ((cn hv).1) ((cn hv).2)) ho, hd⟩
  have y1 := up3 v1 w1
  have y2 := up3 v2 w2
  have y3 := up3 v3 w3
  have y4 := up3 v4 w4
  have hlen : vs.length = 10 := by rw [hI9.length, hts_len]
  have cl : ∀ {c v}, s.heap.IsCell c v → c ≠ env.locals := fun {c v} hv => (cn hv).1
  have d12 : h0.objs.size + 1 ≠ h0.objs.size + 1 + 1 + 1 := Nat.ne_of_lt (Nat.lt_add_of_pos_right (k := 2) (by decide))
  have d13 : h0.objs.size + 1 + 1 ≠ h0.objs.size + 1 + 1 + 1 := Nat.ne_of_lt (Nat.lt_succ_self _)
  have d14 : h0.objs.size + 1 + 1 + 1 + 1 ≠ h0.objs.size + 1 + 1 + 1 := Nat.ne_of_gt (Nat.lt_succ_self _)
  -- free = []
  refine run_assignC (s := { s with heap := h3, toks := tk3 }) ok he k3 c3 y3 Ev.nilO ?_
  rintro v h4 h5 tk5 x4 ⟨Fr, vs', rfl, hfF, hlF, rfl⟩ sb5 u3
  have nF : ∀ {c o}, h3.get? c = some o → c ≠ Fr := fun {c o} ho e => by rw [e, hfF] at ho; cases ho
  have hFL : Fr ≠ env.locals := ns_ne hn3 hfF
  have z1 := isCell_same (y1.keeps x4) sb5 d12
  have z2 := isCell_same (y2.keeps x4) sb5 d13
  have z4 := isCell_same (y4.keeps x4) sb5 d14
  have c3ne : h0.objs.size + 1 + 1 + 1 ≠ Fr := by obtain ⟨o, ho, _⟩ := y3; exact nF ho
  have hl5 : h5.get? Fr = some (W.listOf #[] 0) := sb5.extBut Fr _ (Ne.symm c3ne) hlF
  have hc3 : h0.get? (h0.objs.size + 1 + 1 + 1) = none := size_none (Nat.le_add_right _ 3)
  have hHne : H ≠ h0.objs.size + 1 + 1 + 1 := by
    intro e
    obtain ⟨o, ho, hd⟩ := y3
    rw [← e, hH] at ho; cases ho; cases hd
  have hH5 : h5.get? H = some (W.listOf vs.toArray kk) := sb5.extBut H _ hHne (x4 _ _ hH)
  have hn5 : h5.Ns env.locals m3 := ns_same (hn3.keeps x4) sb5 (Ne.symm (cl v3))
  have e5 : Ext h0 h5 := ((e3.trans x4).b (M := [h0.objs.size + 1 + 1 + 1])).trans (sameB sb5 (List.mem_singleton.mpr rfl)) |>.base (Ext.refl _) (fun a ha => by rw [List.mem_singleton.mp ha]; exact hc3)
  have lr5 : Lk w h5 env (Str.ofString "range") (.type "range") := .blt (G0.ext e5) he k8 (by rfl) (by rfl) (by decide) (by decide)
  have nFH : H ≠ Fr := nF hH
  refine run_for (hb := h0) (x := Str.ofString "k") (s := { s with heap := h5, toks := tk5 }) ok he k6 hn5 (Src.range (N := 9) lr5 .int (by decide)) e5 [Fr] ?_ (by simp) (by simpa using Ne.symm hFL)
    (fun k => JH H Fr (((List.range k).filter (freeTest (hts r op 9))).map fun k => (2 : Int) ^ (8 - k))) ?_ ⟨hm, 0, [], hl5, .nil⟩ ?_ ?_
  · intro a ha
    rcases List.mem_cons.mp ha with rfl | ha
    · obtain ⟨o, _, _, ho, _⟩ := hn5
      exact ⟨kL, o, ho⟩
    · rw [List.mem_singleton.mp ha]
      exact ⟨e3.none hfF, _, hl5⟩
  · rintro k m g g' ⟨a, kk, vs, b, c⟩ hk
    exact ⟨a, kk, vs, hk Fr (List.mem_singleton.mpr rfl) _ b, c⟩
  · rintro i a v m1 h6 tk6 Q' E' hi hr ⟨hm6, kk6, vs6, hF6, hI6⟩ hn6 e6 kb6 qn _
    obtain ⟨hi9, rfl⟩ := i_range hi
    have A := a9 hi9
    obtain ⟨tv, rfl⟩ := hr
    have hH6 : h6.get? H = some (W.listOf vs.toArray kk) := kb6 H _ (nm2 hHL nFH) hH5
    have hHl : h6.IsList H vs.toArray := ⟨_, hH6, rfl, _, rfl⟩
    have lk : Lk w h6 env (Str.ofString "k") (.int a tv) := .loc hn6 upd_eq he k6 (by decide)
    have lh : Lk w h6 env (Str.ofString "heights") (.ref H) := .loc hn6 (upd_ne hm6) he k5 (by decide)
    have lm : Lk w h6 env (Str.ofString "min") (.builtin "min") := .blt (G0.ext e6) he k9 (by rfl) (by rfl) (by decide) (by decide)
    obtain ⟨t1, g1⟩ := hI9.get (a + 1) ((hts r op 9).getD (a + 1) 0) (hts_at r op A.l1)
    obtain ⟨t2, g2⟩ := hI9.get a ((hts r op 9).getD a 0) (hts_at r op A.l0)
    have hlH : (hts r op 9).length = 10 := hts_len ..
    refine run_if (s := { s with heap := h6, toks := tk6 }) (b := freeTest (hts r op 9) a) ok ?_ ?_
    · refine Tr.or (Tr.ltI (Ev.ofI (Ev.item (vs := vs) (Ev.name lh) hHl (Ev.addI (Ev.nameI lk) .int) A.s0 A.s1 (v := .int ((hts r op 9).getD (a + 1) 0) t1) ?_)) (Ev.minC (M := minL ((hts r op 9).take (a + 1))) (ns := (hts r op 9).take (a + 1)) lm ((Ev.sliceL (Ev.name lh) hHl .none (.some (Ev.addI (Ev.nameI lk) .int)) (by omega)).mono ?_) ?_ ?_ ?_)) fun _ => ?_
      · rw [A.s2]; exact g1
      · rintro v _ _ _ _ ⟨T, vs', a1, a2, a3, rfl⟩
        refine ⟨T, _, a1, a2, a3, ?_⟩
        have := slice_ints_uptoW hI9 (y := ((a : Nat) : Int) + 1) A.s0
        rw [A.s2] at this
        exact this
      · exact pos_take hlH
      · exact minL_mem _ (List.ne_nil_of_length_pos (pos_take hlH))
      · exact minL_le _
      · refine Tr.ltI (Ev.ofI (Ev.item (vs := vs) (Ev.name lh) hHl (Ev.nameI lk) A.n0 A.n1 (v := .int ((hts r op 9).getD a 0) t2) ?_)) (Ev.minC (M := minL ((hts r op 9).drop (a + 1))) (ns := (hts r op 9).drop (a + 1)) lm ((Ev.sliceL (Ev.name lh) hHl (.some (Ev.addI (Ev.nameI lk) .int)) .none (by omega)).mono ?_) ?_ ?_ ?_)
        · exact g2
        · rintro v _ _ _ _ ⟨T, vs', a1, a2, a3, rfl⟩
          refine ⟨T, _, a1, a2, a3, ?_⟩
          have := slice_ints_fromW hI9 (x := ((a : Nat) : Int) + 1) A.s0
          rw [A.s2] at this
          exact this
        · exact pos_drop hlH hi9
        · exact minL_mem _ (List.ne_nil_of_length_pos (pos_drop hlH hi9))
        · exact minL_le _
    intro h7 tk7 x7
    have hF7 := x7 _ _ hF6
    cases hb : freeTest (hts r op 9) a with
    | false =>
      refine run_nil (run_nil (qn h7 tk7 _ x7.b (hn6.keeps x7) ⟨upd_ne hm6, kk6, vs6, hF7, ?_⟩))
      rw [List.range_succ, List.filter_append, List.filter_cons_of_neg (by rw [hb]; simp), List.filter_nil, List.append_nil]
      exact hI6
    | true =>
      have u7 : h7.IsCell (h0.objs.size + 1 + 1 + 1) (some (.ref Fr)) := by
        obtain ⟨o, ho, hd⟩ := u3
        exact ⟨o, x7 _ _ (kb6 _ o (nm2 (cl v3) c3ne) ho), hd⟩
      have lf7 : Lk w h7 env (Str.ofString "free") (.ref Fr) := .cell c3 u7 he k3 (by decide)
      have e8 := A.e8
      refine run_append (s := { s with heap := h7, toks := tk7 }) (P := isI (2 ^ (8 - a))) ok lf7 hF7 ((Ev.powI .int (Ev.subI .int (Ev.nameI (lk.ext x7))) A.p0 A.p1 (by decide)).i (by rw [e8])) (by
        have h2 : (((List.range a).filter (freeTest (hts r op 9))).map fun k => (2 : Int) ^ (8 - k)).length ≤ a := by rw [List.length_map]; exact Nat.le_trans (List.length_filter_le _ _) (by simp)
        exact size_le (hI6.length ▸ h2) (Nat.le_trans (Nat.le_of_lt A.l0) (by decide))) ?_ i1
      rintro v h8 h9 tk9 x8 ⟨tn, rfl⟩ sb9 l9
      refine run_nil (run_nil (qn h9 tk9 _ ?_ (ns_same ((hn6.keeps x7).keeps x8) sb9 (Ne.symm hFL)) ⟨upd_ne hm6, kk6 + 1, vs6 ++ [.int (2 ^ (8 - a)) tn], by rw [← List.push_toArray]; exact l9, ?_⟩))
      · exact (x7.b.trans x8.b).trans (sameB sb9 (by simp))
      · rw [List.range_succ, List.filter_append, List.filter_cons_of_pos hb, List.filter_nil, List.map_append]
        exact ints_are (paired_append (are_ints hI6) (.cons ⟨tn, rfl⟩ .nil))
  intro h6 tk6 m6 kb6 e6 hn6 hj6
  obtain ⟨hm6, kk6, vs6, hF6, hI6⟩ := hj6
  have hIF : IntsAre vs6 (freeH r op) := hI6
  clear hI6
  have up6 : ∀ {c v}, h5.IsCell c v → c ≠ env.locals → c ≠ Fr → h6.IsCell c v := fun {c v} hw h1 h2 => by
    obtain ⟨o, ho, hd⟩ := hw
    exact ⟨o, kb6 c o (nm2 h1 h2) ho, hd⟩
  have cF : ∀ {c v}, h3.IsCell c v → c ≠ Fr := fun {c v} hv => by obtain ⟨o, ho, _⟩ := hv; exact nF ho
  have p1 := up6 z1 (cl v1) (cF y1)
  have p2 := up6 z2 (cl v2) (cF y2)
  have p3 := up6 u3 (cl v3) (cF y3)
  have p4 := up6 z4 (cl v4) (cF y4)
  have hFl : h6.IsList Fr vs6.toArray := ⟨_, hF6, rfl, _, rfl⟩
  have lrt : Lk w h6 env (Str.ofString "rights") (.int r t) := .cell c1 p1 he k1 (by decide)
  have lf6 : Lk w h6 env (Str.ofString "free") (.ref Fr) := .cell c3 p3 he k3 (by decide)
  have ls6 : Lk w h6 env (Str.ofString "sum") (.builtin "sum") := .blt (G0.ext e6) he k10 (by rfl) (by rfl) (by decide) (by decide)
  have hlF9 : (freeH r op).length ≤ 9 := by unfold freeH; rw [List.length_map]; exact Nat.le_trans (List.length_filter_le _ _) (by simp)
  have hFb : ∀ b ∈ freeH r op, 0 < b ∧ b ≤ 256 := by
    intro b hb
    unfold freeH at hb
    obtain ⟨k, hk, rfl⟩ := List.mem_map.mp hb
    have : k < 9 := by simpa using (List.mem_filter.mp hk).1
    exact pow9b k this
  refine run_assignC (s := { s with heap := h6, toks := tk6 }) (P := isI (keptH r op)) ok he k4 c4 p4 ?_ ?_
  · refine Ev.subI (Ev.nameI lrt) (Ev.sumC (ns := (freeH r op).filter fun b => r / b % 2 == 1) ls6 ((Ev.comp (p := fun b => r / b % 2 == 1) (relY := relI) (cl := [(Str.ofString "rights", h0.objs.size + 1)]) (dec := decI) (rel := relI) (items := freeH r op) (Src.list (Ev.name lf6) hFl (are_ints hIF)) (fun _ _ => decI_of) (by omega) (closureFor_eq (by rw [hcells]; rfl)) (by decide) rfl (by decide) rfl (by decide) he ?_ ?_).mono ?_) ?_)
    · rintro b v hc C hb ⟨tb, rfl⟩ ex lb
      exact Tr.eqI (Ev.modI (Ev.divI (Ev.nameI (t := t) (Lk.cell (by rfl) (p1.keeps ex) (he.comp rfl) (relabel_cell (by rfl) he k1) (by decide))) (Ev.nameI lb) (hFb b hb).1 (b256 (hFb b hb)).1) .int (by decide)) .int
    · rintro b v hc C hb _ ⟨tb, rfl⟩ ex lb
      exact Ev.nameI lb
    · rintro v _ _ _ _ ⟨T, vs', a1, a2, a3, a4⟩
      exact ⟨T, vs', a1, a2, a3, ints_are a4⟩
    · exact sumFits_small (fun a ha => (b256 (hFb a (List.mem_filter.mp ha).1)).2) (Nat.le_trans (List.length_filter_le _ _) (by omega))
  rintro v h7 h8 tk8 x7 ⟨tkp, rfl⟩ sb8 q4
  have d1 : h0.objs.size + 1 ≠ h0.objs.size + 1 + 1 + 1 + 1 := Nat.ne_of_lt (Nat.lt_add_of_pos_right (k := 3) (by decide))
  have d2 : h0.objs.size + 1 + 1 ≠ h0.objs.size + 1 + 1 + 1 + 1 := Nat.ne_of_lt (Nat.lt_add_of_pos_right (k := 2) (by decide))
  have d3 : h0.objs.size + 1 + 1 + 1 ≠ h0.objs.size + 1 + 1 + 1 + 1 := Nat.ne_of_lt (Nat.lt_succ_self _)
  have q2 := isCell_same (p2.keeps x7) sb8 d2
  have q3 := isCell_same (p3.keeps x7) sb8 d3
  have hF8 : h8.IsList Fr vs6.toArray := isList_same (isList_ext hFl x7) sb8 (by
    intro e
    obtain ⟨o, ho, hd⟩ := p4
    rw [← e, hF6] at ho; cases ho; cases hd)
  have e8 : Ext h0 h8 := ((e6.trans x7).b (M := [h0.objs.size + 1 + 1 + 1 + 1])).trans (sameB sb8 (List.mem_singleton.mpr rfl)) |>.base (Ext.refl _) (fun a ha => by rw [List.mem_singleton.mp ha]; exact size_none (Nat.le_add_right _ 4))
  have G8 := G0.ext e8
  have lr8 : Lk w h8 env (Str.ofString "range") (.type "range") := .blt G8 he k8 (by rfl) (by rfl) (by decide) (by decide)
  have ll8 : Lk w h8 env (Str.ofString "len") (.builtin "len") := .blt G8 he k11 (by rfl) (by rfl) (by decide) (by decide)
  have lf8 : Lk w h8 env (Str.ofString "free") (.ref Fr) := .cell c3 q3 he k3 (by decide)
  have hlv : vs6.length = (freeH r op).length := hIF.length
  refine run_ret (s := { s with heap := h8, toks := tk8 }) (P := isL fun vs => IntsAre vs (byH r op)) ok (.refl _) ?_ fun v h' tk e p => q v h' tk (e8.trans e) (anti_L _ _ _ _ _ e8 p)
  refine (Ev.comp (p := fun _ => true) (relY := fun k v => relI (keptH r op + (someH (freeH r op) op k).sum) v) (dec := fun v => (decI v).toNat) (items := List.range ((freeH r op).length + 1)) (Src.range (N := (freeH r op).length + 1) lr8 ((Ev.addI (Ev.lenL ll8 (Ev.name lf8) hF8 (by omega)) .int).i (by rw [hlv]; rfl)) (by omega)) ?_ (by simp; omega) (closureFor_eq (by rw [hcells]; rfl)) (by decide) rfl (by decide) rfl (by decide) he ?_ ?_).mono ?_
  · rintro a v ⟨t', rfl⟩; exact Int.toNat_natCast a
  · intro a v hc C _ _ _ _
    exact rfl
  · rintro a v hc C hm _ ⟨ta, rfl⟩ ex lk
    have ha : a ≤ (freeH r op).length := by have := List.mem_range.mp hm; omega
    generalize hce : compEnvC _ _ C env = ce at lk ⊢
    have hec : FnEnv ce := by rw [← hce]; exact he.comp rfl
    have l1 : Lk w hc ce (Str.ofString "kept") (.int (keptH r op) tkp) := .cell (by rw [← hce]; rfl) (q4.keeps ex) hec (by rw [← hce]; exact relabel_cell (by rfl) he k4) (by decide)
    have l2 : Lk w hc ce (Str.ofString "opening") (.bool op) := .cell (by rw [← hce]; rfl) (q2.keeps ex) hec (by rw [← hce]; exact relabel_cell (by rfl) he k2) (by decide)
    have l3 : Lk w hc ce (Str.ofString "free") (.ref Fr) := .cell (by rw [← hce]; rfl) (q3.keeps ex) hec (by rw [← hce]; exact relabel_cell (by rfl) he k3) (by decide)
    have l4 : Lk w hc ce (Str.ofString "sum") (.builtin "sum") := .blt (G8.ext ex) hec (by rw [← hce]; exact relabel_lookup (by rfl) (by rfl)) (by rfl) (by rfl) (by decide) (by decide)
    have l5 : Lk w hc ce (Str.ofString "len") (.builtin "len") := .blt (G8.ext ex) hec (by rw [← hce]; exact relabel_lookup (by rfl) (by rfl)) (by rfl) (by rfl) (by decide) (by decide)
    have hFc := isList_ext hF8 ex
    refine Ev.addI (Ev.nameI l1) (Ev.sumC l4 (Ev.ifL (c := op) (Tr.ofB (Ev.nameB l2)) (fun ho => (Ev.sliceL (Ev.name l3) hFc (.some (Ev.subI (Ev.lenL l5 (Ev.name l3) hFc (by omega)) (Ev.nameI lk))) .none (by omega)).mono ?_) (fun ho => (Ev.sliceL (Ev.name l3) hFc .none (.some (Ev.nameI lk)) (by omega)).mono ?_)) ?_)
    · rintro v _ _ _ _ ⟨T, vs', a1, a2, a3, rfl⟩
      refine ⟨T, _, a1, a2, a3, ?_⟩
      have := slice_ints_fromW hIF (x := ((vs6.length : Nat) : Int) - (a : Nat)) (sub_nat hlv ha).1
      rw [(sub_nat hlv ha).2] at this
      show IntsAre _ (someH (freeH r op) op a)
      unfold someH
      rw [if_pos ho]
      exact this
    · rintro v _ _ _ _ ⟨T, vs', a1, a2, a3, rfl⟩
      refine ⟨T, _, a1, a2, a3, ?_⟩
      have := slice_ints_uptoW hIF (y := ((a : Nat) : Int)) (Int.natCast_nonneg _)
      rw [Int.toNat_natCast] at this
      show IntsAre _ (someH (freeH r op) op a)
      unfold someH
      rw [if_neg (by rw [ho]; simp)]
      exact this
    · exact sumFits_small (fun x hx => (b256 (hFb x (some_mem x hx))).2) (Nat.le_trans some_len (by omega))
  · rintro v _ _ _ _ ⟨T, vs', a1, a2, a3, a4⟩
    rw [List.filter_eq_self.mpr (by simp)] at a4
    exact ⟨T, vs', a1, a2, a3, ints_are (paired_map a4)⟩
end Mine
end

-- Z1
section
open PySem PySem.W PyProof.Rows PySem.Calls PySem.Spec
set_option maxRecDepth 100000
set_option maxHeartbeats 1000000
namespace Mine
structure ZA (z TI TO i1 i2 : Addr) : Prop where
  TIz : TI ≠ z
  TOz : TO ≠ z
  i1z : i1 ≠ z
  i2z : i2 ≠ z
  TITO : TI ≠ TO
  TIi1 : TI ≠ i1
  TIi2 : TI ≠ i2
  TOi1 : TO ≠ i1
  TOi2 : TO ≠ i2
  i12 : i1 ≠ i2
section
variable {w : World} {A : Around} {E : Value → Shared → Prop} {s : Shared} {z TI TO i1 i2 : Addr} {n1 n2 k : Nat} {P1 P2 : Nat → Value → Prop} {S1 S2 : Nat → Heap → Prop} {a b : Value}
theorem st_same {it : Addr} {n : Nat} {P : Nat → Value → Prop} {St : Nat → Heap → Prop} (D : Draws PG w A it [it] n P St) {i : Nat} {h h' : Heap} {c : Addr} (x : St i h) (sb : Heap.SameBut c h h') (hn : it ≠ c) : St i h' :=
  D.frame i h h' x fun b hb o e => by rw [List.mem_singleton.mp hb] at e ⊢; exact sb.extBut _ _ hn e
theorem zipd_item {Q : Value → Shared → Prop} (X : ZA z TI TO i1 i2) (D1 : Draws PG w A i1 [i1] n1 P1 S1) (D2 : Draws PG w A i2 [i2] n2 P2 S2) (hk1 : k < n1) (hk2 : k < n2)
    (hz : IsZip s.heap z TI TO .none) (hTI : IsPair s.heap TI (.ref i1) (.ref i2)) (hTO : IsPair s.heap TO a b) (h1 : S1 k s.heap) (h2 : S2 k s.heap)
    (hQ : ∀ h' tk x y (T : Addr), IsZip h' z TI TO (rawInt T) → IsPair h' TO x y → S1 (k + 1) h' → S2 (k + 1) h' → P1 k x → P2 k y → s.heap.get? T = none → IsPair h' T x y →
      (∀ c o, c ≠ z → c ≠ TO → c ≠ i1 → c ≠ i2 → s.heap.get? c = some o → h'.get? c = some o) → Q (.ref T) { s with heap := h', toks := tk }) :
    wpAny (MM w) A (Builtin.«zip.__next__» ⟨[.ref z], []⟩) (fun fin s' => ∃ v, fin = .done (.ret v) ∧ Q v s') E s := by
  show wpAny _ _ (field (.ref z) 2 >>= _) _ _ _
  refine wpAny_bind (wpAny_field hz rfl (x := .bool false) rfl ?_)
  show wpAny _ _ (field (.ref z) 3 >>= _) _ _ _
  refine wpAny_bind (wpAny_field hz rfl (x := .ref TI) rfl ?_)
  refine wpAny_bind (wpAny_seqItems hTI rfl ?_)
  show wpAny _ _ (Builtin.SmallTypes.ownedTupleIsFree (.ref z) >>= _) _ _ _
  refine wpAny_bind ?_
  unfold Builtin.SmallTypes.ownedTupleIsFree
  refine wpAny_bind (wpAny_field hz rfl (x := .none) rfl (wpAny_pure ?_))
  simp only [if_true]
  refine wpAny_bind (wpAny_rule ?_)
  refine wpAny_bind (wpAny_field hz rfl (x := .ref TO) rfl ?_)
  refine wpAny_bind (wpAny_setField_rec hz (by simp) fun h₁ hz₁ hs₁ => ?_)
  replace hz₁ : IsZip h₁ z TI TO .ellipsis := hz₁
  refine wpAny_bind ?_
  simp only [List.zipIdx_cons, List.zipIdx_nil, List.forIn_cons, List.forIn_nil]
  refine wpAny_bind (wpAny_bind (wpAny_onRaise ?_))
  show wpAny _ _ (Builtin.SmallTypes.nextOf (.ref i1) >>= _) _ _ _
  have h1a := st_same D1 h1 hs₁ X.i1z
  have h2a := st_same D2 h2 hs₁ X.i2z
  refine wpAny_bind (D1.item k _ _ _ hk1 h1a fun x h₂ tk₂ hP1 h1b hs₂ => wpAny_pure ?_)
  have h2b := st_same D2 h2a hs₂ X.i12.symm
  have hTO₂ : IsPair h₂ TO a b := hs₂.extBut _ _ X.TOi1 (hs₁.extBut _ _ X.TOz hTO)
  refine wpAny_bind (wpAny_seqItems hTO₂ rfl ?_)
  refine wpAny_bind (wpAny_updateSeq_pair hTO₂ fun h₃ hTO₃ hs₃ => ?_)
  replace hTO₃ : IsPair h₃ TO x b := hTO₃
  have h1c := st_same D1 h1b hs₃ X.TOi1.symm
  have h2c := st_same D2 h2b hs₃ X.TOi2.symm
  refine wpAny_bind (wpAny_letGo (wpAny_pure ?_))
  refine wpAny_bind (wpAny_bind (wpAny_onRaise ?_))
  show wpAny _ _ (Builtin.SmallTypes.nextOf (.ref i2) >>= _) _ _ _
  refine wpAny_bind (D2.item k _ _ _ hk2 h2c fun y h₄ tk₄ hP2 h2d hs₄ => wpAny_pure ?_)
  have h1d := st_same D1 h1c hs₄ X.i12
  have hTO₄ : IsPair h₄ TO x b := hs₄.extBut _ _ X.TOi2 hTO₃
  refine wpAny_bind (wpAny_seqItems hTO₄ rfl ?_)
  refine wpAny_bind (wpAny_updateSeq_pair hTO₄ fun h₅ hTO₅ hs₅ => ?_)
  replace hTO₅ : IsPair h₅ TO x y := hTO₅
  have h1e := st_same D1 h1d hs₅ X.TOi1.symm
  have h2e := st_same D2 h2d hs₅ X.TOi2.symm
  refine wpAny_bind (wpAny_letGo (wpAny_pure (wpAny_pure ?_)))
  refine wpAny_bind (wpAny_seqItems hTO₅ rfl ?_)
  refine wpAny_bind (wpAny_newTuple ?_)
  have hz₅ : IsZip h₅ z TI TO .ellipsis := hs₅.extBut _ _ X.TOz.symm (hs₄.extBut _ _ X.i2z.symm (hs₃.extBut _ _ X.TOz.symm (hs₂.extBut _ _ X.i1z.symm hz₁)))
  have hk₅ : ∀ c o, c ≠ z → c ≠ TO → c ≠ i1 → c ≠ i2 → s.heap.get? c = some o → h₅.get? c = some o := fun c o c1 c2 c3 c4 e =>
    hs₅.extBut _ _ c2 (hs₄.extBut _ _ c4 (hs₃.extBut _ _ c2 (hs₂.extBut _ _ c3 (hs₁.extBut _ _ c1 e))))
  have hsz : h₅.objs.size = s.heap.objs.size := by rw [hs₅.1, hs₄.1, hs₃.1, hs₂.1, hs₁.1]
  have hzlt : z < h₅.objs.size := Heap.lt_size hz₅
  show wpAny _ _ (Builtin.SmallTypes.ownedTupleHandOut (.ref z) (.ref h₅.objs.size) >>= _) _ _ _
  refine wpAny_bind ?_
  unfold Builtin.SmallTypes.ownedTupleHandOut
  have hz₆ : IsZip (h₅.push { cls := .type "tuple", data := .seq #[x, y] }) z TI TO .ellipsis := Heap.get?_push_of_some _ hz₅
  refine wpAny_bind (wpAny_setField_rec hz₆ (by simp) fun h₇ hz₇ hs₇ => ?_)
  replace hz₇ : IsZip h₇ z TI TO (rawInt h₅.objs.size) := hz₇
  refine wpAny_setField_rec hz₇ (by simp) fun h₈ hz₈ hs₈ => ?_
  replace hz₈ : IsZip h₈ z TI TO (rawInt h₅.objs.size) := hz₈
  have up : ∀ c o, c ≠ z → h₅.get? c = some o → h₈.get? c = some o := fun c o c1 e => hs₈.extBut _ _ c1 (hs₇.extBut _ _ c1 (Heap.get?_push_of_some _ e))
  have hT₈ : IsPair h₈ h₅.objs.size x y := hs₈.extBut _ _ (Nat.ne_of_gt hzlt) (hs₇.extBut _ _ (Nat.ne_of_gt hzlt) (Heap.get?_push_size _ rfl))
  have e1 : S1 (k + 1) h₈ := D1.frame _ _ _ h1e fun b hb o e => by rw [List.mem_singleton.mp hb] at e ⊢; exact up _ _ X.i1z e
  have e2 : S2 (k + 1) h₈ := D2.frame _ _ _ h2e fun b hb o e => by rw [List.mem_singleton.mp hb] at e ⊢; exact up _ _ X.i2z e
  refine wpAny_pure ⟨_, rfl, ?_⟩
  exact hQ h₈ _ x y h₅.objs.size hz₈ (up _ _ X.TOz hTO₅) e1 e2 hP1 hP2 (by rw [hsz]; exact next_none _) hT₈ fun c o c1 c2 c3 c4 e => up c o c1 (hk₅ c o c1 c2 c3 c4 e)

theorem zipd_end {Q : Fin → Shared → Prop} (X : ZA z TI TO i1 i2) (D1 : Draws PG w A i1 [i1] n1 P1 S1) (D2 : Draws PG w A i2 [i2] n2 P2 S2) (hk : (k = n1 ∧ k ≤ n2) ∨ (k < n1 ∧ k = n2))
    (hz : IsZip s.heap z TI TO .none) (hTI : IsPair s.heap TI (.ref i1) (.ref i2)) (hTO : IsPair s.heap TO a b) (h1 : S1 k s.heap) (h2 : S2 k s.heap)
    (hE : ∀ h' tk e, (∀ c o, c ≠ z → c ≠ TO → c ≠ i1 → c ≠ i2 → s.heap.get? c = some o → h'.get? c = some o) → (∃ o, h'.get? e = some o ∧ o.cls = .type "StopIteration") → E (.ref e) { s with heap := h', toks := tk }) :
    wpAny (MM w) A (Builtin.«zip.__next__» ⟨[.ref z], []⟩) Q E s := by
  show wpAny _ _ (field (.ref z) 2 >>= _) _ _ _
  refine wpAny_bind (wpAny_field hz rfl (x := .bool false) rfl ?_)
  show wpAny _ _ (field (.ref z) 3 >>= _) _ _ _
  refine wpAny_bind (wpAny_field hz rfl (x := .ref TI) rfl ?_)
  refine wpAny_bind (wpAny_seqItems hTI rfl ?_)
  show wpAny _ _ (Builtin.SmallTypes.ownedTupleIsFree (.ref z) >>= _) _ _ _
  refine wpAny_bind ?_
  unfold Builtin.SmallTypes.ownedTupleIsFree
  refine wpAny_bind (wpAny_field hz rfl (x := .none) rfl (wpAny_pure ?_))
  simp only [if_true]
  refine wpAny_bind (wpAny_rule ?_)
  refine wpAny_bind (wpAny_field hz rfl (x := .ref TO) rfl ?_)
  refine wpAny_bind (wpAny_setField_rec hz (by simp) fun h₁ hz₁ hs₁ => ?_)
  replace hz₁ : IsZip h₁ z TI TO .ellipsis := hz₁
  refine wpAny_bind ?_
  simp only [List.zipIdx_cons, List.zipIdx_nil, List.forIn_cons, List.forIn_nil]
  refine wpAny_bind (wpAny_bind (wpAny_onRaise ?_))
  show wpAny _ _ (Builtin.SmallTypes.nextOf (.ref i1) >>= _) _ _ _
  have h1a := st_same D1 h1 hs₁ X.i1z
  have h2a := st_same D2 h2 hs₁ X.i2z
  rcases hk with ⟨rfl, hk⟩ | ⟨hk, rfl⟩
  · refine wpAny_bind (D1.done _ _ _ h1a fun h₂ e hs₂ he => ?_)
    obtain ⟨oe, hoe, hce⟩ := he
    have hz₂ : IsZip h₂ z TI TO .ellipsis := hs₂ _ _ X.i1z.symm hz₁
    have hez : e ≠ z := fun x => by subst x; rw [hz₂] at hoe; cases hoe; simp at hce
    exact wpAny_setField_rec hz₂ (by simp) fun h₃ _ hs₃ => hE h₃ _ e (fun c o c1 _ c3 _ x => hs₃.extBut _ _ c1 (hs₂ _ _ c3 (hs₁.extBut _ _ c1 x))) ⟨oe, hs₃.extBut _ _ hez hoe, hce⟩
  · refine wpAny_bind (D1.item k _ _ _ hk h1a fun x h₂ tk₂ hP1 h1b hs₂ => wpAny_pure ?_)
    have h2b := st_same D2 h2a hs₂ X.i12.symm
    have hTO₂ : IsPair h₂ TO a b := hs₂.extBut _ _ X.TOi1 (hs₁.extBut _ _ X.TOz hTO)
    refine wpAny_bind (wpAny_seqItems hTO₂ rfl ?_)
    refine wpAny_bind (wpAny_updateSeq_pair hTO₂ fun h₃ hTO₃ hs₃ => ?_)
    have h2c := st_same D2 h2b hs₃ X.TOi2.symm
    refine wpAny_bind (wpAny_letGo (wpAny_pure ?_))
    refine wpAny_bind (wpAny_bind (wpAny_onRaise ?_))
    show wpAny _ _ (Builtin.SmallTypes.nextOf (.ref i2) >>= _) _ _ _
    refine wpAny_bind (D2.done _ _ _ h2c fun h₄ e hs₄ he => ?_)
    obtain ⟨oe, hoe, hce⟩ := he
    have hz₄ : IsZip h₄ z TI TO .ellipsis := hs₄ _ _ X.i2z.symm (hs₃.extBut _ _ X.TOz.symm (hs₂.extBut _ _ X.i1z.symm hz₁))
    have hez : e ≠ z := fun x => by subst x; rw [hz₄] at hoe; cases hoe; simp at hce
    exact wpAny_setField_rec hz₄ (by simp) fun h₅ _ hs₅ => hE h₅ _ e (fun c o c1 c2 c3 c4 x => hs₅.extBut _ _ c1 (hs₄ _ _ c4 (hs₃.extBut _ _ c2 (hs₂.extBut _ _ c3 (hs₁.extBut _ _ c1 x))))) ⟨oe, hs₅.extBut _ _ hez hoe, hce⟩
end
section
variable {w : World} {A : Around} {z TI TO i1 i2 : Addr} {n1 n2 : Nat} {P1 P2 : Nat → Value → Prop} {S1 S2 : Nat → Heap → Prop}
theorem min_or (n1 n2 : Nat) : (min n1 n2 = n1 ∧ min n1 n2 ≤ n2) ∨ (min n1 n2 < n1 ∧ min n1 n2 = n2) := by
  rcases Nat.lt_or_ge n2 n1 with h | h
  · exact .inr ⟨Nat.lt_of_le_of_lt (Nat.min_le_right ..) h, Nat.min_eq_right (Nat.le_of_lt h)⟩
  · exact .inl ⟨Nat.min_eq_left h, Nat.min_le_right ..⟩
theorem out4 {c a b d e : Addr} (h : c ∉ [a, b, d, e]) : c ≠ a ∧ c ≠ b ∧ c ≠ d ∧ c ≠ e := by simpa using h
inductive ZSt (z TI TO i1 i2 : Addr) (S1 S2 : Nat → Heap → Prop) (i : Nat) (h : Heap) : Prop
  | mk (hz : IsZip h z TI TO .none) (hTI : IsPair h TI (.ref i1) (.ref i2)) (a b : Value) (hTO : IsPair h TO a b) (h1 : S1 i h) (h2 : S2 i h) : ZSt z TI TO i1 i2 S1 S2 i h
inductive ZMd (z TI TO i1 i2 : Addr) (S1 S2 : Nat → Heap → Prop) (i : Nat) (T : Addr) (h : Heap) : Prop
  | mk (hz : IsZip h z TI TO (rawInt T)) (hTI : IsPair h TI (.ref i1) (.ref i2)) (a b : Value) (hTO : IsPair h TO a b) (h1 : S1 (i + 1) h) (h2 : S2 (i + 1) h) (t1 : T ≠ z) (t2 : T ≠ TO) (t3 : T ≠ i1) (t4 : T ≠ i2) : ZMd z TI TO i1 i2 S1 S2 i T h
theorem WalksU.zipd (X : ZA z TI TO i1 i2) (D1 : Draws PG w A.in1 i1 [i1] n1 P1 S1) (D2 : Draws PG w A.in1 i2 [i2] n2 P2 S2) :
    WalksU PG w A z [z, TI, TO, i1, i2] [z, TO, i1, i2] (min n1 n2) (fun i vals => ∃ x y, P1 i x ∧ P2 i y ∧ vals = #[x, y])
      (ZSt z TI TO i1 i2 S1 S2) (ZMd z TI TO i1 i2 S1 S2) where
  sub := fun c hc => by simp at hc ⊢; rcases hc with rfl | rfl | rfl | rfl <;> simp
  frame := fun i h h' hst hk => by
    obtain ⟨hz, hTI, a, b, hTO, h1, h2⟩ := hst
    exact ⟨hk z (.head _) _ hz, hk TI (.tail _ (.head _)) _ hTI, a, b, hk TO (.tail _ (.tail _ (.head _))) _ hTO, D1.frame _ _ _ h1 fun b hb o e => hk b (.tail _ (.tail _ (.tail _ (List.mem_cons.mpr (.inl (List.mem_singleton.mp hb)))))) o e, D2.frame _ _ _ h2 fun b hb o e => hk b (.tail _ (.tail _ (.tail _ (.tail _ hb)))) o e⟩
  item := fun i s Q E hi hst hQ => by
    obtain ⟨hz, hTI, a, b, hTO, h1, h2⟩ := hst
    have hT : s.TypeIs (.ref z) "zip" := ⟨_, hz, rfl⟩
    have ne : ∀ {c o T}, s.heap.get? c = some o → s.heap.get? T = none → T ≠ c := fun e1 e2 e => by rw [e, e1] at e2; cases e2
    unfold pyNext
    refine wpAny_bind (wpAny_attempt (wpAny_callSpecial?_slot (name := Str.ofString "__next__") hT F.slot_zip_next (wpAny_call_entry F.slot_zip_next hT F.entry_zip_next
      (zipd_item X D1 D2 (Nat.lt_of_lt_of_le hi (Nat.min_le_left ..)) (Nat.lt_of_lt_of_le hi (Nat.min_le_right ..)) hz hTI hTO h1 h2 fun h' tk x y T a1 a2 a3 a4 p1 p2 fr a5 hk => wpAny_pure ?_) (F.args_zip_next_1 _))))
    obtain ⟨o1, ho1⟩ := D1.live _ _ h1
    obtain ⟨o2, ho2⟩ := D2.live _ _ h2
    exact hQ T #[x, y] h' tk ⟨x, y, p1, p2, rfl⟩ ⟨_, a5, rfl, _, rfl⟩ ⟨a1, hk _ _ X.TIz X.TITO X.TIi1 X.TIi2 hTI, _, _, a2, a3, a4, ne hz fr, ne hTO fr, ne ho1 fr, ne ho2 fr⟩
      fun c o hc e => hk c o (out4 hc).1 (out4 hc).2.1 (out4 hc).2.2.1 (out4 hc).2.2.2 e
  go := fun elts k pos i T s Q E hm hQ => by
    obtain ⟨hz, hTI, a, b, hTO, h1, h2, _⟩ := hm
    refine wpAny_letOwnedTupleGo_zip hz fun h' hz' hs' => hQ h' ⟨hz', hs'.extBut _ _ X.TIz hTI, a, b, hs'.extBut _ _ X.TOz hTO, st_same D1 h1 hs' X.i1z, st_same D2 h2 hs' X.i2z⟩ fun c o hc e => hs'.extBut _ _ (fun x => hc (List.mem_cons.mpr (.inl x))) e
  apart := fun i T h hm hT => by
    obtain ⟨_, _, _, _, _, _, _, t1, t2, t3, t4⟩ := hm
    exact nmc t1 (nmc t2 (nm2 t3 t4)) hT
  done := fun s Q E hst hQ => by
    obtain ⟨hz, hTI, a, b, hTO, h1, h2⟩ := hst
    have hT : s.TypeIs (.ref z) "zip" := ⟨_, hz, rfl⟩
    unfold pyNext
    refine wpAny_bind (wpAny_attempt (wpAny_callSpecial?_slot (name := Str.ofString "__next__") hT F.slot_zip_next (wpAny_call_entry F.slot_zip_next hT F.entry_zip_next
      (zipd_end X D1 D2 (min_or n1 n2) hz hTI hTO h1 h2 fun h' tk e hk he => ?_) (F.args_zip_next_1 _))))
    obtain ⟨o, ho, hc⟩ := he
    refine wpAny_bind (wpAny_isInstance (T := "StopIteration") (b := true) ⟨o, ho, hc⟩ isSubtype_stop ?_)
    exact wpAny_pure (hQ h' tk fun c o hc e => hk c o (out4 hc).1 (out4 hc).2.1 (out4 hc).2.2.1 (out4 hc).2.2.2 e)
  self := fun i s Q E hst hQ => by
    obtain ⟨hz, _⟩ := hst
    exact wpAny_pyIter_zip hz hQ
end
theorem meets_zipS (x y : Str) (t u : Tok) :
    Meets (Builtin.«zip.__new__» ⟨[.type "zip", .str x t, .str y u], []⟩) (fun _ R s => 
      R (.ok (.ret (.ref (s.heap.objs.size + 4)))) { s with heap := ((((s.heap.push { cls := .type (strIterType x), data := .fields #[.str x t, .int 0 0] }).push { cls := .type (strIterType y), data := .fields #[.str y u, .int 0 0] }).push { cls := .type "tuple", data := .seq #[.ref s.heap.objs.size, .ref (s.heap.objs.size + 1)] }).push { cls := .type "tuple", data := .seq #[.none, .none] }).push { cls := .type "zip", data := .fields #[.none, .bool false, .bool false, .ref (s.heap.objs.size + 2), .ref (s.heap.objs.size + 3)] } }) :=
  .of_wp fun prog w A R s h => by
    obtain ⟨hp, g, d, tk, os⟩ := s
    have hsub := sub_zip
    wp_walk using wpAny_pyIter_strU (x := x) (t := t), wpAny_pyIter_strU (x := y) (t := u)
    refine ⟨_, rfl, ?_⟩
    simp only [Heap.size_push]
    exact h

/-- what a tuple's source is walked as: its two values -/
noncomputable def Src2 (w : World) (n : Nat) (h : Heap) (env : Env) (iter : Expr) (S : List Addr) {α : Type} (items : List α) (rel : α → Value → Value → Prop) : Prop :=
  ∀ (A : Around) (s : Shared) (Q : Value → Shared → Prop) (E : Value → Shared → Prop), Okk A n → Ext h s.heap →
    (∀ h' tk I fp wr (Pt : Nat → Array Value → Prop) (St : Nat → Heap → Prop) (Md : Nat → Addr → Heap → Prop), Ext s.heap h' → WalksU PG w A I fp wr items.length Pt St Md → (∀ i vs, i < items.length → Pt i vs → ∃ a x y, items[i]? = some a ∧ vs = #[x, y] ∧ rel a x y) → St 0 h' →
      (∀ b ∈ fp, b < h'.objs.size ∧ (s.heap.get? b = none ∨ b ∈ S)) → (∀ b ∈ wr, s.heap.get? b = none) → Q (.ref I) { s with heap := h', toks := tk }) →
    wpAny (MM w) A (eval iter env) (fun xv s₁ => wpAny (MM w) A (pyIter xv) Q E s₁) E s
theorem draws_str {w : World} {A : Around} (hh : A.handled = none) (it : Addr) (x : Str) (t : Tok) : Draws PG w A it [it] x.cps.size (fun i v => ∃ c u, x.cps[i]? = some c ∧ v = .str ⟨#[c]⟩ u) (fun i h => h.IsStrIter it (strIterType x) x t i) := by
  cases ha : x.cps.all (· < 128) with
  | true => have : strIterType x = "str_ascii_iterator" := by simp [strIterType, ha]
            rw [this]; exact Draws.strAscii hh it x t
  | false => have : strIterType x = "str_iterator" := by simp [strIterType, ha]
             rw [this]; exact Draws.strWide hh it x t
theorem push_get {h : Heap} {o : Obj} {n : Nat} (hf : o.isFreed = false) (hn : h.objs.size = n) : (h.push o).get? n = some o := by rw [← hn]; exact Heap.get?_push_size _ hf
theorem push5 (h : Heap) (o0 o1 o2 o3 o4 : Obj) (f0 : o0.isFreed = false) (f1 : o1.isFreed = false) (f2 : o2.isFreed = false) (f3 : o3.isFreed = false) (f4 : o4.isFreed = false) :
    ∃ H, ((((h.push o0).push o1).push o2).push o3).push o4 = H ∧ H.get? h.objs.size = some o0 ∧ H.get? (h.objs.size + 1) = some o1 ∧ H.get? (h.objs.size + 2) = some o2 ∧ H.get? (h.objs.size + 3) = some o3 ∧ H.get? (h.objs.size + 4) = some o4 ∧ Ext h H ∧ H.objs.size = h.objs.size + 5 := by
  refine ⟨_, rfl, ?_, ?_, ?_, ?_, ?_, ?_, ?_⟩
  · exact Heap.get?_push_of_some _ (Heap.get?_push_of_some _ (Heap.get?_push_of_some _ (Heap.get?_push_of_some _ (push_get f0 rfl))))
  · exact Heap.get?_push_of_some _ (Heap.get?_push_of_some _ (Heap.get?_push_of_some _ (push_get f1 (by simp [Heap.size_push]))))
  · exact Heap.get?_push_of_some _ (Heap.get?_push_of_some _ (push_get f2 (by simp [Heap.size_push])))
  · exact Heap.get?_push_of_some _ (push_get f3 (by simp [Heap.size_push]))
  · exact push_get f4 (by simp [Heap.size_push])
  · exact (Ext.push _ _).trans ((Ext.push _ _).trans ((Ext.push _ _).trans ((Ext.push _ _).trans (Ext.push _ _))))
  · simp [Heap.size_push]
theorem zip_get? {α β : Type} {as : List α} {bs : List β} {i : Nat} {a : α} {b : β} (ha : as[i]? = some a) (hb : bs[i]? = some b) : (as.zip bs)[i]? = some (a, b) := by
  simp [List.getElem?_zip_eq_some, ha, hb]
theorem Src2.zipS {w : World} {n : Nat} {h : Heap} {env : Env} {f : Str} {p pos : Pos} {e1 e2 : Expr} {x y : Str} (lf : Lk w h env f (.type "zip")) (hx : Ev w n h env e1 (isS x)) (hy : Ev w n h env e2 (isS y))
    (hs : starEach [e1, e2] env = [(false, eval e1 env), (false, eval e2 env)] := by rfl) :
    Src2 w n h env (.Call (.Name f p) [e1, e2] [] pos) [] (x.cps.toList.zip y.cps.toList) (fun a u v => (∃ t, u = .str ⟨#[a.1]⟩ t) ∧ ∃ t, v = .str ⟨#[a.2]⟩ t) := by
  intro A s Q E ok k q
  refine Call_Name2 (lf A s _ E p k ?_) hs
  refine PyProof.Rows.callWith_type rfl (evalArgs_plain (spliced_cons (hx A s _ E ok k fun v h1 tk1 x1 p1 => spliced_cons (hy A _ _ E ok (k.trans x1) fun v2 h2 tk2 x2 p2 => spliced_nil ?_))))
  obtain ⟨t, rfl⟩ := p1
  obtain ⟨u, rfl⟩ := p2
  refine callType_new F.called_zip (by decide) (F.typeCall_zip_2 _ _) (F.newCall_zip_2 _ _) (fun obj => F.args_object_init_3 obj _ _) F.entry_zip_new (meets_zipS x y t u) ?_
  obtain ⟨H, hH, g0, g1, g2, g3, g4, gx, gs⟩ := push5 h2 { cls := .type (strIterType x), data := .fields #[.str x t, .int 0 0] } { cls := .type (strIterType y), data := .fields #[.str y u, .int 0 0] } { cls := .type "tuple", data := .seq #[.ref h2.objs.size, .ref (h2.objs.size + 1)] } { cls := .type "tuple", data := .seq #[.none, .none] } { cls := .type "zip", data := .fields #[.none, .bool false, .bool false, .ref (h2.objs.size + 2), .ref (h2.objs.size + 3)] } rfl rfl rfl rfl rfl
  show wants _ _ _ { s with heap := _, toks := _ }
  rw [hH]
  refine ⟨⟨_, g4, rfl⟩, ?_⟩
  refine wpAny_pyIter_zip (s := { s with heap := H, toks := tk2 }) g4 ?_
  have X : ZA (h2.objs.size + 4) (h2.objs.size + 2) (h2.objs.size + 3) h2.objs.size (h2.objs.size + 1) := by constructor <;> (refine neN ?_; omega)
  have W := WalksU.zipd (A := A) X (draws_str (w := w) (A := A.in1) ok.hd h2.objs.size x t) (draws_str (w := w) (A := A.in1) ok.hd (h2.objs.size + 1) y u)
  have hfr : ∀ i : Nat, s.heap.get? (h2.objs.size + i) = none := fun i => (x1.trans x2).none (size_none (Nat.le_add_right _ _))
  have hlen : min x.cps.size y.cps.size = (x.cps.toList.zip y.cps.toList).length := by simp
  rw [hlen] at W
  refine q H tk2 _ _ _ _ _ _ ((x1.trans x2).trans gx) W ?_ ⟨g4, g2, _, _, g3, ⟨_, g0, rfl, rfl⟩, ⟨_, g1, rfl, rfl⟩⟩ ?_ ?_
  · rintro i vs hi ⟨a, b, ⟨c, u1, y1, rfl⟩, ⟨c', u2, y2, rfl⟩, rfl⟩
    exact ⟨(c, c'), _, _, zip_get? (by simpa using y1) (by simpa using y2), rfl, ⟨_, rfl⟩, _, rfl⟩
  · intro b hb
    have : ∃ i, b = h2.objs.size + i ∧ i < 5 := by
      simp at hb
      rcases hb with rfl | rfl | rfl | rfl | rfl
      · exact ⟨4, rfl, by decide⟩
      · exact ⟨2, rfl, by decide⟩
      · exact ⟨3, rfl, by decide⟩
      · exact ⟨0, rfl, by decide⟩
      · exact ⟨1, rfl, by decide⟩
    obtain ⟨i, rfl, hi⟩ := this
    exact ⟨by rw [gs]; exact Nat.add_lt_add_left hi _, .inl (hfr i)⟩
  · intro b hb
    simp at hb
    rcases hb with rfl | rfl | rfl | rfl
    · exact hfr 4
    · exact hfr 3
    · exact hfr 0
    · exact hfr 1
end Mine
end

-- Z2
section
open PySem PySem.W PyProof.Rows PySem.Calls PySem.Spec
set_option maxRecDepth 100000
set_option maxHeartbeats 1000000
namespace Mine
theorem exb_of {h h' : Heap} (x : Heap.ExtBut h.objs.size h h') : Ext h h' := fun b o e => x b o (fun eq => by subst eq; rw [next_none] at e; cases e) e
section
variable {w : World} {A : Around} {s : Shared} {E : Value → Shared → Prop} {env : Env} {m : Str → Option Value} {x1 x2 : Str} {p1 p2 pos : Pos} {kk : Nat} {T : Addr} {a b : Value}
/-- two names take a tuple's two values -/
theorem assign2 {Q : Unit → Shared → Prop} (hh : A.handled = none) (ht : s.heap.IsTuple T #[a, b]) (hk1 : env.kindOf x1 = some .local) (hk2 : env.kindOf x2 = some .local) (hkd : env.scope.kind = .function) (hn : s.heap.Ns env.locals m)
    (q : ∀ h' tk, ExtB [env.locals] s.heap h' → h'.Ns env.locals (upd (upd m x1 a) x2 b) → Q () { s with heap := h', toks := tk }) :
    wpAny (MM w) A (assign (.Tuple [.Name x1 p1, .Name x2 p2] kk pos) env (.ref T)) Q E s := by
  refine wpAny_assign_Tuple hh ht rfl rfl fun h1 hx => ?_
  have e1 := exb_of hx
  refine assignInOrder_cons (wpAny_assign_Name (wpAny_storeName_local hk1 (hn.keeps e1) (fun h2 hn2 hs2 => ?_) (by rw [hkd]; rfl)))
  refine assignInOrder_cons (wpAny_assign_Name (wpAny_storeName_local hk2 hn2 (fun h3 hn3 hs3 => ?_) (by rw [hkd]; rfl)))
  refine assignInOrder_nil (q h3 _ (fun c o hc e => ?_) hn3)
  have hc' : c ≠ env.locals := fun e => hc (List.mem_singleton.mpr e)
  exact hs3.extBut c o hc' (hs2.extBut c o hc' (e1 c o e))
end
section
variable {w : World} {A : Around} {E : Value → Shared → Prop} {s : Shared}
theorem comp_loop {elt target iter : PySem.Expr} {ifs : List Expr} {scope : Scope} {pos : Pos} {it acc : Value} {env : Env} {R : Result → Shared → Prop} (I : Nat → Shared → Prop)
    (turn : ∀ n s (E' : Value → Shared → Prop), I n s → wpAny (MM w) A (pyNext it) (fun r s₁ => match r with
      | none => R (.ok .next) s₁
      | some v => wpAny (MM w) A (letOwnedTupleGo target it v) (fun _ s₀ => wpAny (MM w) A (assign target env v) (fun _ s₂ =>
          wpAny (MM w) A (forIn ifs true fun c r => if r = true then do let ok ← isTrue c env (eval c env); pure (ForInStep.yield ok) else pure (ForInStep.yield r)) (fun ok s₃ => if ok = true then wpAny (MM w) A (eval elt env) (fun x s₄ =>
            wpAny (MM w) A (call (.builtin "list.append") [acc, x]) (fun _ s₅ => ∃ m, m < n ∧ I m s₅) E' s₄) E' s₃
            else ∃ m, m < n ∧ I m s₃) E' s₂) E' s₀) E' s₁) E' s)
    (n : Nat) (h : I n s) : codeAny (MM w) A (.compLoop (.ListComp elt [⟨target, iter, ifs, 0⟩] scope pos) 0 it acc env) R s := by
  refine codeAny_loop rfl I (fun n s hI => ?_) n h
  show wpAny _ A ((compTurn (.ListComp elt [⟨target, iter, ifs, 0⟩] scope pos) 0 it acc env).onRaise (fun x => do noteFrame x env; theTreesLotGoes x)) _ _ s
  refine wpAny_noted ?_
  rw [compTurn_list]
  refine wpAny_bind (wpAny_standAt (wpAny_bind (wpAny_mono (turn n s _ hI) (fun r s₁ h₁ => ?_) fun _ _ h' => h')))
  cases r with
  | none => exact wpAny_pure h₁
  | some v =>
    refine wpAny_bind (wpAny_mono h₁ (fun _ s₀ h₀' => ?_) fun _ _ h' => h')
    refine wpAny_bind (wpAny_mono h₀' (fun _ s₂ h₂ => ?_) fun _ _ h' => h')
    refine wpAny_bind (wpAny_mono h₂ (fun okb s₃ h₃ => ?_) fun _ _ h' => h')
    cases okb with
    | false => exact wpAny_pure ⟨rfl, h₃⟩
    | true => exact wpAny_bind (wpAny_bind (wpAny_mono h₃ (fun x s₄ h₄ => wpAny_bind (wpAny_mono h₄ (fun _ s₅ h₅ => wpAny_pure (wpAny_pure ⟨rfl, h₅⟩)) fun _ _ h' => h')) fun _ _ h' => h'))
end

inductive CInv {α : Type} (s : Shared) (St : Nat → Heap → Prop) (D C : Addr) (relY : α → Value → Prop) (items : List α) (p : α → Bool) (M : List Addr) (k : Nat) (s' : Shared) : Prop
  | mk (h : Heap) (tk : Tok) (m : Str → Option Value) (ys : Array Value) (i : Nat) (e : s' = { s with heap := h, toks := tk }) (st : St i h) (hl : h.IsList D ys) (hn : h.Ns C m) (hF : Paired relY ((items.take i).filter p) ys.toList) (hi : i ≤ items.length) (hk : items.length + 1 ≤ k + i) (kb : ExtB M s.heap h) : CInv s St D C relY items p M k s'
theorem size_fil {α : Type} {F : α → Value → Prop} {items : List α} {p : α → Bool} {i : Nat} {ys : Array Value} (hF : Paired F ((items.take i).filter p) ys.toList) (hz : items.length ≤ 1000) : ys.size ≤ sizeLine := by
  have e1 := hF.length
  have e2 : ((items.take i).filter p).length ≤ (items.take i).length := List.length_filter_le _ _
  have e3 : (items.take i).length ≤ items.length := by rw [List.length_take]; omega
  have e4 : ys.toList.length = ys.size := by simp
  rw [sizeLine_eq]
  omega
theorem comp2_at {w : World} {n : Nat} {env : Env} {α : Type} {items : List α} {rel : α → Value → Value → Prop} {iter elt : Expr} {x1 x2 : Str} {p1 p2 tp pos : Pos} {kk : Nat} {ifs : List Expr} {scope : Scope} {cl : List (Str × Addr)} {p : α → Bool} {relY : α → Value → Prop}
    {A : Around} {s : Shared} {Q : Value → Shared → Prop} {E : Value → Shared → Prop} (M : List Addr) (ok : Okk A n)
    (src : ∀ Q' : Value → Shared → Prop, (∀ h' tk I fp wr (Pt : Nat → Array Value → Prop) (St : Nat → Heap → Prop) (Md : Nat → Addr → Heap → Prop), ExtB M s.heap h' → WalksU PG w A I fp wr items.length Pt St Md → (∀ i vs, i < items.length → Pt i vs → ∃ a x y, items[i]? = some a ∧ vs = #[x, y] ∧ rel a x y) → St 0 h' →
      (∀ b ∈ fp, b < h'.objs.size) → (∀ b ∈ wr, s.heap.get? b = none) → Q' (.ref I) { s with heap := h', toks := tk }) →
      wpAny (MM w) A (eval iter env) (fun xv s₁ => wpAny (MM w) A (pyIter xv) Q' E s₁) E s) (hz : items.length ≤ 1000) (hclos : closureFor scope env = pure cl) (hcell : ∀ y ∈ scope.names, y.2 ≠ .cell) (hkind : scope.kind = .function)
    (hnames : ∀ y ∈ scope.names, y.2 = .local → scope.names.lookup y.1 = some .local) (hx1 : scope.names.lookup x1 = some .local) (hx2 : scope.names.lookup x2 = some .local) (hd1 : (x1 == ("__debug__" : Str)) = false) (hd2 : (x2 == ("__debug__" : Str)) = false) (h12 : x1 ≠ x2) (he : FnEnv env)
    (tests : ∀ a u v hc C, a ∈ items → rel a u v → ExtB M s.heap hc → Lk w hc (compEnvC scope cl C env) x1 u → Lk w hc (compEnvC scope cl C env) x2 v → Tests w n hc (compEnvC scope cl C env) ifs (p a))
    (elt' : ∀ a u v hc C, a ∈ items → p a = true → rel a u v → ExtB M s.heap hc → Lk w hc (compEnvC scope cl C env) x1 u → Lk w hc (compEnvC scope cl C env) x2 v → Ev w n hc (compEnvC scope cl C env) elt (fun y _ _ => relY a y))
    (q : ∀ D h' tk ys, ExtB M s.heap h' → (D ∉ M → s.heap.get? D = none) → h'.IsList D ys → Paired relY (items.filter p) ys.toList → Q (.ref D) { s with heap := h', toks := tk })
    (hs : ∀ x, foldedSetIterable iter env x = pure x := by intro _; rfl) :
    wpAny (MM w) A (eval (.ListComp elt [⟨.Tuple [.Name x1 p1, .Name x2 p2] kk tp, iter, ifs, 0⟩] scope pos) env) Q E s := by
  rw [eval_ListComp]
  refine wpAny_comprehension_free (use := none) rfl hs hclos hkind hnames (src _ fun h2 tk I fp wr Pt St Md e W hp st hf hw => ?_)
  refine wpAny_newObj_type (wpAny_newFunctionEnv hcell (by intro y hy; simp at hy) (fun h₁ hns₁ hsb₁ => ?_) hkind)
  dsimp only at hns₁ hsb₁ ⊢
  generalize hH2 : h2.push { cls := .type "list", dict := none, data := .seq ([] : List Value).toArray } = H2 at hns₁ hsb₁ ⊢
  have hC : H2.objs.size = h2.objs.size + 1 := by rw [← hH2, Heap.size_push]
  have hDC : h2.objs.size ≠ H2.objs.size := by rw [hC]; exact Nat.ne_of_lt (Nat.lt_succ_self _)
  have below : ∀ b, b < h2.objs.size → b ≠ H2.objs.size ∧ b ≠ h2.objs.size := fun b hb => ⟨by rw [hC]; exact Nat.ne_of_lt (Nat.lt_succ_of_lt hb), Nat.ne_of_lt hb⟩
  have hDf : h2.objs.size ∉ fp := fun hm => Nat.lt_irrefl _ (hf _ hm)
  have hCf : H2.objs.size ∉ fp := fun hm => by have := hf _ hm; rw [hC] at this; exact Nat.lt_irrefl _ (Nat.lt_of_succ_lt this)
  have old : Ext h2 h₁ := fun b o e => hsb₁.extBut b o (below b (Heap.lt_size e)).1 (Heap.get?_push_of_some _ (hH2 ▸ Heap.get?_push_of_some _ e))
  have hacc : h₁.IsList h2.objs.size #[] := ⟨_, hsb₁.extBut _ _ hDC (Heap.get?_push_of_some _ (hH2 ▸ Heap.get?_push_size _ rfl)), rfl, _, rfl⟩
  have hst₁ : St 0 h₁ := W.frame _ _ _ st fun b _ o e => old b o e
  have hwS : ∀ b o, b ∉ M → s.heap.get? b = some o → b ∉ wr ∧ b ≠ H2.objs.size ∧ b ≠ h2.objs.size := fun b o hbM eb => ⟨fun hbw => (by rw [hw b hbw] at eb; cases eb), below b (Heap.lt_size (e b o hbM eb))⟩
  have hHD : h2.objs.size ∉ M → s.heap.get? h2.objs.size = none := fun hDM => by
    cases eo : s.heap.get? h2.objs.size with
    | none => rfl
    | some o => have := e _ _ hDM eo; rw [next_none] at this; cases this
  generalize H2.objs.size = C at *
  generalize h2.objs.size = D at *
  generalize hRR : compPost (MM w) A E none Q (.ref D) C = RR
  have lk : ∀ (x : Str) (v : Value) (hc : Heap) (m : Str → Option Value), scope.names.lookup x = some .local → (x == ("__debug__" : Str)) = false → hc.Ns C m → m x = some v → Lk w hc (compEnvC scope cl C env) x v := fun x v hc m hx hd hn hm =>
    Lk.loc (env := compEnvC scope cl C env) hn hm (he.comp hkind) (lookup_relabel_local hx) hd
  have loop : ∀ s₃ : Shared, s₃ = { s with heap := h₁, toks := tk + ([] : List (Str × Value)).length } →
      codeAny (MM w) A (.compLoop (.ListComp elt [⟨.Tuple [.Name x1 p1, .Name x2 p2] kk tp, iter, ifs, 0⟩] scope pos) 0 (.ref I) (.ref D) (compEnvC scope cl C env)) RR s₃ := by
    rintro s₃ rfl
    refine comp_loop (CInv s St D C relY items p M) ?_ (items.length + 1)
      ⟨h₁, _, _, #[], 0, rfl, hst₁, hacc, hns₁, by simpa using Paired.nil, Nat.zero_le _, Nat.le_refl _, e.trans old.b⟩
    rintro kk' s' E' ⟨H, tk', m', ys, i, rfl, st', hl', hn', hF, hi, hkk, hk⟩
    obtain ⟨k0, rfl⟩ := fpos hkk hi
    by_cases hlt : i < items.length
    · refine W.item i _ _ _ hlt st' fun T vals h3 tk3 hP hT hM hk3 => ?_
      obtain ⟨a, u, v, ha, rfl, hr⟩ := hp i vals hlt hP
      have hmem := List.mem_of_getElem? ha
      have hCw : C ∉ wr := fun hm => hCf (W.sub _ hm)
      have hDw : D ∉ wr := fun hm => hDf (W.sub _ hm)
      have hTw := W.apart _ _ _ hM
      dsimp only
      refine W.go _ _ _ i T _ _ _ hM fun h4 st4 hk4 => ?_
      have hT4 : h4.IsTuple T #[u, v] := by obtain ⟨o, ho, hd⟩ := hT; exact ⟨o, hk4 _ _ hTw ho, hd⟩
      have hn4 : h4.Ns C m' := hn'.at' fun o eo => hk4 _ _ hCw (hk3 _ _ hCw eo)
      have hl4 : h4.IsList D ys := hl'.at fun o eo => hk4 _ _ hDw (hk3 _ _ hDw eo)
      have k4 : ExtB M s.heap h4 := fun b o hM eb => hk4 b o (hwS b o hM eb).1 (hk3 b o (hwS b o hM eb).1 (hk b o hM eb))
      refine assign2 (s := { s with heap := h4, toks := tk3 }) (env := compEnvC scope cl C env) ok.hd hT4 (lookup_relabel_local hx1) (lookup_relabel_local hx2) (by simp [compEnvC, relabel, hkind]) hn4 fun h5 tk5 kb5 hn5 => ?_
      replace kb5 : ExtB [C] h4 h5 := kb5
      replace hn5 : h5.Ns C (upd (upd m' x1 u) x2 v) := hn5
      have k5 : ExtB M s.heap h5 := fun b o hM eb => kb5 b o (fun hm => (hwS b o hM eb).2.1 (List.mem_singleton.mp hm)) (k4 b o hM eb)
      have hl5 : h5.IsList D ys := hl4.at fun o eo => kb5 _ o (fun hm => hDC (List.mem_singleton.mp hm)) eo
      have st5 : St (i + 1) h5 := W.frame _ _ _ st4 fun b hb o eo => kb5 _ o (fun hm => hCf (List.mem_singleton.mp hm ▸ hb)) eo
      have l1 := lk x1 u h5 _ hx1 hd1 hn5 (by show (if x1 = x2 then _ else _) = _; rw [if_neg h12]; exact upd_eq)
      have l2 := lk x2 v h5 _ hx2 hd2 hn5 upd_eq
      refine (tests a u v h5 C hmem hr k5 l1 l2).run ok (.refl _) fun h6 tk6 e6 => ?_
      have hl6 := isList_ext hl5 e6
      have hn6 := hn5.keeps e6
      have st6 : St (i + 1) h6 := W.frame _ _ _ st5 fun b hb o eo => e6 _ o eo
      cases hpa : p a with
      | false =>
        simp only [Bool.false_eq_true, if_false]
        refine ⟨k0, Nat.lt_succ_self _, h6, tk6, _, ys, i + 1, rfl, st6, hl6, hn6, ?_, hlt, fstep hkk, k5.trans e6.b⟩
        rw [take_succ_filter p _ i a ha, hpa]; simpa using hF
      | true =>
        simp only [if_true]
        refine elt' a u v h6 C hmem hpa hr (k5.trans e6.b) (l1.ext e6) (l2.ext e6) A _ _ _ ok (.refl _) fun y h7 tk7 e7 py => ?_
        refine wpAny_list_append (hsz := size_fil hF hz) (isList_ext hl6 e7) fun h8 hl8 hs8 => ?_
        refine ⟨k0, Nat.lt_succ_self _, h8, tk7, _, ys.push y, i + 1, rfl, W.frame _ _ _ st6 fun b hb o eo => hs8.extBut _ _ (fun e => hDf (e ▸ hb)) (e7 _ o eo), hl8, ns_same (hn6.keeps e7) hs8 (Ne.symm hDC), ?_, hlt, fstep hkk,
          fun b o hM eb => hs8.extBut _ _ (hwS b o hM eb).2.2 (e7 _ _ (e6 _ _ (k5 _ _ hM eb)))⟩
        rw [take_succ_filter p _ i a ha, hpa]
        simpa using Paired.snoc hF py
    · have : i = items.length := fend hlt hi
      subst this
      refine W.done _ _ _ st' fun h3 tk3 hk3 => ?_
      have hCw : C ∉ wr := fun hm => hCf (W.sub _ hm)
      have hDw : D ∉ wr := fun hm => hDf (W.sub _ hm)
      rw [← hRR]
      refine ⟨m', hn'.at' fun o eo => hk3 _ _ hCw eo, fun h'' hs'' => ?_⟩
      refine q D h'' _ ys (fun b o hM eb => hs''.extBut b o (hwS b o hM eb).2.1 (hk3 b o (hwS b o hM eb).1 (hk b o hM eb))) hHD ?_ ?_
      · have : h3.IsList D ys := hl'.at fun o eo => hk3 _ _ hDw eo
        exact isList_same this hs'' hDC
      · simpa using hF
  subst hRR
  exact codeAny_compStart_list (loop _ rfl) (W.self 0 _ _ _ hst₁ (loop _ rfl))
theorem Ev.comp2 {w : World} {n : Nat} {h : Heap} {env : Env} {α : Type} {items : List α} {rel : α → Value → Value → Prop} {iter elt : Expr} {x1 x2 : Str} {p1 p2 tp pos : Pos} {kk : Nat} {ifs : List Expr} {scope : Scope} {cl : List (Str × Addr)} {S : List Addr} {p : α → Bool} {relY : α → Value → Prop}
    (src : Src2 w n h env iter S items rel) (hz : items.length ≤ 1000) (hclos : closureFor scope env = pure cl) (hcell : ∀ y ∈ scope.names, y.2 ≠ .cell) (hkind : scope.kind = .function)
    (hnames : ∀ y ∈ scope.names, y.2 = .local → scope.names.lookup y.1 = some .local) (hx1 : scope.names.lookup x1 = some .local) (hx2 : scope.names.lookup x2 = some .local) (hd1 : (x1 == ("__debug__" : Str)) = false) (hd2 : (x2 == ("__debug__" : Str)) = false) (h12 : x1 ≠ x2) (he : FnEnv env)
    (tests : ∀ a u v hc C, a ∈ items → rel a u v → Ext h hc → Lk w hc (compEnvC scope cl C env) x1 u → Lk w hc (compEnvC scope cl C env) x2 v → Tests w n hc (compEnvC scope cl C env) ifs (p a))
    (elt' : ∀ a u v hc C, a ∈ items → p a = true → rel a u v → Ext h hc → Lk w hc (compEnvC scope cl C env) x1 u → Lk w hc (compEnvC scope cl C env) x2 v → Ev w n hc (compEnvC scope cl C env) elt (fun y _ _ => relY a y))
    (hs : ∀ x, foldedSetIterable iter env x = pure x := by intro _; rfl) :
    Ev w n h env (.ListComp elt [⟨.Tuple [.Name x1 p1, .Name x2 p2] kk tp, iter, ifs, 0⟩] scope pos) (isL fun vs => Paired relY (items.filter p) vs) := by
  intro A s Q E ok k q
  have ex0 : ∀ {h' : Heap}, ExtB [] s.heap h' → Ext s.heap h' := fun x b o e => x b o (by simp) e
  refine comp2_at (M := []) ok (fun Q' q' => src A s Q' E ok k fun h' tk I fp wr Pt St Md e W hp st hf hw => q' h' tk I fp wr Pt St Md e.b W hp st (fun b hb => (hf b hb).1) hw) hz hclos hcell hkind hnames hx1 hx2 hd1 hd2 h12 he
    (fun a u v hc C hm hr ex => tests a u v hc C hm hr (k.trans (ex0 ex))) (fun a u v hc C hm hp hr ex => elt' a u v hc C hm hp hr (k.trans (ex0 ex)))
    (fun D h' tk ys ex hD hl hp => q _ h' tk (ex0 ex) ⟨D, ys.toList, rfl, hD (by simp), by simpa using hl, hp⟩) hs
end Mine
end

-- P1
section
open PySem
namespace Mine
noncomputable def txt (l : List Nat) : Str := ⟨l.toArray⟩
noncomputable def abc : List Nat := [97, 98, 99, 100, 101, 102, 103, 104, 105]
noncomputable def setB (c : Nat) : Bool := [114, 119, 120, 115, 116].contains c
noncomputable def signs : List Nat := [45, 114, 119, 120, 115, 116, 83, 84]
noncomputable def lettersF (r : List Nat) : List Nat := ((abc.zip (r.drop 1)).filter fun a => setB a.2).map (·.1)
/-- what a row is: ten signs, the last nine of these -/
structure RowS (r : List Nat) : Prop where
  len : r.length = 10
  sg : ∀ c ∈ r.drop 1, c ∈ signs
theorem txt_len (l : List Nat) : (txt l).length = l.length := by simp [txt, Str.length]
theorem txt_cps (l : List Nat) : (txt l).cps.toList = l := by simp [txt]
theorem slice_from_txt (l : List Nat) (i : Nat) (h : i ≤ l.length) : Txt.slice (txt l) (some (i : Int)) none = txt (l.drop i) := by
  have := PyProof.Rows.slice_from_eq (x := txt l) (i := i) (b := l.length) (by omega) (by rw [txt_len]; omega) (by rw [txt_len])
  rw [this, txt_cps]
  have e : ((l.length : Int) - (i : Int)).toNat = (l.drop (i : Int).toNat).length := by rw [List.length_drop]; exact Int.toNat_sub ..
  rw [e, List.take_length]
  rfl
theorem slice_to_txt (l : List Nat) (j : Nat) (h : j ≤ l.length) : Txt.slice (txt l) none (some (j : Int)) = txt (l.take j) := by
  have := StrLaws.sliceText_to (x := txt l) (j := j) (by rw [txt_cps]; omega)
  refine (show Txt.slice (txt l) none (some (j : Int)) = StrLaws.sliceText (txt l) none (some (j : Int)) from rfl).trans (this.trans ?_)
  rw [txt_cps]
  have e : ((j : Int) - 0).toNat = j := by rw [Int.sub_zero]; rfl
  rw [e]
  rfl
end Mine
end

-- N3
section
open PySem PySem.W PyProof.Rows PySem.Calls PySem.Spec
set_option maxRecDepth 100000
set_option maxHeartbeats 1000000
namespace Mine
theorem occSet : ∀ c ∈ signs, (!(Builtin.Str.occurrences (Str.ofString "rwxst") (ch c) 0 (Str.ofString "rwxst").length 1).isEmpty) = setB c := by decide +kernel
theorem Src2.cast {w : World} {n : Nat} {h : Heap} {env : Env} {α : Type} {items items' : List α} {rel : α → Value → Value → Prop} {iter : Expr} {S : List Addr} (x : Src2 w n h env iter S items rel) (e : items = items') : Src2 w n h env iter S items' rel := e ▸ x
theorem letters_cl {w : World} {h : Heap} {r : List Nat} {t : Tok} (G : Grd w h) (hr : RowS r) :
    Cl w 3 h (.ref 164) [.str (txt r) t] (isL fun vs => StrsAre vs ((lettersF r).map ch)) := by
  refine Cl.code (n := 2) (binds := [(Str.ofString "row", .str (txt r) t)]) G (by rfl) rfl rfl (by rfl) (by rfl) (by decide) (locs rfl) ?_
  intro A s h0 env Q E hv ok G0 e0 F q
  have he : FnEnv env := by obtain ⟨L, rfl⟩ := hv; exact .call rfl rfl rfl
  have kl : env.kindOf (Str.ofString "row") = some .local := by obtain ⟨L, rfl⟩ := hv; rfl
  have ks : env.kindOf (Str.ofString "zip") = some .globalImplicit := by obtain ⟨L, rfl⟩ := hv; rfl
  have Gs := G0.ext (h' := s.heap) F.keep
  have ll : Lk w s.heap env (Str.ofString "row") (.str (txt r) t) := .loc F.ns rfl he kl (by decide)
  have ls : Lk w s.heap env (Str.ofString "zip") (.type "zip") := .blt Gs he ks (by rfl) (by rfl) (by decide) (by decide)
  refine run_ret (P := isL fun vs => StrsAre vs ((lettersF r).map ch)) ok (.refl _) ?_ fun v h' tk e p => q v h' tk (Ext.trans F.keep e) (anti_L _ _ _ _ _ F.keep p)
  have hz : (abc.zip (r.drop 1)).length ≤ 1000 := by simp [abc]; omega
  refine (Ev.comp2 (p := fun a => setB a.2) (relY := fun a v => relC a.1 v) (cl := []) ((Src2.zipS ls .str (Ev.sliceS (Ev.nameS ll) (Pt.some (.int (i := 1))) .none (by rw [txt_len, hr.len]; decide))).cast (items' := abc.zip (r.drop 1)) ?_) hz (closureFor_none (by decide)) (by decide) rfl (by decide) rfl rfl (by decide) (by decide) (by decide) he ?_ ?_).mono ?_
  · have : Txt.slice (txt r) (some 1) none = txt (r.drop 1) := slice_from_txt r 1 (by rw [hr.len]; decide)
    rw [this, txt_cps]
    rfl
  · intro a u v hc C hm hrel ex l1 l2
    obtain ⟨⟨t1, rfl⟩, t2, rfl⟩ := hrel
    refine (Tr.cmp (Ev.nameS l2) .str (fun _ _ _ _ _ _ _ _ p q => by obtain ⟨t, rfl⟩ := p; obtain ⟨u, rfl⟩ := q; exact Cmp.inS)).b (occSet a.2 (hr.sg _ (List.of_mem_zip hm).2))
  · intro a u v hc C hm hp hrel ex l1 l2
    obtain ⟨⟨t1, rfl⟩, t2, rfl⟩ := hrel
    exact (Ev.nameS l1).mono fun v _ _ _ _ p => p
  · intro v a b _ _ p
    obtain ⟨T', vs', h1, h2, h3, h4⟩ := p
    exact ⟨T', vs', h1, h2, h3, strs_are (paired_map (F := relS) (f := ch) (paired_map (F := relC) (f := fun a : Nat × Nat => a.1) h4))⟩
end Mine
end

-- Z3
section
open PySem PySem.W PyProof.Rows PySem.Calls PySem.Spec
open AutoSeq1 (wpAny_loadPart')
set_option maxRecDepth 100000
set_option maxHeartbeats 1000000
namespace Mine
/-- a source of tuples out of a source of values -/
theorem Src.pairs {w : World} {n : Nat} {h : Heap} {env : Env} {iter : Expr} {S : List Addr} {α : Type} {items : List α} {relR : α → Value → Prop} {rel : α → Value → Value → Prop}
    (src : Src w n h env iter S items relR) (refs : List Addr) (hr : ∀ a v, a ∈ items → relR a v → ∃ b x y, v = .ref b ∧ b ∈ refs ∧ h.IsTuple b #[x, y] ∧ rel a x y) :
    Src2 w n h env iter (S ++ refs) items rel := by
  intro A s Q E ok k q
  refine src A s Q E ok k fun h' tk I fp wr P St e W hp st hf hw lg => ?_
  have key : ∀ i v, P i v → ∃ a b x y, items[i]? = some a ∧ v = .ref b ∧ b ∈ refs ∧ h.IsTuple b #[x, y] ∧ rel a x y := fun i v hP => by
    obtain ⟨a, ha, hrel⟩ := hp i v hP
    obtain ⟨b, x, y, h1, h2, h3, h4⟩ := hr a v (List.mem_of_getElem? ha) hrel
    exact ⟨a, b, x, y, ha, h1, h2, h3, h4⟩
  have nw : ∀ b its, h.IsTuple b its → b ∉ wr := fun b its ht hb => by
    obtain ⟨o, ho, _⟩ := ht
    have := hw b hb
    rw [k _ _ ho] at this; cases this
  let R2 : List Addr := refs.filter fun b => (h.get? b).isSome
  have hR2 : ∀ b its, b ∈ refs → h.IsTuple b its → b ∈ R2 := fun b its hb ht => by
    obtain ⟨o, ho, _⟩ := ht
    exact List.mem_filter.mpr ⟨hb, by rw [ho]; rfl⟩
  let Tup : Heap → Prop := fun h1 => ∀ b ∈ R2, ∀ o, h.get? b = some o → h1.get? b = some o
  have WU : WalksU PG w A I (fp ++ R2) wr items.length (fun i vals => ∃ a x y, items[i]? = some a ∧ vals = #[x, y] ∧ rel a x y) (fun i h1 => St i h1 ∧ Tup h1) (fun i T h1 => St (i + 1) h1 ∧ Tup h1 ∧ T ∉ wr) :=
    { sub := fun b hb => List.mem_append.mpr (.inl (W.sub b hb))
      frame := fun i h1 h2 st hk => ⟨W.frame i h1 h2 st.1 fun b hb o eo => hk b (List.mem_append.mpr (.inl hb)) o eo, fun b hb o eo => hk b (List.mem_append.mpr (.inr hb)) o (st.2 b hb o eo)⟩
      item := fun i s Q E hi st hQ => by
        refine W.item i s Q E hi st.1 fun v h2 tk2 hP st2 hk => ?_
        obtain ⟨a, b, x, y, ha, rfl, hb, ht, hrel⟩ := key i v hP
        have hbw := nw b _ ht
        have tup : Tup h2 := fun c hc o eo => hk c o (fun hcw => by have := hw c hcw; rw [k _ _ eo] at this; cases this) (st.2 c hc o eo)
        have hb2 := hR2 b _ hb ht
        obtain ⟨o, ho, hd⟩ := ht
        exact hQ b #[x, y] h2 tk2 ⟨a, x, y, ha, rfl, hrel⟩ ⟨o, tup b hb2 o ho, hd⟩ ⟨st2, tup, hbw⟩ hk
      go := fun elts kk pos i T s Q E hm hQ => lg (i + 1) _ _ s Q E hm.1 (hQ s.heap ⟨hm.1, hm.2.1⟩ fun _ _ _ e => e)
      apart := fun i T h1 hm => hm.2.2
      done := fun s Q E st hQ => W.done s Q E st.1 hQ
      self := fun i s Q E st hQ => W.self i s Q E st.1 hQ }
  refine q h' tk I _ wr _ _ _ e WU (fun i vs _ hP => hP) ⟨st, fun b hb o eo => e _ _ (k _ _ eo)⟩ (fun b hb => ?_) hw
  rcases List.mem_append.mp hb with hb | hb
  · exact ⟨(hf b hb).1, (hf b hb).2.imp id fun x => List.mem_append.mpr (.inl x)⟩
  · obtain ⟨h1, h2⟩ := List.mem_filter.mp hb
    obtain ⟨o, ho⟩ := Option.isSome_iff_exists.mp h2
    exact ⟨Heap.lt_size (e _ _ (k _ _ ho)), .inr (List.mem_append.mpr (.inr h1))⟩

theorem Src.tuple {w : World} {n : Nat} {h : Heap} {env : Env} {iter : Expr} {T : Addr} {vs : List Value} {α : Type} {items : List α} {rel : α → Value → Prop} (hv : Ev w n h env iter (isV (.ref T))) (ht : h.IsTuple T vs.toArray) (ha : Paired rel items vs) :
    Src w n h env iter [T] items rel := by
  intro A s Q E ok k q
  refine hv A s _ E ok k fun v h' tk e p => ?_
  rw [p]
  have ht' := isTuple_ext ht (k.trans e)
  refine wpAny_pyIter_tuple (s := { s with heap := h', toks := tk }) ht' ?_
  have hlt : T < h'.objs.size := by obtain ⟨o, ho, _⟩ := ht'; exact Heap.lt_size ho
  have W := Walks.tuple (prog := PG) (w := w) ok.hd h'.objs.size T (Nat.ne_of_lt hlt) vs.toArray
  have hn : vs.toArray.size = items.length := by simp [ha.length]
  rw [hn] at W
  refine q _ _ _ _ _ _ _ (e.trans (Ext.push _ _)) W (fun i v hp => paired_at ha i v (by simpa using hp)) ⟨⟨_, Heap.get?_push_size _ rfl, rfl, rfl⟩, isTuple_ext ht' (Ext.push _ _)⟩ (fun b hb => ?_) (fun b hb => ?_) fun i v tg s' Q' E' st q' => letGo_tupleiter st.1 q'
  · rw [Heap.size_push]
    rcases List.mem_cons.mp hb with rfl | hb
    · exact ⟨Nat.lt_succ_self _, .inl (e.none (next_none _))⟩
    · rw [List.mem_singleton.mp hb]; exact ⟨Nat.lt_succ_of_lt hlt, .inr (List.mem_singleton.mpr rfl)⟩
  · rw [List.mem_singleton.mp hb]; exact e.none (next_none _)
section
variable {w : World} {A : Around} {E : Value → Shared → Prop} {s : Shared}
theorem nextOf_tuple_item {it t : Addr} {i : Nat} {items} {x : Value} {Q : Value → Shared → Prop} (hit : s.heap.IsTupleIter it t i) (ht : s.heap.IsTuple t items) (hx : items[i]? = some x)
    (hQ : ∀ h', h'.IsTupleIter it t (i + 1) → Heap.SameBut it s.heap h' → Q x { s with heap := h' }) : wpAny (MM w) A (Builtin.SmallTypes.nextOf (.ref it)) Q E s := by
  obtain ⟨o, ho, hc, hd⟩ := id hit
  obtain ⟨ol, hol, _, nl, hdl⟩ := ht
  unfold Builtin.SmallTypes.nextOf
  refine wpAny_bind (wpAny_callSpecial?_slot (name := Str.ofString "__next__") hit.typeIs F.slot_tuple_iterator_next
    (wpAny_call_entry F.slot_tuple_iterator_next hit.typeIs F.entry_tuple_iterator_next ?_ (F.args_tuple_iterator_next_1 _)))
  show wpAny _ _ (field (.ref it) 0 >>= _) _ _ s
  refine wpAny_bind (wpAny_field ho hd (x := .ref t) rfl ?_)
  show wpAny _ _ (if (Value.ref t == Value.none) = true then _ else _) _ _ s
  rw [if_neg (show ¬ ((Value.ref t == Value.none) = true) from Bool.false_ne_true)]
  show wpAny _ _ (field (.ref it) 1 >>= _) _ _ s
  refine wpAny_bind (wpAny_field ho hd (x := .int i 0) rfl ?_)
  show wpAny _ _ (seqItems? (.ref t) >>= _) _ _ s
  refine wpAny_bind (wpAny_seqItems hol hdl ?_)
  simp only [Int.toNat_natCast, hx]
  refine wpAny_bind (wpAny_setField ho hd (by simp) (wpAny_pure ⟨x, rfl, wpAny_pure (hQ _ ?_ (Heap.SameBut.update ..))⟩))
  exact ⟨_, Heap.get?_update_self _ ho (Obj.isFreed_of_fields (Obj.data_mapFields hd _)), (Obj.cls_mapFields ..).trans hc, by
    rw [Obj.data_mapFields hd]; simp [rawInt]⟩
theorem nextOf_tuple_end {it t : Addr} {i : Nat} {items} {Q : Value → Shared → Prop} (hh : A.handled = none) (hit : s.heap.IsTupleIter it t i) (ht : s.heap.IsTuple t items) (hx : items[i]? = none)
    (hE : ∀ h' e, Heap.ExtBut it s.heap h' → (∃ o, h'.get? e = some o ∧ o.cls = .type "StopIteration") → E (.ref e) { s with heap := h' }) : wpAny (MM w) A (Builtin.SmallTypes.nextOf (.ref it)) Q E s := by
  obtain ⟨o, ho, hc, hd⟩ := id hit
  obtain ⟨ol, hol, _, nl, hdl⟩ := ht
  unfold Builtin.SmallTypes.nextOf
  refine wpAny_bind (wpAny_callSpecial?_slot (name := Str.ofString "__next__") hit.typeIs F.slot_tuple_iterator_next
    (wpAny_call_entry F.slot_tuple_iterator_next hit.typeIs F.entry_tuple_iterator_next ?_ (F.args_tuple_iterator_next_1 _)))
  show wpAny _ _ (field (.ref it) 0 >>= _) _ _ s
  refine wpAny_bind (wpAny_field ho hd (x := .ref t) rfl ?_)
  show wpAny _ _ (if (Value.ref t == Value.none) = true then _ else _) _ _ s
  rw [if_neg (show ¬ ((Value.ref t == Value.none) = true) from Bool.false_ne_true)]
  show wpAny _ _ (field (.ref it) 1 >>= _) _ _ s
  refine wpAny_bind (wpAny_field ho hd (x := .int i 0) rfl ?_)
  show wpAny _ _ (seqItems? (.ref t) >>= _) _ _ s
  refine wpAny_bind (wpAny_seqItems hol hdl ?_)
  simp only [Int.toNat_natCast, hx]
  refine wpAny_bind (wpAny_rule (wpAny_bind (wpAny_setField ho hd (by simp) ?_)))
  show wpAny _ _ (newExc (.type "StopIteration") [] >>= _) _ _ _
  refine wpAny_bind ?_
  simp only [newExc, newTuple]
  refine wpAny_bind (wpAny_newObj_type ?_ (by size_fits))
  refine wpAny_bind (m := firstArgMember _ _) (wpAny_of_eq (a := Value.none) (by first | rfl | (simp only [firstArgMember]; rfl)) ?_)
  refine wpAny_newObj_type ?_ (by size_fits)
  simp only [raiseNew]
  refine wpAny_bind (wpAny_handled ?_)
  first | rw [show A.in1.handled = none from hh] | rw [hh]
  refine wpAny_bind (wpAny_pure (wpAny_throw ?_))
  exact hE _ _ (((Heap.SameBut.update ..).extBut.push _).push _) ⟨_, Heap.get?_push_size _ rfl, rfl⟩
end
theorem draws_tuple {w : World} {A : Around} (hh : A.handled = none) (it l : Addr) (hne : l ≠ it) (items : Array Value) :
    Draws PG w A it [it, l] items.size (fun i v => items[i]? = some v) (fun i h => h.IsTupleIter it l i ∧ h.IsTuple l items) where
  live := fun _ _ st => let ⟨o, ho, _⟩ := st.1; ⟨o, ho⟩
  frame := fun _ _ _ st hk => ⟨st.1.at fun o e => hk it (by simp) o e, st.2.at fun o e => hk l (by simp) o e⟩
  item := fun i s Q E hi st hQ => by
    refine nextOf_tuple_item st.1 st.2 (x := items[i]) (by simp [hi]) fun h' hit' hs' => ?_
    exact hQ _ h' s.toks (by simp [hi]) ⟨hit', st.2.extBut hs'.extBut hne⟩ hs'
  done := fun s Q E st hE => nextOf_tuple_end hh st.1 st.2 (by simp) hE
theorem meets_enumT (l : Addr) (items : Array Value) (n : Nat) (dct : Option Addr) (sl : Array (Option Value)) :
    Meets (Builtin.«enumerate.__new__» ⟨[.type "enumerate", .ref l], []⟩) (fun _ R s => s.heap.get? l = some { cls := .type "tuple", dict := dct, data := .seq items n, slots := sl } ∧
      R (.ok (.ret (.ref (s.heap.push { cls := .type "tuple_iterator", data := .fields #[.ref l, .int 0 0] }).objs.size)))
        { s with heap := (s.heap.push { cls := .type "tuple_iterator", data := .fields #[.ref l, .int 0 0] }).push { cls := .type "enumerate", data := .fields #[.none, .bool false, .ref s.heap.objs.size, rawInt 0, .none, .none] } }) :=
  .of_wp fun prog w A R s h => by
    obtain ⟨hp, g, d, tk, os⟩ := s; obtain ⟨hl, h⟩ := h
    have hsub := sub_enumerate
    have hL : Heap.IsTuple (Shared.heap ⟨hp, g, d, tk, os⟩) l items := ⟨_, hl, rfl, n, rfl⟩
    wp_walk using wpAny_loadPart' hl
    refine wpAny_stack_any fun st => wpAny_pure ?_
    split
    · rename_i c _ _ _ _ _
      cases (c == Value.type "enumerate")
      · wp_walk using wpAny_loadPart' hl, wpAny_pyIter_tuple hL
        exact ⟨_, rfl, h⟩
      · wp_walk using wpAny_loadPart' hl, wpAny_pyIter_tuple hL
        exact ⟨_, rfl, h⟩
    · wp_walk using wpAny_loadPart' hl, wpAny_pyIter_tuple hL
      exact ⟨_, rfl, h⟩
theorem call_enumT {w : World} {A : Around} {E : Value → Shared → Prop} {s : Shared} {l : Addr} {items : Array Value} {Q : Value → Shared → Prop} (hL : s.heap.IsTuple l items)
    (h : ∀ h', IsEnum h' (s.heap.objs.size + 1) s.heap.objs.size 0 .none → h'.IsTupleIter s.heap.objs.size l 0 → h'.objs.size = s.heap.objs.size + 2 →
      (∀ b o, s.heap.get? b = some o → h'.get? b = some o) → Q (.ref (s.heap.objs.size + 1)) { s with heap := h' }) :
    wpAny (MM w) A (call (.type "enumerate") [.ref l]) Q E s := by
  obtain ⟨⟨c, dct, dt, sl⟩, hl, hc, n, hd⟩ := hL
  replace hc : c = .type "tuple" := hc
  replace hd : dt = .seq items n := hd
  subst hc hd
  refine callType_new F.called_enumerate (by decide) (F.typeCall_enumerate_1 _) (F.newCall_enumerate_1 _) (fun obj => F.args_object_init_2 obj _) F.entry_enumerate_new
    (meets_enumT l items n dct sl) ⟨hl, ?_⟩
  have hz : (s.heap.push { cls := .type "tuple_iterator", data := .fields #[.ref l, .int 0 0] }).objs.size = s.heap.objs.size + 1 := Heap.size_push ..
  show _ ∧ _
  rw [hz]
  have he : IsEnum ((s.heap.push { cls := .type "tuple_iterator", data := .fields #[.ref l, .int 0 0] }).push
      { cls := .type "enumerate", data := .fields #[.none, .bool false, .ref s.heap.objs.size, rawInt 0, .none, .none] }) (s.heap.objs.size + 1) s.heap.objs.size 0 .none := by
    have := Heap.get?_push_size (s.heap.push { cls := .type "tuple_iterator", data := .fields #[.ref l, .int 0 0] })
      (o := { cls := .type "enumerate", data := .fields #[.none, .bool false, .ref s.heap.objs.size, rawInt 0, .none, .none] }) rfl
    rw [hz] at this; exact this
  refine ⟨⟨_, he, rfl⟩, h _ he ⟨_, Heap.get?_push_of_some _ (Heap.get?_push_size _ rfl), rfl, rfl⟩ (by rw [Heap.size_push, hz]) fun b o x => Heap.get?_push_of_some _ (Heap.get?_push_of_some _ x)⟩
section
variable {w : World} {n : Nat} {h : Heap} {env : Env} {f : Str} {p pos : Pos} {e1 : Expr}
theorem Src2.enumT {T : Addr} {vs : List Value} {α : Type} {items : List α} {rel : α → Value → Prop} (lf : Lk w h env f (.type "enumerate")) (hv : Ev w n h env e1 (isV (.ref T))) (ht : h.IsTuple T vs.toArray) (ha : Paired rel items vs)
    (hs : starEach [e1] env = [(false, eval e1 env)] := by rfl) :
    Src2 w n h env (.Call (.Name f p) [e1] [] pos) [T] items.zipIdx (fun a u v => (∃ t, u = .int a.2 t) ∧ rel a.1 v) := by
  intro A s Q E ok k q
  refine Call_Name1 (lf A s _ E p k ?_) hs
  refine PyProof.Rows.callWith_type rfl (evalArgs_plain (spliced_cons (hv A s _ E ok k fun v h1 tk1 x1 p1 => spliced_nil ?_)))
  rw [p1]
  have ht1 := isTuple_ext ht (k.trans x1)
  refine call_enumT (s := { s with heap := h1, toks := tk1 }) ht1 fun h2 he hti hsz hk => ?_
  refine wpAny_pyIter_enum (s := { s with heap := h2, toks := tk1 }) he ?_
  have hlt : T < h1.objs.size := by obtain ⟨o, ho, _⟩ := ht1; exact Heap.lt_size ho
  have W := (WalksT.enumerateD (draws_tuple (w := w) (A := A.in1) ok.hd h1.objs.size T (Nat.ne_of_lt hlt) vs.toArray) (h1.objs.size + 1) (by refine neN ?_; omega) (by
    intro hm
    simp at hm
    have : h1.objs.size + 1 = T := hm
    exact absurd hlt (by rw [← this]; exact Nat.not_lt.mpr (Nat.le_succ _))) (by simp)).toU
  have hn : vs.toArray.size = items.zipIdx.length := by simp [ha.length]
  rw [hn] at W
  have fr : ∀ i : Nat, s.heap.get? (h1.objs.size + i) = none := fun i => x1.none (size_none (Nat.le_add_right _ _))
  refine q h2 tk1 _ _ _ _ _ _ (x1.trans hk) W ?_ ⟨⟨_, he⟩, hti, isTuple_ext ht1 hk⟩ ?_ ?_
  · rintro i vs' hi ⟨t, x, hx, rfl⟩
    obtain ⟨a, ha', hr⟩ := paired_at ha i x (by simpa using hx)
    exact ⟨(a, i), _, _, by simp [ha'], rfl, ⟨t, rfl⟩, hr⟩
  · intro b hb
    rcases List.mem_cons.mp hb with rfl | hb
    · exact ⟨by rw [hsz]; exact Nat.lt_succ_self _, .inl (fr 1)⟩
    rcases List.mem_cons.mp hb with rfl | hb
    · exact ⟨by rw [hsz]; exact Nat.lt_succ_of_lt (Nat.lt_succ_self _), .inl (fr 0)⟩
    · rw [List.mem_singleton.mp hb]
      exact ⟨by rw [hsz]; exact Nat.lt_succ_of_lt (Nat.lt_succ_of_lt hlt), .inr (List.mem_singleton.mpr rfl)⟩
  · intro b hb
    rcases List.mem_cons.mp hb with rfl | hb
    · exact fr 1
    · rw [List.mem_singleton.mp hb]; exact fr 0
theorem Src2.enumS {x : Str} (lf : Lk w h env f (.type "enumerate")) (hv : Ev w n h env e1 (isS x)) (hs : starEach [e1] env = [(false, eval e1 env)] := by rfl) :
    Src2 w n h env (.Call (.Name f p) [e1] [] pos) [] x.cps.toList.zipIdx (fun a u v => (∃ t, u = .int a.2 t) ∧ ∃ t, v = .str ⟨#[a.1]⟩ t) := by
  intro A s Q E ok k q
  refine Call_Name1 (lf A s _ E p k ?_) hs
  refine PyProof.Rows.callWith_type rfl (evalArgs_plain (spliced_cons (hv A s _ E ok k fun v h1 tk1 x1 p1 => spliced_nil ?_)))
  obtain ⟨t, rfl⟩ := p1
  refine call_enumerate_str (s := { s with heap := h1, toks := tk1 }) fun h2 he hti hsz hk => ?_
  refine wpAny_pyIter_enum (s := { s with heap := h2, toks := tk1 }) he ?_
  have W := (WalksT.enumerateD (draws_str (w := w) (A := A.in1) ok.hd h1.objs.size x t) (h1.objs.size + 1) (by refine neN ?_; omega) (by
    intro hm
    simp at hm
    done) (by simp)).toU
  have hn : x.cps.size = x.cps.toList.zipIdx.length := by simp
  rw [hn] at W
  have fr : ∀ i : Nat, s.heap.get? (h1.objs.size + i) = none := fun i => x1.none (size_none (Nat.le_add_right _ _))
  refine q h2 tk1 _ _ _ _ _ _ (x1.trans hk) W ?_ ⟨⟨_, he⟩, hti⟩ ?_ ?_
  · rintro i vs' hi ⟨t, y, ⟨c, u, hc, rfl⟩, rfl⟩
    exact ⟨(c, i), _, _, by simp [hc], rfl, ⟨t, rfl⟩, _, rfl⟩
  · intro b hb
    rcases List.mem_cons.mp hb with rfl | hb
    · exact ⟨by rw [hsz]; exact Nat.lt_succ_self _, .inl (fr 1)⟩
    · rw [List.mem_singleton.mp hb]
      exact ⟨by rw [hsz]; exact Nat.lt_succ_of_lt (Nat.lt_succ_self _), .inl (fr 0)⟩
  · intro b hb
    rcases List.mem_cons.mp hb with rfl | hb
    · exact fr 1
    · rw [List.mem_singleton.mp hb]; exact fr 0
end
end Mine
end

-- Z4
section
open PySem PySem.W PyProof.Rows PySem.Calls PySem.Spec
set_option maxRecDepth 100000
set_option maxHeartbeats 1000000
namespace Mine
section
variable {w : World} {n : Nat} {hb : Heap} {env : Env} {A : Around} {s : Shared} {Q : Flow → Shared → Prop} {E : Value → Shared → Prop} {pos p1 p2 tp : Pos} {kk : Nat} {rest body orelse : List Stmt} {x1 x2 : Str} {m : Str → Option Value}
/-- a loop with two names, a break and an else -/
theorem run_for2 {α : Type} {items : List α} {rel : α → Value → Value → Prop} {S : List Addr} {iter : Expr} (ok : Okk A n) (he : FnEnv env) (hx1 : env.kindOf x1 = some .local) (hx2 : env.kindOf x2 = some .local) (hn : s.heap.Ns env.locals m)
    (src : Src2 w n s.heap env iter S items rel) (k : Ext hb s.heap) (M : List Addr) (hM : ∀ a ∈ env.locals :: M, hb.get? a = none ∧ ∃ o, s.heap.get? a = some o) (hS : ∀ a ∈ S, a ∉ env.locals :: M) (hLM : env.locals ∉ M)
    (J : Nat → (Str → Option Value) → Heap → Prop) (B : (Str → Option Value) → Heap → Prop) (hJ : ∀ i m h h', J i m h → (∀ a ∈ M, ∀ o, h.get? a = some o → h'.get? a = some o) → J i m h') (h0 : J 0 m s.heap)
    (turn : ∀ i a u v m1 h1 tk1 (Q' : Flow → Shared → Prop) (E' : Value → Shared → Prop), items[i]? = some a → rel a u v → J i m1 h1 → h1.Ns env.locals (upd (upd m1 x1 u) x2 v) → Ext hb h1 → ExtB (env.locals :: M) s.heap h1 →
      (∀ h2 tk2 m2, ExtB (env.locals :: M) h1 h2 → h2.Ns env.locals m2 → J (i + 1) m2 h2 → Q' .next { s with heap := h2, toks := tk2 }) →
      (∀ h2 tk2 m2, ExtB (env.locals :: M) h1 h2 → h2.Ns env.locals m2 → B m2 h2 → Q' .brk { s with heap := h2, toks := tk2 }) → (∀ v s2, Q (.ret v) s2 → Q' (.ret v) s2) →
      wpAny (MM w) A (execs body env) Q' E' { s with heap := h1, toks := tk1 })
    (els : ∀ h1 tk m' (Q' : Flow → Shared → Prop) (E' : Value → Shared → Prop), ExtB (env.locals :: M) s.heap h1 → Ext hb h1 → h1.Ns env.locals m' → J items.length m' h1 → 
      (∀ h2 tk2 m2, ExtB (env.locals :: M) h1 h2 → h2.Ns env.locals m2 → B m2 h2 → Q' .next { s with heap := h2, toks := tk2 }) → wpAny (MM w) A (execs orelse env) Q' E' { s with heap := h1, toks := tk })
    (done : ∀ h' tk m', ExtB (env.locals :: M) s.heap h' → Ext hb h' → h'.Ns env.locals m' → B m' h' → wpAny (MM w) A (execs rest env) Q E { s with heap := h', toks := tk })
    (hs : ∀ x, foldedSetIterable iter env x = pure x := by intro _; rfl) :
    wpAny (MM w) A (execs (.For (.Tuple [.Name x1 p1, .Name x2 p2] kk tp) iter body orelse pos :: rest) env) Q E s := by
  refine wpAny_execs_cons (wpAny_For (src A s _ E ok (.refl _) fun h' tk I fp wr Pt St Md e W hp st hf hw => ?_) hs)
  have hLM' : ∀ a ∈ env.locals :: M, a ∉ fp := fun a ha hfp => by
    rcases (hf a hfp).2 with h1 | h1
    · obtain ⟨o, ho⟩ := (hM a ha).2; rw [ho] at h1; cases h1
    · exact hS a h1 ha
  have hwM : ∀ a ∈ env.locals :: M, a ∉ wr := fun a ha hwr => hLM' a ha (W.sub _ hwr)
  have hwS : ∀ b o, s.heap.get? b = some o → b ∉ wr := fun b o eb hbw => by rw [hw b hbw] at eb; cases eb
  refine codeAny_forLoop_any
    (FInv s St hb (env.locals :: M) env.locals J items.length) ?_ (items.length + 1)
    ⟨h', tk, m, 0, rfl, st, k.trans e, e.b, hn.keeps e, hJ 0 m _ _ h0 (fun a _ o eo => e a o eo), Nat.zero_le _, Nat.le_refl _⟩
  rintro kk' s' ⟨h1, tk1, m1, i, rfl, st1, k1, kb1, hn1, hj1, hi, hkk⟩
  obtain ⟨k0, rfl⟩ := fpos hkk hi
  by_cases hlt : i < items.length
  · refine W.item i _ _ _ hlt st1 fun T vals h2 tk2 hP hT hMd hk2 => ?_
    obtain ⟨a, u, v, ha, rfl, hr⟩ := hp i vals hlt hP
    refine W.go _ _ _ i T _ _ _ hMd fun h3 st3 hk3 => ?_
    have hT3 : h3.IsTuple T #[u, v] := by obtain ⟨o, ho, hd⟩ := hT; exact ⟨o, hk3 _ _ (W.apart _ _ _ hMd) ho, hd⟩
    have hn3 : h3.Ns env.locals m1 := hn1.at' fun o eo => hk3 _ o (hwM _ (List.mem_cons_self ..)) (hk2 _ o (hwM _ (List.mem_cons_self ..)) eo)
    have hj3 : J i m1 h3 := hJ i m1 _ _ hj1 fun a ha o eo => hk3 a o (hwM a (List.mem_cons_of_mem _ ha)) (hk2 a o (hwM a (List.mem_cons_of_mem _ ha)) eo)
    have kb3 : ExtB (env.locals :: M) s.heap h3 := fun b o hb' eo => hk3 b o (hwS b o eo) (hk2 b o (hwS b o eo) (kb1 b o hb' eo))
    refine assign2 (s := { s with heap := h3, toks := tk2 }) ok.hd hT3 hx1 hx2 he.kind hn3 fun h4 tk4 kb4 hn4 => ?_
    replace kb4 : ExtB [env.locals] h3 h4 := kb4
    have hj4 : J i m1 h4 := hJ i m1 _ _ hj3 fun a ha o eo => kb4 a o (fun e => hLM (List.mem_singleton.mp e ▸ ha)) eo
    have kb4' : ExtB (env.locals :: M) s.heap h4 := kb3.trans (kb4.mono fun a ha => by rw [List.mem_singleton.mp ha]; exact List.mem_cons_self ..)
    have st4 : St (i + 1) h4 := W.frame _ _ _ st3 fun b hbf o eo => kb4 b o (fun e => hLM' _ (List.mem_cons_self ..) (List.mem_singleton.mp e ▸ hbf)) eo
    have k4 : Ext hb h4 := kb4'.base k fun a ha => (hM a ha).1
    refine turn i a u v m1 h4 _ _ _ ha hr hj4 hn4 k4 kb4' (fun h5 tk5 m5 kb5 hn5 hj5 => ?_) (fun h5 tk5 m5 kb5 hn5 hj5 => ?_) fun v s2 hq => hq
    · refine ⟨k0, Nat.lt_succ_self _, h5, tk5, m5, i + 1, rfl, ?_, kb5.base k4 fun a ha => (hM a ha).1, kb4'.trans kb5, hn5, hj5, hlt, fstep hkk⟩
      exact W.frame _ _ _ st4 fun b hbf o eo => kb5 b o (fun hm => hLM' b hm hbf) eo
    · exact done h5 tk5 m5 (kb4'.trans kb5) (kb5.base k4 fun a ha => (hM a ha).1) hn5 hj5
  · have : i = items.length := fend hlt hi
    subst this
    refine W.done _ _ _ st1 fun h2 tk2 hk2 => ?_
    have kb2 : ExtB (env.locals :: M) s.heap h2 := fun b o hb' eo => hk2 b o (hwS b o eo) (kb1 b o hb' eo)
    have k2 := kb2.base k fun a ha => (hM a ha).1
    refine els h2 tk2 m1 _ _ kb2 k2 (hn1.at' fun o eo => hk2 _ o (hwM _ (List.mem_cons_self ..)) eo) (hJ _ m1 _ _ hj1 fun a ha o eo => hk2 a o (hwM a (List.mem_cons_of_mem _ ha)) eo) fun h5 tk5 m5 kb5 hn5 hj5 => ?_
    exact done h5 tk5 m5 (kb2.trans kb5) (kb5.base k2 fun a ha => (hM a ha).1) hn5 hj5
theorem run_break {pos : Pos} (q : Q .brk s) : wpAny (MM w) A (execs (.Break pos :: rest) env) Q E s := wpAny_execs_cons (wpAny_Break q)
end
end Mine
end

-- P2
section
open PySem
namespace Mine
/-- filemode's table: where a row of it lies, and its pairs with their places -/
noncomputable def tabs : List (Addr × List (Addr × Int × Nat)) :=
  [(120, [(113, 40960, 108), (114, 49152, 115), (115, 32768, 45), (116, 24576, 98), (117, 16384, 100), (118, 8192, 99), (119, 4096, 112)]),
   (122, [(121, 256, 114)]), (124, [(123, 128, 119)]), (128, [(125, 2112, 115), (126, 2048, 83), (127, 64, 120)]),
   (130, [(129, 32, 114)]), (132, [(131, 16, 119)]), (136, [(133, 1032, 115), (134, 1024, 83), (135, 8, 120)]),
   (138, [(137, 4, 114)]), (140, [(139, 2, 119)]), (144, [(141, 513, 116), (142, 512, 84), (143, 1, 120)])]
noncomputable def hitT (m : Int) (i : Nat) (p : Addr × Int × Nat) : Bool := if i == 0 then Builtin.bitAnd m 61440 == p.2.1 else Builtin.bitAnd m p.2.1 == p.2.1
noncomputable def signT (m : Int) (T : (Addr × List (Addr × Int × Nat)) × Nat) : Nat := match T.1.2.find? (hitT m T.2) with
  | some p => p.2.2
  | none => if T.2 == 0 then 63 else 45
noncomputable def fileF (m : Int) : List Nat := tabs.zipIdx.map (signT m)
theorem fileF_len (m : Int) : (fileF m).length = 10 := rfl
theorem join_ch (cs : List Nat) : Txt.join ⟨#[]⟩ (cs.map fun c => (⟨#[c]⟩ : Str)) = txt cs := by
  have e1 : Txt.join ⟨#[]⟩ (cs.map fun c => (⟨#[c]⟩ : Str)) = PySem.Str.join ⟨#[]⟩ (cs.map fun c => (⟨#[c]⟩ : Str)) := by
    have := PyProof.Rows.join_closes (sep := ⟨#[]⟩) (sep' := ⟨#[]⟩) (ys := cs.map fun c => (⟨#[c]⟩ : Str)) rfl
    exact eq_of_beq this
  rw [e1]
  have := PyProof.Rows.join_nil_signs (txt cs)
  have e2 : PyProof.Rows.signs (txt cs) = cs.map fun c => (⟨#[c]⟩ : Str) := by simp [PyProof.Rows.signs, txt]
  rw [e2] at this
  exact this
end Mine
end

-- N4
section
open PySem PySem.W PyProof.Rows PySem.Calls PySem.Spec
set_option maxRecDepth 100000
set_option maxHeartbeats 1000000
namespace Mine
theorem Ev.joinV {w : World} {n : Nat} {h : Heap} {env : Env} {e : Expr} {pos : Pos} {x : Str} {o : Expr} {apos : Pos} {pl : Sem Bool} {ss : List Str} {T : Addr} {vs : List Value} (hx : Ev w n h env o (isS x)) (hy : Ev w n h env e (isV (.ref T))) (hl : h.IsList T vs.toArray) (hi : StrsAre vs ss) (hz : (ss.map (·.length)).sum + ss.length * x.length ≤ 16777216)
    (hs : starEach [e] env = [(false, eval e env)] := by rfl)
    (he : eval (.Call (.Attribute o "join" apos) [e] [] pos) env = (do
      let ov ← eval o env
      standAt apos.atName
      let (f, first) ← holding [ov] (getMethod ov "join" pl)
      callWith pos f first (backTo pos (starEach [e] env)) []) := by rfl) : Ev w n h env (.Call (.Attribute o "join" apos) [e] [] pos) (isS (Txt.join x ss)) :=
  Ev.meth1 (T := "str") (id := "str.join") (pl := pl) (fun v a b p s k => by obtain ⟨t, rfl⟩ := p; exact ⟨typeIs_str _ _ _, fun _ e => by cases e⟩) F.plainAttrs_str F.slot_str_join F.type_str_join hx hy
    (fun u v a b c e1 e2 e3 p q => by obtain ⟨t, rfl⟩ := p; rw [q]; exact Cl.joinL (isList_ext hl ((e1.trans e2).trans e3)) hi hz) (anti_S _) hs he
theorem ifmt_cl {w : World} {h : Heap} {m : Int} {t : Tok} (G : Grd w h) : Cl w 2 h (.ref 112) [.int m t] (isI (Builtin.bitAnd m 61440)) := by
  refine Cl.code (n := 1) (binds := [(Str.ofString "mode", .int m t)]) G (by rfl) rfl rfl (by rfl) (by rfl) (by decide) (locs rfl) ?_
  intro A s h0 env Q E hv ok G0 e0 F q
  have he : FnEnv env := by obtain ⟨L, rfl⟩ := hv; exact .call rfl rfl rfl
  have kl : env.kindOf (Str.ofString "mode") = some .local := by obtain ⟨L, rfl⟩ := hv; rfl
  have ll : Lk w s.heap env (Str.ofString "mode") (.int m t) := .loc F.ns rfl he kl (by decide)
  exact run_ret (P := isI (Builtin.bitAnd m 61440)) ok (.refl _) (Ev.andI (Ev.nameI ll) .int) fun v h' tk e p => q v h' tk (Ext.trans F.keep e) p
theorem Ev.ifmt {w : World} {h : Heap} {env : Env} {f : Str} {e : Expr} {p pos : Pos} {m : Int} (G : Grd w h) (lf : Lk w h env f (.ref 112)) (hy : Ev w 2 h env e (isI m)) (hs : starEach [e] env = [(false, eval e env)] := by rfl) :
    Ev w 2 h env (.Call (.Name f p) [e] [] pos) (isI (Builtin.bitAnd m 61440)) :=
  Ev.callF lf (G.K _ _ (by rfl)) rfl (Evs.cons hy .nil hs) (fun vs a b e1 e2 p => by obtain ⟨v, r, b', rfl, _, _, ⟨t, rfl⟩, rfl⟩ := p; exact ifmt_cl (G.ext (e1.trans e2))) (anti_I _) hs
theorem tabs_in {w : World} {h : Heap} (G : Grd w h) : ∀ T ∈ tabs, h.IsTuple T.1 (T.2.map fun p => Value.ref p.1).toArray ∧ ∀ p ∈ T.2, ∃ t u, h.IsTuple p.1 #[.int p.2.1 t, .str (ch p.2.2) u] := by
  simp only [tabs, List.forall_mem_cons]
  refine ⟨⟨?_, ?_⟩, ⟨?_, ?_⟩, ⟨?_, ?_⟩, ⟨?_, ?_⟩, ⟨?_, ?_⟩, ⟨?_, ?_⟩, ⟨?_, ?_⟩, ⟨?_, ?_⟩, ⟨?_, ?_⟩, ⟨?_, ?_⟩, by simp⟩
  all_goals first
    | exact ⟨_, G.K _ _ (by rfl), rfl, _, rfl⟩
    | exact ⟨⟨_, _, _, G.K _ _ (by rfl), rfl, _, rfl⟩, ⟨_, _, _, G.K _ _ (by rfl), rfl, _, rfl⟩, ⟨_, _, _, G.K _ _ (by rfl), rfl, _, rfl⟩, ⟨_, _, _, G.K _ _ (by rfl), rfl, _, rfl⟩, ⟨_, _, _, G.K _ _ (by rfl), rfl, _, rfl⟩, ⟨_, _, _, G.K _ _ (by rfl), rfl, _, rfl⟩, ⟨_, _, _, G.K _ _ (by rfl), rfl, _, rfl⟩, fun x hx => nomatch hx⟩
    | exact ⟨⟨_, _, _, G.K _ _ (by rfl), rfl, _, rfl⟩, ⟨_, _, _, G.K _ _ (by rfl), rfl, _, rfl⟩, ⟨_, _, _, G.K _ _ (by rfl), rfl, _, rfl⟩, fun x hx => nomatch hx⟩
    | exact ⟨⟨_, _, _, G.K _ _ (by rfl), rfl, _, rfl⟩, fun x hx => nomatch hx⟩
theorem tabs_all {w : World} {h : Heap} (G : Grd w h) : h.IsTuple 145 (tabs.map fun T => Value.ref T.1).toArray := ⟨_, G.K _ _ (by rfl), rfl, _, rfl⟩
theorem take_succ_map {α β : Type} (f : α → β) (l : List α) (i : Nat) (a : α) (h : l[i]? = some a) : (l.map f).take (i + 1) = (l.map f).take i ++ [f a] := by
  rw [List.take_add_one, List.getElem?_map, h]; rfl
theorem paired_refs {α : Type} (f : α → Addr) (l : List α) : Paired (fun a v => v = Value.ref (f a)) l (l.map fun a => Value.ref (f a)) := by
  induction l with
  | nil => exact .nil
  | cons a l ih => exact .cons rfl ih
inductive JFile (H : Addr) (md : Int) (t : Tok) (i : Nat) (m : Str → Option Value) (h : Heap) : Prop
  | mk (a1 : m (Str.ofString "perm") = some (.ref H)) (a2 : m (Str.ofString "mode") = some (.int md t)) (kk : Nat) (vs : List Value) (b : h.get? H = some (W.listOf vs.toArray kk)) (c : Paired relC ((fileF md).take i) vs) : JFile H md t i m h
theorem filemode_cl {w : World} {h : Heap} {md : Int} {t : Tok} (G : Grd w h) : Cl w 4 h (.ref 152) [.int md t] (isS (txt (fileF md))) := by
  refine Cl.code (n := 3) (binds := [(Str.ofString "mode", .int md t)]) G (by rfl) rfl rfl (by rfl) (by rfl) (by decide) (locs rfl) ?_
  intro A s h0 env Q E hv ok G0 e0 F q
  have he : FnEnv env := by obtain ⟨L, rfl⟩ := hv; exact .call rfl rfl rfl
  have i1 : interactive env = false := by obtain ⟨L, rfl⟩ := hv; rfl
  have k1 : env.kindOf (Str.ofString "mode") = some .local := by obtain ⟨L, rfl⟩ := hv; rfl
  have k2 : env.kindOf (Str.ofString "perm") = some .local := by obtain ⟨L, rfl⟩ := hv; rfl
  have k3 : env.kindOf (Str.ofString "index") = some .local := by obtain ⟨L, rfl⟩ := hv; rfl
  have k4 : env.kindOf (Str.ofString "table") = some .local := by obtain ⟨L, rfl⟩ := hv; rfl
  have k5 : env.kindOf (Str.ofString "bit") = some .local := by obtain ⟨L, rfl⟩ := hv; rfl
  have k6 : env.kindOf (Str.ofString "char") = some .local := by obtain ⟨L, rfl⟩ := hv; rfl
  have k7 : env.kindOf (Str.ofString "enumerate") = some .globalImplicit := by obtain ⟨L, rfl⟩ := hv; rfl
  have k8 : env.kindOf (Str.ofString "_filemode_table") = some .globalImplicit := by obtain ⟨L, rfl⟩ := hv; rfl
  have k9 : env.kindOf (Str.ofString "S_IFMT") = some .globalImplicit := by obtain ⟨L, rfl⟩ := hv; rfl
  have kL : h0.get? env.locals = none := size_none F.above
  have hn := F.ns
  have F0 : Ext h0 s.heap := F.keep
  clear F hv
  -- perm = []
  refine run_assign ok he k2 hn Ev.nilO ?_
  rintro v h1 h2 tk2 x1 ⟨H, vs, rfl, hf, hl, rfl⟩ sb hn2
  have hHL : H ≠ env.locals := ns_ne hn hf
  have e2 : Ext h0 h2 := ((F0.trans x1).b (M := [env.locals])).trans (sameB sb (List.mem_singleton.mpr rfl)) |>.base (Ext.refl _) (fun a ha => by rw [List.mem_singleton.mp ha]; exact kL)
  have hl2 : h2.get? H = some (W.listOf #[] 0) := sb.extBut H _ hHL hl
  have G2 := G0.ext e2
  have hH0 : h0.get? H = none := F0.none hf
  have le : Lk w h2 env (Str.ofString "enumerate") (.type "enumerate") := .blt G2 he k7 (by rfl) (by rfl) (by decide) (by decide)
  have lt : Lk w h2 env (Str.ofString "_filemode_table") (.ref 145) := .glob G2 he k8 (by rfl) (by decide)
  have hMs : ∀ {h : Heap} {m : Str → Option Value} {vs : Array Value} {k : Nat}, h.Ns env.locals m → h.get? H = some (W.listOf vs k) → ∀ a ∈ env.locals :: [H], h0.get? a = none ∧ ∃ o, h.get? a = some o := by
    intro h m vs k hn hl a ha
    rcases List.mem_cons.mp ha with rfl | ha
    · obtain ⟨o, _, _, ho, _⟩ := hn
      exact ⟨kL, o, ho⟩
    · rw [List.mem_singleton.mp ha]
      exact ⟨hH0, _, hl⟩
  have notM : ∀ {a : Addr} {o : Obj}, h0.get? a = some o → a ∉ env.locals :: [H] := by
    intro a o ho hm
    rcases List.mem_cons.mp hm with rfl | hm
    · rw [kL] at ho; cases ho
    · rw [List.mem_singleton.mp hm, hH0] at ho; cases ho
  let JJ : Nat → (Str → Option Value) → Heap → Prop := JFile H md t
  have hJJ : ∀ i m h h', JJ i m h → (∀ a ∈ [H], ∀ o, h.get? a = some o → h'.get? a = some o) → JJ i m h' := by
    rintro i m h h' ⟨a1, a2, kk, vs, b, c⟩ hk
    exact ⟨a1, a2, kk, vs, hk H (List.mem_singleton.mpr rfl) _ b, c⟩
  have app : ∀ {h : Heap} {m : Str → Option Value} {i : Nat} {T : (Addr × List (Addr × Int × Nat)) × Nat} {tk : Nat} {e : Expr} {px apos pos : Pos} {rest : List Stmt} {Q : Flow → Shared → Prop} {E : Value → Shared → Prop} {pl : Sem Bool}
      (_ : starEach [e] env = [(false, eval e env)]) (_ : eval (.Call (.Attribute (.Name (Str.ofString "perm") px) (Str.ofString "append") apos) [e] [] pos) env = (do
      let ov ← eval (.Name (Str.ofString "perm") px) env
      standAt apos.atName
      let (f, first) ← holding [ov] (getMethod ov (Str.ofString "append") pl)
      callWith pos f first (backTo pos (starEach [e] env)) [])), 
      JJ i m h → h.Ns env.locals m → tabs.zipIdx[i]? = some T → Ev w 3 h env e (isS (ch (signT md T))) →
      (∀ h' tk', ExtB (env.locals :: [H]) h h' → h'.Ns env.locals m → JJ (i + 1) m h' → wpAny (MM w) A (execs rest env) Q E { s with heap := h', toks := tk' }) →
      wpAny (MM w) A (execs (.Expr (.Call (.Attribute (.Name (Str.ofString "perm") px) (Str.ofString "append") apos) [e] [] pos) pos :: rest) env) Q E { s with heap := h, toks := tk } := by
    intro h m i T tk e px apos pos rest Q E pl hs1 hs2 hj hn hT hev nx
    obtain ⟨a1, a2, kk, vs, b, c⟩ := hj
    have hi : i < 10 := by
      have := (List.getElem?_eq_some_iff.mp hT).1
      simpa [tabs] using this
    have hvl : vs.length ≤ 10 := by
      rw [← c.length, List.length_take]; omega
    have lp : Lk w h env (Str.ofString "perm") (.ref H) := .loc hn a1 he k2 (by decide)
    refine run_append (s := { s with heap := h, toks := tk }) ok lp b hev (by simp; omega) ?_ i1 hs1 hs2
    rintro v h3 h4 tk4 x3 ⟨u, rfl⟩ sb4 l4
    refine nx h4 tk4 (x3.b.trans (sameB sb4 (by simp))) (ns_same (hn.keeps x3) sb4 (Ne.symm hHL)) ⟨a1, a2, kk + 1, vs ++ [.str (ch (signT md T)) u], by rw [← List.push_toArray]; exact l4, ?_⟩
    rw [fileF, take_succ_map _ _ _ _ hT]
    exact paired_append c (.cons ⟨u, rfl⟩ .nil)
  have hT2 : h2.IsTuple 145 (tabs.map fun T => Value.ref T.1).toArray := tabs_all G2
  refine run_for2 (hb := h0) (s := { s with heap := h2, toks := tk2 }) ok he k3 k4 hn2 (Src2.enumT (items := tabs) le (Ev.name lt) hT2 (paired_refs _ _)) e2 [H] (hMs hn2 hl2) (fun a ha => ?_) (by simpa using Ne.symm hHL) JJ (JJ 10) hJJ ⟨upd_eq, upd_ne rfl, 0, [], hl2, .nil⟩ ?_ ?_ ?_
  · obtain ⟨o, ho, _⟩ := tabs_all G0
    rw [List.mem_singleton.mp ha]; exact notM ho
  · rintro i T u v m3 h3 tk3 Q' E' hT ⟨⟨ti, rfl⟩, rfl⟩ hj3 hn3 e3 kb3 qn _ _
    have hTm : T.1 ∈ tabs := by
      have := List.mem_of_getElem? hT
      exact (List.mem_zipIdx this).2.2 ▸ List.getElem_mem _
    have hTi : T.2 = i := by
      rw [List.getElem?_zipIdx] at hT
      cases hq : tabs[i]? with
      | none => rw [hq] at hT; cases hT
      | some x => rw [hq] at hT; cases hT; simp
    have hi : i < 10 := by
      have := (List.getElem?_eq_some_iff.mp hT).1
      simpa [tabs] using this
    have G3 := G0.ext e3
    have tb := tabs_in G3 T.1 hTm
    have tb0 := tabs_in G0 T.1 hTm
    obtain ⟨a1, a2, kk3, vs3, hl3, hp3⟩ := hj3
    have hj3' : JJ i (upd (upd m3 (Str.ofString "index") (.int T.2 ti)) (Str.ofString "table") (.ref T.1.1)) h3 := ⟨upd_ne (upd_ne a1), upd_ne (upd_ne a2), kk3, vs3, hl3, hp3⟩
    have ltb : Lk w h3 env (Str.ofString "table") (.ref T.1.1) := .loc hn3 upd_eq he k4 (by decide)
    refine run_for2 (hb := h0) (s := { s with heap := h3, toks := tk3 }) (rel := fun a u v => (∃ t, u = .int a.2.1 t) ∧ ∃ t, v = .str (ch a.2.2) t) ok he k5 k6 hn3
      (Src.pairs (Src.tuple (items := T.1.2) (Ev.name ltb) tb.1 (paired_refs _ _)) (T.1.2.map (·.1)) ?_) e3 [H] (hMs hn3 hl3) ?_ (by simpa using Ne.symm hHL)
      (fun j m h => JJ i m h ∧ m (Str.ofString "index") = some (.int T.2 ti) ∧ (T.1.2.take j).find? (hitT md T.2) = none) (JJ (i + 1)) ?_ ⟨hj3', upd_ne upd_eq, by simp⟩ ?_ ?_ ?_
    · rintro p v hp rfl
      obtain ⟨t', u', hq⟩ := tb.2 p hp
      exact ⟨_, _, _, rfl, List.mem_map.mpr ⟨p, hp, rfl⟩, hq, ⟨_, rfl⟩, _, rfl⟩
    · intro a ha
      rcases List.mem_append.mp ha with ha | ha
      · obtain ⟨o, ho, _⟩ := tb0.1
        rw [List.mem_singleton.mp ha]; exact notM ho
      · obtain ⟨p, hp, rfl⟩ := List.mem_map.mp ha
        obtain ⟨_, _, o, ho, _⟩ := tb0.2 p hp
        exact notM ho
    · rintro j m g g' ⟨b1, b2, b3⟩ hk
      exact ⟨hJJ _ _ _ _ b1 hk, b2, b3⟩
    · rintro j p u v m4 h4 tk4 Q4 E4 hp ⟨⟨tu, rfl⟩, tv, rfl⟩ ⟨⟨b1, b2, kk4, vs4, b3, b3'⟩, b4, b5⟩ hn4 e4 kb4 qn4 qb4 _
      have hj4 : JJ i (upd (upd m4 (Str.ofString "bit") (.int p.2.1 tu)) (Str.ofString "char") (.str (ch p.2.2) tv)) h4 := ⟨upd_ne (upd_ne b1), upd_ne (upd_ne b2), kk4, vs4, b3, b3'⟩
      have li : Lk w h4 env (Str.ofString "index") (.int T.2 ti) := .loc hn4 (upd_ne (upd_ne b4)) he k3 (by decide)
      have lb : Lk w h4 env (Str.ofString "bit") (.int p.2.1 tu) := .loc hn4 (upd_ne upd_eq) he k5 (by decide)
      have lc : Lk w h4 env (Str.ofString "char") (.str (ch p.2.2) tv) := .loc hn4 upd_eq he k6 (by decide)
      have lm : Lk w h4 env (Str.ofString "mode") (.int md t) := .loc hn4 (upd_ne (upd_ne b2)) he k1 (by decide)
      have G4 := G0.ext e4
      have lsf : Lk w h4 env (Str.ofString "S_IFMT") (.ref 112) := .glob G4 he k9 (by rfl) (by decide)
      have step : (T.1.2.take (j + 1)).find? (hitT md T.2) = if hitT md T.2 p then some p else none := by
        rw [List.take_add_one, hp, List.find?_append, b5]
        cases hh : hitT md T.2 p <;> simp [hh]
      have sgn : hitT md T.2 p = true → signT md T = p.2.2 := by
        intro hh
        have : T.1.2.find? (hitT md T.2) = some p := by
          rw [← List.take_append_drop (j + 1) T.1.2, List.find?_append, step, if_pos hh]; rfl
        unfold signT; rw [this]
      have neg : hitT md T.2 p = false → ∀ h5 tk5, Ext h4 h5 → Q4 .next { s with heap := h5, toks := tk5 } := by
        intro hh h5 tk5 x5
        refine qn4 h5 tk5 _ x5.b (hn4.keeps x5) ⟨hJJ _ _ _ _ hj4 (fun a _ o eo => x5 a o eo), upd_ne (upd_ne b4), ?_⟩
        rw [step, hh]; rfl
      have brk : ∀ h5 tk5, ExtB (env.locals :: [H]) h4 h5 → h5.Ns env.locals (upd (upd m4 (Str.ofString "bit") (.int p.2.1 tu)) (Str.ofString "char") (.str (ch p.2.2) tv)) → JJ (i + 1) (upd (upd m4 (Str.ofString "bit") (.int p.2.1 tu)) (Str.ofString "char") (.str (ch p.2.2) tv)) h5 → Q4 .brk { s with heap := h5, toks := tk5 } :=
        fun h5 tk5 kb5 hn5 hj5 => qb4 h5 tk5 _ kb5 hn5 hj5
      refine run_if (s := { s with heap := h4, toks := tk4 }) ok (Tr.eqI (Ev.nameI li) .int) ?_
      intro h5 tk5 x5
      have hj5 := hJJ _ _ _ _ hj4 (fun a _ o eo => x5 a o eo)
      have hn5 := hn4.keeps x5
      cases h0i : ((T.2 : Int) == 0) with
      | true =>
        have hT0 : T.2 = 0 := by have := eq_of_beq h0i; omega
        have hh : hitT md T.2 p = (Builtin.bitAnd md 61440 == p.2.1) := by unfold hitT; rw [hT0]; rfl
        refine run_if (s := { s with heap := h5, toks := tk5 }) ok (Tr.eqI ((Ev.ifmt (G4.ext x5) (lsf.ext x5) (Ev.nameI (lm.ext x5))).up (by decide)) (Ev.nameI (lb.ext x5))) ?_
        intro h6 tk6 x6
        rw [← hh]
        cases hc : hitT md T.2 p with
        | false => exact run_nil (run_nil (run_nil (neg hc h6 tk6 (x5.trans x6))))
        | true =>
          refine app (by rfl) (by rfl) (hJJ _ _ _ _ hj5 (fun a _ o eo => x6 a o eo)) (hn5.keeps x6) hT (by rw [sgn hc]; exact Ev.nameS ((lc.ext x5).ext x6)) ?_
          intro h7 tk7 kb7 hn7 hj7
          exact run_break (brk h7 tk7 ((x5.trans x6).b.trans kb7) hn7 hj7)
      | false =>
        have hT0 : (T.2 == 0) = false := by
          have : ¬ (T.2 : Int) = 0 := by simpa using h0i
          simp; omega
        have hh : hitT md T.2 p = (Builtin.bitAnd md p.2.1 == p.2.1) := by unfold hitT; rw [hT0]; rfl
        refine run_if (s := { s with heap := h5, toks := tk5 }) ok (Tr.eqI (Ev.andI (Ev.nameI (lm.ext x5)) (Ev.nameI (lb.ext x5))) (Ev.nameI (lb.ext x5))) ?_
        intro h6 tk6 x6
        rw [← hh]
        cases hc : hitT md T.2 p with
        | false => exact run_nil (run_nil (run_nil (neg hc h6 tk6 (x5.trans x6))))
        | true =>
          refine app (by rfl) (by rfl) (hJJ _ _ _ _ hj5 (fun a _ o eo => x6 a o eo)) (hn5.keeps x6) hT (by rw [sgn hc]; exact Ev.nameS ((lc.ext x5).ext x6)) ?_
          intro h7 tk7 kb7 hn7 hj7
          exact run_break (brk h7 tk7 ((x5.trans x6).b.trans kb7) hn7 hj7)
    · rintro h4 tk4 m4 Q4 E4 kb4 e4 hn4 ⟨hj4, b4, b5⟩ qn4
      have li : Lk w h4 env (Str.ofString "index") (.int T.2 ti) := .loc hn4 b4 he k3 (by decide)
      rw [List.take_length] at b5
      refine run_if (s := { s with heap := h4, toks := tk4 }) ok (Tr.eqI (Ev.nameI li) .int) ?_
      intro h5 tk5 x5
      have hj5 := hJJ _ _ _ _ hj4 (fun a _ o eo => x5 a o eo)
      have hn5 := hn4.keeps x5
      cases h0i : ((T.2 : Int) == 0) with
      | true =>
        have hT0 : T.2 = 0 := by have := eq_of_beq h0i; omega
        have sg : signT md T = 63 := by unfold signT; rw [b5, hT0]; rfl
        refine app (by rfl) (by rfl) hj5 hn5 hT (by rw [sg]; exact Ev.str) ?_
        intro h7 tk7 kb7 hn7 hj7
        exact run_nil (run_nil (qn4 h7 tk7 _ (x5.b.trans kb7) hn7 hj7))
      | false =>
        have hT0 : (T.2 == 0) = false := by
          have : ¬ (T.2 : Int) = 0 := by simpa using h0i
          simp; omega
        have sg : signT md T = 45 := by unfold signT; rw [b5, hT0]; rfl
        refine app (by rfl) (by rfl) hj5 hn5 hT (by rw [sg]; exact Ev.str) ?_
        intro h7 tk7 kb7 hn7 hj7
        exact run_nil (run_nil (qn4 h7 tk7 _ (x5.b.trans kb7) hn7 hj7))
    · intro h4 tk4 m4 kb4 e4 hn4 hj4
      exact run_nil (qn h4 tk4 m4 kb4 hn4 hj4)
  · rintro h3 tk3 m3 Q3 E3 kb3 e3 hn3 hj3 qn3
    exact run_nil (qn3 h3 tk3 m3 (ExtB.refl _ _) hn3 hj3)
  · rintro h3 tk3 m3 kb3 e3 hn3 ⟨a1, a2, kk, vs, hl3, hp⟩
    have lp : Lk w h3 env (Str.ofString "perm") (.ref H) := .loc hn3 a1 he k2 (by decide)
    have hp' : Paired relC (fileF md) vs := by rw [List.take_of_length_le (by rw [fileF_len]; decide)] at hp; exact hp
    refine run_ret (s := { s with heap := h3, toks := tk3 }) (P := isS (txt (fileF md))) ok (.refl _) ?_ fun v h' tk e p => q v h' tk (e3.trans e) p
    refine (Ev.joinV (ss := (fileF md).map ch) .str (Ev.name lp) ⟨_, hl3, rfl, _, rfl⟩ (strs_are (paired_map (F := relS) (f := ch) hp')) ?_).s (join_ch _)
    have e0 : (Str.ofString "").length = 0 := by decide
    rw [ch_lens, e0, fileF_len]
    omega
end Mine
end

-- Z5
section
open PySem PySem.W PyProof.Rows PySem.Calls PySem.Spec
set_option maxRecDepth 100000
set_option maxHeartbeats 1000000
namespace Mine
section
variable {w : World} {n : Nat} {hb : Heap} {env : Env} {A : Around} {s : Shared} {Q : Flow → Shared → Prop} {E : Value → Shared → Prop} {pos px : Pos} {rest body : List Stmt} {x : Str} {m : Str → Option Value}
/-- a loop over a text; the iterator's place is told to the invariant -/
theorem run_forS {y : Str} {iter : Expr} (ok : Okk A n) (he : FnEnv env) (hx : env.kindOf x = some .local) (hn : s.heap.Ns env.locals m)
    (hy : Ev w n s.heap env iter (isS y)) (k : Ext hb s.heap) (M : List Addr) (hM : ∀ a ∈ env.locals :: M, hb.get? a = none ∧ ∃ o, s.heap.get? a = some o)
    (J : Addr → Nat → (Str → Option Value) → Heap → Prop) (hJ : ∀ I i m h h', J I i m h → ExtB [env.locals, I] h h' → J I i m h') (h0 : ∀ I, s.heap.get? I = none → J I 0 m s.heap)
    (turn : ∀ I i a t m1 h1 tk1 (Q' : Flow → Shared → Prop) (E' : Value → Shared → Prop), y.cps[i]? = some a → s.heap.get? I = none → (∃ o, h1.get? I = some o) → J I i m1 h1 → h1.Ns env.locals (upd m1 x (.str (ch a) t)) → Ext hb h1 → ExtB (env.locals :: M) s.heap h1 →
      (∀ h2 tk2 m2, ExtB (env.locals :: M) h1 h2 → h2.Ns env.locals m2 → J I (i + 1) m2 h2 → Q' .next { s with heap := h2, toks := tk2 }) →
      wpAny (MM w) A (execs body env) Q' E' { s with heap := h1, toks := tk1 })
    (done : ∀ I h' tk m', ExtB (env.locals :: M) s.heap h' → Ext hb h' → h'.Ns env.locals m' → J I y.cps.size m' h' → wpAny (MM w) A (execs rest env) Q E { s with heap := h', toks := tk })
    (hs : ∀ x, foldedSetIterable iter env x = pure x := by intro _; rfl) :
    wpAny (MM w) A (execs (.For (.Name x px) iter body [] pos :: rest) env) Q E s := by
  refine wpAny_execs_cons (wpAny_For (hy A s _ E ok (.refl _) fun v h1 tk1 e1 p => ?_) hs)
  obtain ⟨t, rfl⟩ := p
  refine wpAny_pyIter_strU (s := { s with heap := h1, toks := tk1 }) ?_
  have hIn : s.heap.get? h1.objs.size = none := e1.none (next_none _)
  have e2 : Ext s.heap (h1.push { cls := .type (strIterType y), data := .fields #[.str y t, .int 0 0] }) := e1.trans (Ext.push _ _)
  have st0 : (h1.push { cls := .type (strIterType y), data := .fields #[.str y t, .int 0 0] }).IsStrIter h1.objs.size (strIterType y) y t 0 := ⟨_, Heap.get?_push_size _ rfl, rfl, rfl⟩
  have W : Walks PG w A h1.objs.size [h1.objs.size] [h1.objs.size] y.cps.size (SignAt y) (fun i h => h.IsStrIter h1.objs.size (strIterType y) y t i) := by
    cases ha : y.cps.all (· < 128) with
    | true => have : strIterType y = "str_ascii_iterator" := by simp [strIterType, ha]
              rw [this]; exact Walks.strAscii (prog := PG) (w := w) ok.hd h1.objs.size y t
    | false => have : strIterType y = "str_iterator" := by simp [strIterType, ha]
               rw [this]; exact Walks.strWide (prog := PG) (w := w) ok.hd h1.objs.size y t
  show codeAny _ _ (.forLoop _ (.ref h1.objs.size) _ _ _) _ _
  generalize (h1.push { cls := .type (strIterType y), data := .fields #[.str y t, .int 0 0] }) = h2 at *
  generalize h1.objs.size = I at *
  have hLI : env.locals ≠ I := fun e => by obtain ⟨o, _, _, ho, _⟩ := hn; rw [e, hIn] at ho; cases ho
  have hMI : ∀ a ∈ env.locals :: M, a ≠ I := fun a ha e => by obtain ⟨o, ho⟩ := (hM a ha).2; rw [e, hIn] at ho; cases ho
  have hold : ∀ b o, s.heap.get? b = some o → b ≠ I := fun b o eb e => by rw [e, hIn] at eb; cases eb
  refine codeAny_forLoop_any
    (FInv s (fun i h => h.IsStrIter I (strIterType y) y t i) hb (env.locals :: M) env.locals (J I) y.cps.size) ?_ (y.cps.size + 1)
    ⟨h2, tk1, m, 0, rfl, st0, k.trans e2, e2.b, hn.keeps e2, hJ _ _ _ _ _ (h0 I hIn) e2.b, Nat.zero_le _, Nat.le_refl _⟩
  rintro kk s' ⟨h3, tk3, m3, i, rfl, st3, k3, kb3, hn3, hj3, hi, hkk⟩
  obtain ⟨k0, rfl⟩ := fpos hkk hi
  by_cases hlt : i < y.cps.size
  · refine W.item i _ _ _ hlt st3 fun v h4 tk4 hP st4 hk4 => ?_
    obtain ⟨c, u, hc, rfl⟩ := hP
    have nI : ∀ {b : Addr}, b ≠ I → b ∉ [I] := fun h e => h (List.mem_singleton.mp e)
    have hn4 : h4.Ns env.locals m3 := hn3.at' fun o eo => hk4 _ o (nI hLI) eo
    have lg : ∀ (target : Expr) (v : Value) (Q' : Unit → Shared → Prop) (E' : Value → Shared → Prop), Q' () { s with heap := h4, toks := tk4 } → wpAny (MM w) A (letOwnedTupleGo target (.ref I) v) Q' E' { s with heap := h4, toks := tk4 } := fun target v Q' E' q' => by
      obtain ⟨o, a, b, c⟩ := st4
      refine letGo_other (s' := { s with heap := h4, toks := tk4 }) a b c ?_ q'
      unfold strIterType
      split <;> decide
    refine lg _ _ _ _ ?_
    refine wpAny_assign_Name (wpAny_storeName_local hx hn4 (fun h5 hn5 hs5 => ?_) (by rw [he.kind]; rfl))
    have kk5 : ExtB [env.locals, I] h3 h5 := fun b o hb' eo => hs5.extBut b o (fun e => hb' (by simp [e])) (hk4 b o (nI fun e => hb' (by simp [e])) eo)
    have kb5 : ExtB (env.locals :: M) s.heap h5 := fun b o hb' eo => hs5.extBut b o (fun e => hb' (e ▸ List.mem_cons_self ..)) (hk4 b o (nI (hold b o eo)) (kb3 b o hb' eo))
    have st5 : h5.IsStrIter I (strIterType y) y t (i + 1) := by obtain ⟨o, a, r⟩ := st4; exact ⟨o, hs5.extBut _ _ (Ne.symm hLI) a, r⟩
    have k5 : Ext hb h5 := kb5.base k fun a ha => (hM a ha).1
    refine turn I i c u m3 h5 _ _ _ hc hIn (by obtain ⟨o, a, _⟩ := st5; exact ⟨o, a⟩) (hJ _ _ _ _ _ hj3 kk5) hn5 k5 kb5 fun h6 tk6 m6 kb6 hn6 hj6 => ?_
    refine ⟨k0, Nat.lt_succ_self _, h6, tk6, m6, i + 1, rfl, ?_, kb6.base k5 fun a ha => (hM a ha).1, kb5.trans kb6, hn6, hj6, hlt, fstep hkk⟩
    obtain ⟨o, a, r⟩ := st5
    exact ⟨o, kb6 _ _ (fun e => hMI _ e rfl) a, r⟩
  · have : i = y.cps.size := fend hlt hi
    subst this
    refine W.done _ _ _ st3 fun h4 tk4 hk4 => wpAny_execs_nil ?_
    have nI : ∀ {b : Addr}, b ≠ I → b ∉ [I] := fun h e => h (List.mem_singleton.mp e)
    have kb4 : ExtB (env.locals :: M) s.heap h4 := fun b o hb' eo => hk4 b o (nI (hold b o eo)) (kb3 b o hb' eo)
    exact done I h4 tk4 m3 kb4 (kb4.base k fun a ha => (hM a ha).1) (hn3.at' fun o eo => hk4 _ o (nI hLI) eo) (hJ _ _ _ _ _ hj3 fun b o hb' eo => hk4 b o (nI fun e => hb' (by simp [e])) eo)
end
end Mine
end

-- A0
section
open PySem PySem.W PyProof.Rows PySem.Calls PySem.Spec
set_option maxRecDepth 100000
set_option maxHeartbeats 1000000
namespace Mine
variable {w : World}
theorem fa_push : findIn (KF w) (.ref 101) (Str.ofString "push") = some (some (.ref 45)) := by rfl
theorem fa_pop : findIn (KF w) (.ref 101) (Str.ofString "pop") = some (some (.ref 61)) := by rfl
theorem fa_pf : findIn (KF w) (.ref 101) (Str.ofString "pop_from") = some (some (.ref 53)) := by rfl
theorem fa_pc : findIn (KF w) (.ref 101) (Str.ofString "part_count") = some (some (.ref 98)) := by rfl
theorem fa_init : findIn (KF w) (.ref 101) (Str.ofString "__init__") = some (some (.ref 38)) := by rfl
theorem fa_app : findIn (KF w) (.ref 101) (Str.ofString "append") = some (some (.builtin "list.append")) := by with_unfolding_all rfl
theorem fa_ga : findIn (KF w) (.ref 101) (Str.ofString "__getattribute__") = some (some (.builtin "list.__getattribute__")) := by with_unfolding_all rfl
theorem fa_gt : findIn (KF w) (.ref 101) (Str.ofString "__getattr__") = some none := by with_unfolding_all rfl
theorem fa_sa : findIn (KF w) (.ref 101) (Str.ofString "__setattr__") = some (some (.builtin "object.__setattr__")) := by with_unfolding_all rfl
theorem fa_gi : findIn (KF w) (.ref 101) (Str.ofString "__getitem__") = some (some (.builtin "list.__getitem__")) := by with_unfolding_all rfl
theorem fa_si : findIn (KF w) (.ref 101) (Str.ofString "__setitem__") = some (some (.builtin "list.__setitem__")) := by with_unfolding_all rfl
theorem fa_sub : mroIn (KF w) 101 (.type "list") = some true := by rfl
theorem fa_is : findIn (KF w) (.ref 101) (Str.ofString "_initial_size") = some none := by with_unfolding_all rfl
theorem fa_call : specialIn (KF w) (.ref 101) (Str.ofString "__call__") = some (some (.builtin "type.__call__")) := by with_unfolding_all rfl
theorem fa_inst : instIn (KF w) (.ref 101) (.type "type") = some true := by with_unfolding_all rfl
end Mine
end

-- A1
section
open PySem PySem.W PyProof.Rows PySem.Calls PySem.Spec
set_option maxRecDepth 100000
set_option maxHeartbeats 1000000
namespace Mine
noncomputable abbrev accNew (dx : Addr) : Obj := { cls := .ref 101, dict := some dx, data := .seq #[] }
section
variable {w : World} {A : Around} {R : Result → Shared → Prop} {h : Heap} {g : Array GenState} {d : Drawn} {t : Nat} {os : OsState}
theorem acc_obj (X : (KF w).In h) : ∃ oc od cd sl, h.get? 101 = some ⟨oc, od, .cls cd, sl⟩ ∧ cd.abstract = false ∧ cd.hasDel = false ∧ cd.mro = [.ref 101, .type "list", .type "object"] ∧ (sl.toList[4]?).join = some (.builtin "list.__new__") :=
  ⟨_, _, _, _, X _ _ (by rfl), rfl, rfl, rfl, rfl⟩
theorem acc_made {M : Model} (X : (KF w).In h) : Looks M h (Bind.madeBy (.ref 101)) (some "list.__new__") := by
  obtain ⟨oc, od, cd, sl, hC, e1, e2, e3, e4⟩ := acc_obj X
  have hm : Looks M h (mroOf (.ref 101)) cd.mro := ((Looks.ld (part := none) hC).andThen .now).andThen .now
  intro A Q E s k q
  unfold Bind.madeBy
  refine wpAny_bind (hm A _ E s k ?_)
  rw [e3, List.forIn_cons]
  refine wpAny_bind (wpAny_bind (wpAny_bind (wpAny_bind (wpAny_loadPart (k _ _ hC) (wpAny_pure ?_)))))
  dsimp only
  rw [← Array.getElem?_toList, e4]
  exact wpAny_pure (wpAny_pure (wpAny_pure q))
theorem acc_base {M : Model} (X : (KF w).In h) : Looks M h (Bind.staticBase (.ref 101)) (.ref 101) := by
  obtain ⟨oc, od, cd, sl, hC, e1, e2, e3, e4⟩ := acc_obj X
  have hm : Looks M h (mroOf (.ref 101)) cd.mro := ((Looks.ld (part := none) hC).andThen .now).andThen .now
  have made := acc_made (M := M) X
  intro A Q E s k q
  unfold Bind.staticBase
  refine wpAny_bind (hm A _ E s k ?_)
  rw [e3, List.forIn_cons]
  exact wpAny_bind (wpAny_bind (wpAny_bind (made A _ E s k (wpAny_pure (wpAny_pure (wpAny_pure q))))))
theorem acc_sub {M : Model} (X : (KF w).In h) : Looks M h (isSubtype (.ref 101) (.type "list")) true := looks_mroIn X fa_sub
theorem acc_isType {M : Model} (X : (KF w).In h) : Looks M h (isType (.ref 101)) true := by
  obtain ⟨oc, od, cd, sl, hC, e1, e2, e3, e4⟩ := acc_obj X
  exact (Looks.ld hC).andThen .now
theorem acc_new_code (X : (KF w).In h) (hq : R (.ok (.ret (.ref (h.objs.size + 1)))) ⟨(h.push emptyDict).push (accNew h.objs.size), g, d, t, os⟩) :
    codeAny (MM w) A (.call (.builtin "list.__new__") ⟨[.ref 101], []⟩) R ⟨h, g, d, t, os⟩ := by
  refine codeAny_of_tree ?_
  show wpAny _ A.in1 (do checkBuiltinCall "list.__new__" ⟨[.ref 101], []⟩; again (.builtin "list.__new__" ⟨[.ref 101], []⟩)) _ _ _
  refine wpAny_bind ?_
  have hk : builtinKind "list.__new__" = some .builtinFn := by decide +kernel
  have hs : splitId "list.__new__" = some ("list", "__new__") := by decide +kernel
  simp only [checkBuiltinCall, hk, hs]
  have L1 := acc_isType (M := MM w) X
  have L2 := acc_sub (M := MM w) X
  have L3 := acc_base (M := MM w) X
  have L4 := acc_made (M := MM w) X
  repeat lk
  refine ⟨plainId_quiet F.plain_list_new _, codeAny_builtin_stack F.entry_list_new rfl fun p st => ?_⟩
  rw [Around.under_plainId F.plain_list_new _]
  have hown := owner_list_new
  simp only [hown]
  repeat lk
  obtain ⟨oc, od, cd, sl, hC, e1, e2, e3, e4⟩ := acc_obj X
  refine nd_load (Heap.get?_push_of_some _ (Heap.get?_push_of_some _ hC)) (nd_pure ?_)
  show wpAny _ _ (pure cd.hasDel) _ _ _
  rw [e2]
  repeat lk
  rw [Heap.size_push]
  exact hq
theorem acc_make (X : (KF w).In h)
    (hq : codeAny (MM w) (A.under (.builtin "type.__call__" ⟨[.ref 101], []⟩)) (.call (.ref 38) ⟨[.ref (h.objs.size + 1)], []⟩) (InitBack (h.objs.size + 1) R) ⟨(h.push emptyDict).push (accNew h.objs.size), g, d, t, os⟩) :
    codeAny (MM w) A (.call (.ref 101) ⟨[], []⟩) R ⟨h, g, d, t, os⟩ := by
  obtain ⟨oc, od, cd, sl, hC, e1, e2, e3, e4⟩ := acc_obj X
  have call := looks_specialIn (M := MM w) X fa_call
  have typ := looks_instIn (M := MM w) X fa_inst
  have L1 := acc_isType (M := MM w) X
  have L4 := acc_made (M := MM w) X
  refine codeAny_of_tree ?_
  show wpAny _ _ (callAny (.ref 101) _) _ _ _
  refine nd_load hC ?_
  show wpAny _ _ (callAny.viaDunder (.ref 101) _) _ _ _
  unfold callAny.viaDunder
  refine wpAny_bind (call.at ?_)
  dsimp only
  rw [tc_bind]
  refine wpAny_bind (wpAny_pure (wpAny_bind (wpAny_pure ?_)))
  refine wpAny_pure (a := Fin.again (.call (.builtin "type.__call__") ⟨[.ref 101], []⟩)) (And.intro rfl ?_)
  refine codeAny_call_builtin_at (Code.quiet_builtin _ (by decide +kernel)) entry_typeCall (check_slot tc_kind tc_split typ (tc_args _ _ _) ?_)
  unfold Builtin.«type.__call__»
  have hm : Looks (MM w) h (mroOf (.ref 101)) cd.mro := ((Looks.ld (part := none) hC).andThen .now).andThen .now
  rw [e3] at hm
  repeat (first | with_reducible refine wpAny_call ?_ | lk)
  refine acc_new_code X ?_
  have k : ∀ b o, h.get? b = some o → ((h.push emptyDict).push (accNew h.objs.size)).get? b = some o := fun b o e => Heap.get?_push_of_some _ (Heap.get?_push_of_some _ e)
  have hx : ((h.push emptyDict).push (accNew h.objs.size)).get? (h.objs.size + 1) = some (accNew h.objs.size) := by heap_get
  have t1 : Looks (MM w) ((h.push emptyDict).push (accNew h.objs.size)) (typeOf (.ref (h.objs.size + 1))) (.ref 101) := (Looks.ld hx).andThen .now
  have s1 : Looks (MM w) ((h.push emptyDict).push (accNew h.objs.size)) (isSubtype (.ref 101) (.ref 101)) true := (looks_mroIn X (by rfl)).keeps k
  have i1 := (looks_findIn (M := MM w) X fa_init).keeps k
  have b1 := (bind_fn (M := MM w) X (.ref (h.objs.size + 1)) (f := 38) (by rfl)).keeps k
  unfold isInstance callSpecial? specialOf
  repeat (first | with_reducible refine wpAny_call ?_ | lk)
  refine codeAny_mono hq fun r s' z => ?_
  rcases r with e | (v | _ | _ | _) <;> first | exact z | exact z.elim | skip
  obtain ⟨rfl, z⟩ := z
  exact wpAny_pure (wpAny_pure z)
end
end Mine
end

-- A2
section
open PySem PySem.W PyProof.Rows PySem.Calls PySem.Spec Builtin Builtin.ObjectAttr
set_option maxRecDepth 100000
set_option maxHeartbeats 1000000
namespace Mine
noncomputable abbrev accObj (dx : Addr) (vs : List Value) (k : Nat) : Obj := { cls := .ref 101, dict := some dx, data := .seq vs.toArray k }
section
variable {w : World} {A : Around} {E : Value → Shared → Prop} {s : Shared} {P dx : Addr} {vs : List Value} {k : Nat}
theorem acc_inst {od : Obj} (hP : s.heap.get? P = some (accObj dx vs k)) (hd : s.heap.get? dx = some od) : InstAt s.heap P (accObj dx vs k) 101 (some od) := ⟨hP, rfl, rfl, hd⟩
theorem canon_list_ga : Manifest.canonical "list.__getattribute__" = "object.__getattribute__" := by decide +kernel
theorem acc_method {od : Obj} {name : Str} {f tf : Value} {pl : Sem Bool} {Q : Value × List Value → Shared → Prop} (X : (KF w).In s.heap) (hP : s.heap.get? P = some (accObj dx vs k)) (hd : s.heap.get? dx = some od)
    (hf : findIn (KF w) (.ref 101) name = some (some f)) (ht : typeIn (KF w) f = some tf) (htf : (tf != .type "function" && tf != .type "method_descriptor" && tf != .type "wrapper_descriptor") = false) (hs : lookIn name od = some none) (h : Q (f, [.ref P]) s) :
    wpAny (MM w) A (getMethod (.ref P) name pl) Q E s := by
  have I := acc_inst hP hd
  unfold getMethod specialOf
  refine wpAny_bind (wpAny_bind (I.type.here ((looks_findIn X fa_ga).here ?_)))
  dsimp only
  rw [canon_list_ga, if_neg (by decide)]
  refine wpAny_bind (wpAny_bind (I.type.here ((looks_findIn X fa_gt).here ?_)))
  refine wpAny_bind (wpAny_bind (I.type.here ((looks_findIn X hf).here (wpAny_bind ((looks_typeIn X ht).here ?_)))))
  rw [if_neg (by rw [htf]; decide)]
  refine wpAny_bind (wpAny_loadPart I.at_ ?_)
  refine wpAny_bind (wpAny_bind (wpAny_loadPart hd ?_))
  rw [nsLook_of hs]
  exact wpAny_pure (wpAny_bind (wpAny_rule (wpAny_pure h)))
theorem refuse_list (self : Value) : refuseLoop self "__setattr__" [.type "list", .type "object"] = pure () := by kernel_rfl
theorem acc_setattr {name : Str} {v : Value} {Q : Unit → Shared → Prop} (X : (KF w).In s.heap) (hP : s.heap.get? P = some (accObj dx vs k)) (hd : s.heap.get? dx = some emptyDict) (hn : findIn (KF w) (.ref 101) name = some none)
    (h : ∀ h' od', Heap.SameBut dx s.heap h' → h'.get? dx = some od' → od' = Obj.putName name (PyData.keyHash w.params name) (.str name (s.toks + 1)) v emptyDict → Q () { s with heap := h', toks := s.toks + 2 }) :
    wpAny (MM w) A (setAttr (.ref P) name v) Q E s := by
  have I := acc_inst hP hd
  refine set_plain X I fa_sa ?_
  have SF := PySem.F.store_object
  obtain ⟨oc, odc, cd, sl, hC, e1, e2, e3, e4⟩ := acc_obj X
  have hm : Looks (MM w) s.heap (mroOf (.ref 101)) cd.mro := ((Looks.ld (part := none) hC).andThen .now).andThen .now
  rw [e3] at hm
  have sub : Looks (MM w) s.heap (isInstance (.ref P) (.type "object")) true := I.type.andThen (looks_mroIn X (by rfl))
  refine codeAny_call_builtin SF.slot.plain SF.entry (@check_slot (MM w) _ _ { s with toks := s.toks + 1 } "object.__setattr__" "object" "__setattr__" (.ref P) [.str name s.toks, v] [] _ SF.kind SF.split sub (SF.args (.ref P) (.str name s.toks) v) ?_)
  rw [osa_eq, refuse_eq]
  refine wpAny_bind (wpAny_bind (Looks.here I.type (wpAny_bind (Looks.here hm ?_))))
  rw [refuseLoop_ref, refuse_list]
  refine wpAny_pure (wpAny_bind (Looks.here I.type (wpAny_bind (Looks.here (looks_findIn X hn) (wpAny_bind ?_)))))
  refine wpAny_pure ?_
  dsimp only
  obtain ⟨cd', hc', hh'⟩ : ∃ cd, clsIn (KF w) 101 = some cd ∧ cd.hasDict = true := ⟨_, by rfl, rfl⟩
  refine wpAny_bind (wpAny_pure (wpAny_bind (wpAny_bind (wpAny_loadPart hP (wpAny_bind (Looks.here (looks_clsIn X hc') ?_))))))
  rw [hh']
  refine wpAny_pure (a := some dx) (wpAny_bind (wpAny_pure (wpAny_bind ?_)))
  unfold nsSet
  refine wpAny_bind (wpAny_bind (wpAny_askSetting (wpAny_pure (wpAny_bind (wpAny_mkText (wpAny_bind (wpAny_loadPart hd ?_)))))))
  refine wpAny_updatePart (s := { s with toks := s.toks + 2 }) hd ?_
  have e' : Obj.putName name (PyData.keyHash w.params name) (.str name (s.toks + 1)) v emptyDict = dictOf [⟨PyData.keyHash w.params name, .str name (s.toks + 1), v⟩] 1 := rfl
  have D' : (s.heap.update dx (Obj.putName name (PyData.keyHash w.params name) (.str name (s.toks + 1)) v)).get? dx = some (Obj.putName name (PyData.keyHash w.params name) (.str name (s.toks + 1)) v emptyDict) := Heap.get?_update_self _ hd rfl
  refine wpAny_bind (wpAny_lookBehind D' (by rw [e']; exact pastItsLine_dict (by rw [List.size_toArray, sizeLine_eq]; simp)) ?_)
  exact wpAny_pure (h _ _ (Heap.SameBut.update ..) D' rfl)
end
end Mine
end

-- A3
section
open PySem PySem.W PyProof.Rows PySem.Calls PySem.Spec Builtin Builtin.ObjectAttr
set_option maxRecDepth 100000
set_option maxHeartbeats 1000000
namespace Mine
noncomputable abbrev bmObj (ty id : String) (x : Addr) : Obj := { cls := .type ty, data := .fields #[.builtin id, .ref x] }
theorem slot_wget : Slot "wrapper_descriptor" "__get__" "wrapper_descriptor.__get__" := .of (owner := "wrapper_descriptor") (n := "__get__") (by rw [typeLookup_type, builtinLookup_eq_fast]; kernel_rfl) (by decide +kernel) (by decide +kernel) (by decide +kernel)
  (by first | exact .inl (by decide +kernel) | exact .inr (by decide +kernel)) (by rw [isSubtype_type]; kernel_rfl)
theorem slot_mget : Slot "method_descriptor" "__get__" "method_descriptor.__get__" := .of (owner := "method_descriptor") (n := "__get__") (by rw [typeLookup_type, builtinLookup_eq_fast]; kernel_rfl) (by decide +kernel) (by decide +kernel) (by decide +kernel)
  (by first | exact .inl (by decide +kernel) | exact .inr (by decide +kernel)) (by rw [isSubtype_type]; kernel_rfl)
theorem entry_wget : entryFor table "wrapper_descriptor.__get__" = some Builtin.«wrapper_descriptor.__get__» := entryFor_of_tree (by kernel_rfl)
theorem entry_mget : entryFor table "method_descriptor.__get__" = some Builtin.«method_descriptor.__get__» := entryFor_of_tree (by kernel_rfl)
theorem args_wget (a b c : Value) : argsOk "wrapper_descriptor.__get__" ⟨[a, b, c], []⟩ := by unfold argsOk; kernel_rfl
theorem args_mget (a b c : Value) : argsOk "method_descriptor.__get__" ⟨[a, b, c], []⟩ := by unfold argsOk; kernel_rfl
section
variable {w : World} {A : Around} {E : Value → Shared → Prop} {h : Heap} {g : Array GenState} {d : Drawn} {t : Nat} {os : OsState} {P dx : Addr} {vs : List Value} {k : Nat}
theorem acc_opaque {M : Model} (X : (KF w).In h) : Looks M h (opaqueClassAbove (.ref 101)) none := looks_opaque X (by rfl)
theorem wget_run {id : String} {ox : Obj} {Q : Value → Shared → Prop} (X : (KF w).In h) (hP : h.get? P = some ox) (hc : ox.cls = .ref 101) (hid : id = "list.__init__" ∨ id = "list.__len__")
    (hq : Q (.ref h.objs.size) ⟨h.push (bmObj "method-wrapper" id P), g, d, t, os⟩) : 
    wpAny (MM w) A (call (.builtin "wrapper_descriptor.__get__") [.builtin id, .ref P, .ref 101]) Q E ⟨h, g, d, t, os⟩ := by
  have hty : typeOf (.builtin id) = pure (.type "wrapper_descriptor") := by
    rcases hid with rfl | rfl <;> (show builtinType _ = _; rw [builtinType_eq_fast]; kernel_rfl)
  have hT : (⟨h, g, d, t, os⟩ : Shared).TypeIs (.builtin id) "wrapper_descriptor" := hty
  have t1 : Looks (MM w) h (typeOf (.ref P)) (.ref 101) := hc ▸ (Looks.ld hP).andThen .now
  have L2 := acc_sub (M := MM w) X
  refine wpAny_call_entry slot_wget hT entry_wget ?_ (args_wget _ _ _)
  unfold Builtin.«wrapper_descriptor.__get__»
  have hC : h.get? 101 = some _ := X _ _ (by rfl)
  rcases hid with rfl | rfl <;> (repeat lk) <;> exact ⟨_, rfl, hq⟩
theorem mget_run {ox : Obj} {Q : Value → Shared → Prop} (X : (KF w).In h) (hP : h.get? P = some ox) (hc : ox.cls = .ref 101)
    (hq : Q (.ref h.objs.size) ⟨h.push (bmObj "builtin_function_or_method" "list.pop" P), g, d, t, os⟩) : 
    wpAny (MM w) A (call (.builtin "method_descriptor.__get__") [.builtin "list.pop", .ref P, .ref 101]) Q E ⟨h, g, d, t, os⟩ := by
  have hty : typeOf (.builtin "list.pop") = pure (.type "method_descriptor") := by show builtinType _ = _; rw [builtinType_eq_fast]; kernel_rfl
  have hT : (⟨h, g, d, t, os⟩ : Shared).TypeIs (.builtin "list.pop") "method_descriptor" := hty
  have t1 : Looks (MM w) h (typeOf (.ref P)) (.ref 101) := hc ▸ (Looks.ld hP).andThen .now
  refine wpAny_call_entry slot_mget hT entry_mget ?_ (args_mget _ _ _)
  unfold Builtin.«method_descriptor.__get__»
  have hC : h.get? 101 = some _ := X _ _ (by rfl)
  repeat lk
  exact ⟨_, rfl, hq⟩
theorem super_get {so : Addr} {ox : Obj} {name : Str} {id ty gid bt : String} {pl : Sem Bool} {Q : Value × List Value → Shared → Prop} (X : (KF w).In h) (hP : h.get? P = some ox) (hc : ox.cls = .ref 101) (hso : h.get? so = some (ks_superObj 101 P 101))
    (hf : alongIn (KF w) name [.type "list", .type "object"] = some (some (.builtin id))) (hn : (name == ("__class__" : Str)) = false)
    (hty : typeOf (.builtin id) = pure (.type ty)) (hg : typeLookup (.type ty) (Str.ofString "__get__") = pure (some (.builtin gid))) (hPC : P ≠ 101)
    (run : ∀ {A : Around} {E : Value → Shared → Prop} {Q : Value → Shared → Prop} {t : Nat}, Q (.ref h.objs.size) ⟨h.push (bmObj bt id P), g, d, t, os⟩ → wpAny (MM w) A (call (.builtin gid) [.builtin id, .ref P, .ref 101]) Q E ⟨h, g, d, t, os⟩)
    (hq : Q (.ref h.objs.size, []) ⟨h.push (bmObj bt id P), g, d, t + 1, os⟩) :
    wpAny (MM w) A (getMethod (.ref so) name pl) Q E ⟨h, g, d, t, os⟩ := by
  have hlk := F.ks_slot_super_ga.lookup
  have hcan := F.ks_canon_super_ga
  have hT : ∀ t', (⟨h, g, d, t', os⟩ : Shared).TypeIs (.ref so) "super" := fun _ => ⟨_, hso, rfl⟩
  unfold getMethod
  refine wpAny_bind (wpAny_specialOf (hT _) hlk ?_)
  show wpAny _ _ (if (Manifest.canonical "super.__getattribute__" != "object.__getattribute__") = true then _ else _) _ _ _
  rw [if_pos hcan]
  unfold getAttr getAttrBy
  refine wpAny_bind (wpAny_bind (wpAny_mkText (wpAny_holding (wpAny_bind (wpAny_typeOf (hT _) (wpAny_bind (wpAny_of_eq hlk ?_)))))))
  show wpAny _ _ (getAttrByItsOwn (.ref so) (.str name t) (.type "super") (.builtin "super.__getattribute__") true false) _ _ _
  unfold getAttrByItsOwn hookBefore callGetattribute boundAndCalled
  refine wpAny_bind (wpAny_of_eq (show (if onTheHeap (.type "super") then typeLookup (.type "super") "__getattr__" else pure none) = pure none from rfl) ?_)
  refine wpAny_bind (wpAny_attempt (wpAny_holding ?_))
  show wpAny _ _ (bindSpecial (.builtin "super.__getattribute__") (.ref so) >>= _) _ _ _
  refine wpAny_bind (wpAny_of_eq (F.ks_slot_super_ga.bind _) ?_)
  refine wpAny_mono (Q := fun v s' => v = .ref h.objs.size ∧ s' = ⟨h.push (bmObj bt id P), g, d, t + 1, os⟩) (E := fun _ _ => False)
    (wpAny_call_entry F.ks_slot_super_ga (hT _) F.ks_entry_super_ga ?_ (F.ks_gaArgs_super _ _)) (fun v s' hv => ?_) fun _ _ z => z.elim
  · have hne : (Value.ref P == Value.ref 101) = false := by simp [hPC]
    have hno := acc_opaque (M := MM w) X
    obtain ⟨oc, odc, cd, sl, hC, e1, e2, e3, e4⟩ := acc_obj X
    have hm : Looks (MM w) h (mroOf (.ref 101)) cd.mro := ((Looks.ld (part := none) hC).andThen .now).andThen .now
    rw [e3] at hm
    have hl : (List.drop 1 (List.dropWhile (fun x => x != Value.ref 101) [Value.ref 101, .type "list", .type "object"])) = [.type "list", .type "object"] := rfl
    have hTf : Looks (MM w) h (typeOf (.builtin id)) (.type ty) := Looks.of_pure hty
    have hTg : Looks (MM w) h (typeLookup (.type ty) (Str.ofString "__get__")) (some (.builtin gid)) := Looks.of_pure hg
    have hdt : (ks_superObj 101 P 101).data = .fields #[.ref 101, .ref P, .ref 101] := rfl
    have f0 : (#[.ref 101, .ref P, .ref 101] : Array Value)[0]? = some (.ref 101) := rfl
    have f1 : (#[.ref 101, .ref P, .ref 101] : Array Value)[1]? = some (.ref P) := rfl
    have f2 : (#[.ref 101, .ref P, .ref 101] : Array Value)[2]? = some (.ref 101) := rfl
    unfold Builtin.«super.__getattribute__»
    repeat (first
      | (with_reducible refine wpAny_field hso hdt f0 ?_) | (with_reducible refine wpAny_field hso hdt f1 ?_) | (with_reducible refine wpAny_field hso hdt f2 ?_)
      | (with_reducible refine ks_wpAny_notOpaque hno ?_)
      | (with_reducible refine Looks.at hm ?_; rw [hl])
      | (refine ks_forIn_along X (fun _ _ => rfl) rfl ?_ hf)
      | (with_reducible refine Looks.at hTf ?_) | (with_reducible refine Looks.at hTg ?_)
      | (with_reducible refine run ?_)
      | (with_reducible refine ⟨_, rfl, ?_⟩)
      | (simp only [hn, hne, Bool.or_false, Bool.false_eq_true, if_false])
      | lk
      | wp_step
      | dsimp only)
    all_goals exact ⟨trivial, trivial⟩
  obtain ⟨rfl, rfl⟩ := hv
  exact wpAny_pure (wpAny_pure hq)
end
end Mine
end

-- A4
section
open PySem PySem.W PyProof.Rows PySem.Calls PySem.Spec Builtin Builtin.ObjectAttr
set_option maxRecDepth 100000
set_option maxHeartbeats 1000000
namespace Mine
section
variable {w : World} {A : Around} {E : Value → Shared → Prop} {s : Shared} {P dx : Addr} {vs : List Value} {k n : Nat}
/-- a function's entry, its body at its own code -/
theorem codeAt {R : Result → Shared → Prop} {f : Addr} {o : Obj} {fd : FuncData} {body : List Stmt} {args : List Value} {binds : List (Str × Value)} (G : Grd w s.heap) (ok : Okk A (n + 1)) (hk : (KF w).lookup f = some o) (hd : o.data = .func fd) (hb : fd.body = .stmts body)
    (hbind : ∀ S, peek (KF w) S (bindArgs fd ⟨args, []⟩) = some binds) (hcd : codeIn (KF w) fd.code fd.qualname = true) (hcell : ∀ x ∈ fd.scope.names, x.2 ≠ .cell) (hloc : ∀ x ∈ binds, fd.scope.names.lookup x.1 = some .local)
    (run : ∀ h0 env (E' : Value → Shared → Prop), env = callEnv fd s.heap.objs.size f → h0.Ns env.locals (fun x => binds.reverse.lookup x) → Ext s.heap h0 → Okk (A.deeper env) n →
      PySem.wpAt (MM w) (A.deeper env) (.func body env) (execs body env) (fun f s' => R (.ok (.ret (match f with | .ret v => v | _ => .none))) s') E' { s with heap := h0, toks := s.toks + binds.length })
    (hco : fd.scope.isCoroutine = false := by rfl) (hgen : fd.scope.isGenerator = false := by rfl) (hki : fd.scope.kind = .function := by rfl) :
    codeAny (MM w) A (.call (.ref f) ⟨args, []⟩) R s :=
  ks_codeAny_call_defAt (by have := ok.dp; omega) (G.K _ _ hk) hd G.nl (codeRec_of G.K hcd) hb (kp_binds G.K hbind) hcell hloc (fun h0 hns hx => run h0 _ _ rfl hns hx ok.deeper) hco hgen hki
theorem wpAt_name {c : Code} {env : Env} {x : Str} {v : Value} {pos : Pos} {Q : Value → Shared → Prop} (l : Lk w s.heap env x v) (q : Q v s) : PySem.wpAt (MM w) A c (eval (.Name x pos) env) Q E s := PySem.wpAt_of_wpAny (l A s Q E pos (.refl _) q)
/-- super() with a method of a list -/
theorem super_call {body : List Stmt} {env : Env} {f : Addr} {fd : FuncData} {o : Obj} {ar : Arg} {cda : Addr} {p0 p1 apos pos : Pos} {name : Str} {id ty gid bt : String} {pl : Sem Bool} {Q : Value → Shared → Prop} {ox : Obj}
    (G : Grd w s.heap) (hP : s.heap.get? P = some ox) (hc : ox.cls = .ref 101) (hnc : ∀ c, ox.data ≠ .cls c) (hPC : P ≠ 101)
    (hkk : (KF w).lookup f = some o) (hd : o.data = .func fd) (hfu : env.func = some f) (hp : (fd.params.posonlyargs ++ fd.params.args).head? = some ar) (he : FnEnv env) (hks : env.kindOf (Str.ofString "super") = some .globalImplicit) (hkc : env.kindOf (Str.ofString "__class__") = some .free)
    (hcl : env.cells.lookup (Str.ofString "__class__") = some 25) (hco : env.code = .ref cda) {oc : Obj} {vs : Array Value} {file : Str} {tf : Tok} (hcc : (KF w).lookup cda = some oc) (hoc : oc.data = .fields vs) (hvs : vs[2]? = some (.str file tf)) (hfile : ((PG.main.file : Str) == file) = true)
    {m : Str → Option Value} (hn : s.heap.Ns env.locals m) (hv : m ar.arg = some (.ref P)) (hka : env.kindOf ar.arg = some .local) (hat : (name == (Str.ofString "__class__")) = false)
    (hf : alongIn (KF w) name [.type "list", .type "object"] = some (some (.builtin id)))
    (hty : typeOf (.builtin id) = pure (.type ty)) (hg : typeLookup (.type ty) (Str.ofString "__get__") = pure (some (.builtin gid)))
    (hrun : ∀ {h : Heap} {A : Around} {E : Value → Shared → Prop} {Q : Value → Shared → Prop} {t : Nat}, (KF w).In h → h.get? P = some ox → Q (.ref h.objs.size) ⟨h.push (bmObj bt id P), s.gens, s.drawn, t, s.os⟩ → wpAny (MM w) A (call (.builtin gid) [.builtin id, .ref P, .ref 101]) Q E ⟨h, s.gens, s.drawn, t, s.os⟩)
    (next : ∀ h' q, Ext s.heap h' → h'.get? q = some (bmObj bt id P) → wpAny (MM w) A (callWith pos (.ref q) [] (backTo pos (starEach [] env)) []) Q E { s with heap := h', toks := s.toks + 1 })
    (hev : eval (.Call (.Attribute (.Call (.Name (Str.ofString "super") p0) [] [] p1) name apos) [] [] pos) env = (do
      let ov ← attributeBase (.Call (.Name (Str.ofString "super") p0) [] [] p1) name env (eval (.Call (.Name (Str.ofString "super") p0) [] [] p1) env)
      standAt apos.atName
      let (f, first) ← holding [ov] (getMethod ov name pl)
      callWith pos f first (backTo pos (starEach [] env)) []) := by rfl) :
    PySem.wpAt (MM w) A (.func body env) (eval (.Call (.Attribute (.Call (.Name (Str.ofString "super") p0) [] [] p1) name apos) [] [] pos) env) Q E s := by
  refine ks_wpAt_MethodCall (pl := pl) ?_ hev
  refine ks_wpAt_super_base hks hkc hat hfu (G.K _ _ hkk) hd hp hco (G.K _ _ hcc) hoc hvs hfile (by rfl) ?_
  obtain ⟨mg, mb, g, b, c⟩ := G.gb
  refine ks_loadName_global he.kind hks (loadGlobal_builtin (by rw [he.gl]; exact g) (mg_none_of G.K g (by rfl)) (by rw [he.bi]; exact b) ((c _ (by decide)).trans (by rfl)) ⟨rfl, ?_⟩)
  refine wpAny_loadName_free he.kind hkc hcl (v := .ref 101) ⟨_, G.K _ _ (by rfl), rfl⟩ ?_
  refine wpAny_loadName_local he.kind hka hn hv ?_
  obtain ⟨oc1, od1, cd1, sl1, hC, e1, e2, e3, e4⟩ := acc_obj G.K
  obtain ⟨hh, gg, dd, tt, os⟩ := s
  refine ks_wpAny_isType_cls hC rfl ⟨rfl, ?_⟩
  refine ks_wpAny_call_super hC rfl hP hc hnc (looks_mroIn G.K (by rfl)) (fun h' eo k => ?_)
  have X' : (KF w).In h' := fun a o e => k _ _ (G.K a o e)
  refine super_get X' (k _ _ hP) hc eo hf hat hty hg hPC (fun q => hrun X' (k _ _ hP) q) ?_
  exact next _ _ (Ext.trans k (Ext.push _ _)) (Heap.get?_push_size _ rfl)
end
end Mine
end

-- A5
section
open PySem PySem.W PyProof.Rows PySem.Calls PySem.Spec Builtin Builtin.ObjectAttr
set_option maxRecDepth 100000
set_option maxHeartbeats 1000000
namespace Mine
section
variable {w : World} {A : Around} {E : Value → Shared → Prop} {h : Heap} {g : Array GenState} {d : Drawn} {t : Nat} {os : OsState} {P dx : Addr} {vs : List Value} {k n : Nat}
theorem acc_type {M : Model} (hP : h.get? P = some (accObj dx vs k)) : Looks M h (typeOf (.ref P)) (.ref 101) := (Looks.ld hP).andThen .now
theorem acc_isList {M : Model} (X : (KF w).In h) (hP : h.get? P = some (accObj dx vs k)) : Looks M h (isInstance (.ref P) (.type "list")) true := (acc_type hP).andThen (acc_sub X)
theorem entry_ll : entryFor table "list.__len__" = some Builtin.«list.__len__» := entryFor_of_tree (by kernel_rfl)
theorem len_run {q : Addr} {env : Env} {pos : Pos} {Q : Value → Shared → Prop} (X : (KF w).In h) (hP : h.get? P = some (accObj dx vs k)) (hq : h.get? q = some (bmObj "method-wrapper" "list.__len__" P)) (hz : vs.length < 1000000)
    (q0 : ∀ t', Q (.int vs.length t') ⟨h, g, d, t + 1, os⟩) : wpAny (MM w) A (callWith pos (.ref q) [] (backTo pos (starEach [] env)) []) Q E ⟨h, g, d, t, os⟩ := by
  refine callWith_of (P := fun h' => h'.get? q = some (bmObj "method-wrapper" "list.__len__" P)) rfl (fun h' hq' => ⟨.machine, .inr (.inl rfl), (Looks.ld (part := none) hq').andThen .now⟩) (evalArgs_nil3 ⟨hq, ?_⟩)
  refine wpAny_call (codeAny_of_tree ?_)
  show wpAny _ _ (callAny (.ref q) _) _ _ _
  unfold callAny
  refine wpAny_bind (wpAny_load hq ?_)
  repeat lk
  refine ⟨plainId_quiet (by decide +kernel) _, codeAny_builtin entry_ll ?_⟩
  show wpAny _ _ (Builtin.«list.__len__» ⟨[.ref P], []⟩) _ _ _
  unfold Builtin.«list.__len__» slotArgs seqSize
  repeat lk
  have e : vs.toArray.size = vs.length := by simp
  rw [e]
  exact q0 _
theorem mapSeq_acc (f : Array Value → Array Value) : ∃ k', Obj.mapSeq f (accObj dx vs k) = accObj dx (f vs.toArray).toList k' := ⟨_, rfl⟩
theorem entry_li : entryFor table "list.__init__" = some Builtin.«list.__init__» := entryFor_of_tree (by kernel_rfl)
theorem init_run {q : Addr} {env : Env} {pos : Pos} {Q : Value → Shared → Prop} (X : (KF w).In h) (hP : h.get? P = some (accObj dx [] k)) (hq : h.get? q = some (bmObj "method-wrapper" "list.__init__" P))
    (q0 : ∀ h' k', Heap.SameBut P h h' → h'.get? P = some (accObj dx [] k') → Q .none ⟨h', g, d, t, os⟩) : wpAny (MM w) A (callWith pos (.ref q) [] (backTo pos (starEach [] env)) []) Q E ⟨h, g, d, t, os⟩ := by
  refine callWith_of (P := fun h' => h'.get? q = some (bmObj "method-wrapper" "list.__init__" P)) rfl (fun h' hq' => ⟨.machine, .inr (.inl rfl), (Looks.ld (part := none) hq').andThen .now⟩) (evalArgs_nil3 ⟨hq, ?_⟩)
  refine wpAny_call (codeAny_of_tree ?_)
  show wpAny _ _ (callAny (.ref q) _) _ _ _
  unfold callAny
  refine wpAny_bind (wpAny_load hq ?_)
  repeat lk
  refine ⟨plainId_quiet (by decide +kernel) _, codeAny_builtin entry_li ?_⟩
  show wpAny _ _ (Builtin.«list.__init__» ⟨[.ref P], []⟩) _ _ _
  unfold Builtin.«list.__init__» List.listItems List.listUpdate
  refine wpAny_bind (wpAny_bind (wpAny_seqItems hP rfl ?_))
  refine wpAny_pure (wpAny_bind (wpAny_updateSeq hP rfl ?_))
  refine wpAny_bind (wpAny_letGo ?_)
  obtain ⟨k', hk'⟩ := mapSeq_acc (dx := dx) (vs := []) (k := k) fun _ => #[]
  exact wpAny_pure (q0 _ k' (Heap.SameBut.update ..) ((Heap.get?_update_self _ hP rfl).trans (congrArg some hk')))
theorem entry_lp : entryFor table "list.pop" = some Builtin.«list.pop» := entryFor_of_tree (by kernel_rfl)
theorem pop_run {q : Addr} {env : Env} {pos : Pos} {Q : Value → Shared → Prop} {v : Value} (X : (KF w).In h) (hP : h.get? P = some (accObj dx (vs ++ [v]) k)) (hq : h.get? q = some (bmObj "builtin_function_or_method" "list.pop" P)) (hz : vs.length < 100000)
    (q0 : ∀ h' k', Heap.SameBut P h h' → h'.get? P = some (accObj dx vs k') → Q v ⟨h', g, d, t, os⟩) : wpAny (MM w) A (callWith pos (.ref q) [] (backTo pos (starEach [] env)) []) Q E ⟨h, g, d, t, os⟩ := by
  refine callWith_of (P := fun h' => h'.get? q = some (bmObj "builtin_function_or_method" "list.pop" P)) rfl (fun h' hq' => ⟨.machine, .inr (.inl rfl), (Looks.ld (part := none) hq').andThen .now⟩) (evalArgs_nil3 ⟨hq, ?_⟩)
  refine wpAny_call (codeAny_of_tree ?_)
  show wpAny _ _ (callAny (.ref q) _) _ _ _
  unfold callAny
  refine wpAny_bind (wpAny_load hq ?_)
  have t1 := acc_type (M := MM w) hP
  have hC : h.get? 101 = some _ := X _ _ (by rfl)
  repeat lk
  refine ⟨plainId_quiet (by decide +kernel) _, codeAny_builtin entry_lp ?_⟩
  show wpAny _ _ (Builtin.«list.pop» ⟨[.ref P], []⟩) _ _ _
  clear hC t1
  show wpAny _ _ (List.listItems (.ref P) >>= fun xs => _) _ _ _
  unfold List.listItems
  refine wpAny_bind (wpAny_bind (wpAny_seqItems hP rfl (wpAny_pure ?_)))
  have e1 : (vs ++ [v]).toArray.isEmpty = false := by simp
  have e2 : (seqIndex? (-1) (vs ++ [v]).toArray.size).bind (fun k => (vs ++ [v]).toArray[k]?.map (k, ·)) = some (vs.length, v) := by
    have : seqIndex? (-1) (vs ++ [v]).toArray.size = some vs.length := by
      unfold seqIndex?
      simp
      omega
    rw [this]
    simp
  have e3 : ((vs ++ [v]).toArray.eraseIdxIfInBounds vs.length).toList = vs := by simp [List.eraseIdx_append_of_length_le]
  show wpAny _ _ (if (vs ++ [v]).toArray.isEmpty = true then _ else _) _ _ _
  rw [e1, if_neg (by decide)]
  show wpAny _ _ (match (seqIndex? (-1) (vs ++ [v]).toArray.size).bind (fun k => (vs ++ [v]).toArray[k]?.map (k, ·)) with | some (k, x) => _ | none => _) _ _ _
  rw [e2]
  show wpAny _ _ (List.listUpdate (.ref P) (·.eraseIdxIfInBounds vs.length) >>= _) _ _ _
  refine wpAny_bind (wpAny_updateSeq hP rfl ?_ (by rw [sizeLine_eq]; simp; omega) (by rw [← Array.length_toList, e3, sizeLine_eq]; omega))
  obtain ⟨k', hk'⟩ := mapSeq_acc (dx := dx) (vs := vs ++ [v]) (k := k) (·.eraseIdxIfInBounds vs.length)
  rw [e3] at hk'
  exact wpAny_pure (q0 _ k' (Heap.SameBut.update ..) ((Heap.get?_update_self _ hP rfl).trans (congrArg some hk')))
end
end Mine
end

-- A6
section
open PySem PySem.W PyProof.Rows PySem.Calls PySem.Spec Builtin Builtin.ObjectAttr
set_option maxRecDepth 100000
set_option maxHeartbeats 1000000
namespace Mine
/-- the accumulator's own dictionary -/
noncomputable def DictOk (od : Obj) : Prop := ∃ hs t v, od = dictOf [⟨hs, .str (Str.ofString "_initial_size") t, v⟩] 1
inductive AccIn (h : Heap) (P dx : Addr) (vs : List Value) : Prop
  | mk (n1 : P ≠ 101) (n2 : P ≠ dx) (k : Nat) (od : Obj) (hP : h.get? P = some (accObj dx vs k)) (hd : h.get? dx = some od) (ho : DictOk od) : AccIn h P dx vs
theorem AccIn.ext {h h' : Heap} {P dx : Addr} {vs : List Value} (x : AccIn h P dx vs) (e : Ext h h') : AccIn h' P dx vs := let ⟨a, b, k, od, c, d, f⟩ := x; ⟨a, b, k, od, e _ _ c, e _ _ d, f⟩
theorem DictOk.none {od : Obj} (x : DictOk od) {name : Str} (hn : name ∈ [Str.ofString "push", Str.ofString "pop", Str.ofString "pop_from", Str.ofString "part_count", Str.ofString "append"]) : lookIn name od = some none := by
  obtain ⟨hs, t, v, rfl⟩ := x
  simp only [List.mem_cons, List.not_mem_nil, or_false] at hn
  rcases hn with rfl | rfl | rfl | rfl | rfl <;> rfl
theorem Okk.tc {A : Around} {n : Nat} {args : List Value} (x : Okk A (n + 1)) : Okk (A.under (.builtin "type.__call__" ⟨.ref 101 :: args, []⟩)) n := by
  obtain ⟨a, b, c⟩ := x
  refine ⟨a, ?_, ?_⟩
  · show A.depth + 1 + n < _; omega
  · show A.units + 1 + 100 * n < _; omega
theorem acc_new {w : World} {A : Around} {s : Shared} {Q : Value → Shared → Prop} {E : Value → Shared → Prop} (G : Grd w s.heap) (ok : Okk A 3)
    (q : ∀ P dx h' tk, Ext s.heap h' → s.heap.get? P = none → s.heap.get? dx = none → AccIn h' P dx [] → Q (.ref P) { s with heap := h', toks := tk }) : wpAny (MM w) A (call (.ref 101) []) Q E s := by
  obtain ⟨h, g, d, t, os⟩ := s
  refine wpAny_call (acc_make G.K ?_)
  have k1 : Ext h ((h.push emptyDict).push (accNew h.objs.size)) := (Ext.push _ _).trans (Ext.push _ _)
  have hx : ((h.push emptyDict).push (accNew h.objs.size)).get? (h.objs.size + 1) = some (accObj h.objs.size [] 0) := by heap_get
  have hdx : ((h.push emptyDict).push (accNew h.objs.size)).get? h.objs.size = some emptyDict := by heap_get
  have hPn : h.get? (h.objs.size + 1) = none := size_none (Nat.le_succ _)
  have hdn : h.get? h.objs.size = none := next_none _
  have hne : h.objs.size + 1 ≠ h.objs.size := by refine neN ?_; omega
  generalize ((h.push emptyDict).push (accNew h.objs.size)) = h1 at *
  generalize h.objs.size + 1 = P at *
  generalize h.objs.size = dx at *
  have G1 : Grd w h1 := G.ext k1
  have hPC : P ≠ 101 := by
    rintro rfl
    obtain ⟨oc, od, cd, sl, hC, _⟩ := acc_obj G.K
    rw [hPn] at hC; cases hC
  refine codeAt (s := ⟨h1, g, d, t, os⟩) (binds := [(Str.ofString "self", .ref P), (Str.ofString "initial_size", _)]) G1 (Okk.tc (n := 2) ok) (by rfl) rfl rfl (fun S => by rfl) (by rfl) (by decide) (locs rfl) ?_
  intro h0 env E' henv hn e0 ok'
  have he : FnEnv env := by rw [henv]; exact ⟨rfl, rfl, rfl⟩
  have ka : env.kindOf (Str.ofString "self") = some .local := by rw [henv]; rfl
  have kb : env.kindOf (Str.ofString "initial_size") = some .local := by rw [henv]; rfl
  have ks : env.kindOf (Str.ofString "super") = some .globalImplicit := by rw [henv]; rfl
  have kc : env.kindOf (Str.ofString "__class__") = some .free := by rw [henv]; rfl
  have hfu : env.func = some 38 := by rw [henv]; rfl
  have hcl : env.cells.lookup (Str.ofString "__class__") = some 25 := by rw [henv]; rfl
  have i1 : interactive env = false := by rw [henv]; rfl
  have hL : env.locals = h1.objs.size := by rw [henv]; rfl
  have hco : env.code = .ref 37 := by rw [henv]; rfl
  have G0 : Grd w h0 := G1.ext e0
  have la : Lk w h0 env (Str.ofString "self") (.ref P) := .loc hn (by rfl) he ka (by decide)
  have lb : Lk w h0 env (Str.ofString "initial_size") _ := .loc hn (by rfl) he kb (by decide)
  refine ks_wpAt_execs_cons (ks_wpAt_Assign_Attr (wpAt_name lb (la _ _ _ _ _ (.refl _) ?_)))
  refine acc_setattr (s := ⟨h0, g, d, t + 2, os⟩) G0.K (e0 _ _ hx) (e0 _ _ hdx) fa_is ?_
  intro h2 od2 sb2 hd2 hod
  have hL1 : h1.get? env.locals = none := by rw [hL]; exact next_none _
  have hdL : dx ≠ env.locals := fun e => by rw [e, hL1] at hdx; cases hdx
  have hPL : P ≠ env.locals := fun e => by rw [e, hL1] at hx; cases hx
  have hn2 := ns_same hn sb2 hdL.symm
  have e2 : Ext h h2 := ((k1.trans e0).b (M := [dx])).trans (sameB sb2 (List.mem_singleton.mpr rfl)) |>.base (Ext.refl _) (fun a ha => by rw [List.mem_singleton.mp ha]; exact hdn)
  have hP2 : h2.get? P = some (accObj dx [] 0) := sb2.extBut _ _ hne (e0 _ _ hx)
  have G2 : Grd w h2 := G.ext e2
  refine ks_wpAt_execs_cons (ks_wpAt_Expr_any ?_ i1 (by rfl))
  refine super_call (s := ⟨h2, g, d, t + 4, os⟩) (f := 38) (cda := 37) (id := "list.__init__") (ty := "wrapper_descriptor") (gid := "wrapper_descriptor.__get__") (bt := "method-wrapper") G2 hP2 rfl (fun c e => by cases e) hPC (by rfl) rfl hfu (by rfl) he ks kc hcl hco (by rfl) rfl (by rfl) (by rfl) hn2 (by rfl) ka (by decide)
    (by with_unfolding_all rfl) (by show builtinType _ = _; rw [builtinType_eq_fast]; kernel_rfl) slot_wget.lookup (fun X' hP' q => wget_run X' hP' rfl (.inl rfl) q) ?_
  intro h3 qb e3 hqb
  refine init_run (G2.ext e3).K (e3 _ _ hP2) hqb ?_
  intro h4 k4 sb4 hP4
  refine PySem.wpAt_of_wpAny (run_nil ⟨rfl, ?_⟩)
  refine q P dx h4 _ (((e2.trans e3).b (M := [P])).trans (sameB sb4 (List.mem_singleton.mpr rfl)) |>.base (Ext.refl _) (fun a ha => by rw [List.mem_singleton.mp ha]; exact hPn)) hPn hdn ⟨hPC, hne, k4, od2, hP4, sb4.extBut _ _ hne.symm (e3 _ _ hd2), ?_⟩
  exact ⟨_, _, _, hod⟩
end Mine
end

-- A7
section
open PySem PySem.W PyProof.Rows PySem.Calls PySem.Spec Builtin Builtin.ObjectAttr
set_option maxRecDepth 100000
set_option maxHeartbeats 1000000
namespace Mine
section
variable {w : World} {A : Around} {s : Shared} {Q : Value → Shared → Prop} {E : Value → Shared → Prop} {P dx : Addr} {vs : List Value}
theorem acc_count (G : Grd w s.heap) (ok : Okk A 2) (hA : AccIn s.heap P dx vs) (hz : vs.length < 100000) (q : ∀ t h' tk, Ext s.heap h' → Q (.int vs.length t) { s with heap := h', toks := tk }) : wpAny (MM w) A (call (.ref 98) [.ref P]) Q E s := by
  obtain ⟨hPC, hne, k, od, hP, hd, hod⟩ := hA
  refine wpAny_call (codeAt (n := 1) (binds := [(Str.ofString "self", .ref P)]) G ok (by rfl) rfl rfl (fun S => by rfl) (by rfl) (by decide) (locs rfl) ?_)
  intro h0 env E' henv hn e0 ok'
  have he : FnEnv env := by rw [henv]; exact ⟨rfl, rfl, rfl⟩
  have ka : env.kindOf (Str.ofString "self") = some .local := by rw [henv]; rfl
  have ks : env.kindOf (Str.ofString "super") = some .globalImplicit := by rw [henv]; rfl
  have kc : env.kindOf (Str.ofString "__class__") = some .free := by rw [henv]; rfl
  have hfu : env.func = some 98 := by rw [henv]; rfl
  have hcl : env.cells.lookup (Str.ofString "__class__") = some 25 := by rw [henv]; rfl
  have hco : env.code = .ref 97 := by rw [henv]; rfl
  have G0 : Grd w h0 := G.ext e0
  refine ks_wpAt_execs_cons (ks_wpAt_Return_some ?_)
  refine super_call (s := { s with heap := h0, toks := s.toks + 1 }) (f := 98) (cda := 97) (id := "list.__len__") (ty := "wrapper_descriptor") (gid := "wrapper_descriptor.__get__") (bt := "method-wrapper") G0 (e0 _ _ hP) rfl (fun c e => by cases e) hPC (by rfl) rfl hfu (by rfl) he ks kc hcl hco (by rfl) rfl (by rfl) (by rfl) hn (by rfl) ka (by decide)
    (by with_unfolding_all rfl) (by show builtinType _ = _; rw [builtinType_eq_fast]; kernel_rfl) slot_wget.lookup (fun X' hP' q => wget_run X' hP' rfl (.inr rfl) q) ?_
  intro h3 qb e3 hqb
  refine len_run (G0.ext e3).K (e3 _ _ (e0 _ _ hP)) hqb (by omega) fun t' => ?_
  exact q t' h3 _ (e0.trans e3)
/-- a method of the accumulator's own, without arguments -/
theorem acc_meth0 {env : Env} {x : Str} {px apos pos : Pos} {name : Str} {f : Addr} {pl : Sem Bool} (G : Grd w s.heap) (hA : AccIn s.heap P dx vs) (lx : Lk w s.heap env x (.ref P)) (hf : findIn (KF w) (.ref 101) name = some (some (.ref f))) (ht : typeIn (KF w) (.ref f) = some (.type "function"))
    (hn : name ∈ [Str.ofString "push", Str.ofString "pop", Str.ofString "pop_from", Str.ofString "part_count", Str.ofString "append"]) (hk : keepIn (KF w) (.ref f) = true) (h : wpAny (MM w) A (call (.ref f) [.ref P]) Q E s)
    (he : eval (.Call (.Attribute (.Name x px) name apos) [] [] pos) env = (do
      let ov ← eval (.Name x px) env
      standAt apos.atName
      let (f, first) ← holding [ov] (getMethod ov name pl)
      callWith pos f first (backTo pos (starEach [] env)) []) := by rfl) : wpAny (MM w) A (eval (.Call (.Attribute (.Name x px) name apos) [] [] pos) env) Q E s := by
  obtain ⟨hPC, hne, k, od, hP, hd, hod⟩ := hA
  refine MethodCall_ (pl := pl) (lx A s _ E px (.refl _) ?_) he
  refine acc_method G.K hP hd hf ht (by decide) (hod.none hn) ?_
  exact callWith_K0 G.K hk h
theorem acc_pop (G : Grd w s.heap) (ok : Okk A 4) (hA : AccIn s.heap P dx vs) (hz : vs.length < 100000)
    (q0 : vs = [] → ∀ T t1 t2 h' tk, Ext s.heap h' → h'.IsTuple T #[.str (Str.ofString "") t1, .str (Str.ofString "") t2] → Q (.ref T) { s with heap := h', toks := tk })
    (q1 : ∀ us v, vs = us ++ [v] → ∀ h' tk, ExtB [P] s.heap h' → AccIn h' P dx us → Q v { s with heap := h', toks := tk }) : wpAny (MM w) A (call (.ref 61) [.ref P]) Q E s := by
  have hA0 := hA
  obtain ⟨hPC, hne, k, od, hP, hd, hod⟩ := hA
  refine wpAny_call (codeAt (n := 3) (binds := [(Str.ofString "self", .ref P)]) G ok (by rfl) rfl rfl (fun S => by rfl) (by rfl) (by decide) (locs rfl) ?_)
  intro h0 env E' henv hn e0 ok'
  have he : FnEnv env := by rw [henv]; exact ⟨rfl, rfl, rfl⟩
  have ka : env.kindOf (Str.ofString "self") = some .local := by rw [henv]; rfl
  have ks : env.kindOf (Str.ofString "super") = some .globalImplicit := by rw [henv]; rfl
  have kc : env.kindOf (Str.ofString "__class__") = some .free := by rw [henv]; rfl
  have hfu : env.func = some 61 := by rw [henv]; rfl
  have hcl : env.cells.lookup (Str.ofString "__class__") = some 25 := by rw [henv]; rfl
  have hco : env.code = .ref 60 := by rw [henv]; rfl
  have G0 : Grd w h0 := G.ext e0
  have la : Lk w h0 env (Str.ofString "self") (.ref P) := .loc hn (by rfl) he ka (by decide)
  refine ks_wpAt_execs_cons (ks_wpAt_If (PySem.wpAt_of_wpAny ((Tr.eqI (w := w) (n := 3) (h := h0) (i := (vs.length : Int)) ?cnt .int) _ { s with heap := h0, toks := s.toks + 1 } _ _ ok' (.refl _) fun h1 tk1 e1 => ?nxt)))
  case cnt =>
    intro A s' Q E ok k q
    exact acc_meth0 (G0.ext k) ((hA0.ext e0).ext k) (la.ext k) fa_pc (by rfl) (by simp) (by rfl) (acc_count (G0.ext k) (ok.down (by decide)) ((hA0.ext e0).ext k) hz fun t h' tk e => q _ h' tk e ⟨t, rfl⟩)
  have G1 := G0.ext e1
  rcases List.eq_nil_or_concat vs with rfl | ⟨us, v, rfl⟩
  · show PySem.wpAt _ _ _ _ _ _ _
    refine PySem.wpAt_of_wpAny (wpAny_execs_cons (wpAny_Return_some (wpAny_Tuple ?_)))
    refine (Evs.cons (n := 3) (h := h1) .str (Evs.cons .str .nil)) _ { s with heap := h1, toks := tk1 } _ _ _ ok' (.refl _) fun vs' h2 tk2 e2 p => ?_
    obtain ⟨v1, r1, b1, rfl, _, _, ⟨t1, rfl⟩, v2, r2, b2, rfl, _, _, ⟨t2, rfl⟩, rfl⟩ := p
    refine ⟨by rw [sizeLine_eq]; simp, ?_⟩
    exact q0 rfl _ t1 t2 _ _ (((e0.trans e1).trans e2).trans (Ext.push _ _)) ⟨_, Heap.get?_push_size _ rfl, rfl, _, rfl⟩
  · have hb : ((((us ++ [v]).length : Nat) : Int) == 0) = false := by simp; omega
    rw [List.concat_eq_append] at *
    rw [hb]
    show PySem.wpAt _ _ _ (execs [] env) _ _ _
    refine PySem.wpAt_of_wpAny (run_nil ?_)
    refine ks_wpAt_execs_cons (ks_wpAt_Return_some ?_)
    have hP1 := e1 _ _ (e0 _ _ hP)
    refine super_call (s := { s with heap := h1, toks := tk1 }) (f := 61) (cda := 60) (id := "list.pop") (ty := "method_descriptor") (gid := "method_descriptor.__get__") (bt := "builtin_function_or_method") G1 hP1 rfl (fun c e => by cases e) hPC (by rfl) rfl hfu (by rfl) he ks kc hcl hco (by rfl) rfl (by rfl) (by rfl) (hn.keeps e1) (by rfl) ka (by decide)
      (by with_unfolding_all rfl) (by show builtinType _ = _; rw [builtinType_eq_fast]; kernel_rfl) slot_mget.lookup (fun X' hP' q => mget_run X' hP' rfl q) ?_
    intro h3 qb e3 hqb
    refine pop_run (G1.ext e3).K (e3 _ _ hP1) hqb (by simp at hz; omega) fun h4 k4 sb4 hP4 => ?_
    refine q1 us v rfl h4 _ ((((e0.trans e1).trans e3).b).trans (sameB sb4 (List.mem_singleton.mpr rfl))) ⟨hPC, hne, k4, od, hP4, sb4.extBut _ _ hne.symm (e3 _ _ (e1 _ _ (e0 _ _ hd))), hod⟩
theorem entry_la : entryFor table "list.append" = some Builtin.«list.append» := entryFor_of_tree (by kernel_rfl)
theorem acc_append {v : Value} (X : (KF w).In s.heap) (hA : AccIn s.heap P dx vs) (hz : vs.length < 100000)
    (q : ∀ h', Heap.SameBut P s.heap h' → AccIn h' P dx (vs ++ [v]) → Q .none { s with heap := h' }) : wpAny (MM w) A (call (.builtin "list.append") [.ref P, v]) Q E s := by
  obtain ⟨hPC, hne, k, od, hP, hd, hod⟩ := hA
  obtain ⟨h, g, d, t, os⟩ := s
  refine wpAny_call (codeAny_of_tree ?_)
  show wpAny _ _ (do checkBuiltinCall "list.append" ⟨[.ref P, v], []⟩; again (.builtin "list.append" ⟨[.ref P, v], []⟩)) _ _ _
  refine wpAny_bind ?_
  have hk : builtinKind "list.append" = some .method := by decide +kernel
  have hs : splitId "list.append" = some ("list", "append") := by decide +kernel
  simp only [checkBuiltinCall, hk, hs]
  have L1 := acc_isList (M := MM w) X hP
  have hC : h.get? 101 = some _ := X _ _ (by rfl)
  repeat lk
  refine ⟨plainId_quiet (by decide +kernel) _, codeAny_builtin entry_la ?_⟩
  show wpAny _ _ (List.listUpdate (.ref P) (·.push v) >>= fun _ => ret .none) _ _ _
  refine wpAny_bind (wpAny_updateSeq hP rfl ?_ (by rw [sizeLine_eq]; simp; omega) (by rw [sizeLine_eq]; simp; omega))
  obtain ⟨k', hk'⟩ := mapSeq_acc (dx := dx) (vs := vs) (k := k) (·.push v)
  have e3 : (vs.toArray.push v).toList = vs ++ [v] := by simp
  rw [e3] at hk'
  exact wpAny_pure (q _ (Heap.SameBut.update ..) ⟨hPC, hne, k', od, (Heap.get?_update_self _ hP rfl).trans (congrArg some hk'), (Heap.SameBut.update ..).extBut _ _ hne.symm hd, hod⟩)
theorem acc_push {x y : Value} (G : Grd w s.heap) (ok : Okk A 3) (hA : AccIn s.heap P dx vs) (hz : vs.length < 100000)
    (q : ∀ T h' tk, ExtB [P] s.heap h' → s.heap.get? T = none → h'.IsTuple T #[x, y] → AccIn h' P dx (vs ++ [.ref T]) → Q .none { s with heap := h', toks := tk }) : wpAny (MM w) A (call (.ref 45) [.ref P, x, y]) Q E s := by
  have hA0 := hA
  obtain ⟨hPC, hne, k, od, hP, hd, hod⟩ := hA
  refine wpAny_call (codeAt (n := 2) (binds := [(Str.ofString "self", .ref P), (Str.ofString "fws", x), (Str.ofString "string", y)]) G ok (by rfl) rfl rfl (fun S => by rfl) (by rfl) (by decide) (locs rfl) ?_)
  intro h0 env E' henv hn e0 ok'
  have he : FnEnv env := by rw [henv]; exact ⟨rfl, rfl, rfl⟩
  have i1 : interactive env = false := by rw [henv]; rfl
  have ka : env.kindOf (Str.ofString "self") = some .local := by rw [henv]; rfl
  have kb : env.kindOf (Str.ofString "fws") = some .local := by rw [henv]; rfl
  have kc : env.kindOf (Str.ofString "string") = some .local := by rw [henv]; rfl
  have G0 : Grd w h0 := G.ext e0
  have la : Lk w h0 env (Str.ofString "self") (.ref P) := .loc hn (by rfl) he ka (by decide)
  have lb : Lk w h0 env (Str.ofString "fws") x := .loc hn (by rfl) he kb (by decide)
  have lc : Lk w h0 env (Str.ofString "string") y := .loc hn (by rfl) he kc (by decide)
  refine PySem.wpAt_of_wpAny (wpAny_execs_cons (wpAny_Expr (MethodCall_ (la _ { s with heap := h0, toks := s.toks + 3 } _ _ _ (.refl _) ?_) (by rfl)) i1 (by rfl)))
  refine acc_method G0.K (e0 _ _ hP) (e0 _ _ hd) fa_app (tf := .type "method_descriptor") (by with_unfolding_all rfl) (by decide) (hod.none (by simp)) ?_
  dsimp only
  refine callWith_builtin rfl (evalArgs_plain (spliced_cons ?_))
  refine wpAny_Tuple (k := 0) ?_
  refine (Evs.cons (n := 2) (h := h0) (Ev.name lb) (Evs.cons (Ev.name lc) .nil)) _ { s with heap := h0, toks := s.toks + 3 } _ _ _ ok' (.refl _) fun vs' h2 tk2 e2 p => ?_
  obtain ⟨v1, r1, b1, rfl, _, _, hv1, v2, r2, b2, rfl, _, _, hv2, rfl⟩ := p
  have hv1' : x = v1 := hv1.symm
  have hv2' : y = v2 := hv2.symm
  subst hv1' hv2'
  refine ⟨by rw [sizeLine_eq]; simp, spliced_nil ?_⟩
  have e3 : Ext s.heap (h2.push { cls := .type "tuple", data := .seq [x, y].toArray }) := (e0.trans e2).trans (Ext.push _ _)
  refine acc_append (s := { s with heap := h2.push { cls := .type "tuple", data := .seq [x, y].toArray }, toks := tk2 }) (G.ext e3).K (hA0.ext e3) hz ?_
  intro h4 sb4 hA4
  have hTP : h2.objs.size ≠ P := fun e => by
    have := e2 _ _ (e0 _ _ hP)
    rw [← e, next_none] at this; cases this
  refine run_nil (q h2.objs.size h4 _ (e3.b.trans (sameB sb4 (List.mem_singleton.mpr rfl))) ((e0.trans e2).none (next_none _)) ?_ hA4)
  exact ⟨_, sb4.extBut _ _ hTP (Heap.get?_push_size _ rfl), rfl, _, rfl⟩
end
end Mine
end

-- A8
section
open PySem PySem.W PyProof.Rows PySem.Calls PySem.Spec Builtin Builtin.ObjectAttr
set_option maxRecDepth 100000
set_option maxHeartbeats 1000000
namespace Mine
theorem wpN {M : Model} {α : Type} {A : Around} {c : Prop} [Decidable c] {t e : Sem α} {Q : α → Shared → Prop} {E : Value → Shared → Prop} {s : Shared} (h : ¬c) (x : wpAny M A e Q E s) : wpAny M A (if c then t else e) Q E s := by rw [if_neg h]; exact x
theorem wpY {M : Model} {α : Type} {A : Around} {c : Prop} [Decidable c] {t e : Sem α} {Q : α → Shared → Prop} {E : Value → Shared → Prop} {s : Shared} (h : c) (x : wpAny M A t Q E s) : wpAny M A (if c then t else e) Q E s := by rw [if_pos h]; exact x
section
variable {w : World} {A : Around} {h : Heap} {g : Array GenState} {d : Drawn} {t : Nat} {os : OsState} {Q : Value → Shared → Prop} {E : Value → Shared → Prop} {P dx sl : Addr} {vs : List Value}
theorem acc_key {name : Str} {k : Value} (X : (KF w).In h) (hA : AccIn h P dx vs) (q : Q k ⟨h, g, d, t, os⟩) : wpAny (MM w) A (sequenceKey (.ref P) k name) Q E ⟨h, g, d, t, os⟩ := by
  obtain ⟨hPC, hne, kk, od, hP, hd, hod⟩ := hA
  have t1 := acc_type (M := MM w) hP
  have hC : h.get? 101 = some _ := X _ _ (by rfl)
  unfold sequenceKey
  repeat lk
  exact q
theorem acc_call {id n : String} {b : Builtin} {rest : List Value} (X : (KF w).In h) (hA : AccIn h P dx vs) (hk : builtinKind id = some .slot ∨ builtinKind id = some .method) (hs : splitId id = some ("list", n)) (ha : argsOk id ⟨.ref P :: rest, []⟩) (hq : plainId id = true) (hb : entryFor table id = some b)
    (hc : wpAny (MM w) A.in1 (b ⟨.ref P :: rest, []⟩) (fun fin s' => ∃ v, fin = .done (.ret v) ∧ Q v s') E ⟨h, g, d, t, os⟩) : wpAny (MM w) A (call (.builtin id) (.ref P :: rest)) Q E ⟨h, g, d, t, os⟩ := by
  obtain ⟨hPC, hne, kk, od, hP, hd, hod⟩ := hA
  have L1 := acc_isList (M := MM w) X hP
  refine wpAny_call (codeAny_call_builtin hq hb ?_)
  rcases hk with hk | hk <;>
  · simp only [checkBuiltinCall, hk, hs]
    refine wpAny_bind (L1.at ?_)
    simp only [Bool.not_true, Bool.false_eq_true, if_false]
    cases hsig : Manifest.signature? id with
    | none => exact wpAny_pure (wpAny_mono hc (fun fin s' h' => by obtain ⟨v, rfl, hv⟩ := h'; exact hv) fun _ _ e => e)
    | some sig =>
      simp only [argsOk, hsig] at ha
      have h2 : Bind.checkArgs id sig ⟨.ref P :: rest, []⟩ = pure () := ha
      show wpAny _ _ (Bind.checkArgs id sig ⟨.ref P :: rest, []⟩) _ _ _
      rw [h2]; exact wpAny_pure (wpAny_mono hc (fun fin s' h' => by obtain ⟨v, rfl, hv⟩ := h'; exact hv) fun _ _ e => e)
theorem acc_getslice {u : Tok} (X : (KF w).In h) (hA : AccIn h P dx vs) (hs : h.IsSliceOf sl (.int 0 u) .none .none) (hz : vs.length < 100000)
    (q : Q (.ref h.objs.size) ⟨h.push { cls := .type "list", data := .seq vs.toArray }, g, d, t, os⟩) : wpAny (MM w) A (getItem (.ref P) (.ref sl)) Q E ⟨h, g, d, t, os⟩ := by
  have hA0 := hA
  obtain ⟨hPC, hne, kk, od, hP, hd, hod⟩ := hA
  have hs0 := hs
  obtain ⟨os', hos, hcs, hds⟩ := hs
  have hTs : (⟨h, g, d, t, os⟩ : Shared).TypeIs (.ref sl) "slice" := ⟨os', hos, hcs⟩
  have t1 := acc_type (M := MM w) hP
  have f1 := looks_findIn (M := MM w) X fa_gi
  unfold getItem
  refine wpAny_holding (wpAny_bind (acc_key X hA0 (wpAny_bind ?_)))
  unfold callSpecial? specialOf
  refine wpAny_bind (wpAny_bind (t1.at (f1.at ?_)))
  dsimp only
  rw [slot_list_getitem.bind]
  refine wpAny_holding (wpAny_bind (wpAny_pure (wpAny_bind ?_)))
  refine acc_call (n := "__getitem__") X hA0 (by first | exact .inl (by decide +kernel) | exact .inr (by decide +kernel)) (by decide +kernel) (args_list_getitem _ _) (by decide +kernel) entry_list_getitem ?_
  show wpAny _ _ (Builtin.List.listSubscript? (.ref sl) >>= _) _ _ _
  refine wpAny_bind ?_
  unfold Builtin.List.listSubscript?
  refine wpAny_bind (wpAny_specialOf hTs slice_no_index ?_)
  simp only [Option.isNone_none, if_true]
  refine wpAny_pure ?_
  show wpAny _ _ (typeOf (.ref sl) >>= _) _ _ _
  refine wpAny_bind (wpAny_typeOf hTs ?_)
  first | refine wpN (by decide) ?_ | rw [if_neg (by decide)]
  rw [listSliceParts_eq]
  refine wpAny_bind (wpAny_bind (wpAny_field hos hds (x := .none) rfl (wpAny_bind (wpAny_listPart .none ?_))))
  first | refine wpN (by decide) ?_ | rw [if_neg (by decide)]
  refine wpAny_bind (wpAny_field hos hds (x := .int 0 u) rfl (wpAny_bind (wpAny_listPart (.int 0 u) ?_)))
  refine wpAny_bind (wpAny_field hos hds (x := .none) rfl (wpAny_bind (wpAny_listPart .none (wpAny_pure ?_))))
  refine wpAny_bind (m := Builtin.List.listItems (.ref P)) ?_
  unfold Builtin.List.listItems
  refine wpAny_bind (wpAny_seqItems hP rfl (wpAny_pure ?_))
  refine wpAny_bind (wpAny_of_eq (sliceIndices_raw (some 0) none none vs.toArray.size (by simp)) ?_)
  refine wpAny_bind (wpAny_newObj_type (wpAny_pure ⟨_, rfl, wpAny_pure ?_⟩) (Nat.le_trans (slicePick_size_le vs.toArray (some 0) none none) (by rw [sizeLine_eq]; simp; omega)))
  have e : slicePick vs.toArray (some 0) none none = vs.toArray := by
    have := slicePick_from vs.toArray 0 (by simp)
    simpa using this
  have e' : ((sliceRange (sliceBounds (some 0) none none vs.toArray.size).1 (sliceBounds (some 0) none none vs.toArray.size).2.1 (sliceBounds (some 0) none none vs.toArray.size).2.2).filterMap (vs.toArray[·]?)).toArray = vs.toArray := e
  rw [e']
  exact wpAny_pure q
theorem acc_setslice {u : Tok} {Z : Addr} {Q : Unit → Shared → Prop} (X : (KF w).In h) (hA : AccIn h P dx vs) (hs : h.IsSliceOf sl (.int 0 u) .none .none) (hZ : h.IsList Z #[]) (hPZ : P ≠ Z) (hz : vs.length < 100000)
    (q : ∀ h', Heap.SameBut P h h' → (∃ o, h'.get? P = some o) → Q () ⟨h', g, d, t, os⟩) : wpAny (MM w) A (setItem (.ref P) (.ref sl) (.ref Z)) Q E ⟨h, g, d, t, os⟩ := by
  have hA0 := hA
  obtain ⟨hPC, hne, kk, od, hP, hd, hod⟩ := hA
  obtain ⟨os', hos, hcs, hds⟩ := hs
  have hTs : (⟨h, g, d, t, os⟩ : Shared).TypeIs (.ref sl) "slice" := ⟨os', hos, hcs⟩
  have hTZ : (⟨h, g, d, t, os⟩ : Shared).TypeIs (.ref Z) "list" := hZ.typeIs
  obtain ⟨oZ, hoZ, hcZ, nZ, hdZ⟩ := hZ
  have t1 := acc_type (M := MM w) hP
  have f1 := looks_findIn (M := MM w) X fa_si
  unfold setItem
  refine wpAny_holding (wpAny_bind (acc_key X hA0 (wpAny_bind ?_)))
  unfold callSpecial? specialOf
  refine wpAny_bind (wpAny_bind (t1.at (f1.at ?_)))
  dsimp only
  rw [F.slot_list_setitem.bind]
  refine wpAny_holding (wpAny_bind (wpAny_pure (wpAny_bind ?_)))
  refine acc_call (n := "__setitem__") X hA0 (by first | exact .inl (by decide +kernel) | exact .inr (by decide +kernel)) (by decide +kernel) (F.args_list_setitem_3 _ _ _) (by decide +kernel) F.entry_list_setitem ?_
  show wpAny _ _ (Builtin.List.listSubscript? (.ref sl) >>= _) _ _ _
  refine wpAny_bind ?_
  unfold Builtin.List.listSubscript?
  refine wpAny_bind (wpAny_specialOf hTs slice_no_index ?_)
  simp only [Option.isNone_none, if_true]
  refine wpAny_pure ?_
  show wpAny _ _ (typeOf (.ref sl) >>= _) _ _ _
  refine wpAny_bind (wpAny_typeOf hTs ?_)
  first | refine wpN (by decide) ?_ | rw [if_neg (by decide)]
  rw [listSliceParts_eq]
  refine wpAny_bind (wpAny_bind (wpAny_field hos hds (x := .none) rfl (wpAny_bind (wpAny_listPart .none ?_))))
  first | refine wpN (by decide) ?_ | rw [if_neg (by decide)]
  refine wpAny_bind (wpAny_field hos hds (x := .int 0 u) rfl (wpAny_bind (wpAny_listPart (.int 0 u) ?_)))
  refine wpAny_bind (wpAny_field hos hds (x := .none) rfl (wpAny_bind (wpAny_listPart .none (wpAny_pure ?_))))
  dsimp only
  have hsr : List.listSameRef (.ref P) (.ref Z) = false := by
    show (P == Z) = false
    simp [hPZ]
  first | refine wpN (by rw [hsr]; decide) ?_ | rw [hsr, if_neg (by decide)]
  refine wpAny_bind (m := List.listAllItems (.ref Z) "must assign iterable to extended slice") ?_
  unfold List.listAllItems List.listItems
  refine wpAny_bind (wpAny_typeOf hTZ ?_)
  first | refine wpY (by decide) ?_ | rw [if_pos (by decide)]
  refine wpAny_bind (wpAny_seqItems hoZ hdZ (wpAny_pure ?_))
  refine wpAny_bind (wpAny_bind (wpAny_seqItems hP rfl (wpAny_pure ?_)))
  refine wpAny_bind (wpAny_of_eq (sliceIndices_raw (some 0) none none vs.toArray.size (by simp)) ?_)
  have hb : sliceBounds (some 0) none none vs.toArray.size = (0, (vs.length : Int), 1) := by
    simp [sliceBounds]
    omega
  rw [hb]
  dsimp only
  first | refine wpY (by decide) ?_ | rw [if_pos (by decide)]
  refine wpAny_bind (wpAny_rule ?_)
  have htl : List.listTooLong (vs.toArray.size + (#[] : Array Value).size) = false := by
    unfold List.listTooLong
    rw [sizeLine_eq]
    simp
    omega
  first | refine wpN (by rw [htl]; decide) ?_ | rw [htl, if_neg (by decide)]
  refine wpAny_bind (wpAny_updateSeq hP rfl ?_ (by rw [sizeLine_eq]; simp; omega) (by rw [sizeLine_eq]; simp))
  refine wpAny_bind (wpAny_letGo (wpAny_pure ⟨_, rfl, wpAny_pure ?_⟩))
  exact wpAny_pure (q _ (Heap.SameBut.update ..) ⟨_, Heap.get?_update_self _ hP rfl⟩)
end
section
variable {w : World} {A : Around} {s : Shared} {Q : Value → Shared → Prop} {E : Value → Shared → Prop} {P dx : Addr} {vs : List Value}
theorem acc_pop_from (G : Grd w s.heap) (ok : Okk A 3) (hA : AccIn s.heap P dx vs) (hz : vs.length < 100000)
    (q : ∀ T h' tk, ExtB [P] s.heap h' → (∃ o, h'.get? P = some o) → s.heap.get? T = none → h'.IsList T vs.toArray → Q (.ref T) { s with heap := h', toks := tk }) : wpAny (MM w) A (call (.ref 53) [.ref P]) Q E s := by
  have hA0 := hA
  obtain ⟨hPC, hne, k, od, hP, hd, hod⟩ := hA
  refine wpAny_call (codeAt (n := 2) (binds := [(Str.ofString "self", .ref P), (Str.ofString "i", _)]) G ok (by rfl) rfl rfl (fun S => by rfl) (by rfl) (by decide) (locs rfl) ?_)
  intro h0 env E' henv hn e0 ok'
  have he : FnEnv env := by rw [henv]; exact ⟨rfl, rfl, rfl⟩
  have ka : env.kindOf (Str.ofString "self") = some .local := by rw [henv]; rfl
  have kb : env.kindOf (Str.ofString "i") = some .local := by rw [henv]; rfl
  have kc : env.kindOf (Str.ofString "popped") = some .local := by rw [henv]; rfl
  have hL : env.locals = s.heap.objs.size := by rw [henv]; rfl
  have G0 : Grd w h0 := G.ext e0
  have la : Lk w h0 env (Str.ofString "self") (.ref P) := .loc hn (by rfl) he ka (by decide)
  have hi0 := hn
  generalize hmm : (fun x => List.lookup x [(Str.ofString "self", Value.ref P), (Str.ofString "i", _)].reverse) = mm at hn
  obtain ⟨u0, hu0⟩ : ∃ u0, mm (Str.ofString "i") = some (.int 0 u0) := ⟨_, by rw [← hmm]; rfl⟩
  have hs0 : mm (Str.ofString "self") = some (.ref P) := by rw [← hmm]; rfl
  clear hi0 hmm
  have lb : Lk w h0 env (Str.ofString "i") (.int 0 u0) := .loc hn hu0 he kb (by decide)
  refine PySem.wpAt_of_wpAny ?_
  refine run_assign (s := { s with heap := h0, toks := s.toks + 2 }) (P := isL fun us => us = vs) ok' he kc hn ?_ ?_
  · intro A s' Q E ok kx qx
    refine Subscript_ (la A s' _ E _ kx (wpAny_Slice ?_))
    refine wpAny_evalPart_some (lb A s' _ E _ kx (wpAny_evalPart_none (wpAny_evalPart_none ?_)))
    unfold subscriptTail getitemInPython specialOf
    obtain ⟨h, g, d, t, os⟩ := s'
    have kx' : Ext h0 h := kx
    have X1 : (KF w).In (h.push { cls := .type "slice", data := .fields #[.int 0 u0, .none, .none] }) := ((G0.ext kx').ext (Ext.push _ _)).K
    have A1 := (hA0.ext e0).ext (kx'.trans (Ext.push h { cls := .type "slice", data := .fields #[.int 0 u0, .none, .none] }))
    obtain ⟨_, _, k1, od1, hP1, _⟩ := id A1
    refine wpAny_bind (wpAny_bind (wpAny_bind (Looks.at (acc_type hP1) (Looks.at (looks_findIn X1 fa_gi) (wpAny_pure ?_)))))
    refine wpAny_bind ?_
    show wpAny _ _ (operate _ (getItem _ _)) _ _ _
    refine wpAny_operating (acc_getslice X1 A1 (Heap.IsSliceOf.new ..) hz ?_)
    refine wpAny_bind (wpAny_pure (wpAny_pure (qx _ _ _ ((Ext.push _ _).trans (Ext.push _ _)) ⟨_, vs, rfl, (Ext.push _ _).none (next_none _), ⟨_, Heap.get?_push_size _ rfl, rfl, _, rfl⟩, rfl⟩)))
  · rintro v h1 h2 tk2 x1 ⟨T, us, rfl, hT, hlT, rfl⟩ sb2 hn2
    have hL0 : s.heap.get? env.locals = none := by rw [hL]; exact next_none _
    have e2 : Ext s.heap h2 := ((e0.trans x1).b (M := [env.locals])).trans (sameB sb2 (List.mem_singleton.mpr rfl)) |>.base (Ext.refl _) (fun a ha => by rw [List.mem_singleton.mp ha]; exact hL0)
    have hTL : T ≠ env.locals := ns_ne hn hT
    have hTP : T ≠ P := fun e => by rw [e, e0 _ _ hP] at hT; cases hT
    have hl2 := isList_same hlT sb2 hTL
    have A2 := hA0.ext e2
    have G2 := G.ext e2
    have la2 : Lk w h2 env (Str.ofString "self") (.ref P) := .loc hn2 (upd_ne hs0) he ka (by decide)
    have lb2 : Lk w h2 env (Str.ofString "i") (.int 0 u0) := .loc hn2 (upd_ne hu0) he kb (by decide)
    refine wpAny_execs_cons (wpAny_Assign_Subscript ?_)
    refine (Ev.nilO (w := w) (n := 2) (h := h2)) _ { s with heap := h2, toks := tk2 } _ _ ok' (.refl _) fun v h3 tk3 e3 pz => ?_
    obtain ⟨Z, zs, rfl, hZn, hZ, rfl⟩ := pz
    refine la2 _ _ _ _ _ e3 (wpAny_Slice ?_)
    refine wpAny_evalPart_some (lb2 _ _ _ _ _ e3 (wpAny_evalPart_none (wpAny_evalPart_none ?_)))
    have e4 := e3.trans (Ext.push h3 { cls := .type "slice", data := .fields #[.int 0 u0, .none, .none] })
    have hPZ : P ≠ Z := fun e => by rw [← e, e2 _ _ hP] at hZn; cases hZn
    refine acc_setslice (G2.ext e4).K (A2.ext e4) (Heap.IsSliceOf.new ..) ⟨_, Ext.push _ _ _ _ hZ, rfl, _, rfl⟩ hPZ hz ?_
    intro h5 sb5 hP5
    have lp : Lk w h5 env (Str.ofString "popped") (.ref T) := .loc (ns_same (hn2.keeps e4) sb5 (fun e => by
      obtain ⟨o, _, _, ho, hd', _⟩ := hn2
      obtain ⟨_, _, k1, od1, hP1, _⟩ := A2
      rw [e, hP1] at ho; cases ho; cases hd')) upd_eq he kc (by decide)
    refine run_ret (s := { s with heap := h5, toks := _ }) (P := isV (.ref T)) ok' (.refl _) (Ev.name lp) fun v h6 tk6 e6 p => ?_
    have hv : v = .ref T := p
    subst hv
    refine q T h6 _ (((e2.trans e4).b.trans (sameB sb5 (List.mem_singleton.mpr rfl))).trans e6.b) (let ⟨o, ho⟩ := hP5; ⟨o, e6 _ _ ho⟩) (e0.none hT) (isList_ext (isList_same (isList_ext hl2 e4) sb5 hTP) e6)
end
end Mine
end

-- D1
section
open PySem PySem.W PyProof.Rows PySem.Calls PySem.Spec
set_option maxRecDepth 100000
set_option maxHeartbeats 1000000
namespace Mine
noncomputable def RD (h : Heap) (v : Value) (d : PyData) : Prop := ∃ as, Reads h v d as
noncomputable def RDs (h : Heap) (vs : List Value) (ds : List PyData) : Prop := ∃ as, ReadsAll h vs ds as
theorem RD.str {h : Heap} {x : Str} {t : Tok} : RD h (.str x t) (.str x) := ⟨_, .str x t⟩
theorem RD.int {h : Heap} {x : Int} {t : Tok} : RD h (.int x t) (.int x) := ⟨_, .int x t⟩
theorem RDs.nil {h : Heap} : RDs h [] [] := ⟨_, .nil⟩
theorem RDs.cons {h : Heap} {v : Value} {vs : List Value} {d : PyData} {ds : List PyData} (x : RD h v d) (y : RDs h vs ds) : RDs h (v :: vs) (d :: ds) := let ⟨_, a⟩ := x; let ⟨_, b⟩ := y; ⟨_, .cons a b⟩
theorem RD.list {h : Heap} {T : Addr} {vs : List Value} {ds : List PyData} (hl : h.IsList T vs.toArray) (y : RDs h vs ds) : RD h (.ref T) (.list ds) := by
  obtain ⟨o, ho, hc, n, hd⟩ := hl
  obtain ⟨as, b⟩ := y
  exact ⟨_, .list ho hc hd (by simpa using b)⟩
theorem RD.tuple {h : Heap} {T : Addr} {vs : List Value} {ds : List PyData} (hl : h.IsTuple T vs.toArray) (y : RDs h vs ds) : RD h (.ref T) (.tuple ds) := by
  obtain ⟨o, ho, hc, n, hd⟩ := hl
  obtain ⟨as, b⟩ := y
  exact ⟨_, .tuple ho hc hd (by simpa using b)⟩
theorem RDs.strs {h : Heap} {vs : List Value} {ss : List Str} (x : StrsAre vs ss) : RDs h vs (ss.map .str) := by
  induction x with
  | nil => exact .nil
  | cons y t _ ih => exact .cons .str ih
theorem RDs.ints {h : Heap} {vs : List Value} {ss : List Int} (x : IntsAre vs ss) : RDs h vs (ss.map .int) := by
  induction x with
  | nil => exact .nil
  | cons y t _ ih => exact .cons .int ih
section
variable {w : World} {n : Nat} {h : Heap} {a b : Value} {da db : PyData}
theorem RD.ext {h h' : Heap} {v : Value} {d : PyData} (x : RD h v d) (k : Ext h h') : RD h' v d := let ⟨_, a⟩ := x; ⟨_, PyProof.Rows.Reads.keeps k a⟩
theorem RDs.ext {h h' : Heap} {v : List Value} {d : List PyData} (x : RDs h v d) (k : Ext h h') : RDs h' v d := let ⟨_, a⟩ := x; ⟨_, PyProof.Rows.ReadsAll.keeps k a⟩
theorem Cmp.eqD (ra : RD h a da) (rb : RD h b db) (ha : da.canLay0 = true) (hb : db.canLay0 = true) (hd : da.depth ≤ 50) : Cmp w (n + 1) .Eq a b h (PyData.eqv da db) := by
  intro A s Q E ok k q
  obtain ⟨_, ra⟩ := ra.ext k
  obtain ⟨_, rb⟩ := rb.ext k
  exact SeqAt.compareEq_reads ra rb ha hb (by have := ok.un; have : min da.depth db.depth ≤ da.depth := Nat.min_le_left ..; omega) (q s.heap s.toks (.refl _))
theorem Cmp.neD (ra : RD h a da) (rb : RD h b db) (ha : da.canLay0 = true) (hb : db.canLay0 = true) (hd : da.depth ≤ 50) : Cmp w (n + 1) .NotEq a b h (!PyData.eqv da db) := by
  intro A s Q E ok k q
  obtain ⟨_, ra⟩ := ra.ext k
  obtain ⟨_, rb⟩ := rb.ext k
  exact SeqAt.rcNeAt_reads ra rb ha hb (by have := ok.un; have : min da.depth db.depth ≤ da.depth := Nat.min_le_left ..; omega) _ _ _ _ (q s.heap s.toks (.refl _))
end
end Mine
end

-- P3
section
open PySem
namespace Mine
/-- one right read as a bracket -/
noncomputable def stepF (ls : List Nat) (op : Bool) (z : List Nat × List Nat) (c : Nat) : List Nat × List Nat :=
  if ls.contains c == op then (z.1 ++ [c], z.2) else if z.1.isEmpty then (z.1, z.2 ++ [c]) else (z.1.dropLast, z.2)
noncomputable def pileF (ls : List Nat) (op : Bool) (i : Nat) : List Nat × List Nat := (abc.take i).foldl (stepF ls op) ([], [])
noncomputable def freeF (ls : List Nat) (op : Bool) : List Nat := (pileF ls op 9).2 ++ (pileF ls op 9).1
theorem pileF_succ (ls : List Nat) (op : Bool) (i : Nat) (c : Nat) (h : abc[i]? = some c) : pileF ls op (i + 1) = stepF ls op (pileF ls op i) c := by
  unfold pileF
  rw [List.take_add_one, h, List.foldl_append]
  rfl
theorem pileF_len (ls : List Nat) (op : Bool) : ∀ i, (pileF ls op i).1.length + (pileF ls op i).2.length ≤ i := by
  intro i
  induction i with
  | zero => simp [pileF]
  | succ i ih =>
    cases h : abc[i]? with
    | none =>
      have : pileF ls op (i + 1) = pileF ls op i := by unfold pileF; rw [List.take_add_one, h]; simp
      rw [this]; exact Nat.le_succ_of_le ih
    | some c =>
      rw [pileF_succ ls op i c h]
      unfold stepF
      split
      · show (_ ++ [c]).length + _ ≤ i + 1
        rw [List.length_append, Nat.add_right_comm]
        exact Nat.succ_le_succ ih
      · split
        · show _ + (_ ++ [c]).length ≤ i + 1
          rw [List.length_append]
          exact Nat.succ_le_succ ih
        · show (List.dropLast _).length + _ ≤ i + 1
          rw [List.length_dropLast]
          exact Nat.le_succ_of_le (Nat.le_trans (Nat.add_le_add_right (Nat.sub_le ..) _) ih)
theorem pileF_mem (ls : List Nat) (op : Bool) : ∀ i, ∀ c ∈ (pileF ls op i).1 ++ (pileF ls op i).2, c ∈ abc := by
  intro i
  induction i with
  | zero => simp [pileF]
  | succ i ih =>
    cases h : abc[i]? with
    | none =>
      have : pileF ls op (i + 1) = pileF ls op i := by unfold pileF; rw [List.take_add_one, h]; simp
      rw [this]; exact ih
    | some c =>
      rw [pileF_succ ls op i c h]
      have hc := List.mem_of_getElem? h
      intro d hd
      unfold stepF at hd
      split at hd
      · simp only [List.mem_append, List.mem_singleton] at hd
        rcases hd with (hd | rfl) | hd
        · exact ih d (List.mem_append.mpr (.inl hd))
        · exact hc
        · exact ih d (List.mem_append.mpr (.inr hd))
      · split at hd
        · simp only [List.mem_append, List.mem_singleton] at hd
          rcases hd with hd | hd | rfl
          · exact ih d (List.mem_append.mpr (.inl hd))
          · exact ih d (List.mem_append.mpr (.inr hd))
          · exact hc
        · simp only [List.mem_append] at hd
          rcases hd with hd | hd
          · exact ih d (List.mem_append.mpr (.inl (List.dropLast_subset _ hd)))
          · exact ih d (List.mem_append.mpr (.inr hd))
theorem txt_snoc (l : List Nat) (c : Nat) : txt l ++ (⟨#[c]⟩ : Str) = txt (l ++ [c]) := by
  apply Str.ext'
  show l.toArray ++ #[c] = (l ++ [c]).toArray
  simp
theorem txt_app (l l' : List Nat) : txt l ++ txt l' = txt (l ++ l') := by
  apply Str.ext'
  show l.toArray ++ l'.toArray = (l ++ l').toArray
  simp
theorem any_ch (ls : List Nat) (c : Nat) : (ls.map fun c => (⟨#[c]⟩ : Str)).any (· == ⟨#[c]⟩) = ls.contains c := by
  induction ls with
  | nil => rfl
  | cons a l ih =>
    rw [List.map_cons, List.any_cons, ih, List.contains_cons]
    congr 1
    rw [Bool.eq_iff_iff, beq_iff_eq, beq_iff_eq]
    constructor
    · intro h
      have := congrArg (fun x : Str => x.cps.toList) h
      simpa using this.symm
    · rintro rfl; rfl
end Mine
end

-- N5
section
open PySem PySem.W PyProof.Rows PySem.Calls PySem.Spec
set_option maxRecDepth 100000
set_option maxHeartbeats 1000000
namespace Mine
theorem walksU_of {w : World} {A : Around} {I : Addr} {fp wr : List Addr} {N : Nat} {P : Nat → Value → Prop} {St : Nat → Heap → Prop} {Pt : Nat → Array Value → Prop} (h : Heap) (R2 : List Addr) (W : Walks PG w A I fp wr N P St)
    (lg : ∀ (i : Nat) (v : Value) (target : Expr) (s' : Shared) (Q' : Unit → Shared → Prop) (E' : Value → Shared → Prop), St i s'.heap → Q' () s' → wpAny (MM w) A (letOwnedTupleGo target (.ref I) v) Q' E' s')
    (old : ∀ b ∈ R2, b ∉ wr) (key : ∀ i v, P i v → ∃ b vals, v = .ref b ∧ b ∈ R2 ∧ h.IsTuple b vals ∧ Pt i vals) :
    WalksU PG w A I (fp ++ R2) wr N Pt (fun i h1 => St i h1 ∧ ∀ b ∈ R2, ∀ o, h.get? b = some o → h1.get? b = some o) (fun i T h1 => St (i + 1) h1 ∧ (∀ b ∈ R2, ∀ o, h.get? b = some o → h1.get? b = some o) ∧ T ∉ wr) where
  sub := fun b hb => List.mem_append.mpr (.inl (W.sub b hb))
  frame := fun i h1 h2 st hk => ⟨W.frame i h1 h2 st.1 fun b hb o eo => hk b (List.mem_append.mpr (.inl hb)) o eo, fun b hb o eo => hk b (List.mem_append.mpr (.inr hb)) o (st.2 b hb o eo)⟩
  item := fun i s Q E hi st hQ => by
    refine W.item i s Q E hi st.1 fun v h2 tk2 hP st2 hk => ?_
    obtain ⟨b, vals, rfl, hb, ht, hpt⟩ := key i v hP
    have tup : ∀ b ∈ R2, ∀ o, h.get? b = some o → h2.get? b = some o := fun c hc o eo => hk c o (old c hc) (st.2 c hc o eo)
    obtain ⟨o, ho, hd⟩ := ht
    exact hQ b vals h2 tk2 hpt ⟨o, tup b hb o ho, hd⟩ ⟨st2, tup, old b hb⟩ hk
  go := fun elts kk pos i T s Q E hm hQ => lg (i + 1) _ _ s Q E hm.1 (hQ s.heap ⟨hm.1, hm.2.1⟩ fun _ _ _ e => e)
  apart := fun i T h1 hm => hm.2.2
  done := fun s Q E st hQ => W.done s Q E st.1 hQ
  self := fun i s Q E st hQ => W.self i s Q E st.1 hQ
theorem Ev.letters {w : World} {h : Heap} {env : Env} {f : Str} {e : Expr} {p pos : Pos} {r : List Nat} {n : Nat} (G : Grd w h) (hr : RowS r) (lf : Lk w h env f (.ref 164)) (hy : Ev w (n + 3) h env e (isS (txt r))) (hs : starEach [e] env = [(false, eval e env)] := by rfl) :
    Ev w (n + 3) h env (.Call (.Name f p) [e] [] pos) (isL fun vs => StrsAre vs ((lettersF r).map ch)) :=
  Ev.callF lf (G.K _ _ (by rfl)) rfl (Evs.cons hy .nil hs) (fun vs a b e1 e2 p => by obtain ⟨v, r', b', rfl, _, _, ⟨t, rfl⟩, rfl⟩ := p; exact (letters_cl (G.ext (e1.trans e2)) hr).up (Nat.le_add_left _ _)) (anti_L _) hs
/-- the letters that the pile holds -/
inductive PileV (Y : Addr → Prop) (h : Heap) (c : Nat) (v : Value) : Prop
  | mk (T : Addr) (t1 t2 : Tok) (e : v = .ref T) (n : Y T) (ht : h.IsTuple T #[.str (Str.ofString "") t1, .str (ch c) t2]) : PileV Y h c v
noncomputable def PileIs (X : List Addr) (h : Heap) (st : List Nat) (vs : List Value) : Prop := Paired (PileV (· ∉ X) h) st vs
theorem pile_mono {X : List Addr} {h h' : Heap} {st : List Nat} {vs : List Value} (x : PileIs X h st vs) (k : ∀ T its, T ∉ X → h.IsTuple T its → h'.IsTuple T its) : PileIs X h' st vs := by
  unfold PileIs at *
  induction x with
  | nil => exact .nil
  | cons f _ ih => obtain ⟨T, t1, t2, a, b, c⟩ := f; exact .cons ⟨T, t1, t2, a, b, k _ _ b c⟩ ih
theorem pair_data {h : Heap} {T : Addr} {t1 t2 : Tok} {c : Str} (ht : h.IsTuple T #[.str (Str.ofString "") t1, .str c t2]) : RD h (.ref T) (.tuple [.str (Str.ofString ""), .str c]) := RD.tuple (vs := [.str (Str.ofString "") t1, .str c t2]) (by simpa using ht) (.cons .str (.cons .str .nil))
theorem can2 {c : Str} (h : PyData.strOk c = true) : (PyData.tuple [.str (Str.ofString ""), .str c]).canLay0 = true := by
  have e : PyData.strOk (Str.ofString "") = true := by decide +kernel
  simp [PyData.canLay0, PyData.canLayAll0, h, e]
theorem depth2 {c d : Str} : (PyData.tuple [.str d, .str c]).depth ≤ 50 := by simp [PyData.depth, PyData.depthAll]
theorem eq2 {c d : Str} : PyData.eqv (.tuple [.str (Str.ofString ""), .str c]) (.tuple [.str (Str.ofString ""), .str d]) = (c == d) := by simp [PyData.eqv, PyData.eqvAll]
theorem Ev.two {w : World} {n : Nat} {h : Heap} {env : Env} {k k1 k2 : Nat} {p p1 p2 : Pos} : Ev w n h env (.Tuple [.Constant (.str (Str.ofString "")) k1 p1, .Constant (.str (Str.ofString "")) k2 p2] k p) (fun v _ b => RD b v (.tuple [.str (Str.ofString ""), .str (Str.ofString "")])) := by
  refine (Ev.tuple (Evs.cons .str (Evs.cons .str .nil)) (fun vs a b p => ?_)).mono fun v a b _ _ p => ?_
  · obtain ⟨v1, r1, b1, rfl, _, _, _, v2, r2, b2, rfl, _, _, _, rfl⟩ := p
    rw [sizeLine_eq]; simp
  · obtain ⟨T, vs, b', rfl, _, _, _, ht, v1, r1, b1, rfl, _, _, ⟨t1, rfl⟩, v2, r2, b2, rfl, _, _, ⟨t2, rfl⟩, rfl⟩ := p
    exact pair_data (by simpa using ht)
noncomputable def refsOf (vs : List Value) : List Addr := vs.filterMap fun v => match v with | .ref b => some b | _ => none
theorem pile_refs {X : List Addr} {h : Heap} {st : List Nat} {vs : List Value} (x : PileIs X h st vs) : ∀ b ∈ refsOf vs, ∃ o, h.get? b = some o := by
  unfold PileIs at x
  induction x with
  | nil => intro b hb; cases hb
  | cons f _ ih =>
    obtain ⟨T, t1, t2, rfl, _, o, ho, _⟩ := f
    intro b hb
    rcases List.mem_cons.mp (show b ∈ T :: refsOf _ from hb) with rfl | hb
    · exact ⟨o, ho⟩
    · exact ih b hb
theorem pile_src {X : List Addr} {h : Heap} : ∀ {st : List Nat} {vs : List Value} (R : List Addr), PileIs X h st vs → (∀ b ∈ refsOf vs, b ∈ R) → Paired (PileV (· ∈ R) h) st vs
  | _, _, _, .nil, _ => .nil
  | _, _, R, .cons f t, hR => by
    obtain ⟨T, t1, t2, rfl, _, ht⟩ := f
    exact .cons ⟨T, t1, t2, rfl, hR T (List.mem_cons_self ..), ht⟩ (pile_src R t fun b hb => hR b (List.mem_cons_of_mem _ hb))
theorem paired_len {α β : Type} {F : α → β → Prop} {l₁ : List α} {l₂ : List β} (h : Paired F l₁ l₂) : l₁.length = l₂.length := h.length
theorem paired_snoc_inv {α β : Type} {F : α → β → Prop} : ∀ {l₁ : List α} {l₂ : List β} {b : β}, Paired F l₁ (l₂ ++ [b]) → ∃ l a, l₁ = l ++ [a] ∧ Paired F l l₂ ∧ F a b
  | _, [], _, .cons f .nil => ⟨[], _, rfl, .nil, f⟩
  | _, _ :: _, _, .cons f t => by
    obtain ⟨l, a, h1, h2, h3⟩ := paired_snoc_inv t
    exact ⟨_ :: l, a, by rw [h1]; rfl, .cons f h2, h3⟩
inductive JFree (P dx T L : Addr) (op : Bool) (LS : List Nat) (I : Addr) (i : Nat) (m : Str → Option Value) (h : Heap) : Prop
  | mk (a1 : P ≠ I) (a2 : dx ≠ I) (a3 : m (Str.ofString "opening") = some (.bool op)) (a4 : m (Str.ofString "letters") = some (.ref T)) (a5 : m (Str.ofString "pile") = some (.ref P)) (a6 : ∃ tf, m (Str.ofString "free") = some (.str (txt (pileF LS op i).2) tf)) (vs : List Value) (b : AccIn h P dx vs) (c : PileIs [L, I] h (pileF LS op i).1 vs) : JFree P dx T L op LS I i m h
theorem free_cl {w : World} {h : Heap} {r : List Nat} {t : Tok} {op : Bool} (G : Grd w h) (hr : RowS r) :
    Cl w 6 h (.ref 174) [.str (txt r) t, .bool op] (isS (txt (freeF (lettersF r) op))) := by
  refine Cl.code (n := 5) (binds := [(Str.ofString "row", .str (txt r) t), (Str.ofString "opening", .bool op)]) G (by rfl) rfl rfl (by rfl) (by rfl) (by decide) (locs rfl) ?_
  intro A s h0 env Q E hv ok G0 e0 F q
  have he : FnEnv env := by obtain ⟨L, rfl⟩ := hv; exact .call rfl rfl rfl
  have i1 : interactive env = false := by obtain ⟨L, rfl⟩ := hv; rfl
  have k1 : env.kindOf (Str.ofString "row") = some .local := by obtain ⟨L, rfl⟩ := hv; rfl
  have k2 : env.kindOf (Str.ofString "opening") = some .local := by obtain ⟨L, rfl⟩ := hv; rfl
  have k3 : env.kindOf (Str.ofString "letters") = some .local := by obtain ⟨L, rfl⟩ := hv; rfl
  have k4 : env.kindOf (Str.ofString "pile") = some .local := by obtain ⟨L, rfl⟩ := hv; rfl
  have k5 : env.kindOf (Str.ofString "free") = some .local := by obtain ⟨L, rfl⟩ := hv; rfl
  have k6 : env.kindOf (Str.ofString "letter") = some .local := by obtain ⟨L, rfl⟩ := hv; rfl
  have k7 : env.kindOf (Str.ofString "_law_letters") = some .globalImplicit := by obtain ⟨L, rfl⟩ := hv; rfl
  have k8 : env.kindOf (Str.ofString "_Accumulator") = some .globalImplicit := by obtain ⟨L, rfl⟩ := hv; rfl
  have kL : h0.get? env.locals = none := size_none F.above
  have hn := F.ns
  have F0 : Ext h0 s.heap := F.keep
  have Gs := G0.ext F0
  clear F hv
  have ml : ∀ {h' : Heap} {m : Str → Option Value}, h'.Ns env.locals m → ∃ o, h'.get? env.locals = some o := fun hn => let ⟨o, _, _, ho, _⟩ := hn; ⟨o, ho⟩
  have base : ∀ {g1 g2 : Heap}, Ext h0 g1 → Heap.SameBut env.locals g1 g2 → Ext h0 g2 := fun x y => (x.b (M := [env.locals])).trans (sameB y (List.mem_singleton.mpr rfl)) |>.base (Ext.refl _) (fun a ha => by rw [List.mem_singleton.mp ha]; exact kL)
  -- letters = ..
  have l1 : Lk w s.heap env (Str.ofString "row") (.str (txt r) t) := .loc hn (by rfl) he k1 (by decide)
  have l7 : Lk w s.heap env (Str.ofString "_law_letters") (.ref 164) := .glob Gs he k7 (by rfl) (by decide)
  refine run_assign ok he k3 hn (Ev.letters (n := 2) Gs hr l7 (Ev.nameS l1)) ?_
  rintro v h1 h2 tk2 x1 ⟨T, ls, rfl, hT, hlT, hls⟩ sb2 hn2
  have e2 : Ext h0 h2 := base (F0.trans x1) sb2
  have hTL : T ≠ env.locals := ns_ne hn hT
  have hl2 := isList_same hlT sb2 hTL
  have G2 := G0.ext e2
  -- pile = _Accumulator()
  have l8 : Lk w h2 env (Str.ofString "_Accumulator") (.ref 101) := .glob G2 he k8 (by rfl) (by decide)
  refine run_assign (s := { s with heap := h2, toks := tk2 }) (P := fun v a b => ∃ P dx, v = .ref P ∧ a.get? P = none ∧ a.get? dx = none ∧ AccIn b P dx []) ok he k4 hn2 ?_ ?_
  · intro A s' Q E ok' kx qx
    refine Call_Name rfl (l8 A s' _ E _ kx ?_)
    refine callWith_K0 (G2.ext kx).K (by rfl) ?_
    exact acc_new (G2.ext kx) (ok'.down (by decide)) fun P dx h' tk e hP hd hA => qx _ h' tk e ⟨P, dx, rfl, hP, hd, hA⟩
  rintro v h3 h4 tk4 x3 ⟨P, dx, rfl, hPn, hdn, hA3⟩ sb4 hn4
  have hPL : P ≠ env.locals := ns_ne hn2 hPn
  have hdL : dx ≠ env.locals := ns_ne hn2 hdn
  have e4 : Ext h0 h4 := base (e2.trans x3) sb4
  have acS : ∀ {g1 g2 : Heap} {vs : List Value}, AccIn g1 P dx vs → Heap.SameBut env.locals g1 g2 → AccIn g2 P dx vs := by
    rintro g1 g2 vs ⟨a, b, k, od, c, d, f⟩ sb
    exact ⟨a, b, k, od, sb.extBut _ _ hPL c, sb.extBut _ _ hdL d, f⟩
  have hA4 := acS hA3 sb4
  have hl4 : h4.IsList T ls.toArray := isList_same (isList_ext hl2 x3) sb4 hTL
  -- free = ''
  refine run_assign (s := { s with heap := h4, toks := tk4 }) ok he k5 hn4 .str ?_
  rintro v h5 h6 tk6 x5 ⟨tf, rfl⟩ sb6 hn6
  have e6 : Ext h0 h6 := base (e4.trans x5) sb6
  have hA6 := acS (hA4.ext x5) sb6
  have hl6 : h6.IsList T ls.toArray := isList_same (isList_ext hl4 x5) sb6 hTL
  have hP0 : h0.get? P = none := e2.none hPn
  have hTP : T ≠ P := fun e => by obtain ⟨o, ho, _⟩ := hl2; rw [e, hPn] at ho; cases ho
  have ls' : StrsAre ls ((lettersF r).map ch) := hls
  generalize hLS : lettersF r = LS at *
  have tupP : ∀ {g : Heap} {vs : List Value} {T' : Addr} {its : Array Value}, AccIn g P dx vs → g.IsTuple T' its → T' ≠ P := by
    rintro g vs T' its ⟨_, _, k, od, c, _⟩ ⟨o, ho, hc, _⟩ rfl
    rw [c] at ho; cases ho; cases hc
  let JJ : Addr → Nat → (Str → Option Value) → Heap → Prop := JFree P dx T env.locals op LS
  have hJJ : ∀ I i m h h', JJ I i m h → ExtB [env.locals, I] h h' → JJ I i m h' := by
    rintro I i m h h' ⟨a1, a2, a3, a4, a5, a6, vs, ⟨b1, b2, k, od, b3, b4, b5⟩, b6⟩ hk
    exact ⟨a1, a2, a3, a4, a5, a6, vs, ⟨b1, b2, k, od, hk _ _ (nm2 hPL a1) b3, hk _ _ (nm2 hdL a2) b4, b5⟩, pile_mono b6 fun T' its hT' ht => by obtain ⟨o, ho, hd⟩ := ht; exact ⟨o, hk _ _ hT' ho, hd⟩⟩
  refine run_forS (hb := h0) (s := { s with heap := h6, toks := tk6 }) (y := Str.ofString "abcdefghi") ok he k6 hn6 .str e6 [P] ?_ JJ hJJ ?_ ?_ ?_
  · intro a ha
    rcases List.mem_cons.mp ha with rfl | ha
    · exact ⟨kL, ml hn6⟩
    · rw [List.mem_singleton.mp ha]
      obtain ⟨_, _, k, od, c, _⟩ := hA6
      exact ⟨hP0, _, c⟩
  · intro I hI
    obtain ⟨c1, c2, k, od, c3, c4, c5⟩ := id hA6
    have n1 : P ≠ I := fun e => by rw [e, hI] at c3; cases c3
    have n2 : dx ≠ I := fun e => by rw [e, hI] at c4; cases c4
    exact ⟨n1, n2, upd_ne (upd_ne (upd_ne (by rfl))), upd_ne (upd_ne upd_eq), upd_ne upd_eq, ⟨tf, upd_eq⟩, [], hA6, .nil⟩
  · rintro I i c tc m7 h7 tk7 Q' E' hc hIn hIa ⟨a1, a2, a3, a4, a5, ⟨tf7, a6⟩, vs, hA7, hp7⟩ hn7 e7 kb7 qn
    have hc9 : abc[i]? = some c := by
      have : (Str.ofString "abcdefghi").cps = abc.toArray := by decide
      rw [this] at hc
      simpa using hc
    have hi : i < 9 := (List.getElem?_eq_some_iff.mp hc9).1
    have hlen := pileF_len LS op i
    have hvl : vs.length < 100 := by rw [← paired_len hp7]; omega
    have G7 := G0.ext e7
    have hTM : T ∉ env.locals :: [P] := by simp [hTL, hTP]
    have hl7 : h7.IsList T ls.toArray := by obtain ⟨o, ho, hd⟩ := hl6; exact ⟨o, kb7 _ _ hTM ho, hd⟩
    have lo : Lk w h7 env (Str.ofString "opening") (.bool op) := .loc hn7 (upd_ne a3) he k2 (by decide)
    have ll : Lk w h7 env (Str.ofString "letters") (.ref T) := .loc hn7 (upd_ne a4) he k3 (by decide)
    have lp : Lk w h7 env (Str.ofString "pile") (.ref P) := .loc hn7 (upd_ne a5) he k4 (by decide)
    have lf : Lk w h7 env (Str.ofString "free") (.str (txt (pileF LS op i).2) tf7) := .loc hn7 (upd_ne a6) he k5 (by decide)
    have lc : Lk w h7 env (Str.ofString "letter") (.str (ch c) tc) := .loc hn7 upd_eq he k6 (by decide)
    have hsucc := pileF_succ LS op i c hc9
    refine run_if (s := { s with heap := h7, toks := tk7 }) ok (Tr.eqB (w := w) (n := 5) (h := h7) (c := LS.contains c) (d := op) (Ev.cmp (Ev.nameS lc) (Ev.name ll) fun _ _ _ _ _ x1 x2 x3 p q => by
      obtain ⟨t, rfl⟩ := p
      rw [q, ← any_ch]
      exact Cmp.inLS (isList_ext hl7 ((x1.trans x2).trans x3)) ls') (Ev.nameB lo)) ?_
    intro h8 tk8 x8
    have G8 := G7.ext x8
    have hn8 := hn7.keeps x8
    have hA8 := hA7.ext x8
    have hp8 : PileIs [env.locals, I] h8 (pileF LS op i).1 vs := pile_mono hp7 fun T' its _ ht => isTuple_ext ht x8
    have hIa8 : ∃ o, h8.get? I = some o := let ⟨o, ho⟩ := hIa; ⟨o, x8 _ _ ho⟩
    cases hb : (LS.contains c == op) with
    | true =>
      have hst : pileF LS op (i + 1) = ((pileF LS op i).1 ++ [c], (pileF LS op i).2) := by rw [hsucc]; unfold stepF; rw [if_pos hb]
      obtain ⟨d1, d2, k8, od8, hP8, hd8, hod8⟩ := id hA8
      refine wpAny_execs_cons (wpAny_Expr (MethodCall_ (lp _ { s with heap := h8, toks := tk8 } _ _ _ x8 ?_) (by rfl)) i1 (by rfl))
      refine acc_method G8.K hP8 hd8 fa_push (tf := .type "function") (by rfl) (by decide) (hod8.none (by simp)) ?_
      dsimp only
      obtain ⟨o45, fd45, ho45, hd45⟩ : ∃ o fd, (KF w).lookup 45 = some o ∧ o.data = .func fd := ⟨_, _, by rfl, rfl⟩
      refine callWith_function (o := o45) (fd := fd45) (evalArgs_plain (spliced_cons ?_))
      refine (Ev.str (w := w) (n := 5) (h := h8) (k := 0) (pos := ⟨0, 0, 0, 0⟩)) _ { s with heap := h8, toks := tk8 } _ _ ok (.refl _) fun v h9 tk9 x9 p9 => ?_
      obtain ⟨te, rfl⟩ := p9
      refine spliced_cons (lc _ _ _ _ _ (x8.trans x9) (spliced_nil ⟨⟨(G8.ext x9).K _ _ ho45, hd45⟩, ?_⟩))
      refine acc_push (s := { s with heap := h9, toks := tk9 }) (G8.ext x9) (ok.down (by decide)) (hA8.ext x9) (Nat.lt_trans hvl (by decide)) ?_
      intro T' hA tkA kbA hT'n hT' hAA
      have hT'X : T' ∉ [env.locals, I] := by
        intro hm
        rcases List.mem_cons.mp hm with rfl | hm
        · obtain ⟨o, ho⟩ := ml (hn8.keeps x9); rw [ho] at hT'n; cases hT'n
        · obtain ⟨o, ho⟩ := hIa8
          rw [List.mem_singleton.mp hm, x9 _ _ ho] at hT'n; cases hT'n
      refine run_nil (run_nil (qn hA tkA _ ?_ ((hn8.keeps x9).at' fun o eo => kbA _ _ (nm1 (Ne.symm hPL)) eo) ?_))
      · exact ((x8.trans x9).b).trans (kbA.mono (by simp))
      · refine ⟨a1, a2, upd_ne a3, upd_ne a4, upd_ne a5, ⟨tf7, by rw [hst]; exact upd_ne a6⟩, _, hAA, ?_⟩
        rw [hst]
        refine paired_append (pile_mono hp8 fun T2 its hT2 ht => ?_) (.cons ⟨T', te, tc, rfl, hT'X, hT'⟩ .nil)
        obtain ⟨o, ho, hd⟩ := isTuple_ext ht x9
        exact ⟨o, kbA _ _ (nm1 (tupP (hA8.ext x9) ⟨o, ho, hd⟩)) ho, hd⟩
    | false =>
      have fin : ∀ {hA : Heap} {tkA : Nat} {m : Str → Option Value}, ExtB (env.locals :: [P]) h8 hA → hA.Ns env.locals m → JJ I (i + 1) m hA → Q' .next { s with heap := hA, toks := tkA } := fun x y z => qn _ _ _ (x8.b.trans x) y z
      show wpAny _ _ (execs (.If _ _ _ _ :: []) env) _ _ _
      refine wpAny_execs_cons (wpAny_If (wpAny_isTrue_Compare1 (acc_meth0 (s := { s with heap := h8, toks := tk8 }) G8 hA8 (lp.ext x8) fa_pop (by rfl) (by simp) (by rfl) (acc_pop G8 (ok.down (by decide)) hA8 (Nat.lt_trans hvl (by decide)) ?_ ?_))))
      · rintro rfl T1 t1 t2 h9 tk9 x9 hT1
        have hst0 : (pileF LS op i).1 = [] := by have := hp8; unfold PileIs at this; generalize (pileF LS op i).1 = z at this; cases this; rfl
        have hst : pileF LS op (i + 1) = ((pileF LS op i).1, (pileF LS op i).2 ++ [c]) := by rw [hsucc]; unfold stepF; rw [if_neg (by rw [hb]; decide), hst0]; rfl
        refine (Ev.two (w := w) (n := 5) (h := h9)) _ { s with heap := h9, toks := tk9 } _ _ ok (.refl _) fun v hA tkA xA pA => ?_
        refine (Cmp.eqD (w := w) (n := 4) (h := hA) ((pair_data hT1).ext xA) pA (can2 (by decide +kernel)) (can2 (by decide +kernel)) depth2) _ { s with heap := hA, toks := tkA } _ _ ok (.refl _) fun hB tkB xB => ?_
        have heq : PyData.eqv (.tuple [.str (Str.ofString ""), .str (Str.ofString "")]) (.tuple [.str (Str.ofString ""), .str (Str.ofString "")]) = true := by rw [eq2]; decide
        rw [heq]
        refine wpAny_truthy_bool ?_
        have x8B : Ext h8 hB := (x9.trans xA).trans xB
        show wpAny _ _ (execs (.Assign _ _ _ :: []) env) _ _ _
        refine run_assign (s := { s with heap := hB, toks := tkB }) ok he k5 (hn8.keeps x8B) (Ev.addS (Ev.nameS (lf.ext (x8.trans x8B))) (Ev.nameS (lc.ext (x8.trans x8B))) ?_) ?_
        · rw [txt_len]; show _ + 1 ≤ _; omega
        · rintro v hC hD tkD xC ⟨tn, rfl⟩ sbD hnD
          refine run_nil (run_nil (run_nil (fin ((x8B.trans xC).b.trans (sameB sbD (by simp))) hnD ⟨a1, a2, upd_ne (upd_ne a3), upd_ne (upd_ne a4), upd_ne (upd_ne a5), ⟨tn, ?_⟩, [], acS (hA8.ext (x8B.trans xC)) sbD, ?_⟩)))
          · rw [hst]
            refine upd_eq.trans ?_
            rw [← txt_snoc]
            rfl
          · rw [hst, hst0]; exact .nil
      · rintro us v rfl h9 tk9 kb9 hA9
        obtain ⟨st', c', hst', hp', T1, t1, t2, rfl, hT1X, hT1⟩ := paired_snoc_inv hp8
        have hst : pileF LS op (i + 1) = (st', (pileF LS op i).2) := by rw [hsucc]; unfold stepF; rw [if_neg (by rw [hb]; decide), hst']; simp
        have up9 : ∀ {T2 : Addr} {its : Array Value}, h8.IsTuple T2 its → h9.IsTuple T2 its := fun {T2 its} ht => by
          obtain ⟨o, ho, hd⟩ := id ht
          exact ⟨o, kb9 _ _ (nm1 (tupP hA8 ht)) ho, hd⟩
        refine (Ev.two (w := w) (n := 5) (h := h9)) _ { s with heap := h9, toks := tk9 } _ _ ok (.refl _) fun v hA tkA xA pA => ?_
        refine (Cmp.eqD (w := w) (n := 4) (h := hA) ((pair_data (up9 hT1)).ext xA) pA (can2 ?_) (can2 (by decide +kernel)) depth2) _ { s with heap := hA, toks := tkA } _ _ ok (.refl _) fun hB tkB xB => ?_
        · have hm := pileF_mem LS op i c' (by rw [hst']; simp)
          have : c' < 1114112 := (show ∀ x ∈ abc, x < 1114112 by decide) c' hm
          unfold PyData.strOk ch
          simpa using this
        have heq : PyData.eqv (.tuple [.str (Str.ofString ""), .str (ch c')]) (.tuple [.str (Str.ofString ""), .str (Str.ofString "")]) = false := by
          rw [eq2]
          rfl
        rw [heq]
        refine wpAny_truthy_bool ?_
        have x9B : Ext h9 hB := xA.trans xB
        have hn9 : h9.Ns env.locals _ := hn8.at' fun o eo => kb9 _ _ (nm1 (Ne.symm hPL)) eo
        refine run_nil (run_nil (run_nil (fin ((kb9.mono (by simp)).trans x9B.b) (hn9.keeps x9B) ⟨a1, a2, upd_ne a3, upd_ne a4, upd_ne a5, ⟨tf7, ?_⟩, us, hA9.ext x9B, ?_⟩)))
        · rw [hst]; exact upd_ne a6
        · rw [hst]; exact pile_mono hp' fun T2 its _ ht => isTuple_ext (up9 ht) x9B
  · intro I h7 tk7 m7 kb7 e7 hn7 hJ
    have h9 : (Str.ofString "abcdefghi").cps.size = 9 := by decide
    rw [h9] at hJ
    obtain ⟨a1, a2, a3, a4, a5, ⟨tf7, a6⟩, vs, hA7, hp7⟩ := hJ
    have hlen := pileF_len LS op 9
    have hvl : vs.length < 100 := by rw [← paired_len hp7]; omega
    have lp : Lk w h7 env (Str.ofString "pile") (.ref P) := .loc hn7 a5 he k4 (by decide)
    have lf : Lk w h7 env (Str.ofString "free") (.str (txt (pileF LS op 9).2) tf7) := .loc hn7 a6 he k5 (by decide)
    have G7 := G0.ext e7
    refine wpAny_execs_cons (wpAny_Return_some (wpAny_BinOp (lf _ { s with heap := h7, toks := tk7 } _ _ _ (.refl _) ?_)))
    refine MethodCall_ ((Ev.str (w := w) (n := 5) (h := h7)) _ { s with heap := h7, toks := tk7 } _ _ ok (.refl _) fun v h8 tk8 x8 p8 => ?_) (by rfl)
    obtain ⟨t8, rfl⟩ := p8
    refine getMethod_builtin (typeIs_str _ _ _) F.plainAttrs_str F.slot_str_join F.type_str_join (fun _ e => by cases e) ?_
    refine callWith_builtin rfl (evalArgs_plain (spliced_cons ?_))
    have hA8 := hA7.ext x8
    have G8 := G7.ext x8
    refine comp2_at (s := { s with heap := h8, toks := tk8 }) (M := [P]) (items := (pileF LS op 9).1) (rel := fun c u v => ∃ t1 t2, u = .str (Str.ofString "") t1 ∧ v = .str (ch c) t2) (p := fun _ => true) (relY := relC) (cl := []) ok ?_ (by omega) (closureFor_none (by decide)) (by decide) rfl (by decide) rfl rfl (by decide) (by decide) (by decide) he ?_ ?_ ?_
    · intro Q' q'
      refine acc_meth0 (s := { s with heap := h8, toks := tk8 }) G8 hA8 (lp.ext x8) fa_pf (by rfl) (by simp) (by rfl) (acc_pop_from G8 (ok.down (by decide)) hA8 (Nat.lt_trans hvl (by decide)) ?_)
      intro T' hA tkA kbA hPa hT'n hlA
      have hpA : PileIs [env.locals, I] hA (pileF LS op 9).1 vs := pile_mono hp7 fun T2 its _ ht => by
        obtain ⟨o, ho, hd⟩ := isTuple_ext ht x8
        exact ⟨o, kbA _ _ (nm1 (tupP hA8 ⟨o, ho, hd⟩)) ho, hd⟩
      refine src_ofList (s := { s with heap := hA, toks := tkA }) ok.hd hlA (pile_src (refsOf vs) hpA fun b hb => hb) fun I' fp wr P' St h2 e2 W hp st hf hw lg => ?_
      have al := pile_refs hpA
      refine q' h2 tkA I' (fp ++ refsOf vs) wr (fun i vals => ∃ a t1 t2, (pileF LS op 9).1[i]? = some a ∧ vals = #[.str (Str.ofString "") t1, .str (ch a) t2]) _ _ (kbA.trans e2.b) (walksU_of hA (refsOf vs) W lg (fun b hb hbw => ?_) fun i v hP => ?_) ?_ ⟨st, fun b _ o eo => e2 _ _ eo⟩ ?_ ?_
      · obtain ⟨o, ho⟩ := al b hb
        have := hw b hbw
        rw [ho] at this; cases this
      · obtain ⟨a, ha, T2, t1, t2, rfl, hT2, ht⟩ := hp i v hP
        exact ⟨T2, _, rfl, hT2, ht, a, t1, t2, ha, rfl⟩
      · rintro i vals _ ⟨a, t1, t2, ha, rfl⟩
        exact ⟨a, _, _, ha, rfl, t1, t2, rfl, rfl⟩
      · intro b hb
        rcases List.mem_append.mp hb with hb | hb
        · exact (hf b hb).1
        · obtain ⟨o, ho⟩ := al b hb
          exact Heap.lt_size (e2 _ _ ho)
      · intro b hb
        have hbn := hw b hb
        cases hg : h8.get? b with
        | none => rfl
        | some o =>
          by_cases hbP : b = P
          · obtain ⟨o', ho'⟩ := hPa
            rw [hbP, ho'] at hbn; cases hbn
          · have := kbA b o (nm1 hbP) hg
            rw [this] at hbn; cases hbn
    · intro a u v hc C _ _ _ _ _
      exact rfl
    · rintro a u v hc C _ _ ⟨t1, t2, rfl, rfl⟩ _ l1 l2
      exact (Ev.nameS l2).mono fun v _ _ _ _ p => p
    · intro D hA tkA ys kbA _ hlD hpD
      rw [List.filter_eq_self.mpr (by simp)] at hpD
      refine spliced_nil ?_
      have hlD' : hA.IsList D ys.toList.toArray := by simpa using hlD
      refine (Cl.joinL (w := w) (n := 5) (h := hA) (x := Str.ofString "") (t := t8) (ss := (pileF LS op 9).1.map ch) hlD' (strs_are (paired_map (F := relS) (f := ch) hpD)) ?_) _ { s with heap := hA, toks := tkA } _ _ ok (.refl _) fun v hB tkB xB pB => ?_
      · have e0 : (Str.ofString "").length = 0 := by decide
        rw [ch_lens, e0]; omega
      obtain ⟨tj, rfl⟩ := pB
      have hj : Txt.join (Str.ofString "") ((pileF LS op 9).1.map ch) = txt (pileF LS op 9).1 := join_ch _
      rw [hj]
      refine (Bop.addS (w := w) (n := 5) (h := hB) (x := txt (pileF LS op 9).2) (y := txt (pileF LS op 9).1) (t := tf7) (u := tj) ?_) _ { s with heap := hB, toks := tkB } _ _ ok (.refl _) fun v hC tkC xC pC => ?_
      · rw [txt_len, txt_len, sizeLine_eq]; omega
      obtain ⟨tr, rfl⟩ := pC
      rw [txt_app]
      refine q _ hC tkC ?_ ⟨tr, rfl⟩
      refine Ext.trans ?_ (xB.trans xC)
      exact ((e7.trans x8).b.trans kbA).base (Ext.refl _) fun a ha => by rw [List.mem_singleton.mp ha]; exact hP0
end Mine
end

-- Z6
section
open PySem PySem.W PyProof.Rows PySem.Calls PySem.Spec
set_option maxRecDepth 100000
set_option maxHeartbeats 1000000
namespace Mine
theorem filter_back {α : Type} {rel : α → Value → Prop} {dec : Value → α} {p : α → Bool} {R : α → Value → Prop} (hdec : ∀ a v, rel a v → dec v = a) : ∀ (vs : List Value) (items : List α), vs.length = items.length → (∀ (j : Nat) v, vs[j]? = some v → ∃ a, items[j]? = some a ∧ rel a v) → ∀ ys : List Value, Paired (fun v y => R (dec v) y) (vs.filter fun v => p (dec v)) ys → Paired R (items.filter p) ys := by
  intro vs
  induction vs with
  | nil => intro items hl _ ys hy; cases items with
    | nil => rw [List.filter_nil] at hy ⊢; cases hy; exact .nil
    | cons _ _ => simp at hl
  | cons v vs ih => intro items hl hh ys hy; cases items with
    | nil => simp at hl
    | cons a items =>
      obtain ⟨a', e1, e2⟩ := hh 0 v rfl
      have : a = a' := by simpa using e1
      subst this
      have hda := hdec a v e2
      have rest := ih items (by simpa using hl) fun j v hj => by simpa using hh (j + 1) v (by simpa using hj)
      cases hpa : p a with
      | false =>
        rw [List.filter_cons_of_neg (by rw [hda, hpa]; simp)] at hy
        rw [List.filter_cons_of_neg (by rw [hpa]; simp)]
        exact rest ys hy
      | true =>
        rw [List.filter_cons_of_pos (by rw [hda, hpa])] at hy
        rw [List.filter_cons_of_pos hpa]
        cases hy with
        | cons f t => exact .cons (hda ▸ f) (rest _ t)
section
variable {w : World} {n : Nat} {env : Env} {A : Around} {s : Shared} {Q : Flow → Shared → Prop} {E : Value → Shared → Prop} {m : Str → Option Value} {rest : List Stmt} {iter elt : Expr} {x y : Str} {px py pos spos : Pos} {ifs : List Expr} {scope : Scope} {cl : List (Str × Addr)}
theorem run_assignLC {α : Type} {items : List α} {rel : α → Value → Prop} {S : List Addr} {p : α → Bool} {relY : α → Value → Prop} {dec : Value → α} (ok : Okk A n)
    (src : Src w n s.heap env iter S items rel) (hdec : ∀ a v, rel a v → dec v = a) (hz : items.length ≤ 1000) (hclos : closureFor scope env = pure cl) (hcell : ∀ y ∈ scope.names, y.2 ≠ .cell) (hkind : scope.kind = .function)
    (hnames : ∀ y ∈ scope.names, y.2 = .local → scope.names.lookup y.1 = some .local) (hx : scope.names.lookup x = some .local) (hd : (x == ("__debug__" : Str)) = false) (he : FnEnv env) (hy : env.kindOf y = some .local) (hn : s.heap.Ns env.locals m)
    (tests : ∀ a v hc C, a ∈ items → rel a v → Ext s.heap hc → Lk w hc (compEnvC scope cl C env) x v → Tests w n hc (compEnvC scope cl C env) ifs (p a))
    (elt' : ∀ a v hc C, a ∈ items → p a = true → rel a v → Ext s.heap hc → Lk w hc (compEnvC scope cl C env) x v → Ev w n hc (compEnvC scope cl C env) elt (fun y _ _ => relY a y))
    (next : ∀ D h' tk vs, s.heap.get? D = none → h'.IsList D vs.toArray → Paired relY (items.filter p) vs → h'.Ns env.locals (upd m y (.ref D)) → ExtB [env.locals] s.heap h' → wpAny (MM w) A (execs rest env) Q E { s with heap := h', toks := tk })
    (hsw : swapsWith (.ListComp elt [⟨.Name x px, iter, ifs, 0⟩] scope pos) (some (.Name y py)) spos.line env = pure true := by rfl) (hs : ∀ x, foldedSetIterable iter env x = pure x := by intro _; rfl) :
    wpAny (MM w) A (execs (.Assign [.Name y py] (.ListComp elt [⟨.Name x px, iter, ifs, 0⟩] scope pos) spos :: rest) env) Q E s := by
  refine wpAny_execs_cons (wpAny_Assign_ListComp_free (fun v => p (dec v)) (fun v y => relY (dec v) y) hsw hclos hcell hkind hnames hx hy (by rw [he.kind]; rfl) (src A s _ E ok (.refl _) fun h2 tk I fp wr P St e W hp st hf hw lg => ?_) hs)
  have up : ∀ hc : Heap, (∀ b o, b ∉ wr → h2.get? b = some o → hc.get? b = some o) → Ext s.heap hc := fun hc hk b o eb =>
    hk b o (fun hb => by rw [hw b hb] at eb; cases eb) (e b o eb)
  have lk : ∀ (C : Addr) (v : Value) (hc : Heap) (m : Str → Option Value), hc.Ns C m → m x = some v → Lk w hc (compEnvC scope cl C env) x v := fun C v hc m hn hm =>
    Lk.loc (env := compEnvC scope cl C env) hn hm (he.comp hkind) (lookup_relabel_local hx) hd
  have hLw : env.locals ∉ wr := fun hm => by obtain ⟨o, _, _, ho, _⟩ := hn; have := hw _ hm; rw [ho] at this; cases this
  refine ⟨I, fp, wr, items.length, P, St, m, rfl, W, by rw [sizeLine_eq]; omega, st, fun b hb => (hf b hb).1, hLw, hn.keeps e, ⟨?_, ?_⟩, ?_⟩
  · intro C i v s₃ m₃ E' hC hP hn hm hk htk
    obtain ⟨a, ha, hr⟩ := hp i v hP
    have t := tests a v s₃.heap C (List.mem_of_getElem? ha) hr (up _ hk) (lk C v _ _ hn hm)
    rw [← hdec a v hr] at t
    exact t.run ok (.refl _) fun h' tk' e' => ⟨rfl, h', tk', rfl, e'⟩
  · intro C i v s₃ m₃ E' hC hP hpv hn hm hk htk
    obtain ⟨a, ha, hr⟩ := hp i v hP
    have hpa : p a = true := by rw [← hdec a v hr]; exact hpv
    have t := elt' a v s₃.heap C (List.mem_of_getElem? ha) hpa hr (up _ hk) (lk C v _ _ hn hm)
    exact t A s₃ _ E' ok (.refl _) fun y h' tk' e' py => ⟨by rw [hdec a v hr]; exact py, h', tk', rfl, e'⟩
  · intro D h' tk' ys vs hD hl _ hlen hP hF hnl hk
    refine next D h' tk' ys.toList (e.none hD) (by simpa using hl) (filter_back hdec vs items hlen (fun j v hj => hp j v (hP j v hj)) _ hF) hnl fun b o hb eo => ?_
    exact hk b o (fun e => hb (List.mem_singleton.mpr e)) (fun hb' => by rw [hw b hb'] at eo; cases eo) (e b o eo)

/-- a list of new lists, out of a list -/
theorem run_assignLO {α : Type} {items : List α} {rel : α → Value → Prop} {T : Addr} {vs0 : List Value} {S : α → List Value → Prop} {dec : Value → α} (ok : Okk A n)
    (hv : Ev w n s.heap env iter (isV (.ref T))) (hl0 : s.heap.IsList T vs0.toArray) (ha : Paired rel items vs0) (hdec : ∀ a v, rel a v → dec v = a) (hz : items.length ≤ 1000) (hclos : closureFor scope env = pure cl) (hcell : ∀ y ∈ scope.names, y.2 ≠ .cell) (hkind : scope.kind = .function)
    (hnames : ∀ y ∈ scope.names, y.2 = .local → scope.names.lookup y.1 = some .local) (hx : scope.names.lookup x = some .local) (hd : (x == ("__debug__" : Str)) = false) (he : FnEnv env) (hy : env.kindOf y = some .local) (hn : s.heap.Ns env.locals m)
    (elt' : ∀ a v hc C, a ∈ items → rel a v → Ext s.heap hc → Lk w hc (compEnvC scope cl C env) x v → Ev w n hc (compEnvC scope cl C env) elt (isL (S a)))
    (next : ∀ D h' tk vs, s.heap.get? D = none → h'.IsList D vs.toArray → Paired (fun a v => isL (S a) v s.heap h') items vs → h'.Ns env.locals (upd m y (.ref D)) → ExtB [env.locals] s.heap h' → wpAny (MM w) A (execs rest env) Q E { s with heap := h', toks := tk })
    (hsw : swapsWith (.ListComp elt [⟨.Name x px, iter, [], 0⟩] scope pos) (some (.Name y py)) spos.line env = pure true := by rfl) (hs : ∀ x, foldedSetIterable iter env x = pure x := by intro _; rfl) :
    wpAny (MM w) A (execs (.Assign [.Name y py] (.ListComp elt [⟨.Name x px, iter, [], 0⟩] scope pos) spos :: rest) env) Q E s := by
  refine wpAny_execs_cons ?_
  rw [exec_Assign_Name_used _ _ _ _ hsw]
  refine wpAny_bind (wpAny_standAt (wpAny_bind ?_))
  show wpAny _ A (do let _ ← comprehension (.ListComp elt [⟨.Name x px, iter, [], 0⟩] scope pos) scope env _ (newList []) false (eval iter env) (some (assign (.Name y py) env))) _ _ s
  refine wpAny_bind (wpAny_mono (wpAny_comprehension_free (use := some (assign (.Name y py) env)) (Q := fun _ s' => wpAny (MM w) A (execs rest env) Q E s') rfl hs hclos hkind hnames
    (hv A s _ E ok (.refl _) fun v h1 tk1 e1 p1 => ?_)) (fun _ s' hq => wpAny_pure (wpAny_pure hq)) fun _ _ e => e)
  rw [p1]
  have hl1 := isList_ext hl0 e1
  refine wpAny_pyIter_list (s := { s with heap := h1, toks := tk1 }) hl1 ?_
  have hlt : T < h1.objs.size := by obtain ⟨o, ho, _⟩ := hl1; exact Heap.lt_size ho
  have W := Walks.list (prog := PG) (w := w) ok.hd h1.objs.size T (Nat.ne_of_lt hlt) vs0.toArray
  have hsz : vs0.toArray.size = items.length := by simp [ha.length]
  have lk : ∀ (C : Addr) (v : Value) (hc : Heap) (m : Str → Option Value), hc.Ns C m → m x = some v → Lk w hc (compEnvC scope cl C env) x v := fun C v hc m hn hm =>
    Lk.loc (env := compEnvC scope cl C env) hn hm (he.comp hkind) (lookup_relabel_local hx) hd
  have e2 : Ext s.heap (h1.push { cls := .type "list_iterator", data := .fields #[.ref T, .int 0 0] }) := e1.trans (Ext.push _ _)
  have hwn : ∀ b ∈ [h1.objs.size], s.heap.get? b = none := fun b hb => by rw [List.mem_singleton.mp hb]; exact e1.none (next_none _)
  have up : ∀ hc : Heap, (∀ b o, b ∉ [h1.objs.size] → (h1.push { cls := .type "list_iterator", data := .fields #[.ref T, .int 0 0] }).get? b = some o → hc.get? b = some o) → Ext s.heap hc := fun hc hk b o eb =>
    hk b o (fun hb => by rw [hwn b hb] at eb; cases eb) (e2 b o eb)
  have hLw : env.locals ∉ [h1.objs.size] := fun hm => by obtain ⟨o, _, _, ho, _⟩ := hn; have := hwn _ hm; rw [ho] at this; cases this
  refine comp_block_walkCO (RR := fun acc C => compPost (MM w) A E (some (assign (.Name y py) env)) (fun _ s' => wpAny (MM w) A (execs rest env) Q E s') acc C) W (by rw [hsz, sizeLine_eq]; omega) (fun _ => true) (fun v its => S (dec v) its.toList)
    (fun i h st b hb => by rw [List.mem_singleton.mp hb]; obtain ⟨o, ho, _⟩ := st.1; exact ⟨o, ho⟩) hcell hkind hx ⟨⟨_, Heap.get?_push_size _ rfl, rfl, rfl⟩, isList_ext hl1 (Ext.push _ _)⟩ (fun b hb => ?_) ⟨?_, ?_⟩ ?_
  · show b < (h1.push _).objs.size
    rw [Heap.size_push]
    rcases List.mem_cons.mp hb with rfl | hb
    · exact Nat.lt_succ_self _
    · rw [List.mem_singleton.mp hb]; exact Nat.lt_succ_of_lt hlt
  · intro C i v s₃ m₃ E' hC hP hn hm hk htk
    exact wpAny_tests_nil ⟨rfl, s₃.heap, s₃.toks, rfl, fun _ _ e => e⟩
  · intro C i v s₃ m₃ E' hC hP hpv hn hm hk htk
    obtain ⟨a, ha', hr⟩ := paired_at ha i v (by simpa using hP)
    have t := elt' a v s₃.heap C (List.mem_of_getElem? ha') hr (up _ hk) (lk C v _ _ hn hm)
    refine t A s₃ _ E' ok (.refl _) fun y h' tk' e' py => ?_
    obtain ⟨T2, us, rfl, hT2, hl2, hS⟩ := py
    exact ⟨⟨T2, us.toArray, rfl, hT2, hl2, by rw [hdec a v hr]; simpa using hS⟩, h', tk', rfl, e'⟩
  · intro D C h' tk m' ys vs hD hC hDC hnC hlD hplD hlen hP hF _ hk
    have hLC : env.locals ≠ C := by rintro rfl; obtain ⟨o, _, _, ho, _⟩ := hn; rw [e2 _ _ ho] at hC; cases hC
    have hLD : env.locals ≠ D := by rintro rfl; obtain ⟨o, _, _, ho, _⟩ := hn; rw [e2 _ _ ho] at hD; cases hD
    show wpAny _ A (assign (.Name y py) env (.ref D)) _ _ _
    refine wpAny_assign_Name (wpAny_storeName_local hy ((hn.keeps e2).at' fun o e => hk _ o hLw e) (fun h₂ hn₂ hs₂ => ?_) (by rw [he.kind]; rfl))
    refine ⟨m', hnC.sameBut hs₂ (Ne.symm hLC), fun h₃ hs₃ => ?_⟩
    refine next D h₃ _ ys.toList (e2.none hD) (by simpa using (hlD.extBut hs₂.extBut (Ne.symm hLD)).extBut hs₃.extBut hDC) ?_ (hn₂.sameBut hs₃ hLC) fun b o hbL eb =>
      hs₃.extBut b o (by rintro rfl; rw [e2 _ _ eb] at hC; cases hC) (hs₂.extBut b o (fun e => hbL (List.mem_singleton.mpr e)) (hk b o (fun hb => by rw [hwn b hb] at eb; cases eb) (e2 _ _ eb)))
    refine (filter_back (p := fun _ => true) (rel := rel) hdec vs items (by rw [hlen, hsz]) (fun j v hj => paired_at ha j v (by simpa using hP j v hj)) ys.toList (hF.mono fun v yv hy => ?_)) |> fun z => by rwa [List.filter_eq_self.mpr (by simp)] at z
    obtain ⟨T2, its, rfl, h1', hTC, _, _, hlT, hG⟩ := hy
    have hTL : T2 ≠ env.locals := by rintro rfl; obtain ⟨o, _, _, ho, _⟩ := hn; rw [e2 _ _ ho] at h1'; cases h1'
    exact ⟨T2, its.toList, rfl, e2.none h1', by simpa using (hlT.extBut hs₂.extBut hTL).extBut hs₃.extBut hTC, hG⟩
end
end Mine
end

-- P4
section
open PySem
namespace Mine
noncomputable def numF' (cs : List Nat) : Int := (cs.map fun c => (256 / 2 ^ (c - 97) : Int)).sum
noncomputable def keptF (ls : List Nat) (op : Bool) : List Nat := ls.filter fun c => !(freeF ls op).contains c
noncomputable def someF (f : List Nat) (op : Bool) (k : Nat) : List Nat := if op then f.drop (f.length - k) else f.take k
noncomputable def rowAt (m : Int) (ls : List Nat) (op : Bool) (k : Nat) : List Nat := fileF (m - m % 512 + numF' (keptF ls op ++ someF (freeF ls op) op k))
noncomputable def rowsF (m : Int) (ls : List Nat) (op : Bool) : List (List Nat) := (List.range ((freeF ls op).length + 1)).map (rowAt m ls op)
theorem freeF_len (ls : List Nat) (op : Bool) : (freeF ls op).length ≤ 9 := by
  have := pileF_len ls op 9
  unfold freeF
  rw [List.length_append]; omega
theorem freeF_mem (ls : List Nat) (op : Bool) : ∀ c ∈ freeF ls op, c ∈ abc := by
  intro c hc
  refine pileF_mem ls op 9 c ?_
  unfold freeF at hc
  rcases List.mem_append.mp hc with h | h
  · exact List.mem_append.mpr (.inr h)
  · exact List.mem_append.mpr (.inl h)
theorem someF_mem {f : List Nat} {op : Bool} {k : Nat} : ∀ c ∈ someF f op k, c ∈ f := by
  intro c hc
  unfold someF at hc
  split at hc
  · exact List.mem_of_mem_drop hc
  · exact List.mem_of_mem_take hc
theorem someF_len {f : List Nat} {op : Bool} {k : Nat} : (someF f op k).length ≤ f.length := by
  unfold someF
  split
  · rw [List.length_drop]; omega
  · rw [List.length_take]; omega
theorem letters_mem {r : List Nat} : ∀ c ∈ lettersF r, c ∈ abc := by
  intro c hc
  unfold lettersF at hc
  obtain ⟨a, ha, rfl⟩ := List.mem_map.mp hc
  exact (List.of_mem_zip (List.mem_filter.mp ha).1).1
theorem letters_len {r : List Nat} : (lettersF r).length ≤ 9 := by
  unfold lettersF
  rw [List.length_map]
  refine Nat.le_trans (List.length_filter_le _ _) ?_
  rw [List.length_zip]
  exact Nat.min_le_left ..
theorem abc_range : ∀ c ∈ abc, 97 ≤ c ∧ c ≤ 105 := by decide
end Mine
end

-- N6
section
open PySem PySem.W PyProof.Rows PySem.Calls PySem.Spec
set_option maxRecDepth 100000
set_option maxHeartbeats 1000000
namespace Mine
theorem numF_eq (cs : List Nat) : numF cs = numF' cs := rfl
noncomputable abbrev relT (r : List Nat) (v : Value) : Prop := ∃ t, v = .str (txt r) t
section
variable {w : World} {n : Nat} {h : Heap} {env : Env} {f : Str} {e e1 e2 l r : Expr} {p pos : Pos}
theorem Bop.addL {a b : Addr} {vs ws : List Value} {P : List Value → Prop} (hl : h.IsList a vs.toArray) (hb : h.IsList b ws.toArray) (hz : vs.length + ws.length ≤ 100000) (hP : P (vs ++ ws)) : Bop w n .Add (.ref a) (.ref b) h (isL P) := by
  intro A s Q E ok k q
  obtain ⟨⟨cls, dd, data, sl⟩, ho, hc, n, hd⟩ := isList_ext hl k
  obtain ⟨⟨cls2, dd2, data2, sl2⟩, ho2, hc2, n2, hd2⟩ := isList_ext hb k
  dsimp only at hc hd hc2 hd2
  subst hc hd hc2 hd2
  refine concat_meets ⟨_, ho, rfl⟩ ⟨_, ho2, rfl⟩ noFill_list_add seq_list_add F.slot_list_add F.entry_list_add (F.args_list_add_2 _ _) (list_addW a b vs.toArray ws.toArray n n2 dd dd2 sl sl2 (by rw [sizeLine_eq]; simp; omega)) ⟨ho, ho2, ?_⟩
  have e : vs.toArray ++ ws.toArray = (vs ++ ws).toArray := by simp
  rw [e]
  exact q _ _ _ (Ext.push _ _) ⟨_, vs ++ ws, rfl, next_none _, ⟨_, Heap.get?_push_size _ rfl, rfl, _, rfl⟩, hP⟩
theorem Ev.addVL {T : Addr} {us : List Value} {S2 : List Value → Prop} {P : List Value → Prop} (hl : Ev w n h env l (isV (.ref T))) (hT : h.IsList T us.toArray) (hr : Ev w n h env r (isL S2)) (hz : ∀ ws, S2 ws → us.length + ws.length ≤ 100000 ∧ P (us ++ ws)) : Ev w n h env (.BinOp l .Add r pos) (isL P) :=
  Ev.binop hl hr (fun _ _ _ _ _ x1 x2 x3 p q => by
    rw [p]
    obtain ⟨T', ws, rfl, _, hl', h2⟩ := q
    exact Bop.addL (isList_ext hT ((x1.trans x2).trans x3)) hl' (hz _ h2).1 (hz _ h2).2) (anti_L _)
theorem Ev.listOfS {x : Str} (lf : Lk w h env f (.type "list")) (hy : Ev w n h env e (isS x)) (hz : x.cps.size ≤ 1000) (hs : starEach [e] env = [(false, eval e env)] := by rfl) :
    Ev w n h env (.Call (.Name f p) [e] [] pos) (isL fun vs => StrsAre vs (x.cps.toList.map ch)) :=
  Ev.callT lf (Evs.cons hy .nil hs) (fun vs a b _ _ p => by obtain ⟨v, r, b', rfl, _, _, ⟨t, rfl⟩, rfl⟩ := p; exact Cl.listS hz) (anti_L _) hs
theorem Ev.file {m : Int} (G : Grd w h) (lf : Lk w h env f (.ref 152)) (hy : Ev w (n + 4) h env e (isI m)) (hs : starEach [e] env = [(false, eval e env)] := by rfl) :
    Ev w (n + 4) h env (.Call (.Name f p) [e] [] pos) (isS (txt (fileF m))) :=
  Ev.callF lf (G.K _ _ (by rfl)) rfl (Evs.cons hy .nil hs) (fun vs a b e1 e2 p => by obtain ⟨v, r, b', rfl, _, _, ⟨t, rfl⟩, rfl⟩ := p; exact (filemode_cl (G.ext (e1.trans e2))).up (Nat.le_add_left _ _)) (anti_S _) hs
theorem Ev.number {cs : List Nat} (G : Grd w h) (lf : Lk w h env f (.ref 169)) (hy : Ev w (n + 3) h env e (isL fun vs => StrsAre vs (cs.map ch))) (hr : ∀ c ∈ cs, 97 ≤ c ∧ c ≤ 105) (hz : cs.length ≤ 100) (hs : starEach [e] env = [(false, eval e env)] := by rfl) :
    Ev w (n + 3) h env (.Call (.Name f p) [e] [] pos) (isI (numF cs)) :=
  Ev.callF lf (G.K _ _ (by rfl)) rfl (Evs.cons hy .nil hs) (fun vs a b e1 e2 p => by
    obtain ⟨v, r, b', rfl, x1, x2, ⟨T, us, rfl, _, hl, hi⟩, rfl⟩ := p
    exact (number_cl (G.ext (e1.trans e2)) (isList_ext hl x2) hi hr hz).up (Nat.le_add_left _ _)) (anti_I _) hs
theorem Ev.free {rw : List Nat} {op : Bool} (G : Grd w h) (hr : RowS rw) (lf : Lk w h env f (.ref 174)) (h1 : Ev w (n + 6) h env e1 (isS (txt rw))) (h2 : Ev w (n + 6) h env e2 (isB op)) (hs : starEach [e1, e2] env = [(false, eval e1 env), (false, eval e2 env)] := by rfl) (hs2 : starEach [e2] env = [(false, eval e2 env)] := by rfl) :
    Ev w (n + 6) h env (.Call (.Name f p) [e1, e2] [] pos) (isS (txt (freeF (lettersF rw) op))) :=
  Ev.callF lf (G.K _ _ (by rfl)) rfl (Evs.cons h1 (Evs.cons h2 .nil hs2) (by rw [hs, hs2])) (fun vs a b e1 e2 p => by
    obtain ⟨v, r, b', rfl, x1, x2, ⟨t, rfl⟩, v2, r2, b2, rfl, x3, x4, hb, rfl⟩ := p
    rw [hb]
    exact (free_cl (G.ext (e1.trans e2)) hr).up (Nat.le_add_left _ _)) (anti_S _) (by rw [hs, hs2])
end
theorem len_abc {cs : List Nat} : ∀ c ∈ cs, c ∈ abc → 97 ≤ c ∧ c ≤ 105 := fun c _ h => abc_range c h
/-- what _law_chain gives back -/
inductive ChainIs (m : Int) (ls : List Nat) (op : Bool) (h0 h : Heap) (v : Value) : Prop
  | mk (T R : Addr) (t : Tok) (vs : List Value) (e : v = .ref T) (hn : h0.get? R = none) (ht : h.IsTuple T #[.str (txt (freeF ls op)) t, .ref R]) (hl : h.IsList R vs.toArray) (hp : Paired relT (rowsF m ls op) vs) : ChainIs m ls op h0 h v
inductive JChain (m : Int) (t : Tok) (op : Bool) (K R : Addr) (LS : List Nat) (k : Nat) (mk : Str → Option Value) (h : Heap) : Prop
  | mk (b1 : mk (Str.ofString "mode") = some (.int m t)) (b2 : mk (Str.ofString "opening") = some (.bool op)) (b3 : mk (Str.ofString "kept") = some (.ref K)) (b4 : mk (Str.ofString "rows") = some (.ref R)) (kk : Nat) (vs : List Value) (b : h.get? R = some (W.listOf vs.toArray kk)) (c : Paired relT ((rowsF m LS op).take k) vs) : JChain m t op K R LS k mk h
theorem chain_cl {w : World} {h : Heap} {m : Int} {r : List Nat} {t t' : Tok} {op : Bool} (G : Grd w h) (hr : RowS r) :
    Cl w 8 h (.ref 179) [.int m t, .str (txt r) t', .bool op] (fun v a b => ChainIs m (lettersF r) op a b v) := by
  refine Cl.codeC (n := 7) (binds := [(Str.ofString "mode", .int m t), (Str.ofString "row", .str (txt r) t'), (Str.ofString "opening", .bool op)]) G (by rfl) rfl rfl (by rfl) (by rfl) rfl (by rfl) ?_
  intro A s h0 env Q E henv ok G0 e0 F hn hcl q
  have he : FnEnv env := by rw [henv]; exact ⟨rfl, rfl, rfl⟩
  have hL : env.locals = h0.objs.size := by rw [henv]; rfl
  have i1 : interactive env = false := by rw [henv]; rfl
  have k1 : env.kindOf (Str.ofString "mode") = some .local := by rw [henv]; rfl
  have k2 : env.kindOf (Str.ofString "row") = some .local := by rw [henv]; rfl
  have k3 : env.kindOf (Str.ofString "opening") = some .local := by rw [henv]; rfl
  have k4 : env.kindOf (Str.ofString "free") = some .cell := by rw [henv]; rfl
  have k5 : env.kindOf (Str.ofString "kept") = some .local := by rw [henv]; rfl
  have k6 : env.kindOf (Str.ofString "rows") = some .local := by rw [henv]; rfl
  have k7 : env.kindOf (Str.ofString "k") = some .local := by rw [henv]; rfl
  have k8 : env.kindOf (Str.ofString "some") = some .local := by rw [henv]; rfl
  have g1 : env.kindOf (Str.ofString "_law_free") = some .globalImplicit := by rw [henv]; rfl
  have g2 : env.kindOf (Str.ofString "_law_letters") = some .globalImplicit := by rw [henv]; rfl
  have g3 : env.kindOf (Str.ofString "_law_number") = some .globalImplicit := by rw [henv]; rfl
  have g4 : env.kindOf (Str.ofString "filemode") = some .globalImplicit := by rw [henv]; rfl
  have g5 : env.kindOf (Str.ofString "range") = some .globalImplicit := by rw [henv]; rfl
  have g6 : env.kindOf (Str.ofString "len") = some .globalImplicit := by rw [henv]; rfl
  have g7 : env.kindOf (Str.ofString "list") = some .globalImplicit := by rw [henv]; rfl
  have c4 : env.cells.lookup (Str.ofString "free") = some (h0.objs.size + 1) := by rw [henv]; rfl
  have v4 : s.heap.IsCell (h0.objs.size + 1) none := by have := hcl _ _ c4; rw [henv] at this; exact this
  have hcells : env.cells = [(Str.ofString "free", h0.objs.size + 1)] := by rw [henv]; rfl
  have m1 : bindL env.kindOf [(Str.ofString "mode", .int m t), (Str.ofString "row", .str (txt r) t'), (Str.ofString "opening", .bool op)] (fun _ => none) (Str.ofString "mode") = some (.int m t) := by rw [henv]; rfl
  have m2 : bindL env.kindOf [(Str.ofString "mode", .int m t), (Str.ofString "row", .str (txt r) t'), (Str.ofString "opening", .bool op)] (fun _ => none) (Str.ofString "row") = some (.str (txt r) t') := by rw [henv]; rfl
  have m3 : bindL env.kindOf [(Str.ofString "mode", .int m t), (Str.ofString "row", .str (txt r) t'), (Str.ofString "opening", .bool op)] (fun _ => none) (Str.ofString "opening") = some (.bool op) := by rw [henv]; rfl
  clear hcl
  generalize bindL env.kindOf [(Str.ofString "mode", .int m t), (Str.ofString "row", .str (txt r) t'), (Str.ofString "opening", .bool op)] (fun _ => none) = mm at hn m1 m2 m3
  have Gs := G0.ext F
  generalize hLS : lettersF r = LS at q
  have hLSm : ∀ c ∈ LS, c ∈ abc := hLS ▸ letters_mem
  have hLSl : LS.length ≤ 9 := hLS ▸ letters_len
  have hfl := freeF_len LS op
  have hfm := freeF_mem LS op
  have zf : (txt (freeF LS op)).length < 1000000 := by rw [txt_len]; exact Nat.lt_of_le_of_lt hfl (by decide)
  have kL : h0.get? env.locals = none := size_none (by rw [hL]; exact Nat.le_refl _)
  have kC : h0.get? (h0.objs.size + 1) = none := size_none (Nat.le_succ _)
  have cne : h0.objs.size + 1 ≠ env.locals := by rw [hL]; exact Nat.ne_of_gt (Nat.lt_succ_self _)
  -- free = ..
  have l1 : Lk w s.heap env (Str.ofString "row") (.str (txt r) t') := .loc hn m2 he k2 (by decide)
  have l2 : Lk w s.heap env (Str.ofString "opening") (.bool op) := .loc hn m3 he k3 (by decide)
  have l3 : Lk w s.heap env (Str.ofString "_law_free") (.ref 174) := .glob Gs he g1 (by rfl) (by decide)
  refine run_assignC ok he k4 c4 v4 (Ev.free (n := 1) Gs hr l3 (Ev.nameS l1) (Ev.nameB l2)) ?_
  rintro v h1 h2 tk2 x1 ⟨tf, rfl⟩ sb2 u2
  rw [hLS] at u2
  have e2 : Ext h0 h2 := ((F.trans x1).b (M := [h0.objs.size + 1])).trans (sameB sb2 (List.mem_singleton.mpr rfl)) |>.base (Ext.refl _) (fun a ha => by rw [List.mem_singleton.mp ha]; exact kC)
  have hn2 := ns_same (hn.keeps x1) sb2 (Ne.symm cne)
  have G2 := G0.ext e2
  -- kept = ..
  have l4 : Lk w h2 env (Str.ofString "row") (.str (txt r) t') := .loc hn2 m2 he k2 (by decide)
  have l5 : Lk w h2 env (Str.ofString "_law_letters") (.ref 164) := .glob G2 he g2 (by rfl) (by decide)
  refine run_assignLC (s := { s with heap := h2, toks := tk2 }) (n := 7) (items := LS) (rel := relC) (relY := relC) (dec := decC) (p := fun c => !(freeF LS op).contains c) (cl := [(Str.ofString "free", h0.objs.size + 1)]) ok
    (Src.new ((Ev.letters (n := 4) G2 hr l5 (Ev.nameS l4)).mono ?_)) decC_of (Nat.le_trans hLSl (by decide)) (closureFor_eq (by rw [hcells]; rfl)) (by decide) rfl (by decide) rfl (by decide) he k5 hn2 ?_ ?_ ?_ (by rw [henv]; rfl)
  · rintro v a b _ _ ⟨T, us, a1, a2, a3, a4⟩
    rw [hLS] at a4
    exact ⟨T, us, a1, a2, a3, paired_unmap (F := relS) (f := ch) (are_strs a4)⟩
  · rintro c v hc C hcm ⟨tc, rfl⟩ ex lc
    generalize hce : compEnvC _ _ C env = ce at lc ⊢
    have hec : FnEnv ce := by rw [← hce]; exact he.comp rfl
    have lfr : Lk w hc ce (Str.ofString "free") (.str (txt (freeF LS op)) tf) := .cell (by rw [← hce]; rfl) (u2.keeps ex) hec (by rw [← hce]; exact relabel_cell (by rfl) he k4) (by decide)
    refine (Tr.cmp (Ev.nameS lc) (Ev.nameS lfr) (fun _ _ _ _ _ _ _ _ p q => by obtain ⟨t, rfl⟩ := p; obtain ⟨u, rfl⟩ := q; exact Cmp.ninS)).b ?_
    refine (empty_one (txt (freeF LS op)) c).trans ?_
    rw [txt_cps]
    simp
  · rintro c v hc C hcm _ ⟨tc, rfl⟩ ex lc
    exact (Ev.nameS lc).mono fun v _ _ _ _ p => p
  intro K h3 tk3 ks hKn hK hks hn3 kb3
  have hks' : Paired relC (keptF LS op) ks := hks
  have hKL : K ≠ env.locals := ns_ne hn2 hKn
  have e3 : Ext h0 h3 := kb3.base e2 fun a ha => by rw [List.mem_singleton.mp ha]; exact kL
  have u3 : h3.IsCell (h0.objs.size + 1) (some (.str (txt (freeF LS op)) tf)) := by obtain ⟨o, ho, hd⟩ := u2; exact ⟨o, kb3 _ _ (nm1 cne) ho, hd⟩
  have G3 := G0.ext e3
  -- rows = []
  refine run_assign (s := { s with heap := h3, toks := tk3 }) ok he k6 hn3 Ev.nilO ?_
  rintro v h4 h5 tk5 x4 ⟨R, vs, rfl, hRn, hR4, rfl⟩ sb5 hn5
  have hRL : R ≠ env.locals := ns_ne hn3 hRn
  have hR5 : h5.get? R = some (W.listOf #[] 0) := sb5.extBut _ _ hRL hR4
  have e5 : Ext h0 h5 := ((e3.trans x4).b (M := [env.locals])).trans (sameB sb5 (List.mem_singleton.mpr rfl)) |>.base (Ext.refl _) (fun a ha => by rw [List.mem_singleton.mp ha]; exact kL)
  have u5 := isCell_same (u3.keeps x4) sb5 cne
  have hK5 : h5.IsList K ks.toArray := isList_same (isList_ext hK x4) sb5 hKL
  have G5 := G0.ext e5
  have hKR : K ≠ R := fun e => by obtain ⟨o, ho, _⟩ := hK; rw [e, hRn] at ho; cases ho
  have hCR : h0.objs.size + 1 ≠ R := fun e => by obtain ⟨o, ho, _⟩ := u3; rw [e, hRn] at ho; cases ho
  have lr : Lk w h5 env (Str.ofString "range") (.type "range") := .blt G5 he g5 (by rfl) (by rfl) (by decide) (by decide)
  have ll : Lk w h5 env (Str.ofString "len") (.builtin "len") := .blt G5 he g6 (by rfl) (by rfl) (by decide) (by decide)
  have lf : Lk w h5 env (Str.ofString "free") (.str (txt (freeF LS op)) tf) := .cell c4 u5 he k4 (by decide)
  have nm : ∀ {a : Str}, a ≠ Str.ofString "rows" → a ≠ Str.ofString "kept" → upd (upd mm (Str.ofString "kept") (.ref K)) (Str.ofString "rows") (.ref R) a = mm a := fun h1 h2 => upd_ne (upd_ne rfl h2) h1
  refine run_for (hb := h0) (x := Str.ofString "k") (s := { s with heap := h5, toks := tk5 }) ok he k7 hn5 (Src.range (N := (freeF LS op).length + 1) lr ((Ev.addI (Ev.lenS ll (Ev.nameS lf) zf) .int).i (by rw [txt_len]; rfl)) (by omega)) e5 [R] ?_ (by simp) (by simpa using Ne.symm hRL)
    (JChain m t op K R LS) ?_ ⟨(nm (by decide) (by decide)).trans m1, (nm (by decide) (by decide)).trans m3, upd_ne upd_eq, upd_eq, 0, [], hR5, .nil⟩ ?_ ?_
  · intro a ha
    rcases List.mem_cons.mp ha with rfl | ha
    · obtain ⟨o, _, _, ho, _⟩ := hn5
      exact ⟨kL, o, ho⟩
    · rw [List.mem_singleton.mp ha]
      exact ⟨e3.none hRn, _, hR5⟩
  · rintro k mk g g' ⟨a1, a2, a3, a4, kk, vs, b, c⟩ hk
    exact ⟨a1, a2, a3, a4, kk, vs, hk R (List.mem_singleton.mpr rfl) _ b, c⟩
  · rintro i a v mk h6 tk6 Q' E' hi ⟨tv, rfl⟩ ⟨b1, b2, b3, b4, kk, vs, hR6, hp6⟩ hn6 e6 kb6 qn _
    have hi9 : i < (freeF LS op).length + 1 ∧ a = i := by
      rw [List.getElem?_eq_some_iff] at hi
      obtain ⟨h1, h2⟩ := hi
      simp at h1 h2
      exact ⟨h1, h2.symm⟩
    obtain ⟨hi9, rfl⟩ := hi9
    have G6 := G0.ext e6
    have u6 : h6.IsCell (h0.objs.size + 1) (some (.str (txt (freeF LS op)) tf)) := by obtain ⟨o, ho, hd⟩ := u5; exact ⟨o, kb6 _ _ (nm2 cne hCR) ho, hd⟩
    have hK6 : h6.IsList K ks.toArray := by obtain ⟨o, ho, hd⟩ := hK5; exact ⟨o, kb6 _ _ (nm2 hKL hKR) ho, hd⟩
    have lk : Lk w h6 env (Str.ofString "k") (.int a tv) := .loc hn6 upd_eq he k7 (by decide)
    have lf6 : Lk w h6 env (Str.ofString "free") (.str (txt (freeF LS op)) tf) := .cell c4 u6 he k4 (by decide)
    have lo6 : Lk w h6 env (Str.ofString "opening") (.bool op) := .loc hn6 (upd_ne b2) he k3 (by decide)
    have ll6 : Lk w h6 env (Str.ofString "len") (.builtin "len") := .blt G6 he g6 (by rfl) (by rfl) (by decide) (by decide)
    -- some = ..
    refine run_assign (s := { s with heap := h6, toks := tk6 }) (P := isS (txt (someF (freeF LS op) op a))) ok he k8 hn6 (Ev.ifS (c := op) (Tr.ofB (Ev.nameB lo6)) (fun ho => ?_) (fun ho => ?_)) ?_
    · refine (Ev.sliceS (Ev.nameS lf6) (.some (Ev.subI (Ev.lenS ll6 (Ev.nameS lf6) zf) (Ev.nameI lk))) .none (Nat.le_of_lt zf)).s ?_
      rw [txt_len]
      have : (((freeF LS op).length : Nat) : Int) - ((a : Nat) : Int) = (((freeF LS op).length - a : Nat) : Int) := (Int.ofNat_sub (Nat.le_of_lt_succ hi9)).symm
      rw [this, slice_from_txt _ _ (Nat.sub_le ..)]
      unfold someF; rw [if_pos ho]
    · refine (Ev.sliceS (Ev.nameS lf6) .none (.some (Ev.nameI lk)) (Nat.le_of_lt zf)).s ?_
      rw [slice_to_txt _ _ (Nat.le_of_lt_succ hi9)]
      unfold someF; rw [if_neg (by rw [ho]; simp)]
    rintro v h7 h8 tk8 x7 ⟨ts, rfl⟩ sb8 hn8
    have e8 : Ext h0 h8 := ((e6.trans x7).b (M := [env.locals])).trans (sameB sb8 (List.mem_singleton.mpr rfl)) |>.base (Ext.refl _) (fun a ha => by rw [List.mem_singleton.mp ha]; exact kL)
    have G8 := G0.ext e8
    have hR8 : h8.get? R = some (W.listOf vs.toArray kk) := sb8.extBut _ _ hRL (x7 _ _ hR6)
    have hK8 : h8.IsList K ks.toArray := isList_same (isList_ext hK6 x7) sb8 hKL
    have lm8 : Lk w h8 env (Str.ofString "mode") (.int m t) := .loc hn8 (upd_ne (upd_ne b1)) he k1 (by decide)
    have lk8 : Lk w h8 env (Str.ofString "kept") (.ref K) := .loc hn8 (upd_ne (upd_ne b3)) he k5 (by decide)
    have lr8 : Lk w h8 env (Str.ofString "rows") (.ref R) := .loc hn8 (upd_ne (upd_ne b4)) he k6 (by decide)
    have ls8 : Lk w h8 env (Str.ofString "some") (.str (txt (someF (freeF LS op) op a)) ts) := .loc hn8 upd_eq he k8 (by decide)
    have lF8 : Lk w h8 env (Str.ofString "filemode") (.ref 152) := .glob G8 he g4 (by rfl) (by decide)
    have lN8 : Lk w h8 env (Str.ofString "_law_number") (.ref 169) := .glob G8 he g3 (by rfl) (by decide)
    have lL8 : Lk w h8 env (Str.ofString "list") (.type "list") := .blt G8 he g7 (by rfl) (by rfl) (by decide) (by decide)
    have hksl : ks.length ≤ 9 := by rw [← hks'.length]; exact Nat.le_trans (List.length_filter_le _ _) hLSl
    have hsl : (someF (freeF LS op) op a).length ≤ 9 := Nat.le_trans someF_len hfl
    have hvl : vs.length ≤ 100 := by rw [← hp6.length, List.length_take]; exact Nat.le_trans (Nat.min_le_left ..) (Nat.le_trans (Nat.le_of_lt_succ hi9) (Nat.le_trans hfl (by decide)))
    refine run_append (s := { s with heap := h8, toks := tk8 }) (P := isS (txt (rowAt m LS op a))) ok lr8 hR8 ?_ (Nat.le_trans hvl (by decide)) ?_ i1
    · refine Ev.file (n := 3) G8 lF8 (Ev.addI (Ev.subI (Ev.nameI lm8) (Ev.modI (Ev.nameI lm8) .int (by decide))) (Ev.number (n := 4) (cs := keptF LS op ++ someF (freeF LS op) op a) G8 lN8 (Ev.addVL (Ev.name lk8) hK8 (Ev.listOfS lL8 (Ev.nameS ls8) (by show (txt _).length ≤ _; rw [txt_len]; omega)) ?_) ?_ ?_))
      · intro ws hws
        rw [txt_cps] at hws
        refine ⟨by rw [hws.length, List.length_map]; omega, ?_⟩
        rw [List.map_append]
        exact strs_are (paired_append (paired_map (F := relS) (f := ch) hks') (are_strs hws))
      · intro c hc
        rcases List.mem_append.mp hc with hc | hc
        · exact abc_range c (hLSm c (List.mem_filter.mp hc).1)
        · exact abc_range c (hfm c (someF_mem c hc))
      · rw [List.length_append]
        have : (keptF LS op).length ≤ LS.length := List.length_filter_le _ _
        omega
    rintro v h9 hA tkA x9 ⟨tr, rfl⟩ sbA lA
    refine run_nil (qn hA tkA _ ?_ (ns_same (hn8.keeps x9) sbA (Ne.symm hRL)) ⟨upd_ne (upd_ne b1), upd_ne (upd_ne b2), upd_ne (upd_ne b3), upd_ne (upd_ne b4), kk + 1, vs ++ [.str (txt (rowAt m LS op a)) tr], by rw [← List.push_toArray]; exact lA, ?_⟩)
    · exact ((x7.b.trans (sameB sb8 (by simp))).trans x9.b).trans (sameB sbA (by simp))
    · rw [rowsF, take_succ_map _ _ _ a (by simp [hi9])]
      exact paired_append hp6 (.cons ⟨tr, rfl⟩ .nil)
  intro h6 tk6 m6 kb6 e6 hn6 hj6
  obtain ⟨b1, b2, b3, b4, kk, vs, hR6, hp6⟩ := hj6
  have hp6' : Paired relT (rowsF m LS op) vs := by rwa [List.take_of_length_le (by simp [rowsF])] at hp6
  have u6 : h6.IsCell (h0.objs.size + 1) (some (.str (txt (freeF LS op)) tf)) := by obtain ⟨o, ho, hd⟩ := u5; exact ⟨o, kb6 _ _ (nm2 cne hCR) ho, hd⟩
  have lf6 : Lk w h6 env (Str.ofString "free") (.str (txt (freeF LS op)) tf) := .cell c4 u6 he k4 (by decide)
  have lr6 : Lk w h6 env (Str.ofString "rows") (.ref R) := .loc hn6 b4 he k6 (by decide)
  refine run_ret (s := { s with heap := h6, toks := tk6 }) ok (.refl _) (Ev.tuple (Evs.cons (Ev.name lf6) (Evs.cons (Ev.name lr6) .nil)) fun vs a b p => ?_) fun v h' tk e p => q v h' tk (e6.trans e) ?_
  · obtain ⟨v1, r1, b1, rfl, _, _, _, v2, r2, b2, rfl, _, _, _, rfl⟩ := p
    rw [sizeLine_eq]; simp
  · obtain ⟨T, vs', b', rfl, _, x1, x2, ht, v1, r1, b1, rfl, _, _, hv1, v2, r2, b2, rfl, _, _, hv2, rfl⟩ := p
    rw [hv1, hv2] at ht
    exact ⟨T, R, tf, vs, rfl, e3.none hRn, by simpa using ht, isList_ext ⟨_, hR6, rfl, _, rfl⟩ e, hp6'⟩
end Mine
end

-- X1
section
open PySem PySem.W PyProof.Rows PySem.Calls PySem.Spec
set_option maxRecDepth 100000
set_option maxHeartbeats 1000000
namespace Mine
/-- an IndexError with its traceback T -/
structure NewE (h h' : Heap) (e : Addr) (c : Value) : Prop where
  keeps : ∀ b o, h.get? b = some o → h'.get? b = some o
  new : h.get? e = none
  there : ∃ ob vs, h'.get? e = some ob ∧ ob.cls = .type "IndexError" ∧ ob.data = .fields vs ∧ vs[1]? = some .none ∧ vs[2]? = some c
theorem NewE.of {h h' : Heap} {e : Addr} (x : Heap.NewExc h h' e "IndexError") : NewE h h' e .none := ⟨x.keeps, x.new, let ⟨ob, t, a, b, c⟩ := x.there; ⟨ob, _, a, b, c, rfl, rfl⟩⟩
inductive ExcAt (h : Heap) (e T : Addr) (fl c : Value) : Prop
  | mk (oe : Obj) (vs : Array Value) (oT : Obj) (ts : Array Value) (a1 : h.get? e = some oe) (a2 : oe.cls = .type "IndexError") (a3 : oe.data = .fields vs) (a4 : vs[1]? = some (.ref T)) (a5 : vs[2]? = some c) (a6 : T ≠ e) (a7 : h.get? T = some oT) (a8 : oT.data = .fields ts) (a9 : ts[3]? = some fl) : ExcAt h e T fl c
/-- all objects kept, those of Fs up to their slots -/
structure UpS (Fs : List Addr) (h h' : Heap) : Prop where
  off : ∀ b o, b ∉ Fs → h.get? b = some o → h'.get? b = some o
  on : ∀ b o, b ∈ Fs → h.get? b = some o → ∃ sl, h'.get? b = some { o with slots := sl }
theorem UpS.refl (Fs : List Addr) (h : Heap) : UpS Fs h h := ⟨fun _ _ _ e => e, fun _ o _ e => ⟨o.slots, e⟩⟩
theorem UpS.trans {Fs : List Addr} {a b c : Heap} (x : UpS Fs a b) (y : UpS Fs b c) : UpS Fs a c :=
  ⟨fun q o hq e => y.1 q o hq (x.1 q o hq e), fun q o hq e => by obtain ⟨sl, e1⟩ := x.2 q o hq e; obtain ⟨sl', e2⟩ := y.2 q _ hq e1; exact ⟨sl', e2⟩⟩
theorem UpS.ext {Fs : List Addr} {a b : Heap} (x : Ext a b) : UpS Fs a b := ⟨fun q o _ e => x q o e, fun q o _ e => ⟨o.slots, x q o e⟩⟩
theorem UpS.ns {Fs : List Addr} {a b : Heap} {L : Addr} {m : Str → Option Value} (x : UpS Fs a b) (hn : a.Ns L m) : b.Ns L m := by
  obtain ⟨o, es, ep, ho, hd, r⟩ := hn
  by_cases hL : L ∈ Fs
  · obtain ⟨sl, e⟩ := x.2 L o hL ho
    exact ⟨_, es, ep, e, hd, r⟩
  · exact ⟨o, es, ep, x.1 L o hL ho, hd, r⟩
/-- the frames that stand -/
structure Frms (env envL : Env) (L LL : Addr) (h : Heap) : Prop where
  k1 : env.scope.kind ≠ .module
  k2 : envL.scope.kind ≠ .module
  f1 : env.frame = some L
  f2 : envL.frame = some LL
  d1 : ∃ o es ep, h.get? L = some o ∧ o.data = .dict es ep
  d2 : ∃ o es ep, h.get? LL = some o ∧ o.data = .dict es ep
theorem Frms.up {env envL : Env} {L LL : Addr} {h h' : Heap} (x : Frms env envL L LL h) (u : UpS [L, LL] h h') : Frms env envL L LL h' := by
  refine ⟨x.k1, x.k2, x.f1, x.f2, ?_, ?_⟩
  · obtain ⟨o, es, ep, ho, hd⟩ := x.d1; obtain ⟨sl, e⟩ := u.2 L o (by simp) ho; exact ⟨_, es, ep, e, hd⟩
  · obtain ⟨o, es, ep, ho, hd⟩ := x.d2; obtain ⟨sl, e⟩ := u.2 LL o (by simp) ho; exact ⟨_, es, ep, e, hd⟩
noncomputable def noHeap : Heap := { objs := #[] }
theorem noHeap_none (a : Addr) : noHeap.get? a = none := size_none (Nat.zero_le _)
section
variable {w : World} {A : Around} {E : Value → Shared → Prop} {s : Shared} {env envL : Env} {L LL e T : Addr} {fl cx : Value}
theorem Frms.fun (x : Frms env envL L LL s.heap) : s.heap.FunFrames noHeap [env, envL] := by
  obtain ⟨o, es, ep, ho, hd⟩ := x.d1
  obtain ⟨o2, es2, ep2, ho2, hd2⟩ := x.d2
  exact ⟨x.k1, ⟨L, o, x.f1, noHeap_none _, ho, fun vs q => by rw [hd] at q; cases q⟩, x.k2, ⟨LL, o2, x.f2, noHeap_none _, ho2, fun vs q => by rw [hd2] at q; cases q⟩, trivial⟩
/-- a new exception's first entry -/
theorem note_new {Q : Unit → Shared → Prop} {h : Heap} (hfr : A.frames = some [env, envL]) (F : Frms env envL L LL h) (hx : NewE h s.heap e cx)
    (q : ∀ h' T, UpS [L, LL] h h' → h.get? T = none → h.get? e = none → ExcAt h' e T (rawInt L) cx → Q () { s with heap := h' }) : wpAny (MM w) A (noteFrame (.ref e) env) Q E s := by
  obtain ⟨oe, vs, he, hc, hd, h1, h2⟩ := hx.there
  have hsz : 1 < vs.size := (Array.getElem?_eq_some_iff.mp h1).1
  have F' := F.up (UpS.ext hx.keeps)
  have hl := F'.fun
  unfold noteFrame
  simp only [F.f1]
  refine wpAny_bind (wpAny_field he hd (x := .none) h1 ?_)
  rw [if_neg (by decide)]
  refine wpAny_bind (wpAny_frameOf_fun hfr hl F.f1 fun h₁ hs₁ => ?_)
  have hfs : [env, envL].filterMap (·.frame) = [L, LL] := by simp [F.f1, F.f2]
  rw [hfs] at hs₁
  have hene : e ∉ [L, LL] := by
    intro hm
    obtain ⟨o, es, ep, ho, hd'⟩ := F.d1
    obtain ⟨o2, es2, ep2, ho2, hd2⟩ := F.d2
    have hn := hx.new
    rcases List.mem_cons.mp hm with rfl | hm
    · rw [ho] at hn; cases hn
    · rw [List.mem_singleton.mp hm, ho2] at hn; cases hn
  refine wpAny_bind (wpAny_entryPlaceOf fun pl hpl => ?_)
  unfold EntryCells.newEntry newFields
  refine wpAny_bind (wpAny_newObj_type ?_ (hpl.sizeOk5 _ _ _ _ _))
  have he₁ : h₁.get? e = some oe := (hs₁.2.1 e hene).trans he
  have he₂ := Heap.get?_push_of_some (h := h₁) { cls := .type "traceback", dict := none, data := .fields ([Value.none, .ref L, .none, rawInt L, .none] ++ (if pl.isEmpty then List.replicate 6 Value.none else pl)).toArray } he₁
  refine wpAny_setField he₂ hd hsz (q _ h₁.objs.size ?_ ?_ hx.new ?_)
  · refine ⟨fun b o hb eb => ?_, fun b o hb eb => ?_⟩
    · have hbe : b ≠ e := fun e' => by rw [e', hx.new] at eb; cases eb
      rw [Heap.get?_update_other _ _ (Ne.symm hbe)]
      exact Heap.get?_push_of_some _ ((hs₁.2.1 b hb).trans (hx.keeps _ _ eb))
    · have hbe : b ≠ e := fun e' => hene (e' ▸ hb)
      obtain ⟨sl, h1⟩ := hs₁.2.2 b o (hx.keeps _ _ eb)
      refine ⟨sl, ?_⟩
      rw [Heap.get?_update_other _ _ (Ne.symm hbe)]
      exact Heap.get?_push_of_some _ h1
  · cases hq : h.get? h₁.objs.size with
    | none => rfl
    | some o => exact absurd (Heap.lt_size (hx.keeps _ _ hq)) (by rw [hs₁.1]; exact Nat.lt_irrefl _)
  · have hTe : h₁.objs.size ≠ e := Nat.ne_of_gt (Heap.lt_size he₁)
    have hd₃ := Obj.data_mapFields hd (·.setIfInBounds 1 (Value.ref h₁.objs.size))
    have hT₃ := (Heap.get?_update_other (h₁.push { cls := .type "traceback", dict := none, data := .fields ([Value.none, .ref L, .none, rawInt L, .none] ++ (if pl.isEmpty then List.replicate 6 Value.none else pl)).toArray })
      (Obj.mapFields (·.setIfInBounds 1 (Value.ref h₁.objs.size))) (Ne.symm hTe)).trans (Heap.get?_push_size h₁ rfl)
    refine ⟨_, _, _, _, Heap.get?_update_self _ he₂ (Obj.isFreed_of_fields hd₃), (Obj.cls_mapFields ..).trans hc, hd₃, by simp [hsz], by rw [Array.getElem?_setIfInBounds_ne (by decide)]; exact h2, hTe, hT₃, rfl, ?_⟩
    · first | (simp; done) | (rcases hpl with rfl | ⟨_, _, _, _, _, _, _, rfl⟩ <;> simp)
theorem note_again {Q : Unit → Shared → Prop} (hf : env.frame = some L) (x : ExcAt s.heap e T (rawInt L) cx) (q : Q () s) : wpAny (MM w) A (noteFrame (.ref e) env) Q E s := by
  obtain ⟨oe, vs, oT, ts, he, hc, hd, h1, h2, hTe, hT, hdT, h3⟩ := x
  exact wpAny_noteFrame_inFlight hf he hd h1 hT hdT h3 q
theorem flight {Q : Unit → Shared → Prop} (fr : Option Addr) (x : ExcAt s.heap e T fl cx) (q : ∀ h', Heap.SameBut T s.heap h' → ExcAt h' e T (fr.elim .none fun f => rawInt f) cx → Q () { s with heap := h' }) : wpAny (MM w) A (setFlight (.ref e) fr) Q E s := by
  obtain ⟨oe, vs, oT, ts, he, hc, hd, h1, h2, hTe, hT, hdT, h3⟩ := x
  have hsz : 3 < ts.size := (Array.getElem?_eq_some_iff.mp h3).1
  unfold setFlight
  refine wpAny_bind (wpAny_field he hd h1 ?_)
  rw [if_pos (show (Value.ref T != Value.none) = true from by simp)]
  refine wpAny_setField hT hdT hsz (q _ (Heap.SameBut.update ..) ?_)
  refine ⟨oe, vs, _, _, ?_, hc, hd, h1, h2, hTe, Heap.get?_update_self _ hT (Obj.isFreed_of_fields (Obj.data_mapFields hdT _)), Obj.data_mapFields hdT _, by simp [hsz]⟩
  exact (Heap.SameBut.update ..).extBut _ _ (Ne.symm hTe) he
theorem came_back (hf : env.frame = some L) (x : ExcAt s.heap e T fl cx) (q : ∀ h', Heap.SameBut T s.heap h' → ExcAt h' e T (rawInt L) cx → E (.ref e) { s with heap := h' }) : cameBackBy (MM w) A env E (.ref e) s := by
  have x' := x
  obtain ⟨oe, vs, oT, ts, he, hc, hd, h1, h2, hTe, hT, hdT, h3⟩ := x
  unfold cameBackBy
  refine wpAny_bind (wpAny_field he hd h1 ?_)
  rw [if_neg (by simp)]
  rw [hf]
  exact flight (some L) x' q
theorem pass_on {α : Type} {what : String} {Q : α → Shared → Prop} (hf : env.frame = some L) (x : ExcAt s.heap e T fl cx) (q : ∀ h', Heap.SameBut T s.heap h' → ExcAt h' e T (rawInt L) cx → E (.ref e) { s with heap := h' }) : wpAny (MM w) A (PySem.passOn what (.ref e) env : Sem α) Q E s := by
  have x' := x
  obtain ⟨oe, vs, oT, ts, he, hc, hd, h1, h2, hTe, hT, hdT, h3⟩ := x
  unfold PySem.passOn
  refine wpAny_bind (wpAny_field he hd h1 ?_)
  rw [if_neg (by simp)]
  refine wpAny_bind ?_
  rw [hf]
  exact flight (some L) x' fun h' a b => wpAny_throw (q h' a b)
theorem entry_un : entryFor table "proto.unchain" = some Builtin.«proto.unchain» := entryFor_of_tree (by kernel_rfl)
/-- a new IndexError while another is handled -/
theorem raise_under {α : Type} {msg : String} {Q : α → Shared → Prop} {oe : Obj} {vs : Array Value} (hh : A.handled = some (.ref e)) (he : s.heap.get? e = some oe) (hd : oe.data = .fields vs) (h2 : vs[2]? = some .none)
    (q : ∀ h' tk e', NewE s.heap h' e' (.ref e) → E (.ref e') { s with heap := h', toks := tk }) : wpAny (MM w) A (raiseErrorWords "IndexError" msg : Sem α) Q E s := by
  have hp := plainExc_IndexError
  unfold raiseErrorWords
  refine wpAny_bind (wpAny_mkText (wpAny_bind ?_))
  unfold newExc newTuple
  refine wpAny_bind (wpAny_newObj_type ?_)
  refine wpAny_bind (m := firstArgMember _ _) (wpAny_of_eq (a := Value.none) (by simp only [firstArgMember, hp.first]; rfl) ?_)
  rw [hp.own]
  refine wpAny_newObj_type ?_
  unfold raiseNew
  refine wpAny_bind (wpAny_handled ?_)
  rw [hh]
  have hene : e ≠ (s.heap.push { cls := .type "tuple", data := .seq [Value.str (Str.ofString msg) s.toks].toArray }).objs.size := by
    rw [Heap.size_push]; exact Nat.ne_of_lt (Nat.lt_succ_of_lt (Heap.lt_size he))
  have he2 : ((s.heap.push { cls := .type "tuple", data := .seq [Value.str (Str.ofString msg) s.toks].toArray }).push { cls := .type "IndexError", data := .fields (#[.ref s.heap.objs.size, .none, .none, .none, .bool false, .none] ++ #[]) }).get? e = some oe := Heap.get?_push_of_some _ (Heap.get?_push_of_some _ he)
  dsimp only
  rw [if_pos (by simpa using hene)]
  refine wpAny_bind (wpAny_holding (wpAny_runValue (codeAny_builtin entry_un ?_)))
  unfold Builtin.«proto.unchain»
  refine wpAny_bind (wpAny_field he2 hd h2 ?_)
  refine wpAny_pure ?_
  have hN := Heap.get?_push_size (s.heap.push { cls := .type "tuple", data := .seq #[Value.str (Str.ofString msg) s.toks] }) (o := { cls := .type "IndexError", data := .fields (#[.ref s.heap.objs.size, .none, .none, .none, .bool false, .none] ++ #[]) }) rfl
  show wpAny _ _ (updateField _ 2 (.ref e) >>= fun _ => throw _) _ _ _
  unfold updateField
  refine wpAny_bind (wpAny_bind (wpAny_load hN ?_))
  refine wpAny_update hN (wpAny_throw (q _ _ _ ⟨fun b o hb => ?_, Heap.get?_none_of_le (by simp), _, _, Heap.get?_update_self _ hN rfl, rfl, rfl, rfl, rfl⟩))
  have hbn : b ≠ (s.heap.push { cls := .type "tuple", data := .seq #[Value.str (Str.ofString msg) s.toks] }).objs.size := by
    rw [Heap.size_push]; exact Nat.ne_of_lt (Nat.lt_succ_of_lt (Heap.lt_size hb))
  rw [Heap.get?_update_other _ _ (Ne.symm hbn)]
  exact Heap.get?_push_of_some _ (Heap.get?_push_of_some _ hb)
end
end Mine
end

-- X2
section
open PySem PySem.W PyProof.Rows PySem.Calls PySem.Spec
set_option maxRecDepth 100000
set_option maxHeartbeats 1000000
namespace Mine
section
variable {w : World} {A : Around} {E : Value → Shared → Prop} {s : Shared}
/-- what is handled: nothing, or an exception without a context -/
noncomputable def Hdl (A : Around) (h : Heap) (c : Value) : Prop := (A.handled = none ∧ c = .none) ∨ ∃ e oe vs, A.handled = some (.ref e) ∧ c = .ref e ∧ h.get? e = some oe ∧ oe.data = .fields vs ∧ vs[2]? = some .none
theorem raise_ix {α : Type} {msg : String} {c : Value} {Q : α → Shared → Prop} (hd : Hdl A s.heap c) (q : ∀ h' tk e, NewE s.heap h' e c → E (.ref e) { s with heap := h', toks := tk }) : wpAny (MM w) A (raiseErrorWords "IndexError" msg : Sem α) Q E s := by
  rcases hd with ⟨a, rfl⟩ | ⟨e, oe, vs, a, rfl, b, d, f⟩
  · exact wpAny_raiseErrorWords plainExc_IndexError a fun h' tk e x => q h' tk e (.of x)
  · exact raise_under a b d f q
theorem item_out {l : Addr} {items : Array Value} {k : Int} {t : Tok} {c : Value} {Q : Value → Shared → Prop} (hA : Hdl A s.heap c) (hl : s.heap.IsList l items) (hout : (items.size : Int) ≤ k) (hlo : -(2 ^ 63) ≤ k) (hhi : k < 2 ^ 63)
    (q : ∀ h' tk e, NewE s.heap h' e c → E (.ref e) { s with heap := h', toks := tk }) : wpAny (MM w) A (getItem (.ref l) (.int k t)) Q E s := by
  obtain ⟨o, ho, hc, ne, hd⟩ := id hl
  unfold getItem
  try with_reducible refine wpAny_holding ?_
  first | refine wpAny_bind (wpAny_pure ?_) | skip
  refine wpAny_bind (wpAny_sequenceKey hl.typeIs (by decide) ?_)
  refine wpAny_bind (wpAny_callSpecial?_slot (name := Str.ofString "__getitem__") hl.typeIs slot_list_getitem
    (wpAny_call_entry slot_list_getitem hl.typeIs entry_list_getitem ?_ (args_list_getitem _ _)))
  show wpAny _ _ (Builtin.List.listSubscript? (.int k t) >>= _) _ _ s
  refine wpAny_bind (wpAny_listSubscript_int (fitsIndex_both hlo hhi) ?_)
  clear hlo hhi
  have hA' : Hdl A.in1 s.heap c := hA
  cases k with
  | ofNat j =>
    have hx : items[j]? = none := Array.getElem?_eq_none (by have : (items.size : Int) ≤ (j : Int) := hout; omega)
    show wpAny _ _ ((seqItemAt l j >>= fun r => pure (r.map (j, ·))) >>= _) _ _ s
    refine wpAny_bind (wpAny_bind (wpAny_seqItemAt ho hd (wpAny_pure ?_)))
    rw [hx]
    first
      | exact wpAny_bind (wpAny_rule (raise_ix hA' q))
      | exact wpAny_bind (wpAny_rule (wpAny_bind (raise_ix hA' q)))
      | exact wpAny_bind (wpAny_bind (wpAny_rule (raise_ix hA' q)))
      | exact wpAny_rule (raise_ix hA' q)
  | negSucc j => exact absurd hout (by have := Int.negSucc_lt_zero j; omega)
/-- an item, there or not -/
theorem item_at {pos : Pos} {env : Env} {l : Addr} {vs : List Value} {k : Nat} {t : Tok} {c : Value} {x1 x2 : Str} {p1 p2 : Pos} {Q : Value → Shared → Prop} (lv : Lk w s.heap env x1 (.ref l)) (li : Lk w s.heap env x2 (.int k t)) (hA : Hdl A s.heap c) (hl : s.heap.IsList l vs.toArray) (hz : k < 100000)
    (q : ∀ v, vs[k]? = some v → Q v s) (qe : vs.length ≤ k → ∀ h' tk e, NewE s.heap h' e c → E (.ref e) { s with heap := h', toks := tk })
    (hs : subscripted (.Name x2 p2) false (.ref l) (.int k t) = operate [.ref l, .int k t] (getItem (.ref l) (.int k t)) := by with_unfolding_all rfl) :
    wpAny (MM w) A (eval (.Subscript (.Name x1 p1) (.Name x2 p2) pos) env) Q E s := by
  refine Subscript_ (lv A s _ E p1 (.refl _) (li A s _ E p2 (.refl _) ?_))
  refine tail_any hl.typeIs list_getitem_lookup ?_ hs
  by_cases hk : k < vs.length
  · have hv : vs[k]? = some vs[k] := by simp [hk]
    exact wpAny_getItem_list hl (by omega) (by simp; omega) (by simpa using hv) (q _ hv)
  · exact item_out hA hl (by simp; omega) (by omega) (by omega) (qe (by omega))
end
end Mine
end

-- P5
section
open PySem
namespace Mine
/-- the difference of two sorted lists, by steps -/
noncomputable def sldG : Nat → List (List Nat) → List (List Nat) → List (List Nat) × List (List Nat)
  | 0, xs, ys => (xs, ys)
  | _ + 1, [], ys => ([], ys)
  | _ + 1, x :: xs, [] => (x :: xs, [])
  | n + 1, x :: xs, y :: ys =>
    if decide (x < y) then (x :: (sldG n xs (y :: ys)).1, (sldG n xs (y :: ys)).2)
    else if decide (y < x) then ((sldG n (x :: xs) ys).1, y :: (sldG n (x :: xs) ys).2)
    else sldG n xs ys
noncomputable def sldF (xs ys : List (List Nat)) : List (List Nat) × List (List Nat) := sldG (xs.length + ys.length + 1) xs ys
theorem sldG_nil (n : Nat) (ys : List (List Nat)) : sldG n [] ys = ([], ys) := by cases n <;> rfl
theorem sldG_nil2 (n : Nat) (xs : List (List Nat)) : sldG n xs [] = (xs, []) := by cases n <;> cases xs <;> rfl
/-- neighbours differ -/
noncomputable def Adj (xs : List (List Nat)) : Prop := ∀ i a b, xs[i]? = some a → xs[i + 1]? = some b → a ≠ b
theorem drop_cons {α : Type} {l : List α} {i : Nat} {a : α} (h : l[i]? = some a) : l.drop i = a :: l.drop (i + 1) := by
  obtain ⟨h1, rfl⟩ := List.getElem?_eq_some_iff.mp h
  exact List.drop_eq_getElem_cons h1
theorem drop_nil {α : Type} {l : List α} {i : Nat} (h : l.length ≤ i) : l.drop i = [] := List.drop_eq_nil_of_le h
end Mine
end

-- X3
section
open PySem PySem.W PyProof.Rows PySem.Calls PySem.Spec
set_option maxRecDepth 100000
set_option maxHeartbeats 1000000
namespace Mine
inductive SNs (L X Y M U : Addr) (i j : Nat) (h : Heap) : Prop
  | mk (m : Str → Option Value) (t u : Tok) (hn : h.Ns L m) (c1 : m (Str.ofString "expected") = some (.ref X)) (c2 : m (Str.ofString "actual") = some (.ref Y)) (c3 : m (Str.ofString "missing") = some (.ref M)) (c4 : m (Str.ofString "unexpected") = some (.ref U)) (c5 : m (Str.ofString "i") = some (.int i t)) (c6 : m (Str.ofString "j") = some (.int j u)) : SNs L X Y M U i j h
theorem SNs.to {L X Y M U : Addr} {i j : Nat} {h h' : Heap} (x : SNs L X Y M U i j h) (k : ∀ m, h.Ns L m → h'.Ns L m) : SNs L X Y M U i j h' := by
  obtain ⟨m, t, u, hn, c1, c2, c3, c4, c5, c6⟩ := x
  exact ⟨m, t, u, k m hn, c1, c2, c3, c4, c5, c6⟩
/-- the state inside sorted_list_difference -/
structure SInv (w : World) (hb s0 : Heap) (L LL X Y M U : Addr) (xs ys : List Value) (i j : Nat) (ms us : List Value) (h : Heap) : Prop where
  base : Ext hb h
  up : UpS [LL] s0 h
  ns : SNs L X Y M U i j h
  lx : h.IsList X xs.toArray
  ly : h.IsList Y ys.toArray
  lm : ∃ k, h.get? M = some (W.listOf ms.toArray k)
  lu : ∃ k, h.get? U = some (W.listOf us.toArray k)
theorem UpS.sub {F F' : List Addr} {a b : Heap} (x : UpS F a b) (hF : ∀ c ∈ F, c ∈ F') : UpS F' a b :=
  ⟨fun q o hq e => x.1 q o (fun h => hq (hF q h)) e, fun q o hq e => by
    by_cases h : q ∈ F
    · exact x.2 q o h e
    · exact ⟨o.slots, x.1 q o h e⟩⟩
section
variable {w : World} {hb s0 : Heap} {L LL X Y M U : Addr} {xs ys : List Value} {i j : Nat} {ms us : List Value} {h h' : Heap}
theorem SInv.ups (x : SInv w hb s0 L LL X Y M U xs ys i j ms us h) (u : UpS [L, LL] h h') (hLb : hb.get? L = none) (hLLb : hb.get? LL = none) (hL0 : s0.get? L = none)
    (nX : X ∉ [L, LL]) (nY : Y ∉ [L, LL]) (nM : M ∉ [L, LL]) (nU : U ∉ [L, LL]) : SInv w hb s0 L LL X Y M U xs ys i j ms us h' := by
  refine ⟨fun b o e => u.1 b o ?_ (x.base b o e), ⟨fun b o hb' e => ?_, fun b o hb' e => ?_⟩, x.ns.to fun m hn => u.ns hn, ?_, ?_, ?_, ?_⟩
  · intro hm
    rcases List.mem_cons.mp hm with rfl | hm
    · rw [hLb] at e; cases e
    · rw [List.mem_singleton.mp hm, hLLb] at e; cases e
  · refine u.1 b o (fun hm => ?_) (x.up.1 b o hb' e)
    rcases List.mem_cons.mp hm with rfl | hm
    · rw [hL0] at e; cases e
    · exact hb' hm
  · obtain ⟨sl, e1⟩ := x.up.2 b o hb' e
    obtain ⟨sl', e2⟩ := u.2 b _ (List.mem_cons_of_mem _ hb') e1
    exact ⟨sl', e2⟩
  · obtain ⟨o, ho, hd⟩ := x.lx; exact ⟨o, u.1 _ _ nX ho, hd⟩
  · obtain ⟨o, ho, hd⟩ := x.ly; exact ⟨o, u.1 _ _ nY ho, hd⟩
  · obtain ⟨k, hk⟩ := x.lm; exact ⟨k, u.1 _ _ nM hk⟩
  · obtain ⟨k, hk⟩ := x.lu; exact ⟨k, u.1 _ _ nU hk⟩
end
end Mine
end

-- X5
section
open PySem PySem.W PyProof.Rows PySem.Calls PySem.Spec
set_option maxRecDepth 100000
set_option maxHeartbeats 1000000
namespace Mine
section
variable {w : World} {A : Around} {E : Value → Shared → Prop} {s : Shared} {env envL : Env} {L LL e : Addr} {cx : Value} {rest : List Stmt} {Q : Flow → Shared → Prop}
/-- x.extend(y[i:]) -/
theorem run_extend {x y z : Str} {px py pz sp pos apos pe : Pos} {D X : Addr} {its vs : List Value} {i k : Nat} {t : Tok} {pl : Sem Bool} (lx : Lk w s.heap env x (.ref D)) (ly : Lk w s.heap env y (.ref X)) (lz : Lk w s.heap env z (.int i t)) (hD : s.heap.get? D = some (W.listOf its.toArray k)) (hX : s.heap.IsList X vs.toArray) (h1 : its.length ≤ 1000) (h2 : vs.length ≤ 1000)
    (next : ∀ h' k', ExtB [D] s.heap h' → h'.get? D = some (W.listOf (its ++ vs.drop i).toArray k') → wpAny (MM w) A (execs rest env) Q E { s with heap := h' })
    (hi : interactive env = false) 
    (he : eval (.Call (.Attribute (.Name x px) (Str.ofString "extend") apos) [.Subscript (.Name y py) (.Slice (some (.Name z pz)) none none sp) pos] [] pe) env = (do
      let ov ← eval (.Name x px) env
      standAt apos.atName
      let (f, first) ← holding [ov] (getMethod ov (Str.ofString "extend") pl)
      callWith pe f first (backTo pe (starEach [.Subscript (.Name y py) (.Slice (some (.Name z pz)) none none sp) pos] env)) []) := by rfl) :
    wpAny (MM w) A (execs (.Expr (.Call (.Attribute (.Name x px) (Str.ofString "extend") apos) [.Subscript (.Name y py) (.Slice (some (.Name z pz)) none none sp) pos] [] pe) pe :: rest) env) Q E s := by
  refine wpAny_execs_cons (wpAny_Expr (MethodCall_ (pl := pl) (lx A s _ E px (.refl _) ?_) he) hi rfl)
  have hl' : s.heap.IsList D its.toArray := ⟨_, hD, rfl, _, rfl⟩
  refine getMethod_builtin hl'.typeIs F.plainAttrs_list F.slot_list_extend F.type_list_extend (fun a e => by cases e; exact ⟨_, hD, rfl⟩) ?_
  refine callWith_builtin rfl (evalArgs_plain (spliced_cons ?_))
  refine wpAny_Subscript_list_slice (ly A s _ E py (.refl _) (wpAny_evalPart_some (lz A s _ E pz (.refl _) (wpAny_evalPart_none ?_))))
  refine ⟨X, vs.toArray, some i, none, rfl, hX, by rw [sizeLine_eq]; simp; omega, .int _ _, .none, spliced_nil ?_⟩
  have hpk : slicePick vs.toArray (some (i : Int)) none none = (vs.drop i).toArray := by
    have := slicePick_from' vs.toArray i
    simpa using this
  rw [hpk]
  have hD2 := Heap.get?_push_of_some { cls := .type "list", data := .seq (vs.drop i).toArray } (Heap.get?_push_of_some { cls := .type "slice", data := .fields #[.int i t, .none, .none] } hD)
  have hB := Heap.get?_push_size (s.heap.push { cls := .type "slice", data := .fields #[.int i t, .none, .none] }) (o := { cls := .type "list", data := .seq (vs.drop i).toArray }) rfl
  rw [Heap.size_push] at hB
  have hz : its.toArray.size + (vs.drop i).toArray.size ≤ sizeLine := by rw [sizeLine_eq]; simp; omega
  refine call_meets F.slot_list_extend ⟨_, hD2, rfl⟩ F.entry_list_extend (F.args_list_extend_2 _ _) (AutoSeq1.list_extend_list_list_0 D its.toArray k (s.heap.objs.size + 1) (vs.drop i).toArray 0 (extend_door hz) (Nat.le_trans (Nat.le_add_right _ _) hz)) ⟨hD2, hB, ?_⟩
  refine next _ (if (its.toArray ++ (vs.drop i).toArray).size == its.toArray.size then k else k + 1) (fun b o hb eb => ?_) ?_
  · have hbD : b ≠ D := fun e => hb (List.mem_singleton.mpr e)
    exact (Heap.SameBut.update ..).extBut _ _ hbD (Heap.get?_push_of_some _ (Heap.get?_push_of_some _ eb))
  · refine (Heap.get?_update_self _ hD2 rfl).trans ?_
    show some (Obj.mk _ _ _ _) = _
    simp [W.listOf]
/-- x += 1 -/
theorem run_inc {x : Str} {px pos p1 : Pos} {k1 i : Nat} {t : Tok} {m : Str → Option Value} (he : FnEnv env) (hx : env.kindOf x = some .local) (hn : s.heap.Ns env.locals m) (hm : m x = some (.int i t))
    (next : ∀ h' tk t', Heap.SameBut env.locals s.heap h' → h'.Ns env.locals (upd m x (.int ((i + 1 : Nat) : Int) t')) → wpAny (MM w) A (execs rest env) Q E { s with heap := h', toks := tk }) :
    wpAny (MM w) A (execs (.AugAssign (.Name x px) .Add (.Constant (.int 1) k1 p1) pos :: rest) env) Q E s := by
  refine wpAny_execs_cons (wpAny_AugAssign_Name (wpAny_loadName_local he.kind hx hn hm (wpAny_Constant_int ?_)))
  refine PyProof.Rows.iadd_int ?_
  refine wpAny_storeName_local hx hn (fun h' hn' hs' => ?_) (by rw [he.kind]; rfl)
  have this : ((i : Int) + 1) = ((i + 1 : Nat) : Int) := by omega
  rw [this] at hn'
  exact next h' _ _ hs' hn'
/-- a loop that asks once whether the item is the same, and it is not -/
theorem run_while1 {x1 x2 x3 : Str} {p1 p2 p3 p4 p5 pos : Pos} {body : List Stmt} {l : Addr} {vs : List Value} {k : Nat} {t tz : Tok} {z : Str} (hfr : A.frames = some [env, envL]) (F : Frms env envL L LL s.heap) (lx : Lk w s.heap env x1 (.ref l)) (li : Lk w s.heap env x2 (.int k t)) (le : Lk w s.heap env x3 (.str z tz)) (hA : Hdl A s.heap cx) (hl : s.heap.IsList l vs.toArray) (hz : k < 100000)
    (hv : ∀ v, vs[k]? = some v → ∃ y ty, v = .str y ty ∧ (y == z) = false)
    (next : wpAny (MM w) A (execs rest env) Q E s)
    (rais : vs.length ≤ k → ∀ h' T tk e, UpS [L, LL] s.heap h' → s.heap.get? T = none → ExcAt h' e T (rawInt L) cx → E (.ref e) { s with heap := h', toks := tk })
    (hs : subscripted (.Name x2 p2) false (.ref l) (.int k t) = operate [.ref l, .int k t] (getItem (.ref l) (.int k t)) := by with_unfolding_all rfl) (hm : behindInMarks .Eq (.Name x3 p4) = false := by with_unfolding_all rfl) :
    wpAny (MM w) A (execs (.While (.Compare (.Subscript (.Name x1 p1) (.Name x2 p2) p3) [.Eq] [.Name x3 p4] p5) body [] pos :: rest) env) Q E s := by
  refine wpAny_execs_cons (wpAny_While (codeAny_whileLoop (fun _ s' => s' = s) ?_ 0 rfl))
  rintro _ s' rfl
  refine wpAny_isTrue_Compare1 (item_at lx li hA hl hz (fun v hv' => ?_) (fun hk h1 tk1 e hx => ?_) hs) hm
  · obtain ⟨y, ty, rfl, hne⟩ := hv v hv'
    refine le _ _ _ _ _ (.refl _) (PyProof.Rows.eq_str (wpAny_truthy_bool ?_))
    rw [hne, if_neg (by decide)]
    exact wpAny_execs_nil next
  · refine note_new (s := { s' with heap := h1, toks := tk1 }) hfr F hx fun h2 T hu hT he hx2 => ?_
    refine came_back (s := { s' with heap := h2, toks := tk1 }) F.f1 hx2 fun h3 sb3 hx3 => ?_
    refine rais hk h3 T tk1 e ⟨fun c o hc e' => ?_, fun c o hc e' => ?_⟩ hT hx3
    · exact sb3.extBut _ _ (fun q => by rw [q, hT] at e'; cases e') (hu.1 c o hc e')
    · obtain ⟨sl, e1⟩ := hu.2 c o hc e'
      exact ⟨sl, sb3.extBut _ _ (fun q => by rw [q, hT] at e'; cases e') e1⟩
end
end Mine
end

-- X4
section
open PySem PySem.W PyProof.Rows PySem.Calls PySem.Spec
set_option maxRecDepth 100000
set_option maxHeartbeats 1000000
namespace Mine
theorem try_split {w : World} {A : Around} {env : Env} {s : Shared} {body : List Stmt} {Q : Flow → Shared → Prop} {E' : Value → Shared → Prop} (X : Value → Shared → Prop) (hX : ∀ e s₁, X e s₁ → E' e s₁) (h : wpAny (MM w) A (execs body env) Q X s) : wpAny (MM w) A (execs body env) Q E' s :=
  wpAny_mono h (fun _ _ q => q) hX
theorem abs_next {w : World} {A : Around} {env : Env} {s : Shared} {body : List Stmt} {Q : Flow → Shared → Prop} {E : Value → Shared → Prop} (P : Shared → Prop) (h : ∀ Q' : Flow → Shared → Prop, (∀ s₁, P s₁ → Q' .next s₁) → wpAny (MM w) A (execs body env) Q' E s) (hq : ∀ s₁, P s₁ → Q .next s₁) : wpAny (MM w) A (execs body env) Q E s := h Q hq
theorem paired_drop {α β : Type} {F : α → β → Prop} {l₁ : List α} {l₂ : List β} (h : Paired F l₁ l₂) : ∀ i, Paired F (l₁.drop i) (l₂.drop i) := by
  induction h with
  | nil => intro i; simp; exact .nil
  | cons f t ih =>
    intro i
    cases i with
    | zero => exact .cons f t
    | succ i => simpa using ih i
theorem txt_ne {a b : List Nat} (h : a ≠ b) : (txt a == txt b) = false := by
  rw [beq_eq_false_iff_ne]
  intro e
  have := congrArg (fun z : Str => z.cps.toList) e
  simp [txt_cps] at this
  exact h this
theorem pos_of {a b k i j : Nat} (h : a + b + 1 ≤ k + i + j) (hi : i ≤ a) (hj : j ≤ b) : ∃ k', k = k' + 1 := ⟨k - 1, by omega⟩
theorem step_l {N n i j : Nat} (h : N ≤ n + 1 + i + j) : N ≤ n + (i + 1) + j := by omega
theorem step_r {N n i j : Nat} (h : N ≤ n + 1 + i + j) : N ≤ n + i + (j + 1) := by omega
theorem step_b {N n i j : Nat} (h : N ≤ n + 1 + i + j) : N ≤ n + (i + 1) + (j + 1) := by omega
theorem small_lt {i a : Nat} (h : i ≤ a) (h2 : a ≤ 100) : i < 100000 := Nat.lt_of_le_of_lt (Nat.le_trans h h2) (by decide)
theorem snoc_le {α : Type} {l : List α} {i : Nat} {x : α} (h : l.length ≤ i) : (l ++ [x]).length ≤ i + 1 := by simp; exact h
theorem sz_small {α : Type} {ms : List Value} {mT : List α} {i a : Nat} (p : mT.length = ms.length) (h : mT.length ≤ i) (hi : i ≤ a) (ha : a ≤ 100) : ms.toArray.size ≤ 1000 := by simp; omega
inductive WInv (s : Shared) (J : Nat → Nat → List Value → List Value → Heap → Prop) (xT yT : List (List Nat)) (n : Nat) (s' : Shared) : Prop
  | mk (h : Heap) (tk : Tok) (i j : Nat) (ms us : List Value) (mT uT : List (List Nat)) (k : Nat) (e : s' = { s with heap := h, toks := tk }) (hJ : J i j ms us h) (hi : i ≤ xT.length) (hj : j ≤ yT.length) (pm : Paired relT mT ms) (pu : Paired relT uT us) (zm : mT.length ≤ i) (zu : uT.length ≤ j)
    (hR : (mT ++ (sldG k (xT.drop i) (yT.drop j)).1, uT ++ (sldG k (xT.drop i) (yT.drop j)).2) = sldF xT yT) (hk : xT.length + yT.length + 1 ≤ k + i + j) (hn : xT.length + yT.length + 1 ≤ n + i + j) : WInv s J xT yT n s'
inductive XNew (s : Shared) (J : Heap → Prop) (s₁ : Shared) (e : Addr) (cx : Value) : Prop
  | mk (g h1 : Heap) (tk1 : Tok) (q : s₁ = { s with heap := h1, toks := tk1 }) (hJ : J g) (hx : NewE g h1 e cx) : XNew s J s₁ e cx
inductive XOld (s : Shared) (J : Heap → Prop) (TA : Addr → Prop) (L : Addr) (s₁ : Shared) (e T : Addr) (cx : Value) : Prop
  | mk (h1 : Heap) (tk1 : Tok) (q : s₁ = { s with heap := h1, toks := tk1 }) (hJ : J h1) (hT : TA T) (hx : ExcAt h1 e T (rawInt L) cx) : XOld s J TA L s₁ e T cx
inductive XInv (s : Shared) (J : Nat → Nat → List Value → List Value → Heap → Prop) (TA : Addr → Prop) (L : Addr) (xT yT : List (List Nat)) (v : Value) (s₁ : Shared) : Prop
  | mk (e T : Addr) (cx : Value) (i j : Nat) (ms us : List Value) (mT uT : List (List Nat)) (q : v = .ref e) (pm : Paired relT mT ms) (pu : Paired relT uT us) (hi : i ≤ xT.length) (hj : j ≤ yT.length) (zm : mT.length ≤ i) (zu : uT.length ≤ j)
    (hR : (mT ++ xT.drop i, uT ++ yT.drop j) = sldF xT yT) (hc : XNew s (J i j ms us) s₁ e cx ∨ XOld s (J i j ms us) TA L s₁ e T cx) : XInv s J TA L xT yT v s₁
theorem sld_call {w : World} {A : Around} {s : Shared} {Q : Value → Shared → Prop} {E : Value → Shared → Prop} {hb : Heap} {envL : Env} {LL X Y : Addr} {oLL : Obj} {es : Array DictEntry} {ep : Nat} {xs ys : List Value} {xT yT : List (List Nat)}
    (Gb : Grd w hb) (kb : Ext hb s.heap) (ok : Okk A 3) (hfr : A.frames = some [envL]) (hfL : envL.frame = some LL) (hkL : envL.scope.kind ≠ .module) (hLL : s.heap.get? LL = some oLL) (hLLd : oLL.data = .dict es ep) (hLLb : hb.get? LL = none)
    (hX : s.heap.IsList X xs.toArray) (pX : Paired relT xT xs) (hY : s.heap.IsList Y ys.toArray) (pY : Paired relT yT ys) (aX : Adj xT) (aY : Adj yT) (zX : xT.length ≤ 100) (zY : yT.length ≤ 100)
    (q : ∀ T M U ms us h' tk, UpS [LL] s.heap h' → Ext hb h' → s.heap.get? T = none → h'.IsTuple T #[.ref M, .ref U] → h'.IsList M ms.toArray → h'.IsList U us.toArray → Paired relT (sldF xT yT).1 ms → Paired relT (sldF xT yT).2 us → Q (.ref T) { s with heap := h', toks := tk }) :
    wpAny (MM w) A (call (.ref 159) [.ref X, .ref Y]) Q E s := by
  have Gs := Gb.ext kb
  refine wpAny_call (codeAt (n := 2) (binds := [(Str.ofString "expected", .ref X), (Str.ofString "actual", .ref Y)]) Gs ok (by rfl) rfl rfl (fun S => by rfl) (by rfl) (by decide) (locs rfl) ?_)
  intro h0 env E' henv hn e0 ok'
  refine PySem.wpAt_of_wpAny ?_
  have hfr' : (A.deeper env).frames = some [env, envL] := by
    show A.frames.map (env :: ·) = _
    rw [hfr]; rfl
  have he : FnEnv env := by rw [henv]; exact ⟨rfl, rfl, rfl⟩
  have hL : env.locals = s.heap.objs.size := by rw [henv]; rfl
  have hfE : env.frame = some env.locals := by rw [henv]; rfl
  have i1 : interactive env = false := by rw [henv]; rfl
  have k1 : env.kindOf (Str.ofString "expected") = some .local := by rw [henv]; rfl
  have k2 : env.kindOf (Str.ofString "actual") = some .local := by rw [henv]; rfl
  have k3 : env.kindOf (Str.ofString "i") = some .local := by rw [henv]; rfl
  have k4 : env.kindOf (Str.ofString "j") = some .local := by rw [henv]; rfl
  have k5 : env.kindOf (Str.ofString "missing") = some .local := by rw [henv]; rfl
  have k6 : env.kindOf (Str.ofString "unexpected") = some .local := by rw [henv]; rfl
  have k7 : env.kindOf (Str.ofString "e") = some .local := by rw [henv]; rfl
  have k8 : env.kindOf (Str.ofString "a") = some .local := by rw [henv]; rfl
  have k9 : env.kindOf (Str.ofString "IndexError") = some .globalImplicit := by rw [henv]; rfl
  clear henv
  generalize A.deeper env = A' at *
  have hL0 : s.heap.get? env.locals = none := by rw [hL]; exact next_none _
  have hLb : hb.get? env.locals = none := kb.none hL0
  have hk1 : env.scope.kind ≠ .module := by rw [he.kind]; decide
  have noL : (env.scope.kind == .class || (env.scope.kind == .module && env.locals != env.globals)) = false := by rw [he.kind]; rfl
  -- i = j = 0
  refine wpAny_execs_cons (wpAny_Assign_two (wpAny_Constant_int (wpAny_assign_Name (wpAny_storeName_local k3 hn (fun h1 hn1 sb1 => wpAny_assign_Name (wpAny_storeName_local k4 hn1 (fun h2 hn2 sb2 => ?_) noL)) noL))))
  have e2 : ExtB [env.locals] h0 h2 := (sameB sb1 (List.mem_singleton.mpr rfl)).trans (sameB sb2 (List.mem_singleton.mpr rfl))
  have s2 : Ext s.heap h2 := e2.base e0 fun a ha => by rw [List.mem_singleton.mp ha]; exact hL0
  -- missing = []
  refine run_assign (s := { s with heap := h2, toks := _ }) ok' he k5 hn2 Ev.nilO ?_
  rintro v h3 h4 tk4 x3 ⟨M, vs, rfl, hMn, hM3, rfl⟩ sb4 hn4
  have hML : M ≠ env.locals := ns_ne hn2 hMn
  have s4 : Ext s.heap h4 := ((s2.trans x3).b (M := [env.locals])).trans (sameB sb4 (List.mem_singleton.mpr rfl)) |>.base (Ext.refl _) fun a ha => by rw [List.mem_singleton.mp ha]; exact hL0
  have hM4 : h4.get? M = some (W.listOf #[] 0) := sb4.extBut _ _ hML hM3
  -- unexpected = []
  refine run_assign (s := { s with heap := h4, toks := tk4 }) ok' he k6 hn4 Ev.nilO ?_
  rintro v h5 h6 tk6 x5 ⟨U, vs, rfl, hUn, hU5, rfl⟩ sb6 hn6
  have hUL : U ≠ env.locals := ns_ne hn4 hUn
  have s6 : Ext s.heap h6 := ((s4.trans x5).b (M := [env.locals])).trans (sameB sb6 (List.mem_singleton.mpr rfl)) |>.base (Ext.refl _) fun a ha => by rw [List.mem_singleton.mp ha]; exact hL0
  have hU6 : h6.get? U = some (W.listOf #[] 0) := sb6.extBut _ _ hUL hU5
  have hM6 : h6.get? M = some (W.listOf #[] 0) := sb6.extBut _ _ hML (x5 _ _ hM4)
  have hM0 : s.heap.get? M = none := s2.none hMn
  have hU0 : s.heap.get? U = none := s4.none hUn
  have hMU : M ≠ U := fun e => by rw [← e, hM4] at hUn; cases hUn
  have al : ∀ {a : Addr} {o : Obj}, s.heap.get? a = some o → a ≠ env.locals ∧ a ≠ M ∧ a ≠ U := fun {a o} ho =>
    ⟨gne ho hL0, gne ho hM0, gne ho hU0⟩
  have dLL : ∀ {a : Addr} {its : Array Value}, s.heap.IsList a its → a ≠ LL := by
    rintro a its ⟨o, ho, _, n, hd⟩ rfl
    rw [hLL] at ho; cases ho; rw [hLLd] at hd; cases hd
  have nX : X ∉ [env.locals, LL] := by obtain ⟨o, ho, _⟩ := id hX; exact nm2 (al ho).1 (dLL hX)
  have nY : Y ∉ [env.locals, LL] := by obtain ⟨o, ho, _⟩ := id hY; exact nm2 (al ho).1 (dLL hY)
  have nM : M ∉ [env.locals, LL] := nm2 hML (Ne.symm (al hLL).2.1)
  have nU : U ∉ [env.locals, LL] := nm2 hUL (Ne.symm (al hLL).2.2)
  let J : Nat → Nat → List Value → List Value → Heap → Prop := SInv w hb s.heap env.locals LL X Y M U xs ys
  have jup : ∀ {i j ms us h h'}, J i j ms us h → UpS [env.locals, LL] h h' → J i j ms us h' := fun x u => SInv.ups x u hLb hLLb hL0 nX nY nM nU
  have frm : ∀ {i j ms us h}, J i j ms us h → Frms env envL env.locals LL h := by
    intro i j ms us h x
    obtain ⟨m, t, v, ⟨o, es', ep', ho, hd, _⟩, _⟩ := x.ns
    obtain ⟨sl, e⟩ := x.up.2 LL oLL (by simp) hLL
    exact ⟨hk1, hkL, hfE, hfL, ⟨o, es', ep', ho, hd⟩, ⟨_, es, ep, e, hLLd⟩⟩
  have J0 : J 0 0 [] [] h6 := ⟨kb.trans s6, .ext s6, ⟨_, _, _, hn6, upd_ne (upd_ne (by rfl)), upd_ne (upd_ne (by rfl)), upd_ne upd_eq, upd_eq, upd_ne (upd_ne (by rfl)), upd_ne (upd_ne (by rfl))⟩, isList_ext hX s6, isList_ext hY s6, ⟨0, hM6⟩, ⟨0, hU6⟩⟩
  refine wpAny_execs_cons (wpAny_While (codeAny_whileLoop (WInv s J xT yT) ?_ (xT.length + yT.length + 1)
    (⟨h6, tk6, 0, 0, [], [], [], [], xT.length + yT.length + 1, rfl, J0, Nat.zero_le _, Nat.zero_le _, .nil, .nil, Nat.le_refl _, Nat.le_refl _, rfl, Nat.le_refl _, Nat.le_refl _⟩)))
  intro n s' hI
  obtain ⟨h, tk, i, j, ms, us, mT, uT, k, rfl, hJ, hi, hj, pm, pu, zm, zu, hR, hk, hnn⟩ := hI
  obtain ⟨n', rfl⟩ := pos_of hnn hi hj
  refine (Tr.ofB (w := w) (n := 2) (h := h) (c := true) Ev.bool) _ _ _ _ ok' (.refl _) fun h7 tk7 x7 => ?_
  rw [if_pos rfl]
  let TA : Addr → Prop := fun T => s.heap.get? T = none ∧ T ≠ env.locals ∧ T ≠ M ∧ T ≠ U
  have tfree : ∀ {i j ms us g T}, J i j ms us g → g.get? T = none → TA T := by
    intro i j ms us g T x hT
    refine ⟨?_, fun e => ?_, fun e => ?_, fun e => ?_⟩
    · cases hg : s.heap.get? T with
      | none => rfl
      | some o =>
        exfalso
        by_cases hTL : T ∈ [LL]
        · obtain ⟨sl, e1⟩ := x.up.2 _ _ hTL hg; rw [hT] at e1; cases e1
        · have := x.up.1 _ _ hTL hg; rw [hT] at this; cases this
    · obtain ⟨m, t, v, ⟨o, _, _, ho, _⟩, _⟩ := x.ns; rw [← e, hT] at ho; cases ho
    · obtain ⟨k, hk⟩ := x.lm; rw [← e, hT] at hk; cases hk
    · obtain ⟨k, hk⟩ := x.lu; rw [← e, hT] at hk; cases hk
  have jT : ∀ {i j ms us h h' T}, J i j ms us h → TA T → Heap.SameBut T h h' → J i j ms us h' := by
    intro i j ms us h h' T x ⟨t0, tL, tM, tU⟩ sb
    obtain ⟨oX, hoX, _⟩ := id hX
    obtain ⟨oY, hoY, _⟩ := id hY
    have nt : ∀ {b : Addr} {o : Obj}, s.heap.get? b = some o → b ≠ T := fun e => gne e t0
    refine ⟨fun b o e => sb.extBut _ _ (nt (kb _ _ e)) (x.base b o e), ⟨fun b o hb' e => sb.extBut _ _ (nt e) (x.up.1 b o hb' e), fun b o hb' e => ?_⟩, x.ns.to fun m hn' => ns_same hn' sb (Ne.symm tL), isList_same x.lx sb (nt hoX), isList_same x.ly sb (nt hoY), ?_, ?_⟩
    · obtain ⟨sl, e1⟩ := x.up.2 b o hb' e; exact ⟨sl, sb.extBut _ _ (nt e) e1⟩
    · obtain ⟨k, hk⟩ := x.lm; exact ⟨k, sb.extBut _ _ (Ne.symm tM) hk⟩
    · obtain ⟨k, hk⟩ := x.lu; exact ⟨k, sb.extBut _ _ (Ne.symm tU) hk⟩
  have jset : ∀ {i j i2 j2 ms us h h'}, J i j ms us h → ExtB [env.locals] h h' → SNs env.locals X Y M U i2 j2 h' → J i2 j2 ms us h' := by
    intro i j i2 j2 ms us h h' x eb hn'
    obtain ⟨oX, hoX, _⟩ := id hX
    obtain ⟨oY, hoY, _⟩ := id hY
    have nl : ∀ {b : Addr} {o : Obj}, s.heap.get? b = some o → b ∉ [env.locals] := fun e => nm1 (al e).1
    refine ⟨fun b o e => eb _ _ (nl (kb _ _ e)) (x.base b o e), ⟨fun b o hb' e => eb _ _ (nl e) (x.up.1 b o hb' e), fun b o hb' e => ?_⟩, hn', ?_, ?_, ?_, ?_⟩
    · obtain ⟨sl, e1⟩ := x.up.2 b o hb' e; exact ⟨sl, eb _ _ (nl e) e1⟩
    · obtain ⟨o, ho, hd⟩ := x.lx; exact ⟨o, eb _ _ (nl hoX) ho, hd⟩
    · obtain ⟨o, ho, hd⟩ := x.ly; exact ⟨o, eb _ _ (nl hoY) ho, hd⟩
    · obtain ⟨k, hk⟩ := x.lm; exact ⟨k, eb _ _ (nm1 hML) hk⟩
    · obtain ⟨k, hk⟩ := x.lu; exact ⟨k, eb _ _ (nm1 hUL) hk⟩
  have jext : ∀ {i j ms us h h'}, J i j ms us h → Ext h h' → J i j ms us h' := fun x e => jup x (.ext e)
  refine wpAny_execs_cons (wpAny_Try_except (try_split (XInv s J TA env.locals xT yT) ?_ ?_))
  · intro v s₁ hX₁
    obtain ⟨e, T, cx, i', j', ms', us', mT', uT', rfl, pm', pu', hi', hj', zm', zu', hRR, hc⟩ := hX₁
    have noted : ∀ {Q : Unit → Shared → Prop} {E : Value → Shared → Prop}, (∀ h' T tk, J i' j' ms' us' h' → TA T → ExcAt h' e T (rawInt env.locals) cx → Q () { s with heap := h', toks := tk }) → wpAny (MM w) A' (noteFrame (.ref e) env) Q E s₁ := by
      intro Q E q
      rcases hc with ⟨g, h1, tk1, rfl, hJg, hx⟩ | ⟨h1, tk1, rfl, hJ1, hT, hx⟩
      · exact note_new (s := { s with heap := h1, toks := tk1 }) hfr' (frm hJg) hx fun h' T a b c d => q h' T tk1 (jup hJg a) (tfree hJg b) d
      · exact note_again (s := { s with heap := h1, toks := tk1 }) hfE hx (q h1 T tk1 hJ1 hT hx)
    refine noted fun h1 T tk1 J1 hT hx => ?_
    refine flight (s := { s with heap := h1, toks := tk1 }) none hx fun h2 sb2 hx2 => ?_
    have J2 := jT J1 hT sb2
    refine wpAny_handleBy_builtin (X := "IndexError") (T := "IndexError") (b := true) (isSubtype_of_subB (by decide +kernel)) (isSubtype_of_subB (by decide +kernel)) (isSubtype_of_subB (by decide +kernel)) ?_
    have lI : Lk w h2 env (Str.ofString "IndexError") (.type "IndexError") := .blt (Gb.ext J2.base) he k9 (by rfl) (by rfl) (by decide) (by decide)
    refine lI _ { s with heap := h2, toks := tk1 } _ _ _ (.refl _) ⟨rfl, ?_, ?_⟩
    · obtain ⟨oe, vs, oT, ts, a, b, _⟩ := hx2
      exact ⟨oe, a, b⟩
    rw [if_pos rfl]
    refine flight (s := { s with heap := h2, toks := tk1 }) none hx2 fun h3 sb3 hx3 => ?_
    have J3 := jT J2 hT sb3
    obtain ⟨m3, t3, u3, hn3, c1, c2, c3, c4, c5, c6⟩ := J3.ns
    obtain ⟨kM, hM3⟩ := J3.lm
    obtain ⟨kU, hU3⟩ := J3.lu
    have lenX : xs.length = xT.length := pX.length.symm
    have lenY : ys.length = yT.length := pY.length.symm
    have lenM : ms'.length ≤ 1000 := sz_small pm'.length zm' hi' zX
    have lenU : us'.length ≤ 1000 := sz_small pu'.length zu' hj' zY
    have l1 : Lk w h3 env (Str.ofString "missing") (.ref M) := .loc hn3 c3 he k5 (by decide)
    have l2 : Lk w h3 env (Str.ofString "expected") (.ref X) := .loc hn3 c1 he k1 (by decide)
    have l3 : Lk w h3 env (Str.ofString "i") (.int i' t3) := .loc hn3 c5 he k3 (by decide)
    refine run_extend (s := { s with heap := h3, toks := tk1 }) l1 l2 l3 hM3 J3.lx lenM (Nat.le_trans (Nat.le_trans (Nat.le_of_eq lenX) zX) (by decide)) ?_ i1
    intro h4 kk4 eb4 hM4'
    have hn4' : h4.Ns env.locals m3 := hn3.at' fun o eo => eb4 _ _ (nm1 (Ne.symm hML)) eo
    have hY4 : h4.IsList Y ys.toArray := by obtain ⟨o, ho, hd⟩ := J3.ly; obtain ⟨oy, hoy, _⟩ := hY; exact ⟨o, eb4 _ _ (nm1 ((al hoy).2.1)) ho, hd⟩
    have hU4 : h4.get? U = some (W.listOf us'.toArray kU) := eb4 _ _ (nm1 (Ne.symm hMU)) hU3
    have l4 : Lk w h4 env (Str.ofString "unexpected") (.ref U) := .loc hn4' c4 he k6 (by decide)
    have l5 : Lk w h4 env (Str.ofString "actual") (.ref Y) := .loc hn4' c2 he k2 (by decide)
    have l6 : Lk w h4 env (Str.ofString "j") (.int j' u3) := .loc hn4' c6 he k4 (by decide)
    refine run_extend (s := { s with heap := h4, toks := tk1 }) l4 l5 l6 hU4 hY4 lenU (Nat.le_trans (Nat.le_trans (Nat.le_of_eq lenY) zY) (by decide)) ?_ i1
    intro h5 k5' eb5 hU5'
    have hn5 : h5.Ns env.locals m3 := hn4'.at' fun o eo => eb5 _ _ (nm1 (Ne.symm hUL)) eo
    have hM5 : h5.get? M = some (W.listOf (ms' ++ xs.drop i').toArray kk4) := eb5 _ _ (nm1 hMU) hM4'
    refine run_break ?_
    have l7 : Lk w h5 env (Str.ofString "missing") (.ref M) := .loc hn5 c3 he k5 (by decide)
    have l8 : Lk w h5 env (Str.ofString "unexpected") (.ref U) := .loc hn5 c4 he k6 (by decide)
    show wpAny (MM w) A' (execs [_] env) _ _ _
    refine run_ret (s := { s with heap := h5, toks := tk1 }) ok' (.refl _) (Ev.tuple (Evs.cons (Ev.name l7) (Evs.cons (Ev.name l8) .nil)) fun vs a b p => ?_) fun v h' tk' ex p => ?_
    · obtain ⟨v1, r1, b1, rfl, _, _, _, v2, r2, b2, rfl, _, _, _, rfl⟩ := p
      rw [sizeLine_eq]; simp
    · obtain ⟨T2, vs', b', rfl, hT2, y1, y2, ht, v1, r1, b1, rfl, _, _, hv1, v2, r2, b2, rfl, _, _, hv2, rfl⟩ := p
      rw [hv1, hv2] at ht
      have step : ∀ {b : Addr} {o : Obj}, b ≠ M → b ≠ U → h3.get? b = some o → h'.get? b = some o := fun {b o} n1 n2 e => ex _ _ (eb5 _ _ (nm1 n2) (eb4 _ _ (nm1 n1) e))
      have r1 : sldF xT yT = (mT' ++ xT.drop i', uT' ++ yT.drop j') := hRR.symm
      refine q T2 M U (ms' ++ xs.drop i') (us' ++ ys.drop j') h' tk' ⟨fun b o hb' e => ?_, fun b o hb' e => ?_⟩ (fun b o e => ?_) ?_ (by simpa using ht) (isList_ext ⟨_, hM5, rfl, _, rfl⟩ ex) (isList_ext ⟨_, hU5', rfl, _, rfl⟩ ex) ?_ ?_
      · exact step (al e).2.1 (al e).2.2 (J3.up.1 b o hb' e)
      · obtain ⟨sl, e1⟩ := J3.up.2 b o hb' e
        exact ⟨sl, step (al e).2.1 (al e).2.2 e1⟩
      · have := kb _ _ e
        exact step (al this).2.1 (al this).2.2 (J3.base b o e)
      · cases hg : s.heap.get? T2 with
        | none => rfl
        | some o =>
          exfalso
          by_cases hTL : T2 ∈ [LL]
          · obtain ⟨sl, e1⟩ := J3.up.2 _ _ hTL hg
            have := eb5 _ _ (nm1 ((al hg).2.2)) (eb4 _ _ (nm1 ((al hg).2.1)) e1)
            rw [hT2] at this; cases this
          · have := eb5 _ _ (nm1 ((al hg).2.2)) (eb4 _ _ (nm1 ((al hg).2.1)) (J3.up.1 _ _ hTL hg))
            rw [hT2] at this; cases this
      · rw [r1]; exact paired_append pm' (paired_drop pX i')
      · rw [r1]; exact paired_append pu' (paired_drop pY j')
  · refine abs_next (fun s₁ => ∃ m, m < n' + 1 ∧ WInv s J xT yT m s₁) (fun Q' hQ' => ?_) (fun s₁ hs₁ => run_nil (run_nil hs₁))
    have J7 := jext hJ x7
    have lenX : xs.length = xT.length := pX.length.symm
    have lenY : ys.length = yT.length := pY.length.symm
    have hdl : ∀ {h : Heap}, Hdl A' h .none := .inl ⟨ok'.hd, rfl⟩
    obtain ⟨m7, t7, u7, hn7, c1, c2, c3, c4, c5, c6⟩ := J7.ns
    have l1 : Lk w h7 env (Str.ofString "expected") (.ref X) := .loc hn7 c1 he k1 (by decide)
    have l2 : Lk w h7 env (Str.ofString "i") (.int i t7) := .loc hn7 c5 he k3 (by decide)
    -- e = expected[i]
    refine wpAny_execs_cons (wpAny_Assign_Name (item_at (s := { s with heap := h7, toks := tk7 }) l1 l2 hdl J7.lx (small_lt hi zX) (fun v hv => ?_) fun hk' h8 tk8 e hx => ?_))
    rotate_left
    · refine ⟨e, 0, .none, i, j, ms, us, mT, uT, rfl, pm, pu, hi, hj, zm, zu, ?_, .inl ⟨h7, h8, tk8, rfl, J7, hx⟩⟩
      have : xT.drop i = [] := drop_nil (Nat.le_trans (Nat.le_of_eq lenX.symm) hk')
      rw [this, sldG_nil] at hR
      rw [this]; exact hR
    obtain ⟨x, hxT, tx, rfl⟩ := paired_at pX i v hv
    refine wpAny_storeName_local k7 hn7 (fun h8 hn8 sb8 => ?_) noL
    replace hn8 : h8.Ns env.locals (upd m7 (Str.ofString "e") (.str (txt x) tx)) := hn8
    have J8 : J i j ms us h8 := jset J7 (sameB sb8 (List.mem_singleton.mpr rfl)) ⟨_, t7, u7, hn8, upd_ne c1, upd_ne c2, upd_ne c3, upd_ne c4, upd_ne c5, upd_ne c6⟩
    have l3 : Lk w h8 env (Str.ofString "actual") (.ref Y) := .loc hn8 (upd_ne c2) he k2 (by decide)
    have l4 : Lk w h8 env (Str.ofString "j") (.int j u7) := .loc hn8 (upd_ne c6) he k4 (by decide)
    -- a = actual[j]
    refine wpAny_execs_cons (wpAny_Assign_Name (item_at (s := { s with heap := h8, toks := _ }) l3 l4 hdl J8.ly (small_lt hj zY) (fun v hv' => ?_) fun hk' h9 tk9 e hx => ?_))
    rotate_left
    · refine ⟨e, 0, .none, i, j, ms, us, mT, uT, rfl, pm, pu, hi, hj, zm, zu, ?_, .inl ⟨h8, h9, tk9, rfl, J8, hx⟩⟩
      have : yT.drop j = [] := drop_nil (Nat.le_trans (Nat.le_of_eq lenY.symm) hk')
      rw [this, sldG_nil2] at hR
      rw [this]; exact hR
    obtain ⟨y, hyT, ty, rfl⟩ := paired_at pY j v hv'
    refine wpAny_storeName_local k8 hn8 (fun h9 hn9 sb9 => ?_) noL
    replace hn9 : h9.Ns env.locals (upd (upd m7 (Str.ofString "e") (.str (txt x) tx)) (Str.ofString "a") (.str (txt y) ty)) := hn9
    have J9 : J i j ms us h9 := jset J8 (sameB sb9 (List.mem_singleton.mpr rfl)) ⟨_, t7, u7, hn9, upd_ne (upd_ne c1), upd_ne (upd_ne c2), upd_ne (upd_ne c3), upd_ne (upd_ne c4), upd_ne (upd_ne c5), upd_ne (upd_ne c6)⟩
    have le : Lk w h9 env (Str.ofString "e") (.str (txt x) tx) := .loc hn9 (upd_ne upd_eq) he k7 (by decide)
    have la : Lk w h9 env (Str.ofString "a") (.str (txt y) ty) := .loc hn9 upd_eq he k8 (by decide)
    obtain ⟨k', rfl⟩ := pos_of hk hi hj
    have hi1 : i < xT.length := (List.getElem?_eq_some_iff.mp hxT).1
    have hj1 : j < yT.length := (List.getElem?_eq_some_iff.mp hyT).1
    have dx := drop_cons hxT
    have dy := drop_cons hyT
    rw [dx, dy] at hR
    have nextX : ∀ v, xs[i + 1]? = some v → ∃ z tz, v = .str z tz ∧ (z == txt x) = false := fun v hv => by
      obtain ⟨x', hx', t', rfl⟩ := paired_at pX (i + 1) v hv
      exact ⟨_, t', rfl, txt_ne (Ne.symm (aX i x x' hxT hx'))⟩
    have nextY : ∀ v, ys[j + 1]? = some v → ∃ z tz, v = .str z tz ∧ (z == txt y) = false := fun v hv => by
      obtain ⟨y', hy', t', rfl⟩ := paired_at pY (j + 1) v hv
      exact ⟨_, t', rfl, txt_ne (Ne.symm (aY j y y' hyT hy'))⟩
    have jM : ∀ {i j ms us h h' v k}, J i j ms us h → Heap.SameBut M h h' → h'.get? M = some (W.listOf (ms ++ [v]).toArray k) → J i j (ms ++ [v]) us h' := by
      intro i j ms us h h' v k x sb hM'
      obtain ⟨oX, hoX, _⟩ := id hX
      obtain ⟨oY, hoY, _⟩ := id hY
      refine ⟨fun b o e => sb.extBut _ _ (al (kb _ _ e)).2.1 (x.base b o e), ⟨fun b o hb' e => sb.extBut _ _ (al e).2.1 (x.up.1 b o hb' e), fun b o hb' e => ?_⟩, x.ns.to fun m hn' => ns_same hn' sb (Ne.symm hML), isList_same x.lx sb (al hoX).2.1, isList_same x.ly sb (al hoY).2.1, ⟨k, hM'⟩, ?_⟩
      · obtain ⟨sl, e1⟩ := x.up.2 b o hb' e; exact ⟨sl, sb.extBut _ _ (al e).2.1 e1⟩
      · obtain ⟨k, hk⟩ := x.lu; exact ⟨k, sb.extBut _ _ (Ne.symm hMU) hk⟩
    have jU : ∀ {i j ms us h h' v k}, J i j ms us h → Heap.SameBut U h h' → h'.get? U = some (W.listOf (us ++ [v]).toArray k) → J i j ms (us ++ [v]) h' := by
      intro i j ms us h h' v k x sb hM'
      obtain ⟨oX, hoX, _⟩ := id hX
      obtain ⟨oY, hoY, _⟩ := id hY
      refine ⟨fun b o e => sb.extBut _ _ (al (kb _ _ e)).2.2 (x.base b o e), ⟨fun b o hb' e => sb.extBut _ _ (al e).2.2 (x.up.1 b o hb' e), fun b o hb' e => ?_⟩, x.ns.to fun m hn' => ns_same hn' sb (Ne.symm hUL), isList_same x.lx sb (al hoX).2.2, isList_same x.ly sb (al hoY).2.2, ?_, ⟨k, hM'⟩⟩
      · obtain ⟨sl, e1⟩ := x.up.2 b o hb' e; exact ⟨sl, sb.extBut _ _ (al e).2.2 e1⟩
      · obtain ⟨k, hk⟩ := x.lm; exact ⟨k, sb.extBut _ _ hMU hk⟩
    have pmA : Paired relT (mT ++ [x]) (ms ++ [.str (txt x) tx]) := paired_append pm (.cons ⟨tx, rfl⟩ .nil)
    have puA : Paired relT (uT ++ [y]) (us ++ [.str (txt y) ty]) := paired_append pu (.cons ⟨ty, rfl⟩ .nil)
    refine run_if (s := { s with heap := h9, toks := _ }) ok' (Tr.cmp (c := decide (x < y)) (Ev.nameS le) (Ev.nameS la) fun _ _ _ _ _ _ _ _ p q => by
      obtain ⟨t, rfl⟩ := p; obtain ⟨u, rfl⟩ := q
      have := Cmp.ltS (w := w) (n := 2) (h := h9) (x := txt x) (y := txt y) (t := t) (u := u)
      rw [txt_cps, txt_cps] at this
      intro A s Q E ok k q
      exact PyProof.Rows.lt_str (by rw [txt_cps, txt_cps]; exact q s.heap s.toks (.refl _))) ?_
    intro hA tkA xA
    have JA := jext J9 xA
    have hnA := hn9.keeps xA
    obtain ⟨kMA, hMA⟩ := JA.lm
    obtain ⟨kUA, hUA⟩ := JA.lu
    cases hlt : decide (x < y) with
    | true =>
      unfold sldG at hR
      rw [hlt, if_pos rfl] at hR
      have lM : Lk w hA env (Str.ofString "missing") (.ref M) := .loc hnA (upd_ne (upd_ne c3)) he k5 (by decide)
      refine run_append (s := { s with heap := hA, toks := tkA }) ok' lM hMA (Ev.name (le.ext xA)) (Nat.le_trans (sz_small pm.length zm hi zX) (by decide)) ?_ i1
      rintro v hB hC tkC xB hv sbC lC
      have hv' : v = .str (txt x) tx := hv
      subst hv'
      have JC : J i j (ms ++ [.str (txt x) tx]) us hC := jM (jext JA xB) sbC (by rw [← List.push_toArray]; exact lC)
      have hnC := ns_same (hnA.keeps xB) sbC (Ne.symm hML)
      refine run_inc (s := { s with heap := hC, toks := tkC }) he k3 hnC (upd_ne (upd_ne c5)) ?_
      intro hD tkD tD sbD hnD
      have JD : J (i + 1) j (ms ++ [.str (txt x) tx]) us hD := jset JC (sameB sbD (List.mem_singleton.mpr rfl)) ⟨_, tD, u7, hnD, upd_ne (upd_ne (upd_ne c1)), upd_ne (upd_ne (upd_ne c2)), upd_ne (upd_ne (upd_ne c3)), upd_ne (upd_ne (upd_ne c4)), upd_eq, upd_ne (upd_ne (upd_ne c6))⟩
      have l5 : Lk w hD env (Str.ofString "expected") (.ref X) := .loc hnD (upd_ne (upd_ne (upd_ne c1))) he k1 (by decide)
      have l6 : Lk w hD env (Str.ofString "i") (.int (i + 1 : Nat) tD) := .loc hnD upd_eq he k3 (by decide)
      have l7 : Lk w hD env (Str.ofString "e") (.str (txt x) tx) := .loc hnD (upd_ne (upd_ne upd_eq)) he k7 (by decide)
      have hR' : ((mT ++ [x]) ++ (sldG k' (xT.drop (i + 1)) (yT.drop j)).1, uT ++ (sldG k' (xT.drop (i + 1)) (yT.drop j)).2) = sldF xT yT := by rw [dy, ← hR]; simp
      refine run_while1 (s := { s with heap := hD, toks := tkD }) hfr' (frm JD) l5 l6 l7 hdl JD.lx (small_lt hi1 zX) nextX ?_ ?_
      · refine run_nil (run_nil (hQ' _ ⟨n', Nat.lt_succ_self _, ⟨hD, tkD, i + 1, j, _, us, mT ++ [x], uT, k', rfl, JD, hi1, hj, pmA, pu, snoc_le zm, zu, hR', step_l hk, step_l hnn⟩⟩))
      · intro hkk h' T tk' e hu hT hx
        refine ⟨e, T, .none, i + 1, j, _, us, mT ++ [x], uT, rfl, pmA, pu, hi1, hj, snoc_le zm, zu, ?_, .inr ⟨h', tk', rfl, jup JD hu, tfree JD hT, hx⟩⟩
        have : xT.drop (i + 1) = [] := drop_nil (Nat.le_trans (Nat.le_of_eq lenX.symm) hkk)
        rw [this, sldG_nil] at hR'
        rw [this]; exact hR'
    | false =>
      unfold sldG at hR
      rw [hlt, if_neg (by decide)] at hR
      show wpAny _ _ (execs (.If _ _ _ _ :: []) env) _ _ _
      refine run_if (s := { s with heap := hA, toks := tkA }) ok' (Tr.cmp (w := w) (n := 2) (h := hA) (c := decide (y < x)) (Ev.nameS (le.ext xA)) (Ev.nameS (la.ext xA)) fun _ _ _ _ _ _ _ _ p q => by
        obtain ⟨t, rfl⟩ := p; obtain ⟨u, rfl⟩ := q
        intro A s Q E ok k q
        exact PySem.P.gt_str (by rw [txt_cps, txt_cps]; exact q s.heap s.toks (.refl _))) ?_
      intro hB tkB xB
      have JB := jext JA xB
      have hnB := hnA.keeps xB
      cases hgt : decide (y < x) with
      | true =>
        rw [hgt, if_pos rfl] at hR
        obtain ⟨kUB, hUB⟩ := JB.lu
        have lU : Lk w hB env (Str.ofString "unexpected") (.ref U) := .loc hnB (upd_ne (upd_ne c4)) he k6 (by decide)
        refine run_append (s := { s with heap := hB, toks := tkB }) ok' lU hUB (Ev.name ((la.ext xA).ext xB)) (Nat.le_trans (sz_small pu.length zu hj zY) (by decide)) ?_ i1
        rintro v hB2 hC tkC xB2 hv sbC lC
        have hv' : v = .str (txt y) ty := hv
        subst hv'
        have JC : J i j ms (us ++ [.str (txt y) ty]) hC := jU (jext JB xB2) sbC (by rw [← List.push_toArray]; exact lC)
        have hnC := ns_same (hnB.keeps xB2) sbC (Ne.symm hUL)
        refine run_inc (s := { s with heap := hC, toks := tkC }) he k4 hnC (upd_ne (upd_ne c6)) ?_
        intro hD tkD tD sbD hnD
        have JD : J i (j + 1) ms (us ++ [.str (txt y) ty]) hD := jset JC (sameB sbD (List.mem_singleton.mpr rfl)) ⟨_, t7, tD, hnD, upd_ne (upd_ne (upd_ne c1)), upd_ne (upd_ne (upd_ne c2)), upd_ne (upd_ne (upd_ne c3)), upd_ne (upd_ne (upd_ne c4)), upd_ne (upd_ne (upd_ne c5)), upd_eq⟩
        have l5 : Lk w hD env (Str.ofString "actual") (.ref Y) := .loc hnD (upd_ne (upd_ne (upd_ne c2))) he k2 (by decide)
        have l6 : Lk w hD env (Str.ofString "j") (.int (j + 1 : Nat) tD) := .loc hnD upd_eq he k4 (by decide)
        have l7 : Lk w hD env (Str.ofString "a") (.str (txt y) ty) := .loc hnD (upd_ne upd_eq) he k8 (by decide)
        have hR' : (mT ++ (sldG k' (xT.drop i) (yT.drop (j + 1))).1, (uT ++ [y]) ++ (sldG k' (xT.drop i) (yT.drop (j + 1))).2) = sldF xT yT := by rw [dx, ← hR]; simp
        refine run_while1 (s := { s with heap := hD, toks := tkD }) hfr' (frm JD) l5 l6 l7 hdl JD.ly (small_lt hj1 zY) nextY ?_ ?_
        · refine run_nil (run_nil (run_nil (hQ' _ ⟨n', Nat.lt_succ_self _, ⟨hD, tkD, i, j + 1, ms, _, mT, uT ++ [y], k', rfl, JD, hi, hj1, pm, puA, zm, snoc_le zu, hR', step_r hk, step_r hnn⟩⟩)))
        · intro hkk h' T tk' e hu hT hx
          refine ⟨e, T, .none, i, j + 1, ms, _, mT, uT ++ [y], rfl, pm, puA, hi, hj1, zm, snoc_le zu, ?_, .inr ⟨h', tk', rfl, jup JD hu, tfree JD hT, hx⟩⟩
          have : yT.drop (j + 1) = [] := drop_nil (Nat.le_trans (Nat.le_of_eq lenY.symm) hkk)
          rw [this, sldG_nil2] at hR'
          rw [this]; exact hR'
      | false =>
        rw [hgt, if_neg (by decide)] at hR
        refine run_inc (s := { s with heap := hB, toks := tkB }) he k3 hnB (upd_ne (upd_ne c5)) ?_
        intro hD tkD tD sbD hnD
        have JD : J (i + 1) j ms us hD := jset JB (sameB sbD (List.mem_singleton.mpr rfl)) ⟨_, tD, u7, hnD, upd_ne (upd_ne (upd_ne c1)), upd_ne (upd_ne (upd_ne c2)), upd_ne (upd_ne (upd_ne c3)), upd_ne (upd_ne (upd_ne c4)), upd_eq, upd_ne (upd_ne (upd_ne c6))⟩
        have l5 : Lk w hD env (Str.ofString "expected") (.ref X) := .loc hnD (upd_ne (upd_ne (upd_ne c1))) he k1 (by decide)
        have l6 : Lk w hD env (Str.ofString "i") (.int (i + 1 : Nat) tD) := .loc hnD upd_eq he k3 (by decide)
        have l7 : Lk w hD env (Str.ofString "e") (.str (txt x) tx) := .loc hnD (upd_ne (upd_ne upd_eq)) he k7 (by decide)
        refine wpAny_execs_cons (wpAny_Try_finally (run_while1 (s := { s with heap := hD, toks := tkD }) hfr' (frm JD) l5 l6 l7 hdl JD.lx (small_lt hi1 zX) nextX ?_ ?_))
        · refine run_nil (run_nil ?_)
          refine run_inc (s := { s with heap := hD, toks := tkD }) he k4 hnD (upd_ne (upd_ne (upd_ne c6))) ?_
          intro hF tkF tF sbF hnF
          have JF : J (i + 1) (j + 1) ms us hF := jset JD (sameB sbF (List.mem_singleton.mpr rfl)) ⟨_, tD, tF, hnF, upd_ne (upd_ne (upd_ne (upd_ne c1))), upd_ne (upd_ne (upd_ne (upd_ne c2))), upd_ne (upd_ne (upd_ne (upd_ne c3))), upd_ne (upd_ne (upd_ne (upd_ne c4))), upd_ne upd_eq, upd_eq⟩
          have r5 : Lk w hF env (Str.ofString "actual") (.ref Y) := .loc hnF (upd_ne (upd_ne (upd_ne (upd_ne c2)))) he k2 (by decide)
          have r6 : Lk w hF env (Str.ofString "j") (.int (j + 1 : Nat) tF) := .loc hnF upd_eq he k4 (by decide)
          have r7 : Lk w hF env (Str.ofString "a") (.str (txt y) ty) := .loc hnF (upd_ne (upd_ne upd_eq)) he k8 (by decide)
          refine run_while1 (s := { s with heap := hF, toks := tkF }) hfr' (frm JF) r5 r6 r7 hdl JF.ly (small_lt hj1 zY) nextY ?_ ?_
          · refine run_nil (run_nil (run_nil (run_nil (hQ' _ ⟨n', Nat.lt_succ_self _, ⟨hF, tkF, i + 1, j + 1, ms, us, mT, uT, k', rfl, JF, hi1, hj1, pm, pu, Nat.le_succ_of_le zm, Nat.le_succ_of_le zu, hR, step_b hk, step_b hnn⟩⟩))))
          · intro hkk h' T tk' e hu hT hx
            refine note_again (s := { s with heap := h', toks := tk' }) hfE hx ?_
            refine came_back (s := { s with heap := h', toks := tk' }) hfE hx fun h'' sb'' hx'' => ?_
            refine ⟨e, T, .none, i + 1, j + 1, ms, us, mT, uT, rfl, pm, pu, hi1, hj1, Nat.le_succ_of_le zm, Nat.le_succ_of_le zu, ?_, .inr ⟨h'', tk', rfl, jT (jup JF hu) (tfree JF hT) sb'', tfree JF hT, hx''⟩⟩
            have : yT.drop (j + 1) = [] := drop_nil (Nat.le_trans (Nat.le_of_eq lenY.symm) hkk)
            rw [this, sldG_nil2] at hR
            rw [this]; exact hR
        · intro hkk h' T tk' e hu hT hx
          have dX : xT.drop (i + 1) = [] := drop_nil (Nat.le_trans (Nat.le_of_eq lenX.symm) hkk)
          rw [dX, sldG_nil] at hR
          have tT := tfree JD hT
          refine note_again (s := { s with heap := h', toks := tk' }) hfE hx ⟨ref_ne_byPass _, ?_⟩
          refine note_again (s := { s with heap := h', toks := tk' }) hfE hx ?_
          refine flight (s := { s with heap := h', toks := tk' }) none hx fun h2 sb2 hx2 => ?_
          have J2 : J (i + 1) j ms us h2 := jT (jup JD hu) tT sb2
          have hnE := ns_same (hu.ns hnD) sb2 (Ne.symm tT.2.1)
          refine run_inc (s := { s with heap := h2, toks := tk' }) he k4 hnE (upd_ne (upd_ne (upd_ne c6))) ?_
          intro hF tkF tF sbF hnF
          have JF : J (i + 1) (j + 1) ms us hF := jset J2 (sameB sbF (List.mem_singleton.mpr rfl)) ⟨_, tD, tF, hnF, upd_ne (upd_ne (upd_ne (upd_ne c1))), upd_ne (upd_ne (upd_ne (upd_ne c2))), upd_ne (upd_ne (upd_ne (upd_ne c3))), upd_ne (upd_ne (upd_ne (upd_ne c4))), upd_ne upd_eq, upd_eq⟩
          have r5 : Lk w hF env (Str.ofString "actual") (.ref Y) := .loc hnF (upd_ne (upd_ne (upd_ne (upd_ne c2)))) he k2 (by decide)
          have r6 : Lk w hF env (Str.ofString "j") (.int (j + 1 : Nat) tF) := .loc hnF upd_eq he k4 (by decide)
          have r7 : Lk w hF env (Str.ofString "a") (.str (txt y) ty) := .loc hnF (upd_ne (upd_ne upd_eq)) he k8 (by decide)
          obtain ⟨oe, ev, oT, ts, x1, x2, x3, x4, x5, x6, x7, x8, x9⟩ := hx2
          have neL : ∀ {b : Addr} {o : Obj} {vs : Array Value}, h2.get? b = some o → o.data = .fields vs → b ≠ env.locals := fun {b o vs} ho hd q => by
            obtain ⟨o', es', ep', ho', hd', _⟩ := hnE
            rw [q, ho'] at ho; cases ho; rw [hd'] at hd; cases hd
          have hxF : ExcAt hF e T .none .none := ⟨oe, ev, oT, ts, sbF.extBut _ _ (neL x1 x3) x1, x2, x3, x4, x5, x6, sbF.extBut _ _ (neL x7 x8) x7, x8, x9⟩
          have hdl2 : Hdl (A'.mark (some (.ref e))) hF (.ref e) := .inr ⟨e, oe, ev, rfl, rfl, sbF.extBut _ _ (neL x1 x3) x1, x3, x5⟩
          refine run_while1 (s := { s with heap := hF, toks := tkF }) (A := A'.mark (some (.ref e))) hfr' (frm JF) r5 r6 r7 hdl2 JF.ly (small_lt hj1 zY) nextY ?_ ?_
          · refine run_nil ?_
            refine pass_on (s := { s with heap := hF, toks := tkF }) hfE hxF fun h3 sb3 hx3 => ?_
            exact ⟨e, T, .none, i + 1, j + 1, ms, us, mT, uT, rfl, pm, pu, hi1, hj1, Nat.le_succ_of_le zm, Nat.le_succ_of_le zu, by rw [dX]; exact hR, .inr ⟨h3, tkF, rfl, jT JF tT sb3, tT, hx3⟩⟩
          · intro hkk2 h3 T2 tk3 e2 hu3 hT2 hx3
            refine note_again (s := { s with heap := h3, toks := tk3 }) hfE hx3 ?_
            refine came_back (s := { s with heap := h3, toks := tk3 }) hfE hx3 fun h4 sb4 hx4 => ?_
            exact ⟨e2, T2, .ref e, i + 1, j + 1, ms, us, mT, uT, rfl, pm, pu, hi1, hj1, Nat.le_succ_of_le zm, Nat.le_succ_of_le zu, by rw [dX]; exact hR, .inr ⟨h4, tk3, rfl, jT (jup JF hu3) (tfree JF hT2) sb4, tfree JF hT2, hx4⟩⟩
end Mine
end

-- Z7
section
open PySem PySem.W PyProof.Rows PySem.Calls PySem.Spec
set_option maxRecDepth 100000
set_option maxHeartbeats 1000000
namespace Mine
theorem rev_txt (l : List Nat) (u : Tok) : Txt.sliceBy (txt l) none none (-1, u) = txt l.reverse := by
  have h := step_rev_list (txt l) u
  have e : (Txt.sliceBy (txt l) none none (-1, u)).cps.toList = l.reverse := by
    rw [h, txt_len]
    apply List.ext_getElem
    · simp
    · intro i h1 h2
      simp [txt]
      have : l.length - 1 - i < l.length := by simp at h2; omega
      simp [this]
  have e2 : Txt.sliceBy (txt l) none none (-1, u) = ⟨(Txt.sliceBy (txt l) none none (-1, u)).cps⟩ := rfl
  apply Str.ext'
  show _ = l.reverse.toArray
  rw [← e]
theorem Ev.revS {w : World} {n : Nat} {h : Heap} {env : Env} {value e : Expr} {sp pos : Pos} {l : List Nat} (hv : Ev w n h env value (isS (txt l))) (he : Ev w n h env e (isI (-1))) (hz : l.length ≤ 1000)
    (hs : ∀ t a, subscripted (.Slice none none (some e) sp) false (.str (txt l) t) (.ref a) = operate [.str (txt l) t, .ref a] (getItem (.str (txt l) t) (.ref a)) := by intro _ _; with_unfolding_all rfl) :
    Ev w n h env (.Subscript value (.Slice none none (some e) sp) pos) (isS (txt l.reverse)) := by
  intro A s Q E ok kk q
  refine Subscript_ (hv A s _ E ok kk fun o h2 tk e2 p => wpAny_Slice (wpAny_evalPart_none (wpAny_evalPart_none (wpAny_evalPart_some (he A _ _ E ok (kk.trans e2) fun v h3 tk3 e3 p3 => ?_)))))
  obtain ⟨t, rfl⟩ := p
  obtain ⟨u, rfl⟩ := p3
  refine tail_any (typeIs_str _ _ _) F.slot_str_getitem.lookup ?_ (hs t _)
  refine wpAny_getItem_str_slice (l := none) (u := none) (st := some (-1, u)) ⟨_, Heap.get?_push_size _ rfl, rfl, rfl⟩ rfl ?_
  refine post_val_or_str ?_
  show (Txt.sliceBy (txt l) none none (-1, u)).length ≤ sizeLine ∧ ∀ t' k, Q (.str (Txt.sliceBy (txt l) none none (-1, u)) t') _
  rw [rev_txt]
  refine ⟨by rw [txt_len, sizeLine_eq]; simp; omega, fun t' k => q _ _ k ((e2.trans e3).trans (Ext.push _ _)) ⟨t', rfl⟩⟩
end Mine
end

-- P6
section
open PySem
namespace Mine
set_option maxRecDepth 100000
noncomputable def bitN (n k : Nat) : Bool := Nat.beq (n / 2 ^ (8 - k) % 2) 1
noncomputable def bitC (n c : Nat) : Bool := Nat.beq (n / 2 ^ (105 - c) % 2) 1
/-- the letters of nine rights -/
noncomputable def lettersN (n : Nat) : List Nat := abc.filter (bitC n)
noncomputable def goN (n : Nat) (op : Bool) : List Nat → List Nat → List Nat → List Nat
  | [], st, out => out.reverse ++ st.reverse
  | c :: cs, st, out => bif bitC n c == op then goN n op cs (c :: st) out else match st with
    | [] => goN n op cs [] (c :: out)
    | _ :: t => goN n op cs t out
noncomputable def freeN (n : Nat) (op : Bool) : List Nat := goN n op abc [] []
noncomputable def numN (cs : List Nat) : Nat := (cs.map fun c => 2 ^ (105 - c)).sum
noncomputable def keptN (n : Nat) (f : List Nat) : Nat := numN ((lettersN n).filter fun c => !f.contains c)
noncomputable def nums (n : Nat) (op : Bool) : List Nat := (List.range ((freeN n op).length + 1)).map fun k => keptN n (freeN n op) + numN (someF (freeN n op) op k)
noncomputable def htsN (n : Nat) (op : Bool) : Nat → List Nat
  | 0 => [9]
  | k + 1 => htsN n op k ++ [bif bitN n k == op then (htsN n op k).getLastD 9 + 1 else (htsN n op k).getLastD 9 - 1]
noncomputable def freeTestN (H : List Nat) (k : Nat) : Bool := ((H.take (k + 1)).all fun a => Nat.blt (H.getD (k + 1) 9) a) || ((H.drop (k + 1)).all fun a => Nat.blt (H.getD k 9) a)
noncomputable def freeHN (n : Nat) (op : Bool) : List Nat := ((List.range 9).filter (freeTestN (htsN n op 9))).map fun k => 2 ^ (8 - k)
noncomputable def lossN (n : Nat) (F : List Nat) : Nat := (F.filter fun b => Nat.beq (n / b % 2) 1).sum
noncomputable def byHN (n : Nat) (op : Bool) : List Nat := (List.range ((freeHN n op).length + 1)).map fun k => n - lossN n (freeHN n op) + (someF (freeHN n op) op k).sum
noncomputable def stepB (a b c : Nat) : Bool := (abc.all fun d => !bitC a d || bitC b d) && (abc.filter fun d => bitC b d && !bitC a d) == [c]
noncomputable def okA (n : Nat) (op : Bool) : Bool :=
  (nums n op).contains n && ((nums n op).all fun x => Nat.blt x 512 && freeN x op == freeN n op) &&
  ((lettersN ((nums n op).getD 0 0)).length + (lettersN ((nums n op).getD (freeN n op).length 0)).length == 9) &&
  ((List.range (freeN n op).length).all fun k => stepB ((nums n op).getD k 0) ((nums n op).getD (k + 1) 0) ((if op then (freeN n op).reverse else freeN n op).getD k 0)) &&
  Nat.ble (lossN n (freeHN n op)) n && nums n op == byHN n op
noncomputable def sharedN (n : Nat) : List Nat := if n == 0 || n == 511 then [(nums n false).getD 0 0, (nums n false).getD (freeN n false).length 0] else [n]
noncomputable def okB (n : Nat) : Bool := ((nums n false).filter fun x => (nums n true).contains x) == sharedN n && ((nums n true).filter fun x => (nums n false).contains x) == sharedN n
end Mine
end

-- P7
section
open PySem
namespace Mine
/-- what the law asks of one reading, in plain words -/
structure OneOk (m : Int) (op : Bool) : Prop where
  rows : ∀ r ∈ rowsF m (lettersF (fileF m)) op, RowS r
  own : fileF m ∈ rowsF m (lettersF (fileF m)) op
  nine : (lettersF ((rowsF m (lettersF (fileF m)) op).getD 0 [])).length + (lettersF ((rowsF m (lettersF (fileF m)) op).getD (freeF (lettersF (fileF m)) op).length [])).length = 9
  step : ∀ k c, (if op then (freeF (lettersF (fileF m)) op).reverse else freeF (lettersF (fileF m)) op)[k]? = some c →
    sldF ((lettersF ((rowsF m (lettersF (fileF m)) op).getD k [])).map fun c => [c]) ((lettersF ((rowsF m (lettersF (fileF m)) op).getD (k + 1) [])).map fun c => [c]) = ([], [[c]])
  free : ∀ r ∈ rowsF m (lettersF (fileF m)) op, freeF (lettersF r) op = freeF (lettersF (fileF m)) op
  nums : (rowsF m (lettersF (fileF m)) op).map (fun r => numF' (lettersF r)) = byH (m % 512) op
noncomputable def sharedF (m : Int) : List (List Nat) := if m % 512 = 0 ∨ m % 512 = 511 then [(rowsF m (lettersF (fileF m)) false).getD 0 [], (rowsF m (lettersF (fileF m)) false).getD (freeF (lettersF (fileF m)) false).length []] else [fileF m]
structure LawOk (m : Int) : Prop where
  own : RowS (fileF m)
  one : ∀ op, OneOk m op
  both : ∀ so st : List (List Nat), so.Perm (rowsF m (lettersF (fileF m)) false) → st.Perm (rowsF m (lettersF (fileF m)) true) → so.Pairwise (fun a b => ¬ b < a) → st.Pairwise (fun a b => ¬ b < a) →
    Adj so ∧ Adj st ∧ (rowsF m (lettersF (fileF m)) false).filter (fun r => !(sldF so st).1.contains r) = sharedF m ∧ (rowsF m (lettersF (fileF m)) true).filter (fun r => !(sldF so st).2.contains r) = sharedF m
end Mine
end

-- P8
section
open PySem
namespace Mine
set_option maxRecDepth 100000
theorem lettersN_contains {n c : Nat} (hc : c ∈ abc) : (lettersN n).contains c = bitC n c := by
  unfold lettersN
  rw [Bool.eq_iff_iff, List.contains_iff_mem, List.mem_filter]
  exact ⟨fun h => h.2, fun h => ⟨hc, h⟩⟩
theorem goN_eq (n : Nat) (op : Bool) : ∀ (cs st out : List Nat), (∀ c ∈ cs, c ∈ abc) →
    goN n op cs st out = (cs.foldl (stepF (lettersN n) op) (st.reverse, out.reverse)).2 ++ (cs.foldl (stepF (lettersN n) op) (st.reverse, out.reverse)).1
  | [], st, out, _ => rfl
  | c :: cs, st, out, h => by
    have hc := h c (List.mem_cons_self ..)
    have hr : ∀ d ∈ cs, d ∈ abc := fun d hd => h d (List.mem_cons_of_mem _ hd)
    rw [goN.eq_def]
    dsimp only
    rw [List.foldl_cons]
    rw [show stepF (lettersN n) op (st.reverse, out.reverse) c = if (lettersN n).contains c == op then (st.reverse ++ [c], out.reverse) else if st.reverse.isEmpty then (st.reverse, out.reverse ++ [c]) else (st.reverse.dropLast, out.reverse) from rfl]
    rw [lettersN_contains hc]
    cases hb : bitC n c == op with
    | true =>
      rw [cond_true, if_pos rfl, goN_eq n op cs (c :: st) out hr, List.reverse_cons]
    | false =>
      rw [cond_false, if_neg (by decide)]
      cases st with
      | nil =>
        have := goN_eq n op cs [] (c :: out) hr
        rw [List.reverse_cons] at this
        exact this
      | cons x t =>
        have e1 : (x :: t).reverse.isEmpty = false := by simp
        rw [e1, if_neg (by decide)]
        have := goN_eq n op cs t out hr
        have e2 : (x :: t).reverse.dropLast = t.reverse := by simp
        rw [e2]
        exact this
theorem freeN_eq (n : Nat) (op : Bool) : freeF (lettersN n) op = freeN n op := (goN_eq n op abc [] [] fun _ h => h).symm
theorem pow_abc : ∀ c ∈ abc, (256 / 2 ^ (c - 97) : Int) = ((2 ^ (105 - c) : Nat) : Int) := by decide
theorem numF_nat : ∀ (cs : List Nat), (∀ c ∈ cs, c ∈ abc) → numF' cs = (numN cs : Int)
  | [], _ => rfl
  | c :: cs, h => by
    have := numF_nat cs fun d hd => h d (List.mem_cons_of_mem _ hd)
    unfold numF' numN at this ⊢
    rw [List.map_cons, List.map_cons, List.sum_cons, List.sum_cons, this, pow_abc c (h c (List.mem_cons_self ..))]
    push_cast
    rfl
theorem numN_app (a b : List Nat) : numN (a ++ b) = numN a + numN b := by
  unfold numN; rw [List.map_append, List.sum_append]
theorem lettersN_mem {n : Nat} : ∀ c ∈ lettersN n, c ∈ abc := fun _ h => (List.mem_filter.mp h).1
-- heights
theorem bitI_nat (n k : Nat) : bitI (n : Int) k = bitN n k := by
  unfold bitI bitN
  have e : ((2 : Int) ^ (8 - k)) = ((2 ^ (8 - k) : Nat) : Int) := by push_cast; rfl
  rw [e, ← Int.natCast_ediv, show (2 : Int) = ((2 : Nat) : Int) from rfl, ← Int.natCast_emod]
  rw [Bool.eq_iff_iff, beq_iff_eq, Nat.beq_eq]
  exact Int.ofNat_inj (n := 1)
theorem last_app {α : Type} (l : List α) (a d : α) : (l ++ [a]).getLastD d = a := by simp [List.getLastD_eq_getLast?]
theorem ht_up (x : Nat) : (x : Int) - 9 + 1 = ((x + 1 : Nat) : Int) - 9 := by omega
theorem ht_dn {x k : Nat} (h : 9 - k ≤ x) (hk : k + 1 ≤ 9) : (x : Int) - 9 + -1 = ((x - 1 : Nat) : Int) - 9 ∧ 9 - (k + 1) ≤ x - 1 := by
  have h1 : 1 ≤ x := Nat.le_trans (Nat.sub_pos_of_lt hk) h
  refine ⟨?_, Nat.sub_le_sub_right h 1⟩
  rw [Int.ofNat_sub h1]
  have a : (x : Int) - 9 - 1 = x - 10 := Int.sub_sub ..
  have b : (x : Int) - 1 - 9 = x - 10 := Int.sub_sub ..
  exact a.trans b.symm
theorem hts_nat (n : Nat) (op : Bool) : ∀ k, k ≤ 9 → hts (n : Int) op k = (htsN n op k).map (fun x : Nat => (x : Int) - 9) ∧ 9 - k ≤ (htsN n op k).getLastD 9 ∧ (hts (n : Int) op k).getLastD 0 = ((htsN n op k).getLastD 9 : Int) - 9
  | 0, _ => ⟨rfl, by simp [htsN], rfl⟩
  | k + 1, hk => by
    obtain ⟨h1, h2, h3⟩ := hts_nat n op k (Nat.le_of_succ_le hk)
    rw [hts, htsN, last_app, last_app, bitI_nat, h3, h1, List.map_append]
    cases hb : bitN n k == op with
    | true =>
      rw [cond_true, if_pos rfl, ht_up]
      exact ⟨rfl, Nat.le_trans (Nat.sub_le_sub_left (Nat.le_succ k) 9) (Nat.le_succ_of_le h2), rfl⟩
    | false =>
      rw [cond_false, if_neg (by decide), (ht_dn h2 hk).1]
      exact ⟨rfl, (ht_dn h2 hk).2, rfl⟩
theorem lt_minL {l : List Int} {x : Int} (h : l ≠ []) : (x < minL l) ↔ ∀ a ∈ l, x < a :=
  ⟨fun hx a ha => Int.lt_of_lt_of_le hx (minL_le l a ha), fun hx => hx _ (minL_mem l h)⟩
theorem htsN_len (n : Nat) (op : Bool) : ∀ k, (htsN n op k).length = k + 1
  | 0 => rfl
  | k + 1 => by rw [htsN, List.length_append, htsN_len n op k]; rfl
theorem lt_all {l : List Nat} {x : Nat} (h : l ≠ []) : decide (((x : Int) - 9) < minL (l.map fun y : Nat => (y : Int) - 9)) = l.all fun a => Nat.blt x a := by
  rw [Bool.eq_iff_iff, decide_eq_true_iff, lt_minL (by simpa using h), List.all_eq_true]
  constructor
  · intro hh a ha
    have := hh _ (List.mem_map.mpr ⟨a, ha, rfl⟩)
    rw [Nat.blt_eq]
    omega
  · intro hh b hb
    obtain ⟨a, ha, rfl⟩ := List.mem_map.mp hb
    have := hh a ha
    rw [Nat.blt_eq] at this
    omega
theorem freeTest_nat (H : List Nat) (k : Nat) (hk : k + 1 < H.length) : freeTest (H.map fun x : Nat => (x : Int) - 9) k = freeTestN H k := by
  unfold freeTest freeTestN
  have g : ∀ i, i < H.length → (H.map fun x : Nat => (x : Int) - 9).getD i 0 = ((H.getD i 9 : Nat) : Int) - 9 := by
    intro i hi
    simp [List.getD_eq_getElem?_getD, hi]
  rw [g _ hk, g _ (Nat.lt_of_succ_lt hk), ← List.map_take, ← List.map_drop]
  rw [lt_all (by intro e; have := congrArg List.length e; rw [List.length_take, List.length_nil] at this; omega), lt_all (by intro e; have := congrArg List.length e; rw [List.length_drop, List.length_nil] at this; omega)]
theorem freeH_nat (n : Nat) (op : Bool) : freeH (n : Int) op = (freeHN n op).map fun x : Nat => (x : Int) := by
  unfold freeH freeHN
  rw [(hts_nat n op 9 (Nat.le_refl _)).1, List.map_map]
  have e : (List.range 9).filter (freeTest ((htsN n op 9).map fun x : Nat => (x : Int) - 9)) = (List.range 9).filter (freeTestN (htsN n op 9)) := by
    refine List.filter_congr fun k hk => freeTest_nat _ _ ?_
    rw [htsN_len]
    have := List.mem_range.mp hk
    omega
  rw [e]
  refine List.map_congr_left fun k _ => ?_
  show _ = ((2 ^ (8 - k) : Nat) : Int)
  push_cast
  rfl
theorem sum_nat : ∀ l : List Nat, (l.map fun x : Nat => (x : Int)).sum = (l.sum : Int)
  | [] => rfl
  | a :: l => by rw [List.map_cons, List.sum_cons, List.sum_cons, sum_nat l]; push_cast; rfl
theorem loss_nat (n : Nat) (F : List Nat) : ((F.map fun x : Nat => (x : Int)).filter fun b => (n : Int) / b % 2 == 1).sum = (lossN n F : Int) := by
  rw [List.filter_map, sum_nat]
  unfold lossN
  congr 2
  refine List.filter_congr fun b _ => ?_
  show ((n : Int) / (b : Int) % 2 == 1) = _
  rw [← Int.natCast_ediv, show (2 : Int) = ((2 : Nat) : Int) from rfl, ← Int.natCast_emod, Bool.eq_iff_iff, beq_iff_eq, Nat.beq_eq]
  exact Int.ofNat_inj (n := 1)
theorem byH_nat (n : Nat) (op : Bool) (h : lossN n (freeHN n op) ≤ n) : byH (n : Int) op = (byHN n op).map fun x : Nat => (x : Int) := by
  unfold byH byHN
  rw [freeH_nat, List.length_map, List.map_map]
  refine List.map_congr_left fun k _ => ?_
  unfold keptH
  rw [freeH_nat, loss_nat]
  have e : someH ((freeHN n op).map fun x : Nat => (x : Int)) op k = (someF (freeHN n op) op k).map fun x : Nat => (x : Int) := by
    unfold someH someF
    cases op
    · simp
    · simp
  rw [e, sum_nat]
  show _ = ((n - lossN n (freeHN n op) + (someF (freeHN n op) op k).sum : Nat) : Int)
  rw [Int.natCast_add, Int.ofNat_sub h]
end Mine
end

-- P9
section
open PySem
namespace Mine
set_option maxRecDepth 100000
theorem okA_f0 : ∀ i < 64, okA (i + 0) false = true := by decide +kernel
theorem okA_t0 : ∀ i < 64, okA (i + 0) true = true := by decide +kernel
theorem okA_f1 : ∀ i < 64, okA (i + 64) false = true := by decide +kernel
theorem okA_t1 : ∀ i < 64, okA (i + 64) true = true := by decide +kernel
theorem okA_f2 : ∀ i < 64, okA (i + 128) false = true := by decide +kernel
theorem okA_t2 : ∀ i < 64, okA (i + 128) true = true := by decide +kernel
theorem okA_f3 : ∀ i < 64, okA (i + 192) false = true := by decide +kernel
theorem okA_t3 : ∀ i < 64, okA (i + 192) true = true := by decide +kernel
theorem okA_f4 : ∀ i < 64, okA (i + 256) false = true := by decide +kernel
theorem okA_t4 : ∀ i < 64, okA (i + 256) true = true := by decide +kernel
theorem okA_f5 : ∀ i < 64, okA (i + 320) false = true := by decide +kernel
theorem okA_t5 : ∀ i < 64, okA (i + 320) true = true := by decide +kernel
theorem okA_f6 : ∀ i < 64, okA (i + 384) false = true := by decide +kernel
theorem okA_t6 : ∀ i < 64, okA (i + 384) true = true := by decide +kernel
theorem okA_f7 : ∀ i < 64, okA (i + 448) false = true := by decide +kernel
theorem okA_t7 : ∀ i < 64, okA (i + 448) true = true := by decide +kernel
theorem okB_0 : ∀ i < 64, okB (i + 0) = true := by decide +kernel
theorem okB_1 : ∀ i < 64, okB (i + 64) = true := by decide +kernel
theorem okB_2 : ∀ i < 64, okB (i + 128) = true := by decide +kernel
theorem okB_3 : ∀ i < 64, okB (i + 192) = true := by decide +kernel
theorem okB_4 : ∀ i < 64, okB (i + 256) = true := by decide +kernel
theorem okB_5 : ∀ i < 64, okB (i + 320) = true := by decide +kernel
theorem okB_6 : ∀ i < 64, okB (i + 384) = true := by decide +kernel
theorem okB_7 : ∀ i < 64, okB (i + 448) = true := by decide +kernel
theorem num_letters : ∀ n < 512, numN (lettersN n) = n := by decide +kernel
theorem chunk {P : Nat → Prop} (h0 : ∀ i < 64, P (i + 0)) (h1 : ∀ i < 64, P (i + 64)) (h2 : ∀ i < 64, P (i + 128)) (h3 : ∀ i < 64, P (i + 192)) (h4 : ∀ i < 64, P (i + 256)) (h5 : ∀ i < 64, P (i + 320)) (h6 : ∀ i < 64, P (i + 384)) (h7 : ∀ i < 64, P (i + 448)) : ∀ n < 512, P n := by
  intro n hn
  have key : ∀ b : Nat, (∀ i < 64, P (i + b)) → b ≤ n → n < b + 64 → P n := fun b h h1 h2 => by
    have := h (n - b) (Nat.sub_lt_left_of_lt_add h1 h2)
    rwa [Nat.sub_add_cancel h1] at this
  by_cases c1 : n < 64; · exact key 0 h0 (Nat.zero_le _) c1
  by_cases c2 : n < 128; · exact key 64 h1 (Nat.le_of_not_lt c1) c2
  by_cases c3 : n < 192; · exact key 128 h2 (Nat.le_of_not_lt c2) c3
  by_cases c4 : n < 256; · exact key 192 h3 (Nat.le_of_not_lt c3) c4
  by_cases c5 : n < 320; · exact key 256 h4 (Nat.le_of_not_lt c4) c5
  by_cases c6 : n < 384; · exact key 320 h5 (Nat.le_of_not_lt c5) c6
  by_cases c7 : n < 448; · exact key 384 h6 (Nat.le_of_not_lt c6) c7
  exact key 448 h7 (Nat.le_of_not_lt c7) hn
theorem okA_all (op : Bool) : ∀ n < 512, okA n op = true := by
  cases op
  · exact chunk okA_f0 okA_f1 okA_f2 okA_f3 okA_f4 okA_f5 okA_f6 okA_f7
  · exact chunk okA_t0 okA_t1 okA_t2 okA_t3 okA_t4 okA_t5 okA_t6 okA_t7
theorem okB_all : ∀ n < 512, okB n = true := chunk okB_0 okB_1 okB_2 okB_3 okB_4 okB_5 okB_6 okB_7
end Mine
end

-- P10
section
open PySem
namespace Mine
set_option maxRecDepth 100000
theorem lt_tr {a b c : List Nat} (h1 : a < b) (h2 : b < c) : a < c := List.lt_trans h1 h2
theorem lt_ir (a : List Nat) : ¬ a < a := List.lt_irrefl a
theorem lt_ne {a b : List Nat} (h : a < b) : a ≠ b := fun e => lt_ir b (e ▸ h)
theorem lt_or {a b : List Nat} (h1 : ¬ a < b) (h2 : ¬ b < a) : a = b := List.le_antisymm h2 h1
theorem filter_all {α : Type} {p : α → Bool} {l : List α} (h : ∀ a ∈ l, p a = true) : l.filter p = l := List.filter_eq_self.mpr h
theorem not_contains_cons {x a : List Nat} {l : List (List Nat)} (h : a ≠ x) : (!(x :: l).contains a) = !l.contains a := by
  rw [List.contains_cons, beq_eq_false_iff_ne.mpr h, Bool.false_or]
theorem sld_spec : ∀ (n : Nat) (xs ys : List (List Nat)), xs.length + ys.length ≤ n → xs.Pairwise (· < ·) → ys.Pairwise (· < ·) →
    sldG n xs ys = (xs.filter fun a => !ys.contains a, ys.filter fun a => !xs.contains a)
  | n, [], ys, _, _, _ => by
    rw [sldG_nil]
    congr 1
    exact (filter_all (fun a _ => by simp)).symm
  | n, x :: xs, [], _, _, _ => by
    rw [sldG_nil2]
    congr 1
    exact (filter_all (fun a _ => by simp)).symm
  | 0, x :: xs, y :: ys, h, _, _ => by simp at h
  | n + 1, x :: xs, y :: ys, h, hx, hy => by
    have hx' := List.pairwise_cons.mp hx
    have hy' := List.pairwise_cons.mp hy
    rw [sldG]
    have ctn : ∀ {z : List Nat} {l : List (List Nat)}, (∀ b ∈ l, z ≠ b) → (!l.contains z) = true := fun {z l} h => by
      rw [Bool.not_eq_true', ← Bool.not_eq_true, List.contains_iff_mem]
      exact fun hm => h z hm rfl
    by_cases c1 : x < y
    · rw [if_pos (decide_eq_true c1), sld_spec n xs (y :: ys) (by simp at h ⊢; omega) hx'.2 hy]
      have nx : ∀ b ∈ y :: ys, x < b := fun b hb => by
        rcases List.mem_cons.mp hb with rfl | hb
        · exact c1
        · exact lt_tr c1 (hy'.1 b hb)
      congr 1
      · exact (List.filter_cons_of_pos (p := fun a => !(y :: ys).contains a) (ctn fun b hb => lt_ne (nx b hb))).symm
      · refine List.filter_congr fun a ha => ?_
        rw [not_contains_cons (Ne.symm (lt_ne (nx a ha)))]
    · rw [if_neg (by simpa using c1)]
      by_cases c2 : y < x
      · rw [if_pos (decide_eq_true c2), sld_spec n (x :: xs) ys (by simp at h ⊢; omega) hx hy'.2]
        have ny : ∀ b ∈ x :: xs, y < b := fun b hb => by
          rcases List.mem_cons.mp hb with rfl | hb
          · exact c2
          · exact lt_tr c2 (hx'.1 b hb)
        congr 1
        · refine List.filter_congr fun a ha => ?_
          rw [not_contains_cons (Ne.symm (lt_ne (ny a ha)))]
        · exact (List.filter_cons_of_pos (p := fun a => !(x :: xs).contains a) (ctn fun b hb => lt_ne (ny b hb))).symm
      · rw [if_neg (by simpa using c2), sld_spec n xs ys (by simp at h ⊢; omega) hx'.2 hy'.2]
        have e := lt_or c1 c2
        subst e
        congr 1
        · rw [List.filter_cons_of_neg (by simp)]
          refine List.filter_congr fun a ha => ?_
          rw [not_contains_cons (Ne.symm (lt_ne (hx'.1 a ha)))]
        · rw [List.filter_cons_of_neg (by simp)]
          refine List.filter_congr fun a ha => ?_
          rw [not_contains_cons (Ne.symm (lt_ne (hy'.1 a ha)))]
theorem sldF_spec {xs ys : List (List Nat)} (hx : xs.Pairwise (· < ·)) (hy : ys.Pairwise (· < ·)) : sldF xs ys = (xs.filter fun a => !ys.contains a, ys.filter fun a => !xs.contains a) :=
  sld_spec _ _ _ (Nat.le_succ _) hx hy
theorem one_lt {c d : Nat} (h : c < d) : ([c] : List Nat) < [d] := by
  rw [List.cons_lt_cons_iff]; exact .inl h
theorem pw_letters (n : Nat) : ((lettersN n).map fun c => [c]).Pairwise (· < ·) := by
  rw [List.pairwise_map]
  have : abc.Pairwise (· < ·) := by decide
  exact (this.sublist List.filter_sublist).imp fun h => one_lt h
theorem contains_map (l : List Nat) (a : Nat) : (l.map fun c => [c]).contains [a] = l.contains a := by
  rw [Bool.eq_iff_iff, List.contains_iff_mem, List.contains_iff_mem, List.mem_map]
  constructor
  · rintro ⟨b, hb, e⟩; simp at e; exact e ▸ hb
  · intro h; exact ⟨a, h, rfl⟩
theorem step_of {a b c : Nat} (h : stepB a b c = true) : sldF ((lettersN a).map fun c => [c]) ((lettersN b).map fun c => [c]) = ([], [[c]]) := by
  unfold stepB at h
  rw [Bool.and_eq_true, List.all_eq_true, beq_iff_eq] at h
  obtain ⟨h1, h2⟩ := h
  rw [sldF_spec (pw_letters a) (pw_letters b), List.filter_map, List.filter_map]
  have e1 : (lettersN a).filter ((fun z => !((lettersN b).map fun c => [c]).contains z) ∘ fun c => [c]) = [] := by
    rw [List.filter_eq_nil_iff]
    intro d hd
    have hm := lettersN_mem d hd
    have := h1 d hm
    have hb : bitC a d = true := (List.mem_filter.mp hd).2
    simp only [Function.comp_apply, contains_map, lettersN_contains hm]
    simpa [hb] using this
  have e2 : (lettersN b).filter ((fun z => !((lettersN a).map fun c => [c]).contains z) ∘ fun c => [c]) = [c] := by
    rw [← h2]
    show (abc.filter (bitC b)).filter _ = _
    rw [List.filter_filter]
    refine List.filter_congr fun d hd => ?_
    simp only [Function.comp_apply, contains_map, lettersN_contains hd]
    exact Bool.and_comm ..
  rw [e1, e2]
  rfl
end Mine
end

-- P11
section
open PySem
namespace Mine
set_option maxRecDepth 100000
theorem and_eq {M b : Nat} (hb : b < 2 ^ 12) : ((M &&& b) = b) ↔ ∀ k < 12, b.testBit k = true → M.testBit k = true := by
  constructor
  · intro h k _ hk
    rw [← h, Nat.testBit_and, Bool.and_eq_true] at hk
    exact hk.1
  · intro h
    refine Nat.eq_of_testBit_eq fun k => ?_
    rw [Nat.testBit_and]
    by_cases hk : k < 12
    · cases hb' : b.testBit k with
      | false => simp
      | true => simp [h k hk hb']
    · have : b.testBit k = false := Nat.testBit_lt_two_pow (Nat.lt_of_lt_of_le hb (Nat.pow_le_pow_right (by decide) (by omega)))
      simp [this]
theorem hit_nat {M : Nat} (b : Nat) (hb : b < 2 ^ 12) : (Builtin.bitAnd (M : Int) (b : Int) == (b : Int)) = (List.range 12).all fun k => !b.testBit k || M.testBit k := by
  rw [PyProof.Rows.bitAnd_pp (Int.natCast_nonneg _) (Int.natCast_nonneg _), Int.toNat_natCast, Int.toNat_natCast, Bool.eq_iff_iff, beq_iff_eq, List.all_eq_true]
  have : (((M &&& b : Nat) : Int) = (b : Int)) ↔ (M &&& b) = b := Int.ofNat_inj
  rw [this, and_eq hb]
  constructor
  · intro h k hk
    cases hb' : b.testBit k with
    | false => rfl
    | true => simp [h k (List.mem_range.mp hk) hb']
  · intro h k hk hb'
    have := h k (List.mem_range.mpr hk)
    simpa [hb'] using this
section
variable (M : Nat) (A T : Addr) (i : Nat)
theorem sign1 (b c : Nat) (hb : b < 2 ^ 12) : signT (M : Int) ((T, [(A, (b : Int), c)]), i + 1) = bif ((List.range 12).all fun k => !b.testBit k || M.testBit k) then c else 45 := by
  rw [← hit_nat b hb]
  unfold signT hitT
  cases h : (Builtin.bitAnd (M : Int) (b : Int) == (b : Int)) <;> simp [List.find?, h]
theorem sign3 (A2 A3 : Addr) (b c b2 c2 b3 c3 : Nat) (hb : b < 2 ^ 12) (hb2 : b2 < 2 ^ 12) (hb3 : b3 < 2 ^ 12) : signT (M : Int) ((T, [(A, (b : Int), c), (A2, (b2 : Int), c2), (A3, (b3 : Int), c3)]), i + 1) =
    bif ((List.range 12).all fun k => !b.testBit k || M.testBit k) then c else bif ((List.range 12).all fun k => !b2.testBit k || M.testBit k) then c2 else bif ((List.range 12).all fun k => !b3.testBit k || M.testBit k) then c3 else 45 := by
  rw [← hit_nat b hb, ← hit_nat b2 hb2, ← hit_nat b3 hb3]
  unfold signT hitT
  cases h : (Builtin.bitAnd (M : Int) (b : Int) == (b : Int)) <;> cases h2 : (Builtin.bitAnd (M : Int) (b2 : Int) == (b2 : Int)) <;> cases h3 : (Builtin.bitAnd (M : Int) (b3 : Int) == (b3 : Int)) <;> simp [List.find?, h, h2, h3]
end
/-- the nine signs of the rights, by bits -/
noncomputable def sgs (M : Nat) : List Nat :=
  [bif M.testBit 8 then 114 else 45, bif M.testBit 7 then 119 else 45, bif (M.testBit 6 && M.testBit 11) then 115 else bif M.testBit 11 then 83 else bif M.testBit 6 then 120 else 45,
   bif M.testBit 5 then 114 else 45, bif M.testBit 4 then 119 else 45, bif (M.testBit 3 && M.testBit 10) then 115 else bif M.testBit 10 then 83 else bif M.testBit 3 then 120 else 45,
   bif M.testBit 2 then 114 else 45, bif M.testBit 1 then 119 else 45, bif (M.testBit 0 && M.testBit 9) then 116 else bif M.testBit 9 then 84 else bif M.testBit 0 then 120 else 45]
theorem cons_eq {a b : Nat} {l l' : List Nat} (h1 : a = b) (h2 : l = l') : a :: l = b :: l' := by rw [h1, h2]
theorem bits_all (M b : Nat) {l : List Nat} (h : ((List.range 12).filter b.testBit) = l) : ((List.range 12).all fun k => !b.testBit k || M.testBit k) = l.all fun k => M.testBit k := by
  subst h
  rw [Bool.eq_iff_iff, List.all_eq_true, List.all_eq_true]
  constructor
  · intro h k hk
    have := h k (List.mem_filter.mp hk).1
    simpa [(List.mem_filter.mp hk).2] using this
  · intro h k hk
    cases hb : b.testBit k with
    | false => rfl
    | true => simpa using h k (List.mem_filter.mpr ⟨hk, hb⟩)
theorem s1 (M : Nat) (A T : Addr) (i b c k : Nat) (hb : b < 2 ^ 12 := by decide) (h : ((List.range 12).filter b.testBit) = [k] := by decide) : signT (M : Int) ((T, [(A, (b : Int), c)]), i + 1) = bif M.testBit k then c else 45 := by
  rw [sign1 _ _ _ _ _ _ hb, bits_all M b h, List.all_cons, List.all_nil, Bool.and_true]
theorem s3 (M : Nat) (A T A2 A3 : Addr) (i b c b2 c2 b3 c3 k j : Nat) (hb : b < 2 ^ 12 := by decide) (hb2 : b2 < 2 ^ 12 := by decide) (hb3 : b3 < 2 ^ 12 := by decide) (h : ((List.range 12).filter b.testBit) = [k, j] := by decide) (h2 : ((List.range 12).filter b2.testBit) = [j] := by decide) (h3 : ((List.range 12).filter b3.testBit) = [k] := by decide) :
    signT (M : Int) ((T, [(A, (b : Int), c), (A2, (b2 : Int), c2), (A3, (b3 : Int), c3)]), i + 1) = bif (M.testBit k && M.testBit j) then c else bif M.testBit j then c2 else bif M.testBit k then c3 else 45 := by
  rw [sign3 _ _ _ _ _ _ _ _ _ _ _ _ hb hb2 hb3, bits_all M b h, bits_all M b2 h2, bits_all M b3 h3]
  simp only [List.all_cons, List.all_nil, Bool.and_true]
theorem fileF_drop (M : Nat) : (fileF (M : Int)).drop 1 = sgs M :=
  cons_eq (s1 M 121 122 0 256 114 8) (cons_eq (s1 M 123 124 1 128 119 7) (cons_eq (s3 M 125 128 126 127 2 2112 115 2048 83 64 120 6 11) (cons_eq (s1 M 129 130 3 32 114 5) (cons_eq (s1 M 131 132 4 16 119 4) (cons_eq (s3 M 133 136 134 135 5 1032 115 1024 83 8 120 3 10)
    (cons_eq (s1 M 137 138 6 4 114 2) (cons_eq (s1 M 139 140 7 2 119 1) (cons_eq (s3 M 141 144 142 143 8 513 116 512 84 1 120 0 9) rfl))))))))
theorem sg2 : ∀ b : Bool, ∀ c ∈ [114, 119], (bif b then c else 45) ∈ signs ∧ setB (bif b then c else 45) = b := by decide
theorem sg3 : ∀ b d : Bool, ∀ c ∈ [(115, 83), (116, 84)], (bif (b && d) then c.1 else bif d then c.2 else bif b then 120 else 45) ∈ signs ∧ setB (bif (b && d) then c.1 else bif d then c.2 else bif b then 120 else 45) = b := by decide
theorem sgs_ok (M : Nat) : ∀ c ∈ sgs M, c ∈ signs := by
  intro c hc
  unfold sgs at hc
  simp only [List.mem_cons, List.not_mem_nil, or_false] at hc
  rcases hc with rfl | rfl | rfl | rfl | rfl | rfl | rfl | rfl | rfl
  · exact (sg2 _ _ (by decide)).1
  · exact (sg2 _ _ (by decide)).1
  · exact (sg3 _ _ (115, 83) (by decide)).1
  · exact (sg2 _ _ (by decide)).1
  · exact (sg2 _ _ (by decide)).1
  · exact (sg3 _ _ (115, 83) (by decide)).1
  · exact (sg2 _ _ (by decide)).1
  · exact (sg2 _ _ (by decide)).1
  · exact (sg3 _ _ (116, 84) (by decide)).1
theorem rowS_file (M : Nat) : RowS (fileF (M : Int)) := ⟨fileF_len _, fun c hc => sgs_ok M c (by rw [← fileF_drop]; exact hc)⟩
theorem bitC_test (n c : Nat) : bitC n c = n.testBit (105 - c) := by
  unfold bitC
  rw [Nat.testBit_eq_decide_div_mod_eq, Bool.eq_iff_iff, Nat.beq_eq, decide_eq_true_iff]
theorem letters_file (M : Nat) : lettersF (fileF (M : Int)) = lettersN (M % 512) := by
  unfold lettersF lettersN
  rw [fileF_drop]
  have h : ∀ a ∈ abc.zip (sgs M), setB a.2 = bitC (M % 512) a.1 := by
    intro a ha
    have hm := (List.of_mem_zip ha).1
    have hr := abc_range _ hm
    rw [bitC_test, show (512 : Nat) = 2 ^ 9 from rfl, Nat.testBit_mod_two_pow]
    have : decide (105 - a.1 < 9) = true := by simp; omega
    rw [this, Bool.true_and]
    unfold abc sgs at ha
    simp only [List.zip_cons_cons, List.zip_nil_left, List.mem_cons, List.not_mem_nil, or_false] at ha
    rcases ha with rfl | rfl | rfl | rfl | rfl | rfl | rfl | rfl | rfl
    · exact (sg2 _ _ (by decide)).2
    · exact (sg2 _ _ (by decide)).2
    · exact (sg3 _ _ (115, 83) (by decide)).2
    · exact (sg2 _ _ (by decide)).2
    · exact (sg2 _ _ (by decide)).2
    · exact (sg3 _ _ (115, 83) (by decide)).2
    · exact (sg2 _ _ (by decide)).2
    · exact (sg2 _ _ (by decide)).2
    · exact (sg3 _ _ (116, 84) (by decide)).2
  have e : (abc.zip (sgs M)).filter (fun a => setB a.2) = (abc.zip (sgs M)).filter ((bitC (M % 512)) ∘ Prod.fst) := List.filter_congr fun a ha => h a ha
  rw [e]
  show ((abc.zip (sgs M)).filter ((bitC (M % 512)) ∘ Prod.fst)).map Prod.fst = _
  rw [← List.filter_map, List.map_fst_zip (show abc.length ≤ (sgs M).length from Nat.le_refl 9)]
end Mine
end

-- P12
section
open PySem
namespace Mine
set_option maxRecDepth 100000
theorem okA_get {n : Nat} {op : Bool} (h : okA n op = true) : n ∈ nums n op ∧ (∀ x ∈ nums n op, x < 512 ∧ freeN x op = freeN n op) ∧
    (lettersN ((nums n op).getD 0 0)).length + (lettersN ((nums n op).getD (freeN n op).length 0)).length = 9 ∧
    (∀ k < (freeN n op).length, stepB ((nums n op).getD k 0) ((nums n op).getD (k + 1) 0) ((if op then (freeN n op).reverse else freeN n op).getD k 0) = true) ∧
    lossN n (freeHN n op) ≤ n ∧ nums n op = byHN n op := by
  unfold okA at h
  simp only [Bool.and_eq_true, List.all_eq_true, beq_iff_eq, List.contains_iff_mem, List.mem_range, Nat.blt_eq, Nat.ble_eq] at h
  obtain ⟨⟨⟨⟨⟨a, b⟩, c⟩, d⟩, e⟩, f⟩ := h
  exact ⟨a, b, c, d, e, f⟩
noncomputable def incB : List Nat → Bool
  | [] => true
  | [_] => true
  | a :: b :: l => Nat.blt a b && incB (b :: l)
theorem inc_of : ∀ l : List Nat, incB l = true → l.Pairwise (· < ·)
  | [], _ => .nil
  | [a], _ => by simp
  | a :: b :: l, h => by
    rw [incB, Bool.and_eq_true, Nat.blt_eq] at h
    have ih := inc_of (b :: l) h.2
    refine List.pairwise_cons.mpr ⟨fun c hc => ?_, ih⟩
    rcases List.mem_cons.mp hc with rfl | hc
    · exact h.1
    · exact Nat.lt_trans h.1 ((List.pairwise_cons.mp ih).1 c hc)
theorem okD_f : ∀ n < 256, incB (nums n false) = true := by decide +kernel
theorem okD_f2 : ∀ n < 256, incB (nums (n + 256) false) = true := by decide +kernel
theorem okD_t : ∀ n < 256, incB (nums n true) = true := by decide +kernel
theorem okD_t2 : ∀ n < 256, incB (nums (n + 256) true) = true := by decide +kernel
theorem okD_all (op : Bool) : ∀ n < 512, incB (nums n op) = true := by
  intro n hn
  by_cases h : n < 256
  · cases op
    · exact okD_f n h
    · exact okD_t n h
  · have e : n = (n - 256) + 256 := (Nat.sub_add_cancel (Nat.le_of_not_lt h)).symm
    have e2 : n - 256 < 256 := Nat.sub_lt_left_of_lt_add (Nat.le_of_not_lt h) hn
    rw [e]
    cases op
    · exact okD_f2 _ e2
    · exact okD_t2 _ e2
section
variable {m : Int} (h0 : 0 ≤ m)
include h0
omit h0 in
theorem r_nn : 0 ≤ m % 512 := Int.emod_nonneg _ (by decide)
theorem base_nn : 0 ≤ m - m % 512 := by omega
omit h0 in
theorem r_lt : (m % 512).toNat < 512 := by omega
omit h0 in
theorem r_eq : m % 512 = (((m % 512).toNat : Nat) : Int) := (Int.toNat_of_nonneg r_nn).symm
/-- the row of these rights, the rest as in m -/
noncomputable def rowG (m : Int) (x : Nat) : List Nat := fileF (m - m % 512 + (x : Int))
theorem rowG_nat (x : Nat) : rowG m x = fileF (((m - m % 512).toNat + x : Nat) : Int) := by
  unfold rowG; rw [Int.natCast_add, Int.toNat_of_nonneg (base_nn h0)]
theorem rowG_mod (x : Nat) (hx : x < 512) : ((m - m % 512).toNat + x) % 512 = x := by omega
theorem rowG_letters {x : Nat} (hx : x < 512) : lettersF (rowG m x) = lettersN x := by rw [rowG_nat h0, letters_file, rowG_mod h0 x hx]
theorem rowG_ok (x : Nat) : RowS (rowG m x) := by rw [rowG_nat h0]; exact rowS_file _
theorem own_eq : fileF m = rowG m (m % 512).toNat := by unfold rowG; rw [← r_eq, Int.sub_add_cancel]
theorem own_letters : lettersF (fileF m) = lettersN (m % 512).toNat := by rw [own_eq h0, rowG_letters h0 r_lt]
theorem rows_eq (op : Bool) : rowsF m (lettersF (fileF m)) op = (nums (m % 512).toNat op).map (rowG m) := by
  rw [own_letters h0]
  unfold rowsF nums
  rw [freeN_eq, List.map_map]
  refine List.map_congr_left fun k _ => ?_
  show rowAt m _ op k = rowG m (keptN _ _ + numN _)
  unfold rowAt rowG
  rw [freeN_eq, numF_nat]
  · rw [numN_app]
    unfold keptF keptN
    rw [freeN_eq]
  · intro c hc
    rcases List.mem_append.mp hc with hc | hc
    · exact lettersN_mem c (List.mem_filter.mp hc).1
    · refine freeF_mem (lettersN (m % 512).toNat) op c ?_
      rw [freeN_eq]
      exact someF_mem c hc
end
theorem nums_len (n : Nat) (op : Bool) : (nums n op).length = (freeN n op).length + 1 := by simp [nums]
theorem getD_map {m : Int} {l : List Nat} {k : Nat} (h : k < l.length) : (l.map (rowG m)).getD k [] = rowG m (l.getD k 0) := by
  simp [List.getD_eq_getElem?_getD, h]
theorem getD_in {l : List Nat} {k : Nat} (h : k < l.length) : l.getD k 0 ∈ l := by
  simp [List.getD_eq_getElem?_getD, h]
theorem oneOk {m : Int} (h0 : 0 ≤ m) (op : Bool) : OneOk m op := by
  obtain ⟨a1, a2, a3, a4, a5, a6⟩ := okA_get (okA_all op (m % 512).toNat r_lt)
  have hl := nums_len (m % 512).toNat op
  have fr : freeF (lettersF (fileF m)) op = freeN (m % 512).toNat op := by rw [own_letters h0, freeN_eq]
  have gl : ∀ k, k < (nums (m % 512).toNat op).length → lettersF (((nums (m % 512).toNat op).map (rowG m)).getD k []) = lettersN ((nums (m % 512).toNat op).getD k 0) := fun k hk => by
    rw [getD_map hk, rowG_letters h0 (a2 _ (getD_in hk)).1]
  refine ⟨?_, ?_, ?_, ?_, ?_, ?_⟩
  · rw [rows_eq h0]
    intro r hr
    obtain ⟨x, _, rfl⟩ := List.mem_map.mp hr
    exact rowG_ok h0 x
  · rw [rows_eq h0, own_eq h0]
    exact List.mem_map.mpr ⟨_, a1, rfl⟩
  · rw [rows_eq h0, fr, gl _ (Nat.lt_of_lt_of_eq (Nat.succ_pos _) hl.symm), gl _ (Nat.lt_of_lt_of_eq (Nat.lt_succ_self _) hl.symm)]
    exact a3
  · intro k c hc
    rw [rows_eq h0]
    rw [fr] at hc
    have hk : k < (freeN (m % 512).toNat op).length := by
      have := (List.getElem?_eq_some_iff.mp hc).1
      cases op <;> simpa using this
    rw [gl _ (Nat.lt_of_lt_of_eq (Nat.lt_succ_of_lt hk) hl.symm), gl _ (Nat.lt_of_lt_of_eq (Nat.succ_lt_succ hk) hl.symm)]
    have := a4 k hk
    have e : (if op then (freeN (m % 512).toNat op).reverse else freeN (m % 512).toNat op).getD k 0 = c := by
      rw [List.getD_eq_getElem?_getD, hc]; rfl
    rw [e] at this
    exact step_of this
  · rw [rows_eq h0, fr]
    intro r hr
    obtain ⟨x, hx, rfl⟩ := List.mem_map.mp hr
    rw [rowG_letters h0 (a2 x hx).1, freeN_eq]
    exact (a2 x hx).2
  · rw [rows_eq h0, List.map_map]
    have e : m % 512 = (((m % 512).toNat : Nat) : Int) := r_eq
    have b : byH (m % 512) op = (byHN (m % 512).toNat op).map fun x : Nat => (x : Int) := by
      rw [← byH_nat _ _ a5, ← e]
    rw [b, ← a6]
    refine List.map_congr_left fun x hx => ?_
    show numF' (lettersF (rowG m x)) = _
    rw [rowG_letters h0 (a2 x hx).1, numF_nat _ lettersN_mem, num_letters x (a2 x hx).1]
theorem rowG_inj {m : Int} (h0 : 0 ≤ m) {x y : Nat} (hx : x < 512) (hy : y < 512) (h : rowG m x = rowG m y) : x = y := by
  have := congrArg lettersF h
  rw [rowG_letters h0 hx, rowG_letters h0 hy] at this
  rw [← num_letters x hx, ← num_letters y hy, this]
theorem okB_get {n : Nat} (h : okB n = true) : (nums n false).filter (fun x => (nums n true).contains x) = sharedN n ∧ (nums n true).filter (fun x => (nums n false).contains x) = sharedN n := by
  unfold okB at h
  rwa [Bool.and_eq_true, beq_iff_eq, beq_iff_eq] at h
theorem adj_of {l : List (List Nat)} (h : l.Pairwise (· < ·)) : Adj l := by
  intro i a b ha hb
  obtain ⟨h1, rfl⟩ := List.getElem?_eq_some_iff.mp ha
  obtain ⟨h2, rfl⟩ := List.getElem?_eq_some_iff.mp hb
  exact lt_ne (List.pairwise_iff_getElem.mp h i (i + 1) h1 h2 (Nat.lt_succ_self _))
theorem strict_of {l r : List (List Nat)} (hp : l.Perm r) (hr : r.Nodup) (h : l.Pairwise fun a b => ¬ b < a) : l.Pairwise (· < ·) := by
  have hn : l.Pairwise (· ≠ ·) := hp.nodup_iff.mpr hr
  refine (hn.and h).imp fun {a b} hab => ?_
  by_cases hlt : a < b
  · exact hlt
  · exact absurd (lt_or hlt hab.2) hab.1
theorem rows_nodup {m : Int} (h0 : 0 ≤ m) (op : Bool) : ((nums (m % 512).toNat op).map (rowG m)).Nodup := by
  obtain ⟨_, a2, _⟩ := okA_get (okA_all op (m % 512).toNat r_lt)
  have hi := okD_all op (m % 512).toNat r_lt
  show List.Pairwise (· ≠ ·) _
  rw [List.pairwise_map]
  refine List.Pairwise.imp_of_mem ?_ (inc_of _ hi)
  intro a b ha hb hab e
  have := rowG_inj h0 (a2 a ha).1 (a2 b hb).1 e
  omega
theorem kept_of {m : Int} (h0 : 0 ≤ m) {ns ks : List Nat} {so st : List (List Nat)} (hn : ∀ x ∈ ns, x < 512) (hk : ∀ x ∈ ks, x < 512) (ps : so.Perm (ns.map (rowG m))) (pt : st.Perm (ks.map (rowG m))) :
    (ns.map (rowG m)).filter (fun r => !(so.filter fun a => !st.contains a).contains r) = (ns.filter fun x => ks.contains x).map (rowG m) := by
  rw [List.filter_map]
  congr 1
  refine List.filter_congr fun x hx => ?_
  show (!(so.filter fun a => !st.contains a).contains (rowG m x)) = _
  rw [Bool.eq_iff_iff, Bool.not_eq_true', ← Bool.not_eq_true, List.contains_iff_mem, List.contains_iff_mem, List.mem_filter, ps.mem_iff, Bool.not_eq_true', ← Bool.not_eq_true, List.contains_iff_mem, pt.mem_iff]
  constructor
  · intro h
    by_cases hm : rowG m x ∈ ks.map (rowG m)
    · obtain ⟨y, hy, e⟩ := List.mem_map.mp hm
      exact rowG_inj h0 (hk y hy) (hn x hx) e ▸ hy
    · exact absurd ⟨List.mem_map.mpr ⟨x, hx, rfl⟩, hm⟩ h
  · exact fun h hh => hh.2 (List.mem_map.mpr ⟨x, h, rfl⟩)
theorem shared_eq {m : Int} (h0 : 0 ≤ m) : (sharedN (m % 512).toNat).map (rowG m) = sharedF m := by
  have hl := nums_len (m % 512).toNat false
  have fr : freeF (lettersF (fileF m)) false = freeN (m % 512).toNat false := by rw [own_letters h0, freeN_eq]
  unfold sharedN sharedF
  rw [rows_eq h0, fr, getD_map (Nat.lt_of_lt_of_eq (Nat.succ_pos _) hl.symm), getD_map (Nat.lt_of_lt_of_eq (Nat.lt_succ_self _) hl.symm)]
  have hi : (m % 512 = 0 ∨ m % 512 = 511) ↔ (((m % 512).toNat == 0 || (m % 512).toNat == 511) = true) := by
    rw [Bool.or_eq_true, beq_iff_eq, beq_iff_eq]
    constructor
    · rintro (h | h)
      · exact .inl ((Int.ofNat_inj (n := 0)).mp (r_eq.symm.trans h))
      · exact .inr ((Int.ofNat_inj (n := 511)).mp (r_eq.symm.trans h))
    · rintro (h | h)
      · exact .inl (r_eq.trans (congrArg Int.ofNat h))
      · exact .inr (r_eq.trans (congrArg Int.ofNat h))
  by_cases hc : m % 512 = 0 ∨ m % 512 = 511
  · have : ((m % 512).toNat == 0 || (m % 512).toNat == 511) = true := hi.mp hc
    rw [if_pos hc, this, if_pos rfl]
    rfl
  · have : ((m % 512).toNat == 0 || (m % 512).toNat == 511) = false := Bool.eq_false_iff.mpr fun h => hc (hi.mpr h)
    rw [if_neg hc, this, if_neg (by decide), own_eq h0]
    rfl
theorem lawOk {m : Int} (h0 : 0 ≤ m) : LawOk m := by
  refine ⟨?_, fun op => oneOk h0 op, ?_⟩
  · rw [own_eq h0]; exact rowG_ok h0 _
  · intro so st p1 p2 s1 s2
    rw [rows_eq h0] at p1 p2 ⊢
    rw [rows_eq h0]
    have q1 := strict_of p1 (rows_nodup h0 false) s1
    have q2 := strict_of p2 (rows_nodup h0 true) s2
    obtain ⟨_, a2, _⟩ := okA_get (okA_all false (m % 512).toNat r_lt)
    obtain ⟨_, b2, _⟩ := okA_get (okA_all true (m % 512).toNat r_lt)
    obtain ⟨c1, c2⟩ := okB_get (okB_all (m % 512).toNat r_lt)
    rw [sldF_spec q1 q2, ← shared_eq h0]
    refine ⟨adj_of q1, adj_of q2, ?_, ?_⟩
    · rw [kept_of h0 (fun x hx => (a2 x hx).1) (fun x hx => (b2 x hx).1) p1 p2, c1]
    · rw [kept_of h0 (fun x hx => (b2 x hx).1) (fun x hx => (a2 x hx).1) p2 p1, c2]
end Mine
end

-- L1
section
open PySem PySem.W PyProof.Rows PySem.Calls PySem.Spec
set_option maxRecDepth 100000
set_option maxHeartbeats 1000000
namespace Mine
section
variable {w : World} {n : Nat} {hb : Heap} {env : Env} {A : Around} {s : Shared} {Q : Flow → Shared → Prop} {E : Value → Shared → Prop} {pos px : Pos} {rest body : List Stmt} {x : Str} {m : Str → Option Value}
/-- a loop over a new list, the name a cell; the iterator's place is told to the invariant -/
theorem run_forC {α : Type} {items : List α} {rel : α → Value → Prop} {iter : Expr} {c0 : Addr} {v0 : Option Value} (ok : Okk A n) (he : FnEnv env) (hx : env.kindOf x = some .cell) (hc0 : env.cells.lookup x = some c0) (hcv : s.heap.IsCell c0 v0) (hn : s.heap.Ns env.locals m)
    (hv : Ev w n s.heap env iter (isL fun vs => Paired rel items vs)) (k : Ext hb s.heap) (M : List Addr) (hM : ∀ a ∈ env.locals :: c0 :: M, hb.get? a = none ∧ ∃ o, s.heap.get? a = some o)
    (J : Addr → Nat → (Str → Option Value) → Heap → Prop) (hJ : ∀ I i m h h', J I i m h → ExtB [c0, I] h h' → J I i m h') (h0 : ∀ I, s.heap.get? I = none → J I 0 m s.heap)
    (turn : ∀ I i a v m1 h1 tk1 (Q' : Flow → Shared → Prop) (E' : Value → Shared → Prop), items[i]? = some a → rel a v → s.heap.get? I = none → (∃ o, h1.get? I = some o) → J I i m1 h1 → h1.Ns env.locals m1 → h1.IsCell c0 (some v) → Ext hb h1 → ExtB (env.locals :: c0 :: M) s.heap h1 →
      (∀ h2 tk2 m2, ExtB (env.locals :: c0 :: M) h1 h2 → h2.Ns env.locals m2 → h2.IsCell c0 (some v) → J I (i + 1) m2 h2 → Q' .next { s with heap := h2, toks := tk2 }) →
      wpAny (MM w) A (execs body env) Q' E' { s with heap := h1, toks := tk1 })
    (done : ∀ I h' tk m' v', ExtB (env.locals :: c0 :: M) s.heap h' → Ext hb h' → h'.Ns env.locals m' → h'.IsCell c0 v' → J I items.length m' h' → wpAny (MM w) A (execs rest env) Q E { s with heap := h', toks := tk })
    (hs : ∀ x, foldedSetIterable iter env x = pure x := by intro _; rfl) :
    wpAny (MM w) A (execs (.For (.Name x px) iter body [] pos :: rest) env) Q E s := by
  refine wpAny_execs_cons (wpAny_For (hv A s _ E ok (.refl _) fun v h1 tk1 e1 p => ?_) hs)
  obtain ⟨T, vs, rfl, hTn, hlT, ha⟩ := p
  refine wpAny_pyIter_list (s := { s with heap := h1, toks := tk1 }) hlT ?_
  have hlt : T < h1.objs.size := by obtain ⟨o, ho, _⟩ := hlT; exact Heap.lt_size ho
  have hIn : s.heap.get? h1.objs.size = none := e1.none (next_none _)
  have hTI : T ≠ h1.objs.size := Nat.ne_of_lt hlt
  have W := Walks.list (prog := PG) (w := w) ok.hd h1.objs.size T hTI vs.toArray
  have hsz : vs.toArray.size = items.length := by simp [ha.length]
  rw [hsz] at W
  have e2 : Ext s.heap (h1.push { cls := .type "list_iterator", data := .fields #[.ref T, .int 0 0] }) := e1.trans (Ext.push _ _)
  have st0 : (h1.push { cls := .type "list_iterator", data := .fields #[.ref T, .int 0 0] }).IsListIter h1.objs.size T 0 := ⟨_, Heap.get?_push_size _ rfl, rfl, rfl⟩
  have l0 : (h1.push { cls := .type "list_iterator", data := .fields #[.ref T, .int 0 0] }).IsList T vs.toArray := isList_ext hlT (Ext.push _ _)
  show codeAny _ _ (.forLoop _ (.ref h1.objs.size) _ _ _) _ _
  generalize (h1.push { cls := .type "list_iterator", data := .fields #[.ref T, .int 0 0] }) = h2 at *
  generalize h1.objs.size = I at *
  have hMI : ∀ a ∈ env.locals :: c0 :: M, a ≠ I ∧ a ≠ T := fun a ha => by
    obtain ⟨o, ho⟩ := (hM a ha).2
    exact ⟨fun e => (by rw [e, hIn] at ho; cases ho), fun e => (by rw [e, hTn] at ho; cases ho)⟩
  have hold : ∀ b o, s.heap.get? b = some o → b ≠ I := fun b o eb e => by rw [e, hIn] at eb; cases eb
  have nI : ∀ {b : Addr}, b ≠ I → b ∉ [I] := fun h e => h (List.mem_singleton.mp e)
  have cL : c0 ≠ env.locals := by
    rintro rfl
    obtain ⟨o, ho, hd⟩ := hcv
    obtain ⟨o', _, _, ho', hd', _⟩ := hn
    rw [ho] at ho'; cases ho'; rw [hd] at hd'; cases hd'
  have mc : c0 ∈ env.locals :: c0 :: M := by simp
  have mL : env.locals ∈ env.locals :: c0 :: M := by simp
  refine codeAny_forLoop_any
    (FInv s (fun i h => h.IsListIter I T i ∧ h.IsList T vs.toArray) hb (env.locals :: c0 :: M) env.locals (fun i m h => (∃ v, h.IsCell c0 v) ∧ J I i m h) items.length) ?_ (items.length + 1)
    ⟨h2, tk1, m, 0, rfl, ⟨st0, l0⟩, k.trans e2, e2.b, hn.keeps e2, ⟨⟨v0, hcv.keeps e2⟩, hJ _ _ _ _ _ (h0 I hIn) e2.b⟩, Nat.zero_le _, Nat.le_refl _⟩
  rintro kk s' ⟨h3, tk3, m3, i, rfl, ⟨st3, l3⟩, k3, kb3, hn3, ⟨⟨v3, hc3⟩, hj3⟩, hi, hkk⟩
  obtain ⟨k0, rfl⟩ := fpos hkk hi
  by_cases hlt' : i < items.length
  · refine W.item i _ _ _ hlt' ⟨st3, l3⟩ fun v h4 tk4 hP st4 hk4 => ?_
    obtain ⟨a, ha', hr⟩ := paired_at ha i v (by simpa using hP)
    have hn4 : h4.Ns env.locals m3 := hn3.at' fun o eo => hk4 _ o (nI (hMI _ mL).1) eo
    have hc4 : h4.IsCell c0 v3 := by obtain ⟨o, ho, hd⟩ := hc3; exact ⟨o, hk4 _ _ (nI (hMI _ mc).1) ho, hd⟩
    refine letGo_listiter (s' := { s with heap := h4, toks := tk4 }) st4.1 ?_
    refine wpAny_assign_Name (wpAny_storeName_cell he.kind hx hc0 hc4 fun h5 hc5 hs5 => ?_)
    have kk5 : ExtB [c0, I] h3 h5 := fun b o hb' eo => hs5.extBut b o (fun e => hb' (by simp [e])) (hk4 b o (nI fun e => hb' (by simp [e])) eo)
    have kb5 : ExtB (env.locals :: c0 :: M) s.heap h5 := fun b o hb' eo => hs5.extBut b o (fun e => hb' (e ▸ mc)) (hk4 b o (nI (hold b o eo)) (kb3 b o hb' eo))
    have st5 : h5.IsListIter I T (i + 1) := by obtain ⟨o, a, r⟩ := st4.1; exact ⟨o, hs5.extBut _ _ (Ne.symm (hMI _ mc).1) a, r⟩
    have l5 : h5.IsList T vs.toArray := isList_same st4.2 hs5 (Ne.symm (hMI _ mc).2)
    have k5 : Ext hb h5 := kb5.base k fun a ha => (hM a ha).1
    refine turn I i a v m3 h5 _ _ _ ha' hr hIn (by obtain ⟨o, a, _⟩ := st5; exact ⟨o, a⟩) (hJ _ _ _ _ _ hj3 kk5) (ns_same hn4 hs5 (Ne.symm cL)) hc5 k5 kb5 fun h6 tk6 m6 kb6 hn6 hc6 hj6 => ?_
    refine ⟨k0, Nat.lt_succ_self _, h6, tk6, m6, i + 1, rfl, ⟨?_, ?_⟩, kb6.base k5 fun a ha => (hM a ha).1, kb5.trans kb6, hn6, ⟨⟨_, hc6⟩, hj6⟩, hlt', fstep hkk⟩
    · obtain ⟨o, a, r⟩ := st5; exact ⟨o, kb6 _ _ (fun e => (hMI _ e).1 rfl) a, r⟩
    · obtain ⟨o, a, r⟩ := l5; exact ⟨o, kb6 _ _ (fun e => (hMI _ e).2 rfl) a, r⟩
  · have : i = items.length := fend hlt' hi
    subst this
    refine W.done _ _ _ ⟨st3, l3⟩ fun h4 tk4 hk4 => wpAny_execs_nil ?_
    have kb4 : ExtB (env.locals :: c0 :: M) s.heap h4 := fun b o hb' eo => hk4 b o (nI (hold b o eo)) (kb3 b o hb' eo)
    exact done I h4 tk4 m3 v3 kb4 (kb4.base k fun a ha => (hM a ha).1) (hn3.at' fun o eo => hk4 _ o (nI (hMI _ mL).1) eo) (by obtain ⟨o, ho, hd⟩ := hc3; exact ⟨o, hk4 _ _ (nI (hMI _ mc).1) ho, hd⟩) (hJ _ _ _ _ _ hj3 fun b o hb' eo => hk4 b o (nI fun e => hb' (by simp [e])) eo)
end
end Mine
end

-- L2
section
open PySem PySem.W PyProof.Rows PySem.Calls PySem.Spec
set_option maxRecDepth 100000
set_option maxHeartbeats 1000000
namespace Mine
section
variable {w : World} {A : Around} {s : Shared} {E : Value → Shared → Prop} {env : Env} {m : Str → Option Value} {x1 x2 : Str} {p1 p2 pos : Pos} {kk : Nat} {T c1 c2 : Addr} {a b : Value} {v1 v2 : Option Value} {Q : Unit → Shared → Prop}
/-- a cell and a name take a tuple's two values -/
theorem assignCL (hh : A.handled = none) (ht : s.heap.IsTuple T #[a, b]) (hk1 : env.kindOf x1 = some .cell) (hc1 : env.cells.lookup x1 = some c1) (hv1 : s.heap.IsCell c1 v1) (hk2 : env.kindOf x2 = some .local) (hkd : env.scope.kind = .function) (hn : s.heap.Ns env.locals m)
    (q : ∀ h' tk, ExtB [env.locals, c1] s.heap h' → h'.IsCell c1 (some a) → h'.Ns env.locals (upd m x2 b) → Q () { s with heap := h', toks := tk }) :
    wpAny (MM w) A (assign (.Tuple [.Name x1 p1, .Name x2 p2] kk pos) env (.ref T)) Q E s := by
  have cL : c1 ≠ env.locals := by
    rintro rfl
    obtain ⟨o, ho, hd⟩ := hv1
    obtain ⟨o', _, _, ho', hd', _⟩ := hn
    rw [ho] at ho'; cases ho'; rw [hd] at hd'; cases hd'
  refine wpAny_assign_Tuple hh ht rfl rfl fun h1 hx => ?_
  have e1 := exb_of hx
  refine assignInOrder_cons (wpAny_assign_Name (wpAny_storeName_cell hkd hk1 hc1 (hv1.keeps e1) fun h2 hc2 hs2 => ?_))
  refine assignInOrder_cons (wpAny_assign_Name (wpAny_storeName_local hk2 (ns_same (hn.keeps e1) hs2 (Ne.symm cL)) (fun h3 hn3 hs3 => ?_) (by rw [hkd]; rfl)))
  refine assignInOrder_nil (q h3 _ (fun c o hc e => ?_) (isCell_same hc2 hs3 cL) hn3)
  exact hs3.extBut c o (fun e' => hc (by simp [e'])) (hs2.extBut c o (fun e' => hc (by simp [e'])) (e1 c o e))
/-- two cells take a tuple's two values -/
theorem assignCC (hh : A.handled = none) (ht : s.heap.IsTuple T #[a, b]) (hk1 : env.kindOf x1 = some .cell) (hc1 : env.cells.lookup x1 = some c1) (hv1 : s.heap.IsCell c1 v1) (hk2 : env.kindOf x2 = some .cell) (hc2 : env.cells.lookup x2 = some c2) (hv2 : s.heap.IsCell c2 v2) (hne : c1 ≠ c2) (hkd : env.scope.kind = .function)
    (q : ∀ h' tk, ExtB [c1, c2] s.heap h' → h'.IsCell c1 (some a) → h'.IsCell c2 (some b) → Q () { s with heap := h', toks := tk }) :
    wpAny (MM w) A (assign (.Tuple [.Name x1 p1, .Name x2 p2] kk pos) env (.ref T)) Q E s := by
  refine wpAny_assign_Tuple hh ht rfl rfl fun h1 hx => ?_
  have e1 := exb_of hx
  refine assignInOrder_cons (wpAny_assign_Name (wpAny_storeName_cell hkd hk1 hc1 (hv1.keeps e1) fun h2 hh2 hs2 => ?_))
  refine assignInOrder_cons (wpAny_assign_Name (wpAny_storeName_cell hkd hk2 hc2 (isCell_same (hv2.keeps e1) hs2 (Ne.symm hne)) fun h3 hh3 hs3 => ?_))
  refine assignInOrder_nil (q h3 _ (fun c o hc e => ?_) (isCell_same hh2 hs3 hne) hh3)
  exact hs3.extBut c o (fun e' => hc (by simp [e'])) (hs2.extBut c o (fun e' => hc (by simp [e'])) (e1 c o e))
/-- two names take a list's two values -/
theorem assignLL (hh : A.handled = none) (ht : s.heap.IsList T #[a, b]) (hk1 : env.kindOf x1 = some .local) (hk2 : env.kindOf x2 = some .local) (hkd : env.scope.kind = .function) (hn : s.heap.Ns env.locals m)
    (q : ∀ h' tk, ExtB [env.locals] s.heap h' → h'.Ns env.locals (upd (upd m x1 a) x2 b) → Q () { s with heap := h', toks := tk }) :
    wpAny (MM w) A (assign (.Tuple [.Name x1 p1, .Name x2 p2] kk pos) env (.ref T)) Q E s := by
  rw [PySem.arm_assign_Tuple]
  refine wpAny_bind (wpAny_standAt ?_)
  unfold unpack
  have hn' : (assignEach [.Name x1 p1, .Name x2 p2] env).length = (#[a, b] : Array Value).size := rfl
  have hstar : (assignEach [.Name x1 p1, .Name x2 p2] env).findIdx? (·.1) = none := rfl
  rw [hn', hstar]
  refine wpAny_bind (wpAny_holding (kun_itemsOf hh ht fun h1 hx => ?_))
  show wpAny _ _ (assignInOrder [assign (.Name x1 p1) env, assign (.Name x2 p2) env] [a, b]) _ _ _
  have e1 := exb_of hx
  refine assignInOrder_cons (wpAny_assign_Name (wpAny_storeName_local hk1 (hn.keeps e1) (fun h2 hn2 hs2 => ?_) (by rw [hkd]; rfl)))
  refine assignInOrder_cons (wpAny_assign_Name (wpAny_storeName_local hk2 hn2 (fun h3 hn3 hs3 => ?_) (by rw [hkd]; rfl)))
  refine assignInOrder_nil (q h3 _ (fun c o hc e => ?_) hn3)
  have hc' : c ≠ env.locals := fun e => hc (List.mem_singleton.mpr e)
  exact hs3.extBut c o hc' (hs2.extBut c o hc' (e1 c o e))
end
end Mine
end

-- L4
section
open PySem PySem.W PyProof.Rows PySem.Calls PySem.Spec
set_option maxRecDepth 100000
set_option maxHeartbeats 1000000
namespace Mine
theorem cell_to {h h' : Heap} {c : Addr} {v : Option Value} (x : h.IsCell c v) (k : ∀ o, h.get? c = some o → h'.get? c = some o) : h'.IsCell c v := let ⟨o, ho, hd⟩ := x; ⟨o, k o ho, hd⟩
theorem list_to {h h' : Heap} {T : Addr} {its : Array Value} (x : h.IsList T its) (k : ∀ o, h.get? T = some o → h'.get? T = some o) : h'.IsList T its := let ⟨o, ho, hd⟩ := x; ⟨o, k o ho, hd⟩
theorem cell_at {h : Heap} {c : Addr} {v : Option Value} (x : h.IsCell c v) : ∃ o, h.get? c = some o := let ⟨o, ho, _⟩ := x; ⟨o, ho⟩
theorem ns_at {h : Heap} {L : Addr} {m : Str → Option Value} (x : h.Ns L m) : ∃ o, h.get? L = some o := let ⟨o, _, _, ho, _⟩ := x; ⟨o, ho⟩
theorem ne_at {h : Heap} {a b : Addr} (hn : h.get? a = none) (x : ∃ o, h.get? b = some o) : a ≠ b := fun e => by obtain ⟨o, ho⟩ := x; rw [← e, hn] at ho; cases ho
theorem cell_ne_list {h : Heap} {c a : Addr} {v : Option Value} {its : Array Value} (x : h.IsCell c v) (y : h.IsList a its) : a ≠ c := by
  obtain ⟨o, ho, hd⟩ := x
  obtain ⟨o', ho', _, _, hd'⟩ := y
  rintro rfl
  rw [ho] at ho'; cases ho'; rw [hd] at hd'; cases hd'
theorem ns_ne_list {h : Heap} {L a : Addr} {m : Str → Option Value} {its : Array Value} (x : h.Ns L m) (y : h.IsList a its) : a ≠ L := by
  obtain ⟨o, _, _, ho, hd, _⟩ := x
  obtain ⟨o', ho', _, _, hd'⟩ := y
  rintro rfl
  rw [ho] at ho'; cases ho'; rw [hd] at hd'; cases hd'
theorem kOf {env : Env} {sc : Scope} {x : Str} {k : NameKind} (hsc : env.scope = sc) (h : sc.names.lookup x = some k) : env.kindOf x = some k := by
  show env.scope.names.lookup x = _
  rw [hsc]; exact h
theorem getD_of {l : List (List Nat)} {k : Nat} {r : List Nat} (h : l[k]? = some r) : l.getD k [] = r := by rw [List.getD_eq_getElem?_getD, h]; rfl
section
variable {w : World} {n : Nat} {env : Env} {A : Around} {s : Shared} {Q : Flow → Shared → Prop} {E : Value → Shared → Prop} {e : Expr} {pos px : Pos} {rest : List Stmt} {x : Str} {m : Str → Option Value}
theorem run_assignI {i : Int} (ok : Okk A n) (he : FnEnv env) (hx : env.kindOf x = some .local) (hn : s.heap.Ns env.locals m) (y : Ev w n s.heap env e (isI i))
    (next : ∀ t h' h'' tk, Ext s.heap h' → Heap.SameBut env.locals h' h'' → h''.Ns env.locals (upd m x (.int i t)) → wpAny (MM w) A (execs rest env) Q E { s with heap := h'', toks := tk })
    (hs : swapsWith e (some (.Name x px)) pos.line env = pure false := by rfl) : wpAny (MM w) A (execs (.Assign [.Name x px] e pos :: rest) env) Q E s :=
  run_assign ok he hx hn y (fun v h' h'' tk ex p sb hn' => by obtain ⟨t, rfl⟩ := p; exact next t h' h'' tk ex sb hn') hs
theorem run_assignS {i : Str} (ok : Okk A n) (he : FnEnv env) (hx : env.kindOf x = some .local) (hn : s.heap.Ns env.locals m) (y : Ev w n s.heap env e (isS i))
    (next : ∀ t h' h'' tk, Ext s.heap h' → Heap.SameBut env.locals h' h'' → h''.Ns env.locals (upd m x (.str i t)) → wpAny (MM w) A (execs rest env) Q E { s with heap := h'', toks := tk })
    (hs : swapsWith e (some (.Name x px)) pos.line env = pure false := by rfl) : wpAny (MM w) A (execs (.Assign [.Name x px] e pos :: rest) env) Q E s :=
  run_assign ok he hx hn y (fun v h' h'' tk ex p sb hn' => by obtain ⟨t, rfl⟩ := p; exact next t h' h'' tk ex sb hn') hs
theorem run_assignN {pl : Pos} (ok : Okk A n) (he : FnEnv env) (hx : env.kindOf x = some .local) (hn : s.heap.Ns env.locals m)
    (next : ∀ B h' h'' tk, Ext s.heap h' → s.heap.get? B = none → h'.get? B = some (W.listOf #[] 0) → Heap.SameBut env.locals h' h'' → h''.Ns env.locals (upd m x (.ref B)) → wpAny (MM w) A (execs rest env) Q E { s with heap := h'', toks := tk })
    (hs : swapsWith (.List [] pl) (some (.Name x px)) pos.line env = pure false := by rfl) : wpAny (MM w) A (execs (.Assign [.Name x px] (.List [] pl) pos :: rest) env) Q E s :=
  run_assign ok he hx hn Ev.nilO (fun v h' h'' tk ex p sb hn' => by obtain ⟨B, vs, rfl, h1, h2, rfl⟩ := p; exact next B h' h'' tk ex h1 h2 sb hn') hs
end
/-- one of both's items: a list of rows, apart from Z -/
inductive RowV (Z : List Addr) (m : Int) (LS : List Nat) (h : Heap) (op : Bool) (v : Value) : Prop
  | mk (R : Addr) (us : List Value) (e : v = .ref R) (n : R ∉ Z) (hl : h.IsList R us.toArray) (hp : Paired relT (rowsF m LS op) us) : RowV Z m LS h op v
theorem rowV_up {Z Y : List Addr} {m : Int} {LS : List Nat} {h h' : Heap} {ops : List Bool} {vs : List Value} (hZ : ∀ a ∈ Y, a ∈ Z) (eb : ExtB Y h h') (p : Paired (RowV Z m LS h) ops vs) : Paired (RowV Z m LS h') ops vs :=
  p.mono fun op v hv => by
    obtain ⟨R, us, a1, a2, a3, a4⟩ := hv
    exact ⟨R, us, a1, a2, list_to a3 fun o ho => eb _ _ (fun hm => a2 (hZ _ hm)) ho, a4⟩
/-- the loop's state in law -/
inductive JLaw (L c1 c2 c3 c4 B : Addr) (m : Int) (tm to : Tok) (LS : List Nat) (I : Addr) (i : Nat) (mm : Str → Option Value) (h : Heap) : Prop
  | mk (b1 : mm (Str.ofString "mode") = some (.int m tm)) (b2 : mm (Str.ofString "own") = some (.str (txt (fileF m)) to)) (b3 : mm (Str.ofString "both") = some (.ref B)) (n1 : B ≠ I) (n2 : c2 ≠ I) (n3 : c3 ≠ I) (n4 : c4 ≠ I) (v : Option Value) (hv : h.IsCell c2 v) (h3 : h.IsCell c3 none) (h4 : h.IsCell c4 none)
    (vs : List Value) (kB : Nat) (hB : h.get? B = some (W.listOf vs.toArray kB)) (p : Paired (RowV [L, c1, c2, B, I] m LS h) ([false, true].take i) vs) : JLaw L c1 c2 c3 c4 B m tm to LS I i mm h
/-- the names within the loop -/
structure NLaw (m : Int) (tm to : Tok) (B R D : Addr) (mk : Str → Option Value) : Prop where
  m1 : mk (Str.ofString "mode") = some (.int m tm)
  m2 : mk (Str.ofString "own") = some (.str (txt (fileF m)) to)
  m3 : mk (Str.ofString "both") = some (.ref B)
  m4 : mk (Str.ofString "rows") = some (.ref R)
  m5 : mk (Str.ofString "letters") = some (.ref D)
theorem NLaw.up {m : Int} {tm to : Tok} {B R D : Addr} {mk : Str → Option Value} (x : NLaw m tm to B R D mk) (u v : Value) : NLaw m tm to B R D (upd (upd mk (Str.ofString "k") u) (Str.ofString "letter") v) :=
  ⟨upd_ne (upd_ne x.m1), upd_ne (upd_ne x.m2), upd_ne (upd_ne x.m3), upd_ne (upd_ne x.m4), upd_ne (upd_ne x.m5)⟩
/-- a row and its letters -/
inductive RowK (rows : List (List Nat)) (ls : List Value) (L : Addr) (h : Heap) (k : Nat) : Prop
  | mk (r : List Nat) (T : Addr) (vs : List Value) (a1 : rows[k]? = some r) (a2 : rows.getD k [] = r) (a3 : r ∈ rows) (a4 : ls[k]? = some (.ref T)) (a5 : T ≠ L) (a6 : h.IsList T vs.toArray) (a7 : StrsAre vs ((lettersF r).map ch)) : RowK rows ls L h k
theorem tabs_small : ∀ T ∈ tabs, ∀ p ∈ T.2, p.2.2 < 200 := by decide
theorem file_small (m : Int) : ∀ c ∈ fileF m, c < 200 := by
  intro c hc
  unfold fileF at hc
  obtain ⟨T, hT, rfl⟩ := List.mem_map.mp hc
  have hT' : T.1 ∈ tabs := by
    obtain ⟨x, i⟩ := T
    exact (List.mem_zipIdx' hT).2 ▸ List.getElem_mem _
  unfold signT
  split
  · rename_i p hp
    exact tabs_small _ hT' p (List.mem_of_find?_eq_some hp)
  · split <;> decide
theorem rows_small {m : Int} {ls : List Nat} {op : Bool} : ∀ r ∈ rowsF m ls op, ∀ c ∈ r, c < 200 := by
  intro r hr
  unfold rowsF at hr
  obtain ⟨k, _, rfl⟩ := List.mem_map.mp hr
  exact file_small _
theorem txt_ok {r : List Nat} (h : ∀ c ∈ r, c < 200) : PyData.strOk (txt r) = true := by
  unfold PyData.strOk
  rw [Array.all_eq_true']
  intro c hc
  have := h c (by simpa [txt] using hc)
  simp; omega
noncomputable abbrev dS (rs : List (List Nat)) : PyData := .list (rs.map fun r => .str (txt r))
noncomputable abbrev dI (ns : List Int) : PyData := .list (ns.map .int)
theorem can_strs {rs : List (List Nat)} (h : ∀ r ∈ rs, ∀ c ∈ r, c < 200) : (dS rs).canLay0 = true := by
  rw [PyData.canLay0]
  induction rs with
  | nil => rfl
  | cons r rs ih =>
    rw [List.map_cons, PyData.canLayAll0, ih fun r hr => h r (List.mem_cons_of_mem _ hr), PyData.canLay0, txt_ok (h r (List.mem_cons_self ..))]
    rfl
theorem can_ints (ns : List Int) : (dI ns).canLay0 = true := by
  rw [PyData.canLay0]
  induction ns with
  | nil => rfl
  | cons r rs ih => rw [List.map_cons, PyData.canLayAll0, ih, PyData.canLay0]; rfl
theorem depth_strs (rs : List (List Nat)) : (dS rs).depth ≤ 5 := by
  have : PyData.depthAll (rs.map fun r => PyData.str (txt r)) ≤ 2 := by
    induction rs with
    | nil => simp [PyData.depthAll]
    | cons r rs ih => rw [List.map_cons, PyData.depthAll, PyData.depth]; exact Nat.max_le.mpr ⟨Nat.zero_le _, ih⟩
  rw [PyData.depth]; exact Nat.le_trans (Nat.succ_le_succ this) (by decide)
theorem depth_ints (ns : List Int) : (dI ns).depth ≤ 50 := by
  have : PyData.depthAll (ns.map PyData.int) ≤ 2 := by
    induction ns with
    | nil => simp [PyData.depthAll]
    | cons r rs ih => rw [List.map_cons, PyData.depthAll, PyData.depth]; exact Nat.max_le.mpr ⟨Nat.zero_le _, ih⟩
  rw [PyData.depth]; exact Nat.le_trans (Nat.succ_le_succ this) (by decide)
theorem RDs.texts {h : Heap} {rs : List (List Nat)} {vs : List Value} (x : Paired relT rs vs) : RDs h vs (rs.map fun r => .str (txt r)) := by
  induction x with
  | nil => exact .nil
  | cons f _ ih => obtain ⟨t, rfl⟩ := f; exact .cons .str ih
theorem RD.texts {h : Heap} {T : Addr} {rs : List (List Nat)} {vs : List Value} (hl : h.IsList T vs.toArray) (x : Paired relT rs vs) : RD h (.ref T) (dS rs) := .list hl (.texts x)
theorem RD.ints {h : Heap} {T : Addr} {ns : List Int} {vs : List Value} (hl : h.IsList T vs.toArray) (x : IntsAre vs ns) : RD h (.ref T) (dI ns) := .list hl (.ints x)
theorem ar1 {n k : Nat} (h : n ≤ k) (hk : k ≤ 100 := by decide) : n < 1000000 := Nat.lt_of_le_of_lt (Nat.le_trans h hk) (by decide)
theorem ar2 {l n : Nat} (h : l = n + 1) (hn : n ≤ 9) : l ≤ 1000 := h ▸ Nat.le_trans (Nat.succ_le_succ hn) (by decide)
theorem ar4 {k n : Nat} (h : k < n) (hn : n ≤ 9) : (0 : Int) ≤ (k : Int) ∧ (k : Int) < 1000000 ∧ (0 : Int) ≤ (k : Int) + 1 ∧ (k : Int) + 1 < 1000000 :=
  have hk : k < 9 := Nat.lt_of_lt_of_le h hn
  ⟨Int.natCast_nonneg _, Int.ofNat_lt.mpr (Nat.lt_trans hk (by decide)), Int.natCast_nonneg (k + 1), Int.ofNat_lt.mpr (Nat.lt_of_le_of_lt hk (by decide : 9 < 1000000))⟩
theorem ar5 {l n : Nat} (h : l = n + 1) (hn : n ≤ 9) : l < 64 ∧ l ≤ 100 :=
  have hl : l ≤ 10 := h ▸ Nat.succ_le_succ hn
  ⟨Nat.lt_of_le_of_lt hl (by decide), Nat.le_trans hl (by decide)⟩
theorem ar6 {m : Int} : 0 ≤ m % 512 ∧ m % 512 < 512 := ⟨Int.emod_nonneg _ (by decide), Int.emod_lt_of_pos _ (by decide)⟩
theorem map_le {α β : Type} {l : List α} {f : α → β} (h : l.length ≤ 9) : (l.map f).length ≤ 100 := by rw [List.length_map]; exact Nat.le_trans h (by decide)
theorem sl0 : (1 ≤ sizeLine) ∧ 2 ≤ sizeLine := by rw [sizeLine_eq]; decide
theorem sl1 {a : Value} : [a].length ≤ sizeLine := sl0.1
theorem sl2 {a b : Value} : [a, b].length ≤ sizeLine := sl0.2
theorem rows_len (m : Int) (LS : List Nat) (op : Bool) : (rowsF m LS op).length = (freeF LS op).length + 1 := by simp [rowsF]
theorem getE {α : Type} {l : List α} {k : Nat} (h : k < l.length) : ∃ a, l[k]? = some a := ⟨_, List.getElem?_eq_getElem h⟩
theorem can_pair {c : Nat} (h : c < 200) : (PyData.tuple [dS [], dS [[c]]]).canLay0 = true := by
  have h1 := can_strs (rs := []) (by simp)
  have h2 := can_strs (rs := [[c]]) (by simpa using h)
  simp only [PyData.canLay0, PyData.canLayAll0] at h1 h2 ⊢
  simp only [h1, h2]; rfl
theorem dep_pair (c : Nat) : (PyData.tuple [dS [], dS [[c]]]).depth ≤ 50 := by
  rw [PyData.depth, PyData.depthAll, PyData.depthAll, PyData.depthAll]
  exact Nat.le_trans (Nat.succ_le_succ (Nat.max_le.mpr ⟨depth_strs [], Nat.max_le.mpr ⟨depth_strs [[c]], Nat.zero_le _⟩⟩)) (by decide)
theorem dep50 (rs : List (List Nat)) : (dS rs).depth ≤ 50 := Nat.le_trans (depth_strs rs) (by decide)
theorem base_of {hb g1 g2 : Heap} {L : Addr} (hL : hb.get? L = none) (x : Ext hb g1) (y : ExtB [L] g1 g2) : Ext hb g2 := y.base x fun a ha => by rw [List.mem_singleton.mp ha]; exact hL
theorem base_of2 {hb g1 g2 : Heap} {L c : Addr} (hL : hb.get? L = none) (hc : hb.get? c = none) (x : Ext hb g1) (y : ExtB [L, c] g1 g2) : Ext hb g2 := y.base x fun a ha => by
  rcases List.mem_cons.mp ha with rfl | ha
  · exact hL
  · rw [List.mem_singleton.mp ha]; exact hc
theorem at_i {x : List Nat} {i j c : Nat} (h : (txt x).cps.toList.zipIdx[i]? = some (c, j)) : x[i]? = some c ∧ j = i := by
  rw [txt_cps] at h
  obtain ⟨h1, h2⟩ := List.getElem?_eq_some_iff.mp h
  rw [List.getElem_zipIdx] at h2
  simp only [Prod.mk.injEq, Nat.zero_add] at h2
  exact ⟨List.getElem?_eq_some_iff.mpr ⟨by simpa using h1, h2.1⟩, h2.2.symm⟩
theorem if_mem {op : Bool} {f : List Nat} {i c : Nat} (h : (if op then f.reverse else f)[i]? = some c) : c ∈ f ∧ i < f.length := by
  have h1 := List.mem_of_getElem? h
  have h2 := (List.getElem?_eq_some_iff.mp h).1
  cases op
  · exact ⟨h1, h2⟩
  · exact ⟨List.mem_reverse.mp h1, by simpa using h2⟩
theorem self_p : ∀ l : List Value, Paired (fun a v : Value => v = a) l l
  | [] => .nil
  | _ :: l => .cons rfl (self_p l)
theorem two_rows {Z : List Addr} {m : Int} {LS : List Nat} {h : Heap} {vs : List Value} (p : Paired (RowV Z m LS h) [false, true] vs) : ∃ a b, vs = [a, b] ∧ RowV Z m LS h false a ∧ RowV Z m LS h true b := by
  cases p with
  | cons f t => cases t with
    | cons g t => cases t with
      | nil => exact ⟨_, _, rfl, f, g⟩
section
variable {w : World} {n : Nat} {h : Heap} {env : Env} {P1 P2 : Value → Heap → Heap → Prop} {l r e e1 e2 : Expr} {pos p : Pos} {f : Str} {es : List Expr}
theorem Tr.neSame {d : PyData} (hl : Ev w (n + 1) h env l P1) (hr : Ev w (n + 1) h env r P2) (h1 : ∀ v a b, Ext h b → P1 v a b → RD b v d) (h2 : ∀ v a b, Ext h b → P2 v a b → RD b v d) (hc : d.canLay0 = true) (hd : d.depth ≤ 50)
    (hm : behindInMarks .NotEq r = false := by with_unfolding_all rfl) : Tr w (n + 1) h env (.Compare l [.NotEq] [r] pos) false :=
  (Tr.cmp hl hr (fun a b ha hb hc' x1 x2 x3 p q => Cmp.neD ((h1 a _ _ (x1.trans x2) p).ext x3) (h2 b _ _ ((x1.trans x2).trans x3) q) hc hc hd) hm).b (by rw [SeqAt.eqv_refl d hc]; rfl)
theorem Ev.eqSame {d : PyData} (hl : Ev w (n + 1) h env l P1) (hr : Ev w (n + 1) h env r P2) (h1 : ∀ v a b, Ext h b → P1 v a b → RD b v d) (h2 : ∀ v a b, Ext h b → P2 v a b → RD b v d) (hc : d.canLay0 = true) (hd : d.depth ≤ 50)
    (hm : behindInMarks .Eq r = false := by with_unfolding_all rfl) : Ev w (n + 1) h env (.Compare l [.Eq] [r] pos) (isB true) := by
  have := Ev.cmp (pos := pos) hl hr (fun a b ha hb hc' x1 x2 x3 p q => Cmp.eqD ((h1 a _ _ (x1.trans x2) p).ext x3) (h2 b _ _ ((x1.trans x2).trans x3) q) hc hc hd) hm
  rwa [SeqAt.eqv_refl d hc] at this
theorem Cmp.ninLS {T : Addr} {vs : List Value} {ys : List Str} {x : Str} {t : Tok} (hl : h.IsList T vs.toArray) (hi : StrsAre vs ys) : Cmp w n .NotIn (.str x t) (.ref T) h (!ys.any (· == x)) :=
  fun _ s _ _ _ k q => notin_list_strs (hl.at fun o e => k _ o e) hi (q s.heap s.toks (.refl _))
theorem any_txt (rs : List (List Nat)) (r : List Nat) : (rs.map txt).any (· == txt r) = rs.contains r := by
  induction rs with
  | nil => rfl
  | cons a l ih =>
    rw [List.map_cons, List.any_cons, ih, List.contains_cons]
    congr 1
    rw [Bool.eq_iff_iff, beq_iff_eq, beq_iff_eq]
    constructor
    · intro h
      have := congrArg (fun x : Str => x.cps.toList) h
      simpa [txt] using this.symm
    · rintro rfl; rfl
theorem texts_strs {rs : List (List Nat)} {vs : List Value} (x : Paired relT rs vs) : StrsAre vs (rs.map txt) := strs_are (paired_map (F := relS) (f := txt) x)
theorem Tr.notIn {T : Addr} {vs : List Value} {rs : List (List Nat)} {x : List Nat} (hx : Ev w n h env e1 (isS (txt x))) (hy : Ev w n h env e2 (isV (.ref T))) (hl : h.IsList T vs.toArray) (hi : Paired relT rs vs) (hm : behindInMarks .NotIn e2 = false := by with_unfolding_all rfl) :
    Tr w n h env (.Compare e1 [.NotIn] [e2] pos) (!rs.contains x) := by
  rw [← any_txt]
  exact Tr.cmp hx hy (fun _ _ _ _ _ x1 x2 x3 p q => by obtain ⟨t, rfl⟩ := p; rw [q]; exact Cmp.ninLS (isList_ext hl ((x1.trans x2).trans x3)) (texts_strs hi)) hm
theorem Ev.andB (hx : Ev w n h env e1 (isB true)) (hy : Ev w n h env e2 (isB true)) : Ev w n h env (.BoolOp .And [e1, e2] pos) (isB true) := by
  intro A s Q E ok k q
  refine PyProof.Rows.BoolOp_and (hx A s _ E ok k fun v h' tk e p => ?_)
  rw [p]
  refine wpAny_truthy_bool ?_
  rw [if_pos rfl]
  exact PyProof.Rows.BoolOp_one (hy A _ Q E ok (k.trans e) fun v h2 tk2 e2 p2 => q v h2 tk2 (e.trans e2) p2)
theorem Ev.heights {r : Int} {op : Bool} (G : Grd w h) (h0 : 0 ≤ r) (h1r : r < 512) (lf : Lk w h env f (.ref 184)) (h1 : Ev w (n + 5) h env e1 (isI r)) (h2 : Ev w (n + 5) h env e2 (isB op)) (hs : starEach [e1, e2] env = [(false, eval e1 env), (false, eval e2 env)] := by rfl) (hs2 : starEach [e2] env = [(false, eval e2 env)] := by rfl) :
    Ev w (n + 5) h env (.Call (.Name f p) [e1, e2] [] pos) (isL fun vs => IntsAre vs (byH r op)) :=
  Ev.callF lf (G.K _ _ (by rfl)) rfl (Evs.cons h1 (Evs.cons h2 .nil hs2) (by rw [hs, hs2])) (fun vs a b e1 e2 p => by
    obtain ⟨v, r, b', rfl, x1, x2, ⟨t, rfl⟩, v2, r2, b2, rfl, x3, x4, hb, rfl⟩ := p
    rw [hb]
    exact (heights_cl (G.ext (e1.trans e2)) h0 h1r).up (Nat.le_add_left _ _)) (anti_L _) (by rw [hs, hs2])
theorem Ev.numberV {cs : List Nat} {T : Addr} {us : List Value} (G : Grd w h) (lf : Lk w h env f (.ref 169)) (hy : Ev w (n + 3) h env e (isV (.ref T))) (hl : h.IsList T us.toArray) (hi : StrsAre us (cs.map ch)) (hr : ∀ c ∈ cs, 97 ≤ c ∧ c ≤ 105) (hz : cs.length ≤ 100) (hs : starEach [e] env = [(false, eval e env)] := by rfl) :
    Ev w (n + 3) h env (.Call (.Name f p) [e] [] pos) (isI (numF' cs)) :=
  Ev.callF lf (G.K _ _ (by rfl)) rfl (Evs.cons hy .nil hs) (fun vs a b e1 e2 p => by
    obtain ⟨v, r, b', rfl, x1, x2, hv, rfl⟩ := p
    rw [hv]
    exact (number_cl (G.ext (e1.trans e2)) (isList_ext hl (e1.trans e2)) hi hr hz).up (Nat.le_add_left _ _)) (anti_I _) hs
theorem Ev.sorted {T : Addr} {us : List Value} {ss : List (List Nat)} (lf : Lk w h env f (.builtin "sorted")) (hy : Ev w n h env e (isV (.ref T))) (hl : h.IsList T us.toArray) (hi : Paired relT ss us) (h64 : us.length < 64) (hs : starEach [e] env = [(false, eval e env)] := by rfl) :
    Ev w n h env (.Call (.Name f p) [e] [] pos) (isL fun vs => ∃ ss', StrsAre vs ss' ∧ ss'.Perm (ss.map txt) ∧ sortedS ss' = true) :=
  Ev.callB lf (Evs.cons hy .nil hs) (fun vs a b e1 e2 p => by
    obtain ⟨v, r, b', rfl, x1, x2, hv, rfl⟩ := p
    rw [hv]
    exact Cl.sortedL (isList_ext hl (e1.trans e2)) (texts_strs hi) h64) (anti_L _) hs
/-- a call of a function with any outcome -/
theorem callF_by {A : Around} {s : Shared} {Q : Value → Shared → Prop} {E : Value → Shared → Prop} {a : Addr} {o : Obj} {fd : FuncData} {R : List Value → Heap → Heap → Prop} (lf : Lk w s.heap env f (.ref a)) (ho : s.heap.get? a = some o) (hd : o.data = .func fd) (ok : Okk A n) (x : Evs w n s.heap env (e :: es) R)
    (hc : ∀ vs h' tk, Ext s.heap h' → R vs s.heap h' → wpAny (MM w) A (call (.ref a) vs) Q E { s with heap := h', toks := tk }) (he : starEach (e :: es) env = (false, eval e env) :: starEach es env := by rfl) :
    wpAny (MM w) A (eval (.Call (.Name f p) (e :: es) [] pos) env) Q E s := by
  refine Call_Name rfl (lf A s _ E p (.refl _) ?_)
  have y := x A s (fun vs s₁ => (s₁.heap.get? a = some o ∧ o.data = .func fd) ∧ wpAny (MM w) A (call (.ref a) ([] ++ vs)) Q E s₁) E pos ok (.refl _) fun vs h2 tk e p =>
    ⟨⟨e _ _ ho, hd⟩, hc vs h2 tk e p⟩
  rw [he] at y ⊢
  exact callWith_function (evalArgs_plain y)
end
noncomputable def decT : Value → List Nat
  | .str x _ => x.cps.toList
  | _ => []
theorem decT_of (r : List Nat) (v : Value) (h : relT r v) : decT v = r := by obtain ⟨t, rfl⟩ := h; simp [decT, txt]
theorem paired_get {α β : Type} {F : α → β → Prop} {l₁ : List α} {l₂ : List β} (h : Paired F l₁ l₂) : ∀ (i : Nat) a, l₁[i]? = some a → ∃ b, l₂[i]? = some b ∧ F a b := by
  induction h with
  | nil => intro i b h; exact absurd h (by simp)
  | cons f _ ih =>
    intro i b h
    cases i with
    | zero => exact ⟨_, rfl, Option.some.inj h ▸ f⟩
    | succ i => exact ih i b h
theorem letters_pw (r : List Nat) : (lettersF r).Pairwise (· < ·) := by
  unfold lettersF
  rw [List.pairwise_map]
  refine List.Pairwise.sublist List.filter_sublist ?_
  have h : abc.Pairwise (· < ·) := by decide
  have g : ∀ (a : List Nat) (b : List Nat), a.Pairwise (· < ·) → (a.zip b).Pairwise fun x y => x.1 < y.1 := by
    intro a
    induction a with
    | nil => intro b _; simp
    | cons x a ih =>
      intro b hp
      cases b with
      | nil => simp
      | cons y b =>
        rw [List.zip_cons_cons, List.pairwise_cons]
        rw [List.pairwise_cons] at hp
        exact ⟨fun z hz => hp.1 z.1 (List.of_mem_zip hz).1, ih b hp.2⟩
  exact g _ _ h
theorem letters_adj (r : List Nat) : Adj ((lettersF r).map fun c => [c]) := by
  refine adj_of ?_
  rw [List.pairwise_map]
  exact (letters_pw r).imp fun h => one_lt h
theorem rising_pw : ∀ (p : Str) (l : List Str), risingS p l = true → (p :: l).Pairwise fun a b => ¬ b.cps.toList < a.cps.toList
  | p, [], _ => by simp
  | p, x :: r, h => by
    have h' : (!ltCps x.cps.toList p.cps.toList && risingS x r) = true := h
    rw [Bool.and_eq_true, Bool.not_eq_true', ltCps_eq, decide_eq_false_iff_not] at h'
    have ih := rising_pw x r h'.2
    refine List.pairwise_cons.mpr ⟨fun c hc => ?_, ih⟩
    rcases List.mem_cons.mp hc with rfl | hc
    · exact h'.1
    · exact List.le_trans (α := Nat) h'.1 ((List.pairwise_cons.mp ih).1 c hc)
theorem sorted_pw : ∀ (l : List Str), sortedS l = true → l.Pairwise fun a b => ¬ b.cps.toList < a.cps.toList
  | [], _ => .nil
  | x :: r, h => rising_pw x r h
theorem sorted_back {ss : List Str} {rs : List (List Nat)} {vs : List Value} (hv : StrsAre vs ss) (hp : ss.Perm (rs.map txt)) (hs : sortedS ss = true) : ∃ so : List (List Nat), Paired relT so vs ∧ so.Perm rs ∧ so.Pairwise (fun a b => ¬ b < a) := by
  refine ⟨ss.map fun x => x.cps.toList, ?_, ?_, ?_⟩
  · have : ss = (ss.map fun x => x.cps.toList).map txt := by
      rw [List.map_map]
      have : (txt ∘ fun x : Str => x.cps.toList) = id := by
        funext x
        apply Str.ext'
        show x.cps.toList.toArray = x.cps
        simp
      rw [this, List.map_id]
    rw [this] at hv
    exact paired_unmap (F := relS) (f := txt) (are_strs hv)
  · have := hp.map fun x => x.cps.toList
    rw [List.map_map] at this
    have e : ((fun x : Str => x.cps.toList) ∘ txt) = id := by
      funext x
      exact txt_cps x
    rwa [e, List.map_id] at this
  · rw [List.pairwise_map]
    exact sorted_pw ss hs
theorem adr_le (n : Nat) : ∀ c ∈ [n + 1, n + 1 + 1, n + 1 + 1 + 1, n + 1 + 1 + 1 + 1], n ≤ c := by
  simp only [List.forall_mem_cons]
  exact ⟨Nat.le_add_right n 1, Nat.le_add_right n 2, Nat.le_add_right n 3, Nat.le_add_right n 4, fun _ h => nomatch h⟩
theorem adr_nd (n : Nat) : [n + 1, n + 1 + 1, n + 1 + 1 + 1, n + 1 + 1 + 1 + 1].Nodup := by
  have h : [1, 2, 3, 4].Nodup := by decide
  exact List.Pairwise.map (fun k => n + k) (fun a b hab e => hab (Nat.add_left_cancel e)) h
theorem strs_fun {us : List Value} {a : List Str} (h1 : StrsAre us a) : ∀ {b : List Str}, StrsAre us b → a = b := by
  induction h1 with
  | nil => intro b h2; cases h2; rfl
  | cons y t _ ih => intro b h2; cases h2 with | cons _ _ h => rw [ih h]
theorem list_fun {h : Heap} {T : Addr} {us vs : List Value} (h1 : h.IsList T us.toArray) (h2 : h.IsList T vs.toArray) : us = vs := by
  obtain ⟨o, ho, _, _, hd⟩ := h1
  obtain ⟨o', ho', _, _, hd'⟩ := h2
  rw [ho] at ho'; cases ho'
  rw [hd] at hd'
  have : us.toArray = vs.toArray := by injection hd'
  simpa using this
theorem ch_inj {a b : List Nat} (h : a.map ch = b.map ch) : a = b := by
  induction a generalizing b with
  | nil => cases b with
    | nil => rfl
    | cons _ _ => simp at h
  | cons x a ih => cases b with
    | nil => simp at h
    | cons y b =>
      rw [List.map_cons, List.map_cons] at h
      injection h with h1 h2
      have : x = y := by
        have := congrArg (fun z : Str => z.cps.toList) h1
        simpa [ch] using this
      rw [this, ih h2]
/-- the number of a list of letters -/
noncomputable def relN (h : Heap) (a y : Value) : Prop := ∃ T us cs, a = .ref T ∧ h.IsList T us.toArray ∧ StrsAre us (cs.map ch) ∧ ∃ t, y = .int (numF' cs) t
theorem nums_join {h0 h : Heap} {rows : List (List Nat)} {ls : List Value} (p1 : Paired (fun r v => isL (fun us => StrsAre us ((lettersF r).map ch)) v h0 h) rows ls) : ∀ {ys : List Value}, Paired (relN h) ls ys → IntsAre ys (rows.map fun r => numF' (lettersF r)) := by
  induction p1 with
  | nil => intro ys h2; cases h2; exact .nil
  | cons f _ ih =>
    intro ys h2
    cases h2 with
    | cons g t =>
      obtain ⟨T, us, rfl, _, hl, hs⟩ := f
      obtain ⟨T', us', cs, e, hl', hs', t', rfl⟩ := g
      cases e
      have e1 := list_fun hl hl'
      subst e1
      have e2 := ch_inj (strs_fun hs hs')
      rw [List.map_cons, e2]
      exact .cons _ _ (ih t)
theorem letters_texts {us : List Value} {cs : List Nat} (h : StrsAre us (cs.map ch)) : Paired relT (cs.map fun c => [c]) us :=
  paired_map (F := relT) (f := fun c => [c]) (paired_unmap (F := relS) (f := ch) (are_strs h))
end Mine
end

-- L3
section
open PySem PySem.W PyProof.Rows PySem.Calls PySem.Spec
set_option maxRecDepth 100000
set_option maxHeartbeats 2000000
namespace Mine
noncomputable def modeF (ns : List Int) : Int := (34933 + ((ns.take 60).map fun x => x % 65536).sum) % 65536
theorem Ev.chain {w : World} {n : Nat} {h : Heap} {env : Env} {f : Str} {e1 e2 e3 : Expr} {p pos : Pos} {m : Int} {r : List Nat} {op : Bool} (G : Grd w h) (hr : RowS r) (lf : Lk w h env f (.ref 179)) (h1 : Ev w (n + 8) h env e1 (isI m)) (h2 : Ev w (n + 8) h env e2 (isS (txt r))) (h3 : Ev w (n + 8) h env e3 (isB op))
    (hs : starEach [e1, e2, e3] env = [(false, eval e1 env), (false, eval e2 env), (false, eval e3 env)] := by rfl) (hs2 : starEach [e2, e3] env = [(false, eval e2 env), (false, eval e3 env)] := by rfl) (hs3 : starEach [e3] env = [(false, eval e3 env)] := by rfl) :
    Ev w (n + 8) h env (.Call (.Name f p) [e1, e2, e3] [] pos) (fun v a b => ChainIs m (lettersF r) op a b v) :=
  Ev.callF lf (G.K _ _ (by rfl)) rfl (Evs.cons h1 (Evs.cons h2 (Evs.cons h3 .nil hs3) (by rw [hs2, hs3])) (by rw [hs, hs2])) (fun vs a b e1 e2 p => by
    obtain ⟨v, r, b', rfl, x1, x2, ⟨t, rfl⟩, v2, r2, b2, rfl, x3, x4, ⟨t', rfl⟩, v3, r3, b3, rfl, x5, x6, hb, rfl⟩ := p
    rw [hb]
    exact (chain_cl (G.ext (e1.trans e2)) hr).up (Nat.le_add_left _ _)) (fun _ _ _ _ x p => by obtain ⟨T, R, t, vs, a, b, c, d, e⟩ := p; exact ⟨T, R, t, vs, a, x.none b, c, d, e⟩) (by rw [hs, hs2])
theorem law_run {w : World} {o : Obj} {fd : FuncData} {body : List Stmt} (g1 : (KF w).lookup 189 = some o) (g2 : o.data = .func fd) (g3 : fd.body = .stmts body) {A : Around} {s : Shared} {Q : Flow → Shared → Prop} {E : Value → Shared → Prop} {hb : Heap} {env : Env} {X : Addr} {xs : List Value} {ns : List Int} {c1 c2 c3 c4 : Addr} {m0 : Str → Option Value}
    (hsc : env.scope = fd.scope) (he : FnEnv env) (i1 : interactive env = false) (hfr : A.frames = some [env]) (hfE : env.frame = some env.locals)
    (Gb : Grd w hb) (kb : Ext hb s.heap) (ok : Okk A 12) (hLb : hb.get? env.locals = none) (hn : s.heap.Ns env.locals m0) (hm0 : m0 (Str.ofString "script") = some (.ref X)) (hX : s.heap.IsList X xs.toArray) (hI : IntsAre xs ns) (hz : ns.length ≤ 63)
    (hcells : env.cells = [(Str.ofString "new", c4), (Str.ofString "lost", c3), (Str.ofString "free", c2), (Str.ofString "opening", c1)])
    (v1 : s.heap.IsCell c1 none) (v2 : s.heap.IsCell c2 none) (v3 : s.heap.IsCell c3 none) (v4 : s.heap.IsCell c4 none) (hcb : ∀ c ∈ [c1, c2, c3, c4], hb.get? c = none) (hcn : [c1, c2, c3, c4].Nodup)
    (q : ∀ h' tk, Ext hb h' → Q (.ret (.bool true)) { s with heap := h', toks := tk }) : wpAny (MM w) A (execs body env) Q E s := by
  have g1' := g1.symm.trans (by rfl : (KF w).lookup 189 = some _)
  cases g1'
  cases g2
  cases g3
  clear g1
  have LK : LawOk (modeF ns) := lawOk (by unfold modeF; exact Int.emod_nonneg _ (by decide))
  have hbk : env.blockKind = .function := by unfold Env.blockKind; rw [he.kind]; rfl
  have k1 : env.kindOf (Str.ofString "mode") = some .local := kOf hsc rfl
  have k2 : env.kindOf (Str.ofString "script") = some .local := kOf hsc rfl
  have k3 : env.kindOf (Str.ofString "own") = some .local := kOf hsc rfl
  have k4 : env.kindOf (Str.ofString "both") = some .local := kOf hsc rfl
  have k5 : env.kindOf (Str.ofString "opening") = some .cell := kOf hsc rfl
  have g1 : env.kindOf (Str.ofString "sum") = some .globalImplicit := kOf hsc rfl
  have g2 : env.kindOf (Str.ofString "filemode") = some .globalImplicit := kOf hsc rfl
  have Gs := Gb.ext kb
  have l1 : Lk w s.heap env (Str.ofString "script") (.ref X) := .loc hn hm0 he k2 (by decide)
  have l2 : Lk w s.heap env (Str.ofString "sum") (.builtin "sum") := .blt Gs he g1 (by rfl) (by rfl) (by decide) (by decide)
  have lenX : xs.length = ns.length := hI.length
  -- mode = ..
  refine run_assignI (i := modeF ns) ok he k1 hn ?_ ?_
  · refine Ev.modI (Ev.addI .int (Ev.sumC (ns := (ns.take 60).map fun x => x % 65536) l2 ?_ ?_)) .int (by decide)
    · refine (Ev.comp (p := fun _ => true) (relY := fun x v => relI (x % 65536) v) (cl := []) (dec := decI) (rel := relI) (items := ns.take 60) (Src.new ((Ev.sliceL (Ev.name l1) hX .none (.some .int) (by omega)).mono ?_)) (fun _ _ => decI_of) (by simp; omega) (closureFor_eq (by rw [hcells]; rfl)) (by decide) rfl (by decide) rfl (by decide) he ?_ ?_).mono ?_
      · rintro v _ _ _ _ ⟨T, vs', a1, a2, a3, rfl⟩
        have := slice_ints_uptoW hI (y := 60) (by decide)
        exact ⟨T, _, a1, a2, a3, are_ints this⟩
      · intro a v hc C _ _ _ _
        exact rfl
      · rintro a v hc C _ _ ⟨t, rfl⟩ _ lk
        exact (Ev.modI (Ev.nameI lk) .int (by decide)).mono fun v _ _ _ _ p => p
      · rintro v _ _ _ _ ⟨T, vs', a1, a2, a3, a4⟩
        rw [List.filter_eq_self.mpr (by simp)] at a4
        exact ⟨T, vs', a1, a2, a3, ints_are (paired_map a4)⟩
    · refine sumFits_small (fun a ha => ?_) (by simp; omega)
      obtain ⟨x, _, rfl⟩ := List.mem_map.mp ha
      omega
  intro tm h1 h2 tk2 x1 sb2 hn2
  generalize hMF : modeF ns = m at *
  have base : ∀ {g1 g2 : Heap}, Ext hb g1 → Heap.SameBut env.locals g1 g2 → Ext hb g2 := fun x y => base_of hLb x (sameB y (List.mem_singleton.mpr rfl))
  have e2 := base (kb.trans x1) sb2
  have G2 := Gb.ext e2
  have cl : ∀ {h : Heap} {c : Addr} {v : Option Value} {m : Str → Option Value}, h.IsCell c v → h.Ns env.locals m → c ≠ env.locals := by
    rintro h c v m ⟨o, ho, hd⟩ ⟨o', _, _, ho', hd', _⟩ rfl
    rw [ho] at ho'; cases ho'; rw [hd] at hd'; cases hd'
  -- own = filemode(mode)
  have l3 : Lk w h2 env (Str.ofString "mode") (.int m tm) := .loc hn2 upd_eq he k1 (by decide)
  have l4 : Lk w h2 env (Str.ofString "filemode") (.ref 152) := .glob G2 he g2 (by rfl) (by decide)
  refine run_assignS (s := { s with heap := h2, toks := tk2 }) ok he k3 hn2 (Ev.file (n := 8) G2 l4 (Ev.nameI l3)) ?_
  intro to h3 h4 tk4 x3 sb4 hn4
  have e4 := base (e2.trans x3) sb4
  -- both = []
  refine run_assignN (s := { s with heap := h4, toks := tk4 }) ok he k4 hn4 ?_
  intro B h5 h6 tk6 x5 hBn hB5 sb6 hn6
  have e6 := base (e4.trans x5) sb6
  have hBL : B ≠ env.locals := ns_ne hn4 hBn
  have hB6 : h6.get? B = some (W.listOf #[] 0) := sb6.extBut _ _ hBL hB5
  have cu : ∀ {c v}, s.heap.IsCell c v → h6.IsCell c v := fun {c v} hv => isCell_same ((isCell_same ((isCell_same (hv.keeps x1) sb2 (cl hv hn)).keeps x3) sb4 (cl hv hn)).keeps x5) sb6 (cl hv hn)
  have w1 := cu v1
  have w2 := cu v2
  have w3 := cu v3
  have w4 := cu v4
  have kc : ∀ (y : Str) (c : Addr), env.cells.lookup y = some c → env.cells.lookup y = some c := fun _ _ h => h
  have d1 : env.cells.lookup (Str.ofString "opening") = some c1 := by rw [hcells]; rfl
  have d2 : env.cells.lookup (Str.ofString "free") = some c2 := by rw [hcells]; rfl
  have d3 : env.cells.lookup (Str.ofString "lost") = some c3 := by rw [hcells]; rfl
  have d4 : env.cells.lookup (Str.ofString "new") = some c4 := by rw [hcells]; rfl
  have n12 : c1 ≠ c2 := by intro e; simp [e] at hcn
  have n13 : c1 ≠ c3 := by intro e; simp [e] at hcn
  have n14 : c1 ≠ c4 := by intro e; simp [e] at hcn
  have n23 : c2 ≠ c3 := by intro e; simp [e] at hcn
  have n24 : c2 ≠ c4 := by intro e; simp [e] at hcn
  have n34 : c3 ≠ c4 := by intro e; simp [e] at hcn
  have cB : ∀ {c v}, s.heap.IsCell c v → c ≠ B := fun {c v} hv e => by
    have := isCell_same ((isCell_same (hv.keeps x1) sb2 (cl hv hn)).keeps x3) sb4 (cl hv hn)
    obtain ⟨o, ho, _⟩ := this
    rw [e, hBn] at ho; cases ho
  generalize hLS : lettersF (fileF m) = LS at *
  have hJJ : ∀ I i mm h h', JLaw env.locals c1 c2 c3 c4 B m tm to LS I i mm h → ExtB [c1, I] h h' → JLaw env.locals c1 c2 c3 c4 B m tm to LS I i mm h' := by
    rintro I i mm h h' ⟨b1, b1', b1'', b2, b3, b4, b5, v, hv, b6, b7, vs, kB, b8, b9⟩ eb
    exact ⟨b1, b1', b1'', b2, b3, b4, b5, v, cell_to hv fun o => eb _ _ (nm2 (Ne.symm n12) b3), cell_to b6 fun o => eb _ _ (nm2 (Ne.symm n13) b4), cell_to b7 fun o => eb _ _ (nm2 (Ne.symm n14) b5), vs, kB, eb _ _ (nm2 (Ne.symm (cB v1)) b2) b8, rowV_up (by simp) eb b9⟩
  refine run_forC (hb := hb) (s := { s with heap := h6, toks := tk6 }) (items := [false, true]) (rel := relB) ok he k5 d1 w1 hn6 (Ev.list (Evs.cons .bool (Evs.cons .bool .nil)) ?_) e6 [c2, B] ?_ (JLaw env.locals c1 c2 c3 c4 B m tm to LS) hJJ ?_ ?_ ?_
  · rintro vs a b ⟨v1, r1, b1, rfl, _, _, h1, v2, r2, b2, rfl, _, _, h2, rfl⟩
    exact ⟨(by first | exact sl2 | exact sl1), .cons h1 (.cons h2 .nil)⟩
  · intro a ha
    simp only [List.mem_cons, List.not_mem_nil, or_false] at ha
    rcases ha with rfl | rfl | rfl | rfl
    · obtain ⟨o, _, _, ho, _⟩ := hn6; exact ⟨hLb, o, ho⟩
    · obtain ⟨o, ho, _⟩ := w1; exact ⟨hcb _ (by simp), o, ho⟩
    · obtain ⟨o, ho, _⟩ := w2; exact ⟨hcb _ (by simp), o, ho⟩
    · exact ⟨e4.none hBn, _, hB6⟩
  · intro I hI
    have ni : ∀ {a : Addr} {o : Obj}, h6.get? a = some o → a ≠ I := fun {a o} ho e => by rw [e, hI] at ho; cases ho
    have nc : ∀ {c : Addr} {v : Option Value}, h6.IsCell c v → c ≠ I := fun hv => by obtain ⟨o, ho, _⟩ := hv; exact ni ho
    exact ⟨upd_ne (upd_ne upd_eq), upd_ne upd_eq, upd_eq, ni hB6, nc w2, nc w3, nc w4, _, w2, w3, w4, [], 0, hB6, .nil⟩
  · rintro I i op v mm h7 tk7 Q' E' hi rfl hIn hIa ⟨b1, b2, b3, bB, bc2, bc3, bc4, vf, hvf, hc3, hc4, vs, kB, hB7, pB⟩ hn7 hc1 e7 kb7 qn
    have hcL : ∀ {c v}, h7.IsCell c v → c ≠ env.locals := fun hv => cl hv hn7
    have G7 := Gb.ext e7
    have O := LK.one op
    have kf : env.kindOf (Str.ofString "free") = some .cell := kOf hsc rfl
    have kr : env.kindOf (Str.ofString "rows") = some .local := kOf hsc rfl
    have gC : env.kindOf (Str.ofString "_law_chain") = some .globalImplicit := kOf hsc rfl
    have l1 : Lk w h7 env (Str.ofString "mode") (.int m tm) := .loc hn7 b1 he k1 (by decide)
    have l2 : Lk w h7 env (Str.ofString "own") (.str (txt (fileF m)) to) := .loc hn7 b2 he k3 (by decide)
    have l3 : Lk w h7 env (Str.ofString "opening") (.bool op) := .cell d1 hc1 he k5 (by decide)
    have l4 : Lk w h7 env (Str.ofString "_law_chain") (.ref 179) := .glob G7 he gC (by rfl) (by decide)
    -- free, rows = _law_chain(mode, own, opening)
    refine wpAny_execs_cons (PyProof.Rows.Assign_Tuple ((Ev.chain (n := 4) G7 LK.own l4 (Ev.nameI l1) (Ev.nameS l2) (Ev.nameB l3)) A { s with heap := h7, toks := tk7 } _ _ ok (.refl _) fun v h8 tk8 x8 p8 => ?_))
    rw [hLS] at p8
    obtain ⟨T, R, tf, us, rfl, hRn, hT, hR, pR⟩ := p8
    refine assignCL (s := { s with heap := h8, toks := tk8 }) ok.hd hT kf d2 (hvf.keeps x8) kr he.kind (hn7.keeps x8) fun h9 tk9 eb9 hc2 hn9 => ?_
    have hRn' : h7.get? R = none := hRn
    have hRL : R ≠ env.locals := ne_at hRn' (ns_at hn7)
    have hRc1 : R ≠ c1 := ne_at hRn' (cell_at hc1)
    have hRc2 : R ≠ c2 := ne_at hRn' (cell_at hvf)
    have hRB : R ≠ B := ne_at hRn' ⟨_, hB7⟩
    have hRI : R ≠ I := ne_at hRn' hIa
    have c1L := hcL hc1
    have c2L := hcL hvf
    have old9 : ∀ {a : Addr} {o : Obj}, a ≠ env.locals → a ≠ c2 → h7.get? a = some o → h9.get? a = some o := fun {a o} n1 n2 ho => eb9 _ _ (nm2 n1 n2) (x8 _ _ ho)
    have cell9 : ∀ {c : Addr} {v : Option Value}, c ≠ c2 → h7.IsCell c v → h9.IsCell c v := fun n2 hv => cell_to hv fun o => old9 (hcL hv) n2
    have u1 := cell9 n12 hc1
    have u3 := cell9 (Ne.symm n23) hc3
    have u4 := cell9 (Ne.symm n24) hc4
    have hR9 : h9.IsList R us.toArray := list_to hR fun o => eb9 _ _ (nm2 hRL hRc2)
    have hB9 : h9.get? B = some (W.listOf vs.toArray kB) := old9 hBL (Ne.symm (cB v2)) hB7
    have kb9 : ExtB [env.locals, c2] h7 h9 := x8.b.trans eb9
    have e9 : Ext hb h9 := base_of2 hLb (hcb _ (by simp)) e7 kb9
    have G9 := Gb.ext e9
    have hfl := freeF_len LS op
    have lenRows := rows_len m LS op
    have lenR : us.length = (freeF LS op).length + 1 := pR.length.symm.trans lenRows
    have Orows := O.rows
    have Oown := O.own
    have Onine := O.nine
    have Ostep := O.step
    have Ofree := O.free
    have Onums := O.nums
    rw [hLS] at Orows Oown Onine Ostep Ofree Onums
    -- letters = [..]
    have kl : env.kindOf (Str.ofString "letters") = some .local := kOf hsc rfl
    have l5 : Lk w h9 env (Str.ofString "rows") (.ref R) := .loc hn9 upd_eq he kr (by decide)
    show wpAny (MM w) A (execs _ env) _ _ { s with heap := h9, toks := tk9 }
    refine run_assignLO (s := { s with heap := h9, toks := tk9 }) (n := 12) (items := rowsF m LS op) (rel := relT) (dec := decT) (S := fun r vs => StrsAre vs ((lettersF r).map ch)) (cl := []) ok (Ev.name l5) hR9 pR decT_of (ar2 lenRows hfl) (closureFor_eq (by rw [hcells]; rfl)) (by decide) rfl (by decide) rfl (by decide) he kl hn9 ?_ ?_ (by unfold swapsWith; simp only [hbk, kl]; rfl)
    · rintro r v hc C hm ⟨tr, rfl⟩ ex lc
      generalize hce : compEnvC _ _ C env = ce at lc ⊢
      have hec : FnEnv ce := by rw [← hce]; exact he.comp rfl
      have lL : Lk w hc ce (Str.ofString "_law_letters") (.ref 164) := .glob (G9.ext ex) hec (by rw [← hce]; exact relabel_lookup (by rfl) (by rfl)) (by rfl) (by decide)
      exact Ev.letters (n := 9) (G9.ext ex) (Orows r hm) lL (Ev.nameS lc)
    intro D hA tkA ls hDn hD pD hnA ebA
    have hDL : D ≠ env.locals := ns_ne hn9 hDn
    have hEA : ∀ {a : Addr} {o : Obj}, a ≠ env.locals → h9.get? a = some o → hA.get? a = some o := fun n1 ho => ebA _ _ (nm1 n1) ho
    have eA : Ext hb hA := base_of hLb e9 ebA
    have GA := Gb.ext eA
    have hRA : hA.IsList R us.toArray := list_to hR9 fun o => hEA hRL
    have lenD : ls.length = (freeF LS op).length + 1 := pD.length.symm.trans lenRows
    have rowK : ∀ k, k < (freeF LS op).length + 1 → RowK (rowsF m LS op) ls env.locals hA k := by
      intro k hk
      obtain ⟨_, hr⟩ := getE (Nat.lt_of_lt_of_eq hk lenRows.symm)
      obtain ⟨v, hv, T, vs', rfl, hTn, hT, hS⟩ := paired_get pD k _ hr
      exact ⟨_, T, vs', hr, getD_of hr, List.mem_of_getElem? hr, hv, ns_ne hn9 hTn, hT, hS⟩
    -- if own not in rows or ..
    have l6 : Lk w hA env (Str.ofString "own") (.str (txt (fileF m)) to) := .loc hnA (upd_ne (upd_ne b2)) he k3 (by decide)
    have l7 : Lk w hA env (Str.ofString "rows") (.ref R) := .loc hnA (upd_ne upd_eq) he kr (by decide)
    have l8 : Lk w hA env (Str.ofString "letters") (.ref D) := .loc hnA upd_eq he kl (by decide)
    have gN : env.kindOf (Str.ofString "len") = some .globalImplicit := kOf hsc rfl
    have l9 : Lk w hA env (Str.ofString "len") (.builtin "len") := .blt GA he gN (by rfl) (by rfl) (by decide) (by decide)
    obtain ⟨rA, TA, vA, a1, a2, a3, a4, a5, a6, a7⟩ := rowK 0 (Nat.succ_pos _)
    obtain ⟨rZ, TZ, vZ, z1, z2, z3, z4, z5, z6, z7⟩ := rowK (freeF LS op).length (Nat.lt_succ_self _)
    have lenA : vA.length = (lettersF rA).length := by rw [a7.length, List.length_map]
    have lenZ : vZ.length = (lettersF rZ).length := by rw [z7.length, List.length_map]
    have sA : (lettersF rA).length ≤ 9 := letters_len
    have sZ : (lettersF rZ).length ≤ 9 := letters_len
    rw [a2, z2] at Onine
    refine run_if (s := { s with heap := hA, toks := tkA }) (b := false) ok ((Tr.or (c := false) (d := false) ((Tr.notIn (Ev.nameS l6) (Ev.name l7) hRA pR).b ?_) fun _ => (Tr.neI (Ev.addI (Ev.lenL l9 (Ev.item (k := 0) (Ev.name l8) hD .int (by decide) (by decide) a4) a6 (ar1 (Nat.le_trans (Nat.le_of_eq lenA) sA))) (Ev.lenL l9 (Ev.itemNeg (k := -1) (Ev.name l8) hD (Ev.neg .int) (by decide) (last_neg lenD).1 (by decide) ?_) z6 (ar1 (Nat.le_trans (Nat.le_of_eq lenZ) sZ)))) .int).b ?_)) ?_
    · rw [List.contains_iff_mem.mpr Oown]; rfl
    · rw [(last_neg lenD).2]; exact z4
    · rw [lenA, lenZ, bne_eq_false_iff_eq]; omega
    intro hB tkB xB
    rw [if_neg (by decide)]
    refine run_nil ?_
    have hnB := hnA.keeps xB
    have eB := eA.trans xB
    have GB := Gb.ext eB
    have cellB : ∀ {c : Addr} {v : Option Value}, c ≠ env.locals → h9.IsCell c v → hB.IsCell c v := fun n1 hv => cell_to hv fun o ho => xB _ _ (hEA n1 ho)
    have y1 := cellB c1L u1
    have y2 := cellB c2L hc2
    -- for k, letter in enumerate(..)
    have ge : env.kindOf (Str.ofString "enumerate") = some .globalImplicit := kOf hsc rfl
    have kk : env.kindOf (Str.ofString "k") = some .local := kOf hsc rfl
    have kt : env.kindOf (Str.ofString "letter") = some .local := kOf hsc rfl
    have gS : env.kindOf (Str.ofString "sorted_list_difference") = some .globalImplicit := kOf hsc rfl
    have p1 : Lk w hB env (Str.ofString "enumerate") (.type "enumerate") := .blt GB he ge (by rfl) (by rfl) (by decide) (by decide)
    have p2 : Lk w hB env (Str.ofString "opening") (.bool op) := .cell d1 y1 he k5 (by decide)
    have p3 : Lk w hB env (Str.ofString "free") (.str (txt (freeF LS op)) tf) := .cell d2 y2 he kf (by decide)
    show wpAny (MM w) A (execs _ env) _ _ { s with heap := hB, toks := tkB }
    refine run_for2 (hb := hb) (s := { s with heap := hB, toks := tkB }) (n := 12) ok he kk kt hnB (Src2.enumS (x := txt (if op then (freeF LS op).reverse else freeF LS op)) p1 (Ev.ifS (c := op) (Tr.ofB (Ev.nameB p2)) (fun ho => (Ev.revS (Ev.nameS p3) (Ev.neg .int) (Nat.le_trans hfl (by decide))).s (by rw [ho]; rfl)) (fun ho => (Ev.nameS p3).s (by rw [ho]; rfl)))) eB [] ?_ (by simp) (by simp) (fun _ mk _ => NLaw m tm to B R D mk) (fun mk _ => NLaw m tm to B R D mk) (fun _ _ _ _ h _ => h) ⟨upd_ne (upd_ne b1), upd_ne (upd_ne b2), upd_ne (upd_ne b3), upd_ne upd_eq, upd_eq⟩ ?_ ?_ ?_
    · intro a ha
      rw [List.mem_singleton.mp ha]
      obtain ⟨o, _, _, ho, _⟩ := hnB
      exact ⟨hLb, o, ho⟩
    · rintro i2 ⟨c, i2'⟩ u v mk hC tkC Q2 E2 hi2 ⟨⟨tu, rfl⟩, tv, rfl⟩ NM hnC eC ebC qn2 _ _
      obtain ⟨hci, rfl⟩ := at_i hi2
      have hlt := (if_mem hci).2
      obtain ⟨rA', T1, w1', r1, r2, r3, r4, r5, r6, r7⟩ := rowK i2' (Nat.lt_succ_of_lt hlt)
      obtain ⟨rB', T2, w2', s1, s2, s3, s4, s5, s6, s7⟩ := rowK (i2' + 1) (Nat.succ_lt_succ hlt)
      have a4 := ar4 hlt hfl
      have hstep := Ostep i2' c hci
      rw [r2, s2] at hstep
      have GC := Gb.ext eC
      have upC : ∀ {a : Addr} {o : Obj}, a ≠ env.locals → hA.get? a = some o → hC.get? a = some o := fun n1 ho => ebC _ _ (nm1 n1) (xB _ _ ho)
      have lstC : ∀ {a : Addr} {its : Array Value}, a ≠ env.locals → hA.IsList a its → hC.IsList a its := fun n1 hl => list_to hl fun o => upC n1
      have q1 : Lk w hC env (Str.ofString "sorted_list_difference") (.ref 159) := .glob GC he gS (by rfl) (by decide)
      have q2 : Lk w hC env (Str.ofString "letters") (.ref D) := .loc hnC (upd_ne (upd_ne NM.m5)) he kl (by decide)
      have q3 : Lk w hC env (Str.ofString "k") (.int i2' tu) := .loc hnC (upd_ne upd_eq) he kk (by decide)
      refine wpAny_execs_cons (wpAny_If (wpAny_isTrue_Compare1 (callF_by (n := 12) (s := { s with heap := hC, toks := tkC }) q1 (GC.K _ _ (by rfl)) rfl ok (Evs.cons (Ev.item (k := i2') (Ev.name q2) (lstC hDL hD) (Ev.nameI q3) a4.1 a4.2.1 r4) (Evs.cons (Ev.item (k := i2' + 1) (Ev.name q2) (lstC hDL hD) (Ev.addI (Ev.nameI q3) .int) a4.2.2.1 a4.2.2.2 s4) .nil)) fun vs h' tk' x' p => ?_)))
      obtain ⟨va, ra, ha, rfl, _, _, hva, vb, rb, hb', rfl, _, _, hvb, rfl⟩ := p
      rw [hva, hvb]
      have hn' : h'.Ns env.locals _ := hnC.keeps x'
      obtain ⟨oL, esL', epL', hoL, hdL, _⟩ := id hn'
      have sz1 : (lettersF rA').length ≤ 9 := letters_len
      have sz2 : (lettersF rB').length ≤ 9 := letters_len
      refine sld_call (s := { s with heap := h', toks := tk' }) Gb (eC.trans x') (ok.down (by decide)) hfr hfE (by rw [he.kind]; decide) hoL hdL hLb (isList_ext (lstC r5 r6) x') (letters_texts r7) (isList_ext (lstC s5 s6) x') (letters_texts s7) (letters_adj _) (letters_adj _) (map_le sz1) (map_le sz2) ?_
      intro T' M' U' ms us' h2 tk2 up2 e2' _ hT' hM' hU' pM pU
      rw [hstep] at pM pU
      have hn2' := up2.ns hn'
      have q4 : Lk w h2 env (Str.ofString "letter") (.str ⟨#[c]⟩ tv) := .loc hn2' upd_eq he kt (by decide)
      have hc200 : c < 200 := Nat.lt_of_le_of_lt (abc_range c (freeF_mem LS op c (if_mem hci).1)).2 (by decide)
      have rdL : RD h2 (.ref T') (.tuple [dS [], dS [[c]]]) := RD.tuple (vs := [.ref M', .ref U']) (by simpa using hT') (.cons (.texts hM' pM) (.cons (.texts hU' pU) .nil))
      refine (Ev.tuple (w := w) (n := 12) (h := h2) (env := env) (Evs.cons (Ev.list (S := fun vs => vs = []) .nil fun vs a b hv => ⟨by rw [hv, sizeLine_eq]; simp, hv⟩) (Evs.cons (Ev.list (S := fun vs => Paired relT [[c]] vs) (Evs.cons (Ev.nameS q4) .nil) fun vs a b hv => ?_) .nil)) ?_) A { s with heap := h2, toks := tk2 } _ _ ok (.refl _) fun vb h3 tk3 x3 pb => ?_
      · obtain ⟨v1, r1, b1, rfl, _, _, ⟨t1, rfl⟩, rfl⟩ := hv
        exact ⟨(by first | exact sl2 | exact sl1), .cons ⟨t1, rfl⟩ .nil⟩
      · rintro vs a b ⟨v1, r1, b1, rfl, _, _, _, v2, r2, b2, rfl, _, _, _, rfl⟩
        rw [sizeLine_eq]; simp
      have rdR : RD h3 vb (.tuple [dS [], dS [[c]]]) := by
        obtain ⟨T3, vs3, b3, rfl, _, o1, o2, ht3, v1, r1, b1, rfl, o3, o4, ⟨T4, vs4, rfl, _, hl4, rfl⟩, v2, r2, b2, rfl, o5, o6, ⟨T5, vs5, rfl, _, hl5, p5⟩, rfl⟩ := pb
        exact RD.tuple ht3 (.cons (.texts (isList_ext (isList_ext hl4 o4) o2) .nil) (.cons (.texts (isList_ext (isList_ext hl5 o6) o2) p5) .nil))
      have can := can_pair hc200
      refine (Cmp.neD (w := w) (n := 11) (rdL.ext x3) rdR can can (dep_pair c)) A { s with heap := h3, toks := tk3 } _ _ ok (.refl _) fun h4 tk4 x4 => ?_
      rw [SeqAt.eqv_refl _ can]
      refine wpAny_truthy_bool ?_
      rw [Bool.not_true, if_neg (by decide)]
      have ebF : ExtB (env.locals :: []) hC h4 := ((x'.b.trans (fun a o ha ho => up2.1 a o ha ho)).trans x3.b).trans x4.b
      refine run_nil (run_nil (qn2 h4 tk4 _ ebF ((hn2'.keeps x3).keeps x4) (NM.up _ _)))
    · intro h1 tk mk Q2 E2 _ _ hn1 hj q2
      exact run_nil (q2 h1 tk mk (.refl _ _) hn1 hj)
    intro hE tkE mE ebE eE hnE hjE
    obtain ⟨m1, m2, m3, m4, m5⟩ := hjE
    have GE := Gb.ext eE
    have upE : ∀ {a : Addr} {o : Obj}, a ≠ env.locals → hA.get? a = some o → hE.get? a = some o := fun n1 ho => ebE _ _ (nm1 n1) (xB _ _ ho)
    have lstE : ∀ {a : Addr} {its : Array Value}, a ≠ env.locals → hA.IsList a its → hE.IsList a its := fun n1 hl => list_to hl fun o => upE n1
    have cellE : ∀ {c : Addr} {v : Option Value}, c ≠ env.locals → hB.IsCell c v → hE.IsCell c v := fun n1 hv => cell_to hv fun o => ebE _ _ (nm1 n1)
    have i1E := cellE c1L y1
    have i2E := cellE c2L y2
    have lR : Lk w hE env (Str.ofString "rows") (.ref R) := .loc hnE m4 he kr (by decide)
    -- if [row for row in rows if ..] != []
    refine run_if (s := { s with heap := hE, toks := tkE }) (b := false) ok (Tr.neSame (n := 11) (d := dS []) (Ev.comp (p := fun _ => false) (relY := relT) (items := rowsF m LS op) (rel := relT) (dec := decT) (Src.list (Ev.name lR) (lstE hRL hRA) pR) decT_of (ar2 lenRows hfl) (closureFor_eq (by rw [hcells]; rfl)) (by decide) rfl (by decide) rfl (by decide) he ?_ ?_) (Ev.list (S := fun vs => vs = []) .nil fun vs a b hv => ⟨by rw [hv, sizeLine_eq]; simp, hv⟩) ?_ ?_ (can_strs (by simp)) (dep50 _)) ?_
    · rintro r v hc C hm ⟨tr, rfl⟩ ex lc
      generalize hce : compEnvC _ _ C env = ce at lc ⊢
      have hec : FnEnv ce := by rw [← hce]; exact he.comp rfl
      have lo : Lk w hc ce (Str.ofString "opening") (.bool op) := .cell (by rw [← hce]; rfl) (i1E.keeps ex) hec (by rw [← hce]; exact relabel_cell (by rfl) he k5) (by decide)
      have lf : Lk w hc ce (Str.ofString "free") (.str (txt (freeF LS op)) tf) := .cell (by rw [← hce]; rfl) (i2E.keeps ex) hec (by rw [← hce]; exact relabel_cell (by rfl) he kf) (by decide)
      have lF : Lk w hc ce (Str.ofString "_law_free") (.ref 174) := .glob (GE.ext ex) hec (by rw [← hce]; exact relabel_lookup (by rfl) (by rfl)) (by rfl) (by decide)
      refine (Tr.cmp (Ev.free (n := 6) (GE.ext ex) (Orows r hm) lF (Ev.nameS lc) (Ev.nameB lo)) (Ev.nameS lf) (fun _ _ _ _ _ _ _ _ p q => by obtain ⟨t, rfl⟩ := p; obtain ⟨u, rfl⟩ := q; exact Cmp.neS)).b ?_
      rw [Ofree r hm]
      exact bne_self_eq_false _
    · rintro r v hc C hm hp
      cases hp
    · rintro v a b _ ⟨T', vs', rfl, _, hl, hp⟩
      have e : (rowsF m LS op).filter (fun _ => false) = [] := List.filter_eq_nil_iff.mpr (by simp)
      rw [e] at hp
      exact .texts hl hp
    · rintro v a b _ ⟨T', vs', rfl, _, hl, rfl⟩
      exact .texts hl .nil
    intro hF tkF xF
    rw [if_neg (by decide)]
    refine run_nil ?_
    show wpAny (MM w) A (execs _ env) _ _ { s with heap := hF, toks := tkF }
    have hnF := hnE.keeps xF
    have eF := eE.trans xF
    have GF := Gb.ext eF
    have j1 := i1E.keeps xF
    have lM : Lk w hF env (Str.ofString "mode") (.int m tm) := .loc hnF m1 he k1 (by decide)
    have lO : Lk w hF env (Str.ofString "opening") (.bool op) := .cell d1 j1 he k5 (by decide)
    have lD : Lk w hF env (Str.ofString "letters") (.ref D) := .loc hnF m5 he kl (by decide)
    have gH : env.kindOf (Str.ofString "_law_by_heights") = some .globalImplicit := kOf hsc rfl
    have lH : Lk w hF env (Str.ofString "_law_by_heights") (.ref 184) := .glob GF he gH (by rfl) (by decide)
    have hDF : hF.IsList D ls.toArray := isList_ext (lstE hDL hD) xF
    refine run_if (s := { s with heap := hF, toks := tkF }) (b := false) ok (Tr.neSame (n := 11) (d := dI (byH (m % 512) op)) (Ev.comp (p := fun _ => true) (relY := relN hA) (items := ls) (rel := fun a v => v = a) (dec := id) (Src.list (Ev.name lD) hDF (self_p ls)) (fun _ _ h => h) (ar2 lenD hfl) (closureFor_eq (by rw [hcells]; rfl)) (by decide) rfl (by decide) rfl (by decide) he ?_ ?_) (Ev.heights (n := 7) GF ar6.1 ar6.2 lH (Ev.modI (Ev.nameI lM) .int (by decide)) (Ev.nameB lO)) ?_ ?_ (can_ints _) (depth_ints _)) ?_
    · rintro a v hc C hm rfl ex lc
      exact rfl
    · rintro a v hc C hm _ rfl ex lc
      obtain ⟨i3, hi3⟩ := List.mem_iff_getElem?.mp hm
      obtain ⟨r, hr, T', us', rfl, hTn, hT', hS'⟩ := paired_at pD i3 v hi3
      generalize hce : compEnvC _ _ C env = ce at lc ⊢
      have hec : FnEnv ce := by rw [← hce]; exact he.comp rfl
      have lF : Lk w hc ce (Str.ofString "_law_number") (.ref 169) := .glob (GF.ext ex) hec (by rw [← hce]; exact relabel_lookup (by rfl) (by rfl)) (by rfl) (by decide)
      have sz : (lettersF r).length ≤ 9 := letters_len
      refine (Ev.numberV (n := 9) (cs := lettersF r) (GF.ext ex) lF (Ev.name lc) (isList_ext (isList_ext (lstE (ns_ne hn9 hTn) hT') xF) ex) hS' (fun c hc => abc_range c (letters_mem c hc)) (Nat.le_trans sz (by decide))).mono fun y _ _ _ _ p => ?_
      exact ⟨T', us', lettersF r, rfl, hT', hS', p⟩
    · rintro v a b _ ⟨T', vs', rfl, _, hl, hp⟩
      rw [List.filter_eq_self.mpr (by simp)] at hp
      rw [← Onums]
      exact .ints hl (nums_join pD hp)
    · rintro v a b _ ⟨T', vs', rfl, _, hl, hp⟩
      exact .ints hl hp
    intro hG tkG xG
    rw [if_neg (by decide)]
    refine run_nil ?_
    show wpAny (MM w) A (execs _ env) _ _ { s with heap := hG, toks := tkG }
    have hnG := hnF.keeps xG
    have eG := eF.trans xG
    have lB : Lk w hG env (Str.ofString "both") (.ref B) := .loc hnG m3 he k4 (by decide)
    have lR2 : Lk w hG env (Str.ofString "rows") (.ref R) := .loc hnG m4 he kr (by decide)
    have hBG : hG.get? B = some (W.listOf vs.toArray kB) := xG _ _ (xF _ _ (upE hBL (hEA hBL hB9)))
    have zvs : vs.length ≤ 2 := by rw [← pB.length, List.length_take]; exact Nat.min_le_right ..
    refine run_append (s := { s with heap := hG, toks := tkG }) ok lB hBG (Ev.name lR2) (Nat.le_trans zvs (by decide)) ?_ i1
    rintro v hH hK tkK xH hv sbK lK
    have hv' : v = .ref R := hv
    subst hv'
    have all : ExtB [env.locals, c2, B] h7 hK := fun a o ha ho => by
      simp only [List.mem_cons, List.not_mem_nil, or_false, not_or] at ha
      exact sbK.extBut _ _ ha.2.2 (xH _ _ (xG _ _ (xF _ _ (upE ha.1 (hEA ha.1 (old9 ha.1 ha.2.1 ho))))))
    have all9 : ∀ {a : Addr} {o : Obj}, a ≠ env.locals → a ≠ B → h9.get? a = some o → hK.get? a = some o := fun {a o} n1 n2 ho => sbK.extBut _ _ n2 (xH _ _ (xG _ _ (xF _ _ (upE n1 (hEA n1 ho)))))
    have cK : ∀ {c : Addr} {v : Option Value}, c ≠ env.locals → c ≠ B → h9.IsCell c v → hK.IsCell c v := fun n1 n2 hv => cell_to hv fun o => all9 n1 n2
    have hnK : hK.Ns env.locals mE := ns_same (hnG.keeps xH) sbK (Ne.symm hBL)
    refine run_nil (qn hK tkK mE (all.mono (by simp)) hnK (cK c1L (cB v1) u1) ⟨m1, m2, m3, bB, bc2, bc3, bc4, _, cK c2L (cB v2) hc2, cK (hcL hc3) (cB v3) u3, cK (hcL hc4) (cB v4) u4, vs ++ [.ref R], kB + 1, by rw [← List.push_toArray]; exact lK, ?_⟩)
    rw [List.take_add_one, hi]
    exact paired_append (rowV_up (Y := [env.locals, c2, B]) (by simp) all pB) (.cons ⟨R, us, rfl, nmc hRL (nmc hRc1 (nmc hRc2 (nm2 hRB hRI))), list_to hR9 fun o => all9 hRL hRB, pR⟩ .nil)
  · intro I h' tk mm' v' kb' e' hn' hc1' hJ
    obtain ⟨b1, b2, b3, _, _, _, _, _, _, hc3', hc4', vs, kB, hB', pB⟩ := hJ
    obtain ⟨va, vb, rfl, ⟨R1, u1, rfl, n1, hR1, pR1⟩, R2, u2, rfl, n2, hR2, pR2⟩ := two_rows pB
    have nR1 : R1 ≠ env.locals := fun e => n1 (e ▸ List.mem_cons_self ..)
    have nR2 : R2 ≠ env.locals := fun e => n2 (e ▸ List.mem_cons_self ..)
    have G' := Gb.ext e'
    have ko : env.kindOf (Str.ofString "one") = some .local := kOf hsc rfl
    have kw : env.kindOf (Str.ofString "two") = some .local := kOf hsc rfl
    have kls : env.kindOf (Str.ofString "lost") = some .cell := kOf hsc rfl
    have knw : env.kindOf (Str.ofString "new") = some .cell := kOf hsc rfl
    have ksh : env.kindOf (Str.ofString "shared") = some .local := kOf hsc rfl
    have gS : env.kindOf (Str.ofString "sorted_list_difference") = some .globalImplicit := kOf hsc rfl
    have gO : env.kindOf (Str.ofString "sorted") = some .globalImplicit := kOf hsc rfl
    have lB : Lk w h' env (Str.ofString "both") (.ref B) := .loc hn' b3 he k4 (by decide)
    -- one, two = both
    refine wpAny_execs_cons (PyProof.Rows.Assign_Tuple (lB A { s with heap := h', toks := tk } _ _ _ (.refl _) ?_))
    refine assignLL (s := { s with heap := h', toks := tk }) (a := .ref R1) (b := .ref R2) ok.hd ⟨_, hB', rfl, _, rfl⟩ ko kw he.kind hn' fun hA tkA ebA hnA => ?_
    show wpAny (MM w) A (execs _ env) _ _ { s with heap := hA, toks := tkA }
    have eA : Ext hb hA := base_of hLb e' ebA
    have GA := Gb.ext eA
    have upA : ∀ {a : Addr} {o : Obj}, a ≠ env.locals → h'.get? a = some o → hA.get? a = some o := fun n1 ho => ebA _ _ (nm1 n1) ho
    have hR1A : hA.IsList R1 u1.toArray := list_to hR1 fun o => upA nR1
    have hR2A : hA.IsList R2 u2.toArray := list_to hR2 fun o => upA nR2
    have c3L := cl hc3' hn'
    have c4L := cl hc4' hn'
    have hc3A : hA.IsCell c3 none := cell_to hc3' fun o => upA c3L
    have hc4A : hA.IsCell c4 none := cell_to hc4' fun o => upA c4L
    have f1 := freeF_len LS false
    have f2 := freeF_len LS true
    have len1 := rows_len m LS false
    have len2 := rows_len m LS true
    have len1' := pR1.length.symm.trans len1
    have len2' := pR2.length.symm.trans len2
    -- lost, new = sorted_list_difference(sorted(one), sorted(two))
    have l1 : Lk w hA env (Str.ofString "sorted_list_difference") (.ref 159) := .glob GA he gS (by rfl) (by decide)
    have l2 : Lk w hA env (Str.ofString "sorted") (.builtin "sorted") := .blt GA he gO (by rfl) (by rfl) (by decide) (by decide)
    have l3 : Lk w hA env (Str.ofString "one") (.ref R1) := .loc hnA (upd_ne upd_eq) he ko (by decide)
    have l4 : Lk w hA env (Str.ofString "two") (.ref R2) := .loc hnA upd_eq he kw (by decide)
    refine wpAny_execs_cons (PyProof.Rows.Assign_Tuple (callF_by (n := 12) (s := { s with heap := hA, toks := tkA }) l1 (GA.K _ _ (by rfl)) rfl ok (Evs.cons (Ev.sorted l2 (Ev.name l3) hR1A pR1 (ar5 len1' f1).1) (Evs.cons (Ev.sorted l2 (Ev.name l4) hR2A pR2 (ar5 len2' f2).1) .nil)) fun vs hB tkB xB p => ?_))
    obtain ⟨va, ra, ha, rfl, o1, o2, ⟨TO, vo, rfl, hTO, hlO, ssO, sO1, sO2, sO3⟩, vb, rb, hb'', rfl, o3, o4, ⟨TT, vt, rfl, hTT, hlT, ssT, sT1, sT2, sT3⟩, rfl⟩ := p
    obtain ⟨so, po, qo, wo⟩ := sorted_back sO1 sO2 sO3
    obtain ⟨st, pt, qt, wt⟩ := sorted_back sT1 sT2 sT3
    have LB := LK.both so st
    rw [hLS] at LB
    obtain ⟨adO, adT, keep1, keep2⟩ := LB qo qt wo wt
    have hnB : hB.Ns env.locals _ := hnA.keeps xB
    obtain ⟨oL, esL', epL', hoL, hdL, _⟩ := id hnB
    refine sld_call (s := { s with heap := hB, toks := tkB }) Gb (eA.trans xB) (ok.down (by decide)) hfr hfE (by rw [he.kind]; decide) hoL hdL hLb (isList_ext hlO o2) po (isList_ext hlT o4) pt adO adT (by rw [qo.length_eq]; exact (ar5 len1 f1).2) (by rw [qt.length_eq]; exact (ar5 len2 f2).2) ?_
    intro T' M' U' ms us' h2 tk2 up2 e2' _ hT' hM' hU' pM pU
    have hn2' := up2.ns hnB
    have cell2 : ∀ {c : Addr} {v : Option Value}, c ≠ env.locals → hA.IsCell c v → h2.IsCell c v := fun n1 hv => cell_to hv fun o ho => up2.1 _ _ (nm1 n1) (xB _ _ ho)
    refine assignCC (s := { s with heap := h2, toks := tk2 }) ok.hd hT' kls d3 (cell2 c3L hc3A) knw d4 (cell2 c4L hc4A) n34 he.kind fun hC tkC ebC hc3C hc4C => ?_
    show wpAny (MM w) A (execs _ env) _ _ { s with heap := hC, toks := tkC }
    have c3L2 := c3L
    have eC : Ext hb hC := base_of2 (hcb _ (by simp)) (hcb _ (by simp)) e2' ebC
    have GC := Gb.ext eC
    have hnC := hn2'.at' (h' := hC) fun o eo => ebC _ _ (nm2 (Ne.symm c3L) (Ne.symm c4L)) eo
    have lstC : ∀ {a : Addr} {its : Array Value}, h2.IsList a its → hC.IsList a its := fun hl => list_to hl fun o => ebC _ _ (nm2 (cell_ne_list (cell2 c3L hc3A) hl) (cell_ne_list (cell2 c4L hc4A) hl))
    have lst2 : ∀ {a : Addr} {its : Array Value}, a ≠ env.locals → hA.IsList a its → h2.IsList a its := fun n1 hl => list_to hl fun o ho => up2.1 _ _ (nm1 n1) (xB _ _ ho)
    have hR1C := lstC (lst2 nR1 hR1A)
    have hR2C := lstC (lst2 nR2 hR2A)
    have hMC := lstC hM'
    have hUC := lstC hU'
    have nmC : ∀ {y : Str}, y ≠ Str.ofString "one" → y ≠ Str.ofString "two" → upd (upd mm' (Str.ofString "one") (.ref R1)) (Str.ofString "two") (.ref R2) y = mm' y := fun h1 h2 => upd_ne (upd_ne rfl h1) h2
    have p1 : Lk w hC env (Str.ofString "mode") (.int m tm) := .loc hnC ((nmC (by decide) (by decide)).trans b1) he k1 (by decide)
    have p2 : Lk w hC env (Str.ofString "own") (.str (txt (fileF m)) to) := .loc hnC ((nmC (by decide) (by decide)).trans b2) he k3 (by decide)
    have p3 : Lk w hC env (Str.ofString "one") (.ref R1) := .loc hnC (upd_ne upd_eq) he ko (by decide)
    -- shared = ..
    have getR : ∀ k, k < (freeF LS false).length + 1 → ∃ v, u1[k]? = some v ∧ relT ((rowsF m LS false).getD k []) v := fun k hk => by
      obtain ⟨_, hr⟩ := getE (Nat.lt_of_lt_of_eq hk len1.symm)
      obtain ⟨v, hv, hr'⟩ := paired_get pR1 k _ hr
      exact ⟨v, hv, getD_of hr ▸ hr'⟩
    obtain ⟨va1, hva1, hra1⟩ := getR 0 (Nat.succ_pos _)
    obtain ⟨vz1, hvz1, hrz1⟩ := getR (freeF LS false).length (Nat.lt_succ_self _)
    refine run_assign (s := { s with heap := hC, toks := tkC }) (P := isL fun vs => Paired relT (sharedF m) vs) ok he ksh hnC (Ev.ifL (c := (m % 512 == 0 || m % 512 == 511)) (Tr.b (b := ([0, 511] : List Int).any (· == m % 512)) (Tr.cmp (Ev.modI (Ev.nameI p1) .int (by decide)) (Ev.list (S := fun vs => IntsAre vs [0, 511]) (Evs.cons .int (Evs.cons .int .nil)) ?_) ?_) ?_) (fun hc => Ev.list (Evs.cons (Ev.item (k := 0) (Ev.name p3) hR1C .int (by decide) (by decide) hva1) (Evs.cons (Ev.itemNeg (k := -1) (v := vz1) (Ev.name p3) hR1C (Ev.neg .int) (by decide) (last_neg len1').1 (by decide) ?_) .nil)) ?_) (fun hc => Ev.list (Evs.cons (Ev.nameS p2) .nil) ?_)) ?_
    · rintro vs a b ⟨v1, r1, b1, rfl, _, _, ⟨t1, rfl⟩, v2, r2, b2, rfl, _, _, ⟨t2, rfl⟩, rfl⟩
      exact ⟨(by first | exact sl2 | exact sl1), .cons _ _ (.cons _ _ .nil)⟩
    · rintro a b _ _ _ _ _ _ ⟨t, rfl⟩ ⟨T3, vs3, rfl, _, hl3, hi3⟩
      exact Cmp.inLI hl3 hi3
    · rw [List.any_cons, List.any_cons, List.any_nil, Bool.or_false]
      congr 1
      · exact Bool.eq_iff_iff.mpr (by rw [beq_iff_eq, beq_iff_eq]; exact eq_comm)
      · exact Bool.eq_iff_iff.mpr (by rw [beq_iff_eq, beq_iff_eq]; exact eq_comm)
    · rw [(last_neg len1').2]; exact hvz1
    · rintro vs a b ⟨v1, r1, b1, rfl, _, _, hv1, v2, r2, b2, rfl, _, _, hv2, rfl⟩
      refine ⟨(by first | exact sl2 | exact sl1), ?_⟩
      rw [Bool.or_eq_true, beq_iff_eq, beq_iff_eq] at hc
      unfold sharedF
      rw [hLS, if_pos hc, hv1, hv2]
      exact .cons hra1 (.cons hrz1 .nil)
    · rintro vs a b ⟨v1, r1, b1, rfl, _, _, hv1, rfl⟩
      refine ⟨(by first | exact sl2 | exact sl1), ?_⟩
      rw [Bool.or_eq_false_iff, beq_eq_false_iff_ne, beq_eq_false_iff_ne] at hc
      unfold sharedF
      rw [if_neg (by rintro (h | h); exact hc.1 h; exact hc.2 h)]
      exact .cons hv1 .nil
    rintro v hD hE tkE xD ⟨SH, vsh, rfl, hSn, hSl, hSp⟩ sbE hnE
    have hSL : SH ≠ env.locals := ns_ne hnC hSn
    have eE := base (eC.trans xD) sbE
    have upE : ∀ {a : Addr} {o : Obj}, a ≠ env.locals → hC.get? a = some o → hE.get? a = some o := fun {a o} n1 ho => sbE.extBut _ _ n1 (xD _ _ ho)
    have lstE : ∀ {a : Addr} {its : Array Value}, hC.IsList a its → hE.IsList a its := fun hl => list_to hl fun o => upE (ns_ne_list hnC hl)
    have cellE : ∀ {c : Addr} {v : Option Value}, hC.IsCell c v → hE.IsCell c v := fun hv => cell_to hv fun o => upE (cl hv hnC)
    have hSE : hE.IsList SH vsh.toArray := isList_same hSl sbE hSL
    have q1 : Lk w hE env (Str.ofString "one") (.ref R1) := .loc hnE (upd_ne (upd_ne upd_eq)) he ko (by decide)
    have q2 : Lk w hE env (Str.ofString "two") (.ref R2) := .loc hnE (upd_ne upd_eq) he kw (by decide)
    have q3 : Lk w hE env (Str.ofString "shared") (.ref SH) := .loc hnE upd_eq he ksh (by decide)
    have smS : ∀ r ∈ sharedF m, ∀ c ∈ r, c < 200 := by
      rw [← keep1]
      intro r hr
      exact rows_small r (List.mem_filter.mp hr).1
    refine run_ret (s := { s with heap := hE, toks := tkE }) ok (.refl _) (Ev.andB (Ev.eqSame (n := 11) (d := dS (sharedF m)) (Ev.comp (p := fun r => !(sldF so st).1.contains r) (relY := relT) (items := rowsF m LS false) (rel := relT) (dec := decT) (Src.list (Ev.name q1) (lstE hR1C) pR1) decT_of (ar2 len1 f1) (closureFor_eq (by rw [hcells]; rfl)) (by decide) rfl (by decide) rfl (by decide) he ?_ ?_) (Ev.name q3) ?_ ?_ (can_strs smS) (dep50 _))
      (Ev.eqSame (n := 11) (d := dS (sharedF m)) (Ev.comp (p := fun r => !(sldF so st).2.contains r) (relY := relT) (items := rowsF m LS true) (rel := relT) (dec := decT) (Src.list (Ev.name q2) (lstE hR2C) pR2) decT_of (ar2 len2 f2) (closureFor_eq (by rw [hcells]; rfl)) (by decide) rfl (by decide) rfl (by decide) he ?_ ?_) (Ev.name q3) ?_ ?_ (can_strs smS) (dep50 _))) fun v hZ tkZ xZ hv => by rw [hv]; exact q hZ tkZ (eE.trans xZ)
    · rintro r v hc C hm ⟨tr, rfl⟩ ex lc
      generalize hce : compEnvC _ _ C env = ce at lc ⊢
      have hec : FnEnv ce := by rw [← hce]; exact he.comp rfl
      have lo : Lk w hc ce (Str.ofString "lost") (.ref M') := .cell (by rw [← hce]; rfl) ((cellE hc3C).keeps ex) hec (by rw [← hce]; exact relabel_cell (by rfl) he kls) (by decide)
      exact Tr.notIn (Ev.nameS lc) (Ev.name lo) (isList_ext (lstE hMC) ex) pM
    · rintro r v hc C hm _ ⟨tr, rfl⟩ ex lc
      exact (Ev.nameS lc).mono fun v _ _ _ _ p => p
    · rintro v a b _ ⟨T', vs', rfl, _, hl, hp⟩
      rw [keep1] at hp
      exact .texts hl hp
    · rintro v a b ex hv
      rw [hv]
      exact (RD.texts hSE hSp).ext ex
    · rintro r v hc C hm ⟨tr, rfl⟩ ex lc
      generalize hce : compEnvC _ _ C env = ce at lc ⊢
      have hec : FnEnv ce := by rw [← hce]; exact he.comp rfl
      have lo : Lk w hc ce (Str.ofString "new") (.ref U') := .cell (by rw [← hce]; rfl) ((cellE hc4C).keeps ex) hec (by rw [← hce]; exact relabel_cell (by rfl) he knw) (by decide)
      exact Tr.notIn (Ev.nameS lc) (Ev.name lo) (isList_ext (lstE hUC) ex) pU
    · rintro r v hc C hm _ ⟨tr, rfl⟩ ex lc
      exact (Ev.nameS lc).mono fun v _ _ _ _ p => p
    · rintro v a b _ ⟨T', vs', rfl, _, hl, hp⟩
      rw [keep2] at hp
      exact .texts hl hp
    · rintro v a b ex hv
      rw [hv]
      exact (RD.texts hSE hSp).ext ex
end Mine
end

-- FIN
section
open PySem PySem.W PyProof.Rows PySem.Calls PySem.Spec
set_option maxRecDepth 100000
set_option maxHeartbeats 8000000
theorem PySem.Challenge.cw_oc0098_01_holds : PySem.Challenge.rw_oc0098_01.Holds := by
  refine Mine.hd ?_
  k_go0
  rename_i w s₀ s₁ mg mb G Y fa o pm doc ho hg KX Xm V GL T B TE TW a13 a12 M a11 a10 hcd ns hs hlay0 hL1 hr1 hl2 a8 a7 Xa xs a4 hL ra w1 r0 hI hr hcond1 hcond K0 hD h₁ tk₁ F o4 o3 o2 o1 e4 e3 e2 e1 N0 X0
  have cell : ∀ {c : Addr} {ob : Obj} {v : Option Value}, (c, ob) ∈ _ → ob.data = .cell v → h₁.IsCell c v := fun {c ob v} hm hd => ⟨ob, N0.get hm, hd⟩
  refine Mine.law_run (w := w) (hb := s₁.heap) (by rfl) rfl rfl rfl ⟨rfl, rfl, rfl⟩ rfl rfl rfl ⟨KX, T.nolimit, mg, mb, T.g, T.b, T.builtins⟩ F.keep ?_ (Mine.next_none _) F.ns rfl (Mine.isList_ext hL F.keep) hI ?_ rfl (cell (by simp) e1) (cell (by simp) e2) (cell (by simp) e3) (cell (by simp) e4) ?_ ?_ ?_
  · exact ⟨rfl, (by decide : callerA.depth + 1 + 12 < recursionLimit), (by decide : callerA.units + 3 + 100 * 12 < cLine)⟩
  · exact Int.ofNat_le.mp (Int.not_lt.mp hcond1)
  · exact fun c hc => Mine.size_none (Mine.adr_le _ c hc)
  · exact Mine.adr_nd _
  · intro h' tk hx
    refine ⟨.inl ⟨.bool true, .bool true, [], rfl, ?_, ?_, ?_, ?_⟩, hx, rfl, hg⟩
    · intro _; rfl
    · exact .bool _
    · show (WShape.has [] (.bool true) .bool && WTm.holds [] (.eq .res (.lit (.bool true))) { args := [ofPy (PyData.list (List.map PyData.int ns))], res := some (.bool true), after := [ofPy (PyData.list (List.map PyData.int ns))] }) = true
      rw [Bool.and_eq_true]
      refine ⟨by decide +kernel, ?_⟩
      have e : WTm.value [] (.eq .res (.lit (.bool true))) { args := [ofPy (PyData.list (List.map PyData.int ns))], res := some (.bool true), after := [ofPy (PyData.list (List.map PyData.int ns))] } = some (.bool true) := by
        simp only [WTm.value]
        rw [show W.same (WData.bool true) (WData.bool true) = true by decide +kernel]
      unfold WTm.holds
      rw [e]
    · intro _; exact ⟨List.nodup_nil, by simp⟩
end
