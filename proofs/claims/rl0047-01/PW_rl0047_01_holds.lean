import PyProof.Rows.All
import Wide.All
import OpenK.AllK
import Wide.FinOn
import PySem.Challenge.RW_rl0047_01
open PySem PySem.W PyProof.Rows
set_option Elab.async false
set_option maxRecDepth 100000
set_option linter.unusedVariables false

namespace Mine

/-! ### the text's parts, by projection -/
def topSt (i : Nat) : Stmt := PySem.Challenge.pw_rl0047_01.main.body.getD i (.Pass default)
def fBody : Stmt → List Stmt
  | .FunctionDef _ _ body _ _ _ _ _ _ _ => body
  | _ => []
def fScope : Stmt → Scope
  | .FunctionDef _ _ _ _ _ _ sc _ _ _ => sc
  | _ => default
def fArgs : Stmt → Arguments
  | .FunctionDef _ args _ _ _ _ _ _ _ _ => args
  | _ => default

/-! ### keeps -/
theorem kRefl (s : Shared) : Keeps s s := ⟨s.heap, s.toks, rfl, fun _ _ e => e⟩
theorem kTrans {a b c : Shared} (x : Keeps a b) (y : Keeps b c) : Keeps a c := by
  obtain ⟨h, tk, rfl, hk⟩ := x
  obtain ⟨h', tk', rfl, hk'⟩ := y
  exact ⟨h', tk', rfl, fun p o e => hk' p o (hk p o e)⟩
theorem kTok (s : Shared) (t : Nat) : Keeps s { s with toks := t } := ⟨s.heap, t, rfl, fun _ _ e => e⟩
theorem kHeap {s : Shared} {h : Heap} {t : Nat} (hk : ∀ b o, s.heap.get? b = some o → h.get? b = some o) : Keeps s { s with heap := h, toks := t } := ⟨h, t, rfl, hk⟩
theorem kKeep {s s' : Shared} (k : Keeps s s') : ∀ b o, s.heap.get? b = some o → s'.heap.get? b = some o := by
  obtain ⟨h, tk, rfl, hk⟩ := k
  exact hk
theorem kPush (s : Shared) (o : Obj) (t : Nat) : Keeps s { s with heap := s.heap.push o, toks := t } := kHeap fun _ _ e => Heap.get?_push_of_some _ e

/-! ### variables -/
inductive Var (env : Env) (h : Heap) (x : Str) (v : Value) : Prop
  | loc (hk : env.kindOf x = some .local) (m : Str → Option Value) (hn : h.Ns env.locals m) (hv : m x = some v) : Var env h x v
  | cel (hk : env.kindOf x = some .cell) (c : Addr) (hc : env.cells.lookup x = some c) (hv : h.IsCell c (some v)) : Var env h x v
theorem Var.keeps {env : Env} {h h' : Heap} {x : Str} {v : Value} (V : Var env h x v) (k : ∀ b o, h.get? b = some o → h'.get? b = some o) : Var env h' x v := by
  cases V with
  | loc hk m hn hv => exact .loc hk m (hn.keeps k) hv
  | cel hk c hc hv => exact .cel hk c hc (hv.keeps k)
structure Vars (env : Env) (h : Heap) (l : List (Str × Value)) : Prop where
  kind : env.scope.kind = .function
  get : ∀ x v, l.lookup x = some v → Var env h x v
theorem Vars.keeps {env : Env} {h h' : Heap} {l : List (Str × Value)} (V : Vars env h l) (k : ∀ b o, h.get? b = some o → h'.get? b = some o) : Vars env h' l := ⟨V.kind, fun x v e => (V.get x v e).keeps k⟩

/-- the search for a name's value in a list of names; the equation is the kernel's -/
inductive Lk (x : Str) (v : Value) : List (Str × Value) → Prop
  | here {l : List (Str × Value)} : Lk x v ((x, v) :: l)
  | there {l : List (Str × Value)} {p : Str × Value} : Lk x v l → Lk x v (p :: l)
theorem Lk.same {x : Str} {v v' : Value} {l : List (Str × Value)} (h : v = v') : Lk x v ((x, v') :: l) := h ▸ .here
theorem lk_eq {x : Str} {v : Value} {l : List (Str × Value)} (_ : Lk x v l) (h : l.lookup x = some v) : l.lookup x = some v := h

/-! ### globals, functions -/
abbrev fdOf (nm qn : Str) (st : Stmt) (doc pm : Value) (an : Option Addr) (cd ct : Value) : FuncData :=
  ⟨nm, qn, fArgs st, .stmts (fBody st), fScope st, mainGlobals, [], .none, .none, doc, pm, an, cd, ct, builtinsNs⟩
structure FnAt (h : Heap) (a : Addr) (st : Stmt) : Prop where
  ex : ∃ o nm qn doc pm an cd ct, h.get? a = some o ∧ o.data = .func (fdOf nm qn st doc pm an cd ct) ∧ h.CodeRec cd qn
theorem FnAt.keeps {h h' : Heap} {a : Addr} {st : Stmt} (F : FnAt h a st) (k : ∀ b o, h.get? b = some o → h'.get? b = some o) : FnAt h' a st := by
  obtain ⟨o, nm, qn, doc, pm, an, cd, ct, ho, hd, hc⟩ := F.ex
  exact ⟨o, nm, qn, doc, pm, an, cd, ct, k _ _ ho, hd, hc.keeps k⟩

abbrev glob : List (Str × Value) := [
  ("sum", .builtin "sum"), ("len", .builtin "len"), ("range", .type "range"), ("zip", .type "zip"), ("chr", .builtin "chr"), ("list", .type "list"), ("min", .builtin "min"), ("hex", .builtin "hex"),
  ("isinstance", .builtin "isinstance"), ("bool", .type "bool"),
  ("_law_word", .ref 48), ("_law_signs", .ref 53), ("_levenshtein_distance", .ref 28), ("_substitution_cost", .ref 21), ("pretty_flags", .ref 36), ("_ellipsis_match", .ref 43),
  ("COMPILER_FLAG_NAMES", .ref 29), ("ELLIPSIS_MARKER", .str "..." 268), ("_MOVE_COST", .int 2 191), ("_CASE_COST", .int 1 193), ("_MAX_STRING_SIZE", .int 40 189)]

def flagEs : Array DictEntry := #[⟨1, .int 1 225, .str "OPTIMIZED" 226⟩, ⟨2, .int 2 227, .str "NEWLOCALS" 228⟩, ⟨4, .int 4 229, .str "VARARGS" 230⟩, ⟨8, .int 8 231, .str "VARKEYWORDS" 232⟩, ⟨16, .int 16 233, .str "NESTED" 234⟩,
  ⟨32, .int 32 235, .str "GENERATOR" 236⟩, ⟨64, .int 64 237, .str "NOFREE" 238⟩, ⟨128, .int 128 239, .str "COROUTINE" 240⟩, ⟨256, .int 256 241, .str "ITERABLE_COROUTINE" 242⟩, ⟨512, .int 512 243, .str "ASYNC_GENERATOR" 244⟩]

structure Base (h : Heap) : Prop where
  ns : ∃ mg mb, h.Ns mainGlobals mg ∧ h.Ns builtinsNs mb ∧ ∀ x v, glob.lookup x = some v → mg x = some v ∨ (mg x = none ∧ mb x = some v)
  lim : h.NoLimit
  fSub : FnAt h 21 (topSt 4)
  fLev : FnAt h 28 (topSt 5)
  fFlags : FnAt h 36 (topSt 8)
  fEll : FnAt h 43 (topSt 11)
  fWord : FnAt h 48 (topSt 13)
  fSigns : FnAt h 53 (topSt 14)
  tab : h.get? 29 = some { cls := .type "dict", data := .dict flagEs 10 }
theorem Base.keeps {h h' : Heap} (B : Base h) (k : ∀ b o, h.get? b = some o → h'.get? b = some o) : Base h' := by
  obtain ⟨mg, mb, g, b, e⟩ := B.ns
  exact ⟨⟨mg, mb, g.keeps k, b.keeps k, e⟩, B.lim.keeps k, B.fSub.keeps k, B.fLev.keeps k, B.fFlags.keeps k, B.fEll.keeps k, B.fWord.keeps k, B.fSigns.keeps k, k _ _ B.tab⟩

/-! ### lists and tuples -/
/-- "list", "tuple", or "plain": a list without a dict of its own -/
def tagCls (t : String) : String := if t = "plain" then "list" else t
def Pts (os : List (Addr × String × List Value)) (h : Heap) : Prop := ∀ p ∈ os, ∃ o n, h.get? p.1 = some o ∧ o.cls = .type (tagCls p.2.1) ∧ o.data = .seq p.2.2.toArray n ∧ (p.2.1 = "plain" → o.dict = none ∧ o.slots = #[])
theorem Pts.keeps {os : List (Addr × String × List Value)} {h h' : Heap} (P : Pts os h) (k : ∀ b o, h.get? b = some o → h'.get? b = some o) : Pts os h' := fun p hp => by
  obtain ⟨o, n, ho, r⟩ := P p hp
  exact ⟨o, n, k _ _ ho, r⟩

structure Cx (s₁ : Shared) (env : Env) (l : List (Str × Value)) (os : List (Addr × String × List Value)) (s : Shared) : Prop where
  k : Keeps s₁ s
  vars : Vars env s.heap l
  base : Base s.heap
  pts : Pts os s.heap
section
variable {s₁ s s' : Shared} {env : Env} {l : List (Str × Value)} {os : List (Addr × String × List Value)}
theorem Cx.step (C : Cx s₁ env l os s) (k : Keeps s s') : Cx s₁ env l os s' := ⟨kTrans C.k k, C.vars.keeps (kKeep k), C.base.keeps (kKeep k), C.pts.keeps (kKeep k)⟩
theorem Cx.anew (C : Cx s₁ env l os s) : Cx s env l os s := ⟨kRefl s, C.vars, C.base, C.pts⟩
theorem Cx.list (C : Cx s₁ env l os s) {a : Addr} {items : List Value} (h : (a, "list", items) ∈ os) : s.heap.IsList a items.toArray := by
  obtain ⟨o, n, ho, hc, hd, _⟩ := C.pts _ h
  exact ⟨o, ho, hc, n, hd⟩
theorem Cx.plain (C : Cx s₁ env l os s) {a : Addr} {items : List Value} (h : (a, "plain", items) ∈ os) : s.heap.PlainList a items.toArray := by
  obtain ⟨⟨c, d, dt, sl⟩, n, ho, hc, hd, hp⟩ := C.pts _ h
  have hc' : c = Value.type "list" := hc
  have hd' : dt = Data.seq items.toArray n := hd
  have h1 : d = none := (hp rfl).1
  have h2 : sl = #[] := (hp rfl).2
  subst hc' hd' h1 h2
  exact ⟨n, ho⟩
theorem Cx.tup (C : Cx s₁ env l os s) {a : Addr} {items : List Value} (h : (a, "tuple", items) ∈ os) : s.heap.IsTuple a items.toArray := by
  obtain ⟨o, n, ho, hc, hd, _⟩ := C.pts _ h
  exact ⟨o, ho, hc, n, hd⟩
theorem Cx.more (C : Cx s₁ env l os s) {a : Addr} {c : String} {items : List Value} {o : Obj} {n : Nat} (ho : s.heap.get? a = some o) (hc : o.cls = .type (tagCls c)) (hd : o.data = .seq items.toArray n) (hp : c = "plain" → o.dict = none ∧ o.slots = #[]) : Cx s₁ env l ((a, c, items) :: os) s :=
  ⟨C.k, C.vars, C.base, fun p hp' => by
    rcases List.mem_cons.mp hp' with rfl | hp'
    · exact ⟨o, n, ho, hc, hd, hp⟩
    · exact C.pts p hp'⟩
end

/-! ### the rules: names, constants, operators -/
abbrev NoE : Value → Shared → Prop := fun _ _ => False
section
variable {prog : Program} {w : World} {A : Around} {s₁ s : Shared} {env : Env} {l : List (Str × Value)} {os : List (Addr × String × List Value)} {Q : Value → Shared → Prop} {E : Value → Shared → Prop}

theorem load_var {x : Str} {v : Value} (V : Vars env s.heap l) (hx : l.lookup x = some v) (h : Q v s) : wpAny (model prog w) A (loadName env x) Q E s := by
  cases V.get x v hx with
  | loc hk m hn hv => exact wpAny_loadName_local V.kind hk hn hv h
  | cel hk c hc hv => exact wpAny_loadName_cell V.kind hk hc hv h
theorem e_name {x : Str} {p : Pos} {v : Value} (C : Cx s₁ env l os s) (hx : l.lookup x = some v) (h : Q v s) (hd : (x == ("__debug__" : Str)) = false) :
    wpAny (model prog w) A (eval (.Name x p) env) Q E s := wpAny_Name (load_var C.vars hx h) hd
theorem e_glob {x : Str} {p : Pos} {v : Value} (C : Cx s₁ env l os s) (hx : glob.lookup x = some v) (hk : env.kindOf x = some .globalImplicit) (hg : env.globals = mainGlobals) (hb : env.builtins = builtinsNs)
    (h : Q v s) (hd : (x == ("__debug__" : Str)) = false) : wpAny (model prog w) A (eval (.Name x p) env) Q E s := by
  obtain ⟨mg, mb, g, b, e⟩ := C.base.ns
  rcases e x v hx with h1 | ⟨h1, h2⟩
  · exact Calls.Name_function_global C.vars.kind hk (Calls.loadGlobal_global (hg ▸ g) h1 h) hd
  · exact Calls.Name_function_global C.vars.kind hk (Calls.loadGlobal_builtin (hg ▸ g) h1 (hb ▸ b) h2 h) hd
theorem e_int {i : Int} {k : Nat} {p : Pos} (h : ∀ t s', Keeps s s' → Q (.int i t) s') : wpAny (model prog w) A (eval (.Constant (.int i) k p) env) Q E s := wpAny_Constant_int (h _ _ (kTok ..))
theorem e_str {x : Str} {k : Nat} {p : Pos} (h : ∀ t s', Keeps s s' → Q (.str x t) s') : wpAny (model prog w) A (eval (.Constant (.str x) k p) env) Q E s := wpAny_Constant_str (h _ _ (kTok ..))
theorem o_add {a b : Int} {t u : Tok} (h : ∀ t s', Keeps s s' → Q (.int (a + b) t) s') : wpAny (model prog w) A (binaryOp .Add (.int a t) (.int b u)) Q E s := wpAny_add_int (h _ _ (kTok ..))
theorem o_sub {a b : Int} {t u : Tok} (h : ∀ t s', Keeps s s' → Q (.int (a - b) t) s') : wpAny (model prog w) A (binaryOp .Sub (.int a t) (.int b u)) Q E s := PyProof.Rows.sub_int (h _ _ (kTok ..))
theorem o_mul {a b : Int} {t u : Tok} (hm : IntMulOk a b) (h : ∀ t s', Keeps s s' → Q (.int (a * b) t) s') : wpAny (model prog w) A (binaryOp .Mult (.int a t) (.int b u)) Q E s := PyProof.Rows.mul_int (h _ _ (kTok ..)) hm
theorem o_mod {a b : Int} {t u : Tok} (hb : b ≠ 0) (h : ∀ t s', Keeps s s' → Q (.int (a.fmod b) t) s') : wpAny (model prog w) A (binaryOp .Mod (.int a t) (.int b u)) Q E s := PyProof.Rows.mod_int' hb (h _ _ (kTok ..))
theorem o_div {a b : Int} {t u : Tok} (hb : b ≠ 0) (hb2 : b.natAbs < 1073741824) (h : ∀ t s', Keeps s s' → Q (.int (a.fdiv b) t) s') : wpAny (model prog w) A (binaryOp .FloorDiv (.int a t) (.int b u)) Q E s := PyProof.Rows.floordiv_int hb (h _ _ (kTok ..)) (.inl (PyProof.noPylong_small hb2))
theorem o_and {a b : Int} {t u : Tok} (h : ∀ t s', Keeps s s' → Q (.int (Builtin.bitAnd a b) t) s') : wpAny (model prog w) A (binaryOp .BitAnd (.int a t) (.int b u)) Q E s := PyProof.Rows.and_int (h _ _ (kTok ..))
theorem o_shr {a n : Int} {t u : Tok} (hn : 0 ≤ n) (h : ∀ t s', Keeps s s' → Q (.int (a.fdiv (2 ^ n.toNat)) t) s') : wpAny (model prog w) A (binaryOp .RShift (.int a t) (.int n u)) Q E s := PyProof.Rows.rshift_int hn (h _ _ (kTok ..))
theorem o_shl {a n : Int} {t u : Tok} (hn : 0 ≤ n) (hn2 : n ≤ 1000000) (ha : a.natAbs < 2 ^ 64) (h : ∀ t s', Keeps s s' → Q (.int (a * 2 ^ n.toNat) t) s') : wpAny (model prog w) A (binaryOp .LShift (.int a t) (.int n u)) Q E s :=
  PyProof.Rows.lshift_int_small hn hn2 ha (h _ _ (kTok ..))
theorem o_pow {a n : Int} {t u : Tok} (hn : 0 ≤ n) (hn2 : n ≤ 1000000) (ha : a.natAbs < 2 ^ 64) (h : ∀ t s', Keeps s s' → Q (.int (a ^ n.toNat) t) s') : wpAny (model prog w) A (binaryOp .Pow (.int a t) (.int n u)) Q E s :=
  PyProof.Rows.pow_int_small hn hn2 ha (h _ _ (kTok ..))
theorem o_neg {a : Int} {t : Tok} (h : ∀ t s', Keeps s s' → Q (.int (-a) t) s') : wpAny (model prog w) A (unaryOp .USub (.int a t)) Q E s := PyProof.Rows.neg_int (h _ _ (kTok ..))
theorem o_iadd {a b : Int} {t u : Tok} (h : ∀ t s', Keeps s s' → Q (.int (a + b) t) s') : wpAny (model prog w) A (inplaceOp .Add (.int a t) (.int b u)) Q E s := wpAny_iadd_int (h _ _ (kTok ..))
theorem o_isub {a b : Int} {t u : Tok} (h : ∀ t s', Keeps s s' → Q (.int (a - b) t) s') : wpAny (model prog w) A (inplaceOp .Sub (.int a t) (.int b u)) Q E s := PyProof.Rows.isub_int (h _ _ (kTok ..))
theorem o_ixor {a b : Int} {t u : Tok} (h : ∀ t s', Keeps s s' → Q (.int (Builtin.bitXor a b) t) s') : wpAny (model prog w) A (inplaceOp .BitXor (.int a t) (.int b u)) Q E s := PyProof.Rows.ixor_int (h _ _ (kTok ..))
theorem o_strEq {x y : Str} {t u : Tok} (h : Q (.bool (x == y)) s) : wpAny (model prog w) A (compareOp .Eq (.str x t) (.str y u)) Q E s := PyProof.Rows.eq_str h
theorem t_int {i : Int} {t : Tok} {Q : Bool → Shared → Prop} (h : Q (i != 0) s) : wpAny (model prog w) A (truthy (.int i t)) Q E s := PyProof.Rows.truthy_int h
theorem t_str {x : Str} {t : Tok} {Q : Bool → Shared → Prop} (hz : x.length ≤ sizeLine) (h : ∀ s', Keeps s s' → Q ((x.length : Int) != 0) s') : wpAny (model prog w) A (truthy (.str x t)) Q E s :=
  P.truthy_str (by rw [sizeLine_eq] at hz; omega) (h _ (kTok ..))
end
end Mine

namespace Mine

def Bd (env : Env) (m cm : Str → Option Value) (l : List (Str × Value)) : Prop :=
  ∀ x v, l.lookup x = some v → (env.kindOf x = some .local ∧ m x = some v) ∨ (env.kindOf x = some .cell ∧ (∃ c, env.cells.lookup x = some c) ∧ cm x = some v)
def KindOk (env : Env) (x : Str) : Prop := env.kindOf x = some .local ∨ (env.kindOf x = some .cell ∧ (env.cells.lookup x).isSome = true)

theorem lookup_cons' {x y : Str} {v : Value} {l : List (Str × Value)} : ((x, v) :: l).lookup y = if y = x then some v else l.lookup y := by
  rw [List.lookup_cons]
  by_cases h : y = x
  · subst h; simp
  · have : (y == x) = false := beq_eq_false_iff_ne.mpr h
    simp [this, h]
theorem Bd.setL {env : Env} {m cm : Str → Option Value} {l : List (Str × Value)} {x : Str} {v : Value} (B : Bd env m cm l) (hk : env.kindOf x = some .local) : Bd env (fun y => if y = x then some v else m y) cm ((x, v) :: l) := by
  intro y u e
  rw [lookup_cons'] at e
  by_cases h : y = x
  · subst h; rw [if_pos rfl] at e; exact .inl ⟨hk, by simp [e]⟩
  · rw [if_neg h] at e
    rcases B y u e with ⟨a, b⟩ | b
    · exact .inl ⟨a, by simp [h, b]⟩
    · exact .inr b
theorem Bd.setC {env : Env} {m cm : Str → Option Value} {l : List (Str × Value)} {x : Str} {v : Value} (B : Bd env m cm l) (hk : env.kindOf x = some .cell) (hc : (env.cells.lookup x).isSome = true) : Bd env m (fun y => if y = x then some v else cm y) ((x, v) :: l) := by
  intro y u e
  rw [lookup_cons'] at e
  by_cases h : y = x
  · subst h; rw [if_pos rfl] at e; exact .inr ⟨hk, Option.isSome_iff_exists.mp hc, by simp [e]⟩
  · rw [if_neg h] at e
    rcases B y u e with b | ⟨a, c, b⟩
    · exact .inl b
    · exact .inr ⟨a, c, by simp [h, b]⟩
theorem Bd.binds {env : Env} : ∀ (binds : List (Str × Value)) (m cm : Str → Option Value) (l : List (Str × Value)), Bd env m cm l → (∀ x ∈ binds, KindOk env x.1) →
    Bd env (bindL env.kindOf binds m) (bindC env.kindOf binds cm) (binds.reverse ++ l)
  | [], _, _, _, B, _ => B
  | (n, v) :: r, m, cm, l, B, hk => by
    rw [List.reverse_cons, List.append_assoc]
    have hr : ∀ x ∈ r, KindOk env x.1 := fun x hx => hk x (List.mem_cons_of_mem _ hx)
    unfold bindL bindC
    rcases hk (n, v) List.mem_cons_self with h | ⟨h, hc⟩
    · rw [if_pos h, if_pos h]
      exact Bd.binds r _ _ _ (B.setL h) hr
    · have hn : ¬ env.kindOf n = some .local := by rw [h]; decide
      rw [if_neg hn, if_neg hn]
      exact Bd.binds r _ _ _ (B.setC h hc) hr

def Solid (o : Obj) : Prop := (∀ es n, o.data ≠ .dict es n) ∧ (∀ v, o.data ≠ .cell v) ∧ o.cls ≠ .type "list"
def KF (h h' : Heap) : Prop := ∀ b o, Solid o → h.get? b = some o → h'.get? b = some o
def KL (h h' : Heap) : Prop := ∀ b o, (∀ es n, o.data ≠ .dict es n) → (∀ v, o.data ≠ .cell v) → h.get? b = some o → h'.get? b = some o
theorem KL.kf {h h' : Heap} (x : KL h h') : KF h h' := fun b o so e => x b o so.1 so.2.1 e

structure FS (s₀ s₁ : Shared) (env : Env) (l : List (Str × Value)) (os : List (Addr × String × List Value)) (s : Shared) : Prop where
  ic : ∃ m cm, InCallC s₀ env.locals m env.cells cm s ∧ Bd env m cm l
  kind : env.scope.kind = .function
  base : Base s₀.heap
  pts : Pts os s.heap
  nd : (os.map (·.1)).Nodup
  kf : KF s₁.heap s.heap

section
variable {s₀ s₁ s s' : Shared} {env : Env} {l : List (Str × Value)} {os : List (Addr × String × List Value)}
theorem FS.keep (F : FS s₀ s₁ env l os s) : Keeps s₀ s := by
  obtain ⟨m, cm, x, _⟩ := F.ic
  obtain ⟨h, tk, rfl⟩ := x.toInCall.same
  exact ⟨h, tk, rfl, x.toInCall.keep⟩
theorem FS.cx (F : FS s₀ s₁ env l os s) : Cx s env l os s := by
  obtain ⟨m, cm, x, B⟩ := F.ic
  refine ⟨kRefl s, ⟨F.kind, fun y v e => ?_⟩, F.base.keeps x.toInCall.keep, F.pts⟩
  rcases B y v e with ⟨hk, hm⟩ | ⟨hk, ⟨c, hc⟩, hm⟩
  · exact .loc hk m x.toInCall.ns hm
  · exact .cel hk c hc (hm ▸ x.cell y c hc)
theorem FS.grow (F : FS s₀ s₁ env l os s) (k : Keeps s s') : FS s₀ s₁ env l os s' := by
  obtain ⟨m, cm, x, B⟩ := F.ic
  obtain ⟨h, tk, rfl, hk⟩ := k
  exact ⟨⟨m, cm, x.kept hk, B⟩, F.kind, F.base, F.pts.keeps hk, F.nd, fun b o so e => hk b o (F.kf b o so e)⟩
theorem FS.weaken {l' : List (Str × Value)} (F : FS s₀ s₁ env l os s) (h : ∀ x v, l'.lookup x = some v → l.lookup x = some v) : FS s₀ s₁ env l' os s := by
  obtain ⟨m, cm, x, B⟩ := F.ic
  exact ⟨⟨m, cm, x, fun y v e => B y v (h y v e)⟩, F.kind, F.base, F.pts, F.nd, F.kf⟩
theorem FS.anew (F : FS s₀ s₁ env l os s) : FS s₀ s env l os s := ⟨F.ic, F.kind, F.base, F.pts, F.nd, fun _ _ _ e => e⟩
theorem FS.back {s₂ : Shared} (F : FS s₀ s₁ env l os s) (k : KF s₂.heap s₁.heap) : FS s₀ s₂ env l os s := ⟨F.ic, F.kind, F.base, F.pts, F.nd, fun b o so e => F.kf b o so (k b o so e)⟩
theorem FS.sub {os' : List (Addr × String × List Value)} (F : FS s₀ s₁ env l os s) (h : os'.Sublist os) : FS s₀ s₁ env l os' s :=
  ⟨F.ic, F.kind, F.base, fun p hp => F.pts p (h.subset hp), F.nd.sublist (h.map _), F.kf⟩
theorem lk_nil {l : List (Str × Value)} : ∀ x v, ([] : List (Str × Value)).lookup x = some v → l.lookup x = some v := fun _ _ e => by cases e
theorem lk_cons {l l' : List (Str × Value)} {x : Str} {v : Value} (h : l.lookup x = some v) (r : ∀ x v, l'.lookup x = some v → l.lookup x = some v) : ∀ y u, ((x, v) :: l').lookup y = some u → l.lookup y = some u := fun y u e => by
  rw [lookup_cons'] at e
  by_cases hy : y = x
  · subst hy; rw [if_pos rfl] at e; cases e; exact h
  · rw [if_neg hy] at e; exact r y u e
end

section
variable {prog : Program} {w : World} {A : Around} {s₀ s₁ s s' : Shared} {env : Env} {l : List (Str × Value)} {os : List (Addr × String × List Value)} {E : Value → Shared → Prop}
theorem KL.sameBut_ns {h h' : Heap} {a : Addr} {m : Str → Option Value} (hn : h.Ns a m) (hs : Heap.SameBut a h h') : KL h h' := fun b o hd _ e => by
  refine (hs.2 b fun q => ?_).trans e
  subst q
  obtain ⟨o', es, n, ho, hd', _⟩ := hn
  rw [e] at ho; cases ho
  exact hd _ _ hd'
theorem KL.sameBut_cell {h h' : Heap} {a : Addr} {v : Option Value} (hn : h.IsCell a v) (hs : Heap.SameBut a h h') : KL h h' := fun b o _ hd e => by
  refine (hs.2 b fun q => ?_).trans e
  subst q
  obtain ⟨o', ho, hd'⟩ := hn
  rw [e] at ho; cases ho
  exact hd _ hd'
theorem Pts.kl {h h' : Heap} (P : Pts os h) (k : KL h h') : Pts os h' := fun p hp => by
  obtain ⟨o, n, ho, hc, hd, hp⟩ := P p hp
  exact ⟨o, n, k _ _ (fun es m e => by rw [hd] at e; cases e) (fun v e => by rw [hd] at e; cases e) ho, hc, hd, hp⟩
theorem storeF {x : Str} {v : Value} {Q : Unit → Shared → Prop} (F : FS s₀ s₁ env l os s) (hk : KindOk env x) (h : ∀ s', FS s₀ s₁ env ((x, v) :: l) os s' → KL s.heap s'.heap → Q () s') :
    wpAny (model prog w) A (storeName env x v) Q E s := by
  obtain ⟨m, cm, X, B⟩ := F.ic
  rcases hk with hk | ⟨hk, hc⟩
  · refine wpAny_storeName_local hk X.toInCall.ns (fun h' hn' hs' => ?_) (by rw [F.kind]; rfl)
    have kl := KL.sameBut_ns X.toInCall.ns hs'
    refine h _ ⟨⟨_, cm, ⟨⟨?_, hn', fun b o e => ?_, X.toInCall.fresh⟩, fun k c hc => ?_, X.apart, X.above⟩, B.setL hk⟩, F.kind, F.base, F.pts.kl kl, F.nd, fun b o so e => kl.kf b o so (F.kf b o so e)⟩ kl
    · obtain ⟨h₁, tk, rfl⟩ := X.toInCall.same
      exact ⟨h', _, rfl⟩
    · exact hs'.extBut b o (Nat.ne_of_lt (Nat.lt_of_lt_of_le (Heap.lt_size e) X.toInCall.fresh)) (X.toInCall.keep b o e)
    · exact (X.cell k c hc).sameBut hs' (Nat.ne_of_gt (X.above k c (mem_of_lookup hc)))
  · obtain ⟨c, hc'⟩ := Option.isSome_iff_exists.mp hc
    have hLc := X.above x c (mem_of_lookup hc')
    refine wpAny_storeName_cell F.kind hk hc' (X.cell x c hc') fun h' hcl hs' => ?_
    have kl := KL.sameBut_cell (X.cell x c hc') hs'
    refine h _ ⟨⟨m, _, ⟨⟨?_, X.toInCall.ns.sameBut hs' (Nat.ne_of_lt hLc), fun b o e => ?_, X.toInCall.fresh⟩, fun k c' hk' => ?_, X.apart, X.above⟩, B.setC hk hc⟩, F.kind, F.base, F.pts.kl kl, F.nd, fun b o so e => kl.kf b o so (F.kf b o so e)⟩ kl
    · obtain ⟨h₁, tk, rfl⟩ := X.toInCall.same
      exact ⟨h', _, rfl⟩
    · exact hs'.extBut b o (Nat.ne_of_lt (Nat.lt_trans (Nat.lt_of_lt_of_le (Heap.lt_size e) X.toInCall.fresh) hLc)) (X.toInCall.keep b o e)
    · by_cases hkn : k = x
      · subst hkn
        rw [hc'] at hk'; cases hk'
        simpa using hcl
      · rw [if_neg hkn]
        exact (X.cell k c' hk').sameBut hs' fun e => hkn (name_of_addr X.apart (mem_of_lookup hk') (e ▸ mem_of_lookup hc'))

/-! ### a call of one of the text's functions -/
def fenv (st : Stmt) (q : Str) (cd : Value) (L a : Addr) : Env := newEnv (fScope st) L mainGlobals (cellsFrom (L + 1) (fScope st).names []) q (some a) cd none builtinsNs

theorem call_fn {st : Stmt} {a : Addr} {vals : List Value} {binds : List (Str × Value)} {Q : Value → Shared → Prop} (B : Base s.heap) (F : FnAt s.heap a st) (hA : A.depth < recursionLimit)
    (hbind : ∀ nm qn doc pm an cd ct, bindArgs (fdOf nm qn st doc pm an cd ct) ⟨vals, []⟩ = pure binds)
    (hkind : ∀ n, ∀ x ∈ binds, (fScope st).names.lookup x.1 = some .local ∨ ((fScope st).names.lookup x.1 = some .cell ∧ ((cellsFrom n (fScope st).names []).lookup x.1).isSome = true))
    (hco : (fScope st).isCoroutine = false) (hgen : (fScope st).isGenerator = false) (hk : (fScope st).kind = .function)
    (h : ∀ q cd L s', FS s s' (fenv st q cd L a) binds.reverse [] s' →
      wpAny (model prog w) (A.deeper (fenv st q cd L a)) (execs (fBody st) (fenv st q cd L a)) (fun f s'' => Q (match f with | .ret v => v | _ => .none) s'') NoE s') :
    wpAny (model prog w) A (call (.ref a) vals) Q E s := by
  obtain ⟨o, nm, qn, doc, pm, an, cd, ct, ho, hd, hc⟩ := F.ex
  refine wpAny_call (codeAny_call_cells (fd := fdOf nm qn st doc pm an cd ct) hA ho hd B.lim hc rfl (hbind ..) rfl (hkind _) (fun s₁ X => ?_) hco hgen hk)
  refine wpAny_mono (h _ cd s.heap.objs.size s₁ ⟨⟨_, _, X, ?_⟩, hk, B, (fun _ hp => by cases hp), List.nodup_nil, fun _ _ _ e => e⟩) (fun f s' q => q) fun _ _ x => x.elim
  have := Bd.binds (env := fenv st (qn ++ ".<locals>.") cd s.heap.objs.size a) binds (fun _ => none) (fun _ => none) [] (fun _ _ e => by cases e) (hkind _)
  rw [List.append_nil] at this
  exact this
end
end Mine

namespace Mine
theorem fm_nil {P : Str × Value → Prop} : ∀ x ∈ ([] : List (Str × Value)), P x := fun _ h => by cases h
theorem fm_cons {P : Str × Value → Prop} {a : Str × Value} {l : List (Str × Value)} (h : P a) (r : ∀ x ∈ l, P x) : ∀ x ∈ a :: l, P x := fun x hx => by
  rcases List.mem_cons.mp hx with rfl | hx
  · exact h
  · exact r x hx
theorem Cx.rebase {a b s : Shared} {env : Env} {l : List (Str × Value)} {os : List (Addr × String × List Value)} (C : Cx b env l os s) (k : Keeps a b) : Cx a env l os s := ⟨kTrans k C.k, C.vars, C.base, C.pts⟩
/-- two ways, by a truth value -/
def Two (b : Bool) (P R : Prop) : Prop := (b = true → P) ∧ (b = false → R)
theorem Two.ite {b : Bool} {P R : Prop} (h : Two b P R) : if b then P else R := by cases b with | true => exact h.1 rfl | false => exact h.2 rfl

section
variable {prog : Program} {w : World} {A : Around} {s₀ s₁ s s' : Shared} {env : Env} {l : List (Str × Value)} {os : List (Addr × String × List Value)} {E : Value → Shared → Prop}

/-! ### statements -/
theorem x_if {test : Expr} {body orelse : List Stmt} {p : Pos} {Q : Flow → Shared → Prop} (h : wpAny (model prog w) A (isTrue test env (eval test env)) (fun b s₂ => Two b (wpAny (model prog w) A (execs body env) Q E s₂) (wpAny (model prog w) A (execs orelse env) Q E s₂)) E s) :
    wpAny (model prog w) A (exec (.If test body orelse p) env) Q E s := wpAny_If (wpAny_mono h (fun b s₂ h => h.ite) fun _ _ e => e)
theorem x_assign {x : Str} {p p' : Pos} {e : Expr} {Q : Flow → Shared → Prop} (F : FS s₀ s₁ env l os s) (hk : KindOk env x)
    (h : wpAny (model prog w) A (eval e env) (fun v s' => Keeps s s' ∧ ∀ s'', FS s₀ s₁ env ((x, v) :: l) os s'' → KL s'.heap s''.heap → Q .next s'') E s)
    (hs : swapsWith e (some (.Name x p)) p'.line env = pure false) : wpAny (model prog w) A (exec (.Assign [.Name x p] e p') env) Q E s :=
  wpAny_Assign_Name (wpAny_mono h (fun v s' h => storeF (F.grow h.1) hk fun s'' F' kl => h.2 s'' F' kl) fun _ _ e => e) hs
theorem x_aug {x : Str} {p p' : Pos} {op : Operator} {e : Expr} {v₀ : Value} {Q : Flow → Shared → Prop} (F : FS s₀ s₁ env l os s) (hx : l.lookup x = some v₀) (hk : KindOk env x)
    (h : wpAny (model prog w) A (eval e env) (fun v s' => wpAny (model prog w) A (inplaceOp op v₀ v) (fun r s' => Keeps s s' ∧ ∀ s'', FS s₀ s₁ env ((x, r) :: l) os s'' → KL s'.heap s''.heap → Q .next s'') E s') E s) :
    wpAny (model prog w) A (exec (.AugAssign (.Name x p) op e p') env) Q E s :=
  wpAny_AugAssign_Name (load_var F.cx.vars hx (wpAny_mono h (fun v s' h => wpAny_mono h (fun r s'' h => storeF (F.grow h.1) hk fun s'' F' kl => h.2 s'' F' kl) fun _ _ e => e) fun _ _ e => e))

/-! ### expressions -/
theorem e_ifexp {test body orelse : Expr} {p : Pos} {Q : Value → Shared → Prop} (h : wpAny (model prog w) A (isTrue test env (eval test env)) (fun b s₂ => Two b (wpAny (model prog w) A (eval body env) Q E s₂) (wpAny (model prog w) A (eval orelse env) Q E s₂)) E s) :
    wpAny (model prog w) A (eval (.IfExp test body orelse p) env) Q E s := wpAny_IfExp (wpAny_mono h (fun b s₂ h => h.ite) fun _ _ e => e)
theorem e_andC {x : Expr} {rest : List Expr} {Q : Bool → Shared → Prop} (h : wpAny (model prog w) A (isTrue x env (eval x env)) (fun b s₁ => Two b (wpAny (model prog w) A (allTrue .And rest env) Q E s₁) (Q false s₁)) E s) :
    wpAny (model prog w) A (allTrue .And (x :: rest) env) Q E s := wpAny_allTrue_And_cons (wpAny_mono h (fun b s₂ h => h.ite) fun _ _ e => e)
theorem e_orC {x : Expr} {rest : List Expr} {Q : Bool → Shared → Prop} (h : wpAny (model prog w) A (isTrue x env (eval x env)) (fun b s₁ => Two b (Q true s₁) (wpAny (model prog w) A (allTrue .Or rest env) Q E s₁)) E s) :
    wpAny (model prog w) A (allTrue .Or (x :: rest) env) Q E s := wpAny_allTrue_Or_cons (wpAny_mono h (fun b s₂ h => h.ite) fun _ _ e => e)
theorem e_or2 {x y : Expr} {p : Pos} {Q : Value → Shared → Prop} (h : wpAny (model prog w) A (eval x env) (fun v s₁ => wpAny (model prog w) A (truthy v) (fun t s₂ => Two t (Q v s₂) (wpAny (model prog w) A (eval y env) Q E s₂)) E s₁) E s) :
    wpAny (model prog w) A (eval (.BoolOp .Or [x, y] p) env) Q E s := wpAny_Or2 (wpAny_mono h (fun v s₁ h => wpAny_mono h (fun b s₂ h => h.ite) fun _ _ e => e) fun _ _ e => e)

section
variable {Q : Value → Shared → Prop} {e e1 e2 e3 : Expr} {pos : Pos}
theorem c_b1 {id : String} (hs : starEach [e] env = [(false, eval e env)]) (h : wpAny (model prog w) A (eval e env) (fun v s₁ => wpAny (model prog w) A (call (.builtin id) [v]) Q E s₁) E s) :
    wpAny (model prog w) A (callWith pos (.builtin id) [] (backTo pos (starEach [e] env)) []) Q E s := by
  rw [hs]; exact callWith_builtin1 h
theorem c_b2 {id : String} (hs : starEach [e1, e2] env = [(false, eval e1 env), (false, eval e2 env)])
    (h : wpAny (model prog w) A (eval e1 env) (fun v1 s₁ => wpAny (model prog w) A (eval e2 env) (fun v2 s₂ => wpAny (model prog w) A (call (.builtin id) [v1, v2]) Q E s₂) E s₁) E s) :
    wpAny (model prog w) A (callWith pos (.builtin id) [] (backTo pos (starEach [e1, e2] env)) []) Q E s := by
  rw [hs]
  exact Calls.callWith_builtin rfl (Calls.evalArgs_plain (Calls.spliced_cons (wpAny_mono h (fun v1 s₁ h₁ => Calls.spliced_cons (wpAny_mono h₁ (fun v2 s₂ h₂ => Calls.spliced_nil h₂) fun _ _ e => e)) fun _ _ e => e)))
theorem c_t1 {T : String} (hs : starEach [e] env = [(false, eval e env)]) (h : wpAny (model prog w) A (eval e env) (fun v s₁ => wpAny (model prog w) A (call (.type T) [v]) Q E s₁) E s) :
    wpAny (model prog w) A (callWith pos (.type T) [] (backTo pos (starEach [e] env)) []) Q E s := by
  rw [hs]; exact PySem.callWith_type1 h
theorem c_t2 {T : String} (hs : starEach [e1, e2] env = [(false, eval e1 env), (false, eval e2 env)])
    (h : wpAny (model prog w) A (eval e1 env) (fun v1 s₁ => wpAny (model prog w) A (eval e2 env) (fun v2 s₂ => wpAny (model prog w) A (call (.type T) [v1, v2]) Q E s₂) E s₁) E s) :
    wpAny (model prog w) A (callWith pos (.type T) [] (backTo pos (starEach [e1, e2] env)) []) Q E s := by
  rw [hs]
  exact PySem.callWith_type rfl (Calls.evalArgs_plain (Calls.spliced_cons (wpAny_mono h (fun v1 s₁ h₁ => Calls.spliced_cons (wpAny_mono h₁ (fun v2 s₂ h₂ => Calls.spliced_nil h₂) fun _ _ e => e)) fun _ _ e => e)))
theorem c_t3 {T : String} (hs : starEach [e1, e2, e3] env = [(false, eval e1 env), (false, eval e2 env), (false, eval e3 env)])
    (h : wpAny (model prog w) A (eval e1 env) (fun v1 s₁ => wpAny (model prog w) A (eval e2 env) (fun v2 s₂ => wpAny (model prog w) A (eval e3 env) (fun v3 s₃ => wpAny (model prog w) A (call (.type T) [v1, v2, v3]) Q E s₃) E s₂) E s₁) E s) :
    wpAny (model prog w) A (callWith pos (.type T) [] (backTo pos (starEach [e1, e2, e3] env)) []) Q E s := by
  rw [hs]
  exact PySem.callWith_type rfl (Calls.evalArgs_plain (Calls.spliced_cons (wpAny_mono h (fun v1 s₁ h₁ => Calls.spliced_cons (wpAny_mono h₁ (fun v2 s₂ h₂ => Calls.spliced_cons (wpAny_mono h₂ (fun v3 s₃ h₃ => Calls.spliced_nil h₃) fun _ _ e => e)) fun _ _ e => e)) fun _ _ e => e)))
theorem c_f1 {a : Addr} {st : Stmt} (F : FnAt s.heap a st) (hs : starEach [e] env = [(false, eval e env)])
    (h : wpAny (model prog w) A (eval e env) (fun v s₁ => Keeps s s₁ ∧ wpAny (model prog w) A (call (.ref a) [v]) Q E s₁) E s) :
    wpAny (model prog w) A (callWith pos (.ref a) [] (backTo pos (starEach [e] env)) []) Q E s := by
  rw [hs]
  obtain ⟨o, nm, qn, doc, pm, an, cd, ct, ho, hd, _⟩ := F.ex
  exact Calls.callWith_function (o := o) (fd := fdOf nm qn st doc pm an cd ct) (Calls.evalArgs_plain (Calls.spliced_cons (wpAny_mono h (fun v1 s₁ h₁ => Calls.spliced_nil ⟨⟨kKeep h₁.1 _ _ ho, hd⟩, h₁.2⟩) fun _ _ e => e)))
theorem c_f2 {a : Addr} {st : Stmt} (F : FnAt s.heap a st) (hs : starEach [e1, e2] env = [(false, eval e1 env), (false, eval e2 env)])
    (h : wpAny (model prog w) A (eval e1 env) (fun v1 s₁ => wpAny (model prog w) A (eval e2 env) (fun v2 s₂ => Keeps s s₂ ∧ wpAny (model prog w) A (call (.ref a) [v1, v2]) Q E s₂) E s₁) E s) :
    wpAny (model prog w) A (callWith pos (.ref a) [] (backTo pos (starEach [e1, e2] env)) []) Q E s := by
  rw [hs]
  obtain ⟨o, nm, qn, doc, pm, an, cd, ct, ho, hd, _⟩ := F.ex
  exact Calls.callWith_function (o := o) (fd := fdOf nm qn st doc pm an cd ct) (Calls.evalArgs_plain (Calls.spliced_cons (wpAny_mono h (fun v1 s₁ h₁ => Calls.spliced_cons (wpAny_mono h₁ (fun v2 s₂ h₂ => Calls.spliced_nil ⟨⟨kKeep h₂.1 _ _ ho, hd⟩, h₂.2⟩) fun _ _ e => e)) fun _ _ e => e)))
theorem c_f3 {a : Addr} {st : Stmt} (F : FnAt s.heap a st) (hs : starEach [e1, e2, e3] env = [(false, eval e1 env), (false, eval e2 env), (false, eval e3 env)])
    (h : wpAny (model prog w) A (eval e1 env) (fun v1 s₁ => wpAny (model prog w) A (eval e2 env) (fun v2 s₂ => wpAny (model prog w) A (eval e3 env) (fun v3 s₃ => Keeps s s₃ ∧ wpAny (model prog w) A (call (.ref a) [v1, v2, v3]) Q E s₃) E s₂) E s₁) E s) :
    wpAny (model prog w) A (callWith pos (.ref a) [] (backTo pos (starEach [e1, e2, e3] env)) []) Q E s := by
  rw [hs]
  obtain ⟨o, nm, qn, doc, pm, an, cd, ct, ho, hd, _⟩ := F.ex
  exact Calls.callWith_function (o := o) (fd := fdOf nm qn st doc pm an cd ct) (Calls.evalArgs_plain (Calls.spliced_cons (wpAny_mono h (fun v1 s₁ h₁ => Calls.spliced_cons (wpAny_mono h₁ (fun v2 s₂ h₂ => Calls.spliced_cons (wpAny_mono h₂ (fun v3 s₃ h₃ => Calls.spliced_nil ⟨⟨kKeep h₃.1 _ _ ho, hd⟩, h₃.2⟩) fun _ _ e => e)) fun _ _ e => e)) fun _ _ e => e)))
theorem m_lower {x : Str} {t : Tok} (hx : x.length ≤ 1000) (h : ∀ t s', Keeps s s' → Q (.str (Txt.lower x) t) s') : MethodOnS prog w A E "lower" (.str x t) pos [] Q s :=
  SBL.lower (by omega) fun _ => h _ _ (kTok ..)
end
end
/-! ### lines -/
set_option hygiene false in
local macro_rules | `(tactic| k_extra "k") => `(tactic| (intro t s' k; replace C := Cx.step C k; clear k))
set_option hygiene false in
local macro_rules | `(tactic| k_extra "ks") => `(tactic| (intro s' k; replace C := Cx.step C k; clear k))
local macro_rules | `(tactic| k_extra "lkm") => `(tactic| ((with_reducible show Lk _ _ (List.cons _ _)); first | with_reducible exact Lk.here | exact Lk.there (by k_extra "lkm")))
set_option hygiene false in
local macro_rules | `(tactic| k_extra "name") => `(tactic| first
  | with_reducible refine e_name C (lk_eq (by k_extra "lkm") (by kernel_rfl)) ?_ (by kernel_rfl)
  | with_reducible refine e_glob C (lk_eq (by k_extra "lkm") (by kernel_rfl)) (by kernel_rfl) (by kernel_rfl) (by kernel_rfl) ?_ (by kernel_rfl))
set_option hygiene false in
local macro_rules | `(tactic| k_extra "e1") => `(tactic| first
  | ((with_reducible show wpAny _ _ (eval (Expr.Name _ _) _) _ _ _); k_extra "name")
  | (with_reducible refine e_int ?_; k_extra "k")
  | (with_reducible refine e_str ?_; k_extra "k")
  | with_reducible refine wpAny_Constant_none ?_
  | with_reducible refine wpAny_Constant_bool ?_
  | with_reducible refine wpAny_BinOp ?_
  | with_reducible refine wpAny_UnaryOp ?_
  | with_reducible refine wpAny_Compare1 ?_
  | with_reducible refine wpAny_isTrue_Compare1 ?_
  | with_reducible refine wpAny_isTrue_Not ?_
  | with_reducible refine wpAny_isTrue_BoolOp ?_
  | with_reducible refine e_andC ?_
  | with_reducible refine e_orC ?_
  | with_reducible refine wpAny_allTrue_And_nil ?_
  | with_reducible refine wpAny_allTrue_Or_nil ?_
  | with_reducible refine wpAny_truthy_bool ?_
  | with_reducible refine t_int ?_
  | (with_reducible refine o_add ?_; k_extra "k")
  | (with_reducible refine o_sub ?_; k_extra "k")
  | (with_reducible refine o_and ?_; k_extra "k")
  | (with_reducible refine o_neg ?_; k_extra "k")
  | (with_reducible refine o_iadd ?_; k_extra "k")
  | (with_reducible refine o_isub ?_; k_extra "k")
  | (with_reducible refine o_ixor ?_; k_extra "k")
  | (with_reducible refine o_mod (by decide) ?_; k_extra "k")
  | (with_reducible refine o_div (by decide) (by decide) ?_; k_extra "k")
  | with_reducible refine o_strEq ?_
  | with_reducible refine PyProof.Rows.eq_int ?_
  | with_reducible refine PyProof.Rows.ne_int ?_
  | with_reducible refine PyProof.Rows.lt_int ?_
  | with_reducible refine PyProof.Rows.gt_int ?_
  | with_reducible refine wpAny_Call_NameR ?_
  | with_reducible refine Call_method0 (by kernel_rfl) (by kernel_rfl) ?_
  | with_reducible refine Call_method1 (by kernel_rfl) (by kernel_rfl) (by kernel_rfl) ?_
  | with_reducible refine Call_method2 (by kernel_rfl) (by kernel_rfl) (by kernel_rfl) ?_
  | with_reducible refine Subscript_Slice ?_ (fun _ _ => by kernel_rfl)
  | with_reducible refine wpAny_Slice ?_
  | with_reducible refine PyProof.Rows.Subscript_ ?_
  | with_reducible refine wpAny_items_cons ?_ (by kernel_rfl)
  | with_reducible refine wpAny_items_nil ?_
  | with_reducible refine evalPart_none_step ?_
  | with_reducible refine evalPart_some_step ?_
  | with_reducible refine wpAny_isTrue_value ?_ (by kernel_rfl))
local macro_rules | `(tactic| k_extra "e") => `(tactic| repeat k_extra "e1")
set_option hygiene false in
local macro_rules | `(tactic| k_extra "asl") => `(tactic| refine wpAny_execs_cons (x_assign F (.inl (by kernel_rfl)) ?_ (by kernel_rfl)))
set_option hygiene false in
local macro_rules | `(tactic| k_extra "asc") => `(tactic| refine wpAny_execs_cons (x_assign F (.inr ⟨by kernel_rfl, by kernel_rfl⟩) ?_ (by kernel_rfl)))
set_option hygiene false in
local macro_rules | `(tactic| k_extra "set") => `(tactic| (refine ⟨C.k, ?_⟩; intro s2 F2 kl2; clear kl2 C F; have F := F2; clear F2; have C := F.cx))
set_option hygiene false in
local macro_rules | `(tactic| k_extra "fn") => `(tactic| (have K0 := C.k; replace C := C.anew))
set_option hygiene false in
local macro_rules | `(tactic| k_extra "nf") => `(tactic| (refine ⟨C.k, ?_⟩; replace C := C.rebase K0; clear K0))
local macro_rules | `(tactic| k_extra "lkv") => `(tactic| ((with_reducible show Lk _ _ (List.cons _ _)); first | ((with_reducible refine Lk.same ?_); first | rfl | fail "lkv") | exact Lk.there (by k_extra "lkv")))
local macro_rules | `(tactic| k_extra "wk") => `(tactic| first | exact lk_nil | exact lk_cons (lk_eq (by k_extra "lkv") (by kernel_rfl)) (by k_extra "wk"))

local macro_rules | `(tactic| k_extra "cap") => `(tactic| first | exact trivial | exact ⟨⟨by kernel_rfl, by kernel_rfl, by kernel_rfl⟩, by k_extra "cap"⟩)
def subCost (x y : Str) : Int := if x == y then 0 else if Txt.lower x == Txt.lower y then 1 else 2
section
variable {prog : Program} {w : World} {A : Around} {s : Shared} {E : Value → Shared → Prop}
set_option maxHeartbeats 400000 in
theorem sub_call {x y : Str} {tx ty : Tok} {Q : Value → Shared → Prop} (B : Base s.heap) (hA : A.depth < recursionLimit) (hx : x.length ≤ 100) (hy : y.length ≤ 100)
    (h : ∀ t s', Keeps s s' → Q (.int (subCost x y) t) s') : wpAny (model prog w) A (call (.ref 21) [.str x tx, .str y ty]) Q E s := by
  refine call_fn B B.fSub hA (binds := [("ch_a", .str x tx), ("ch_b", .str y ty)]) (by intros; kernel_rfl) (fun n => fm_cons (.inl (by kernel_rfl)) (fm_cons (.inl (by kernel_rfl)) fm_nil)) (by kernel_rfl) (by kernel_rfl) (by kernel_rfl) ?_
  intro q cd L s₁ F
  change FS _ _ _ [("ch_b", .str y ty), ("ch_a", .str x tx)] _ _ at F
  have C := F.cx
  refine wpAny_execs_cons (x_if ?_)
  k_extra "e"
  refine ⟨fun e => ?_, fun e => ?_⟩
  · refine wpAny_execs_cons (wpAny_Return_some ?_)
    k_extra "e"
    have hc : subCost x y = 0 := by unfold subCost; rw [if_pos e]
    exact hc ▸ h _ _ (kTrans F.keep C.k)
  refine wpAny_execs_nil (wpAny_execs_cons (x_if ?_))
  k_extra "e"
  refine m_lower (by omega) ?_
  k_extra "k"
  k_extra "e"
  refine m_lower (by omega) ?_
  k_extra "k"
  k_extra "e"
  refine ⟨fun e2 => ?_, fun e2 => ?_⟩
  · refine wpAny_execs_cons (wpAny_Return_some ?_)
    k_extra "e"
    have hc : subCost x y = 1 := by unfold subCost; rw [if_neg (by simp [e]), if_pos e2]
    exact hc ▸ h _ _ (kTrans F.keep C.k)
  · refine wpAny_execs_nil (wpAny_execs_cons (wpAny_Return_some ?_))
    k_extra "e"
    have hc : subCost x y = 2 := by unfold subCost; rw [if_neg (by simp [e]), if_neg (by simp [e2])]
    exact hc ▸ h _ _ (kTrans F.keep C.k)
end
end Mine

namespace Mine

section
variable {prog : Program} {w : World} {A : Around} {s₀ s₁ s s' : Shared} {env : Env} {l : List (Str × Value)} {os : List (Addr × String × List Value)} {E : Value → Shared → Prop}

/-- an object of another kind (an iterator) turns -/
theorem FS.other (F : FS s₀ s₁ env l os s) {I : Addr} {o : Obj} {vs : Array Value} {h' : Heap} {tk : Nat} (ho : s.heap.get? I = some o) (hd : o.data = .fields vs)
    (h0 : s₀.heap.get? I = none) (h1 : s₁.heap.get? I = none) (hk : ∀ b o, b ∉ [I] → s.heap.get? b = some o → h'.get? b = some o) : FS s₀ s₁ env l os { s with heap := h', toks := tk } := by
  have hk' : ∀ b o', b ≠ I → s.heap.get? b = some o' → h'.get? b = some o' := fun b o' hb e => hk b o' (fun hm => hb (by simpa using hm)) e
  obtain ⟨m, cm, X, B⟩ := F.ic
  have ne0 : ∀ b o', s₀.heap.get? b = some o' → b ≠ I := fun b o' e q => by rw [q, h0] at e; cases e
  have ne1 : ∀ b o', s₁.heap.get? b = some o' → b ≠ I := fun b o' e q => by rw [q, h1] at e; cases e
  refine ⟨⟨m, cm, ⟨⟨?_, ?_, fun b o' e => hk' b o' (ne0 b o' e) (X.toInCall.keep b o' e), X.toInCall.fresh⟩, fun n c hc => ?_, X.apart, X.above⟩, B⟩, F.kind, F.base, fun p hp => ?_, F.nd, fun b o' so e => hk' b o' (ne1 b o' e) (F.kf b o' so e)⟩
  · obtain ⟨h₁, tk₁, rfl⟩ := X.toInCall.same
    exact ⟨h', tk, rfl⟩
  · obtain ⟨oL, es, ep, hL, hd', r⟩ := X.toInCall.ns
    refine ⟨oL, es, ep, hk' _ _ (fun q => ?_) hL, hd', r⟩
    rw [q, ho] at hL; cases hL; rw [hd] at hd'; cases hd'
  · obtain ⟨oc, hoc, hd'⟩ := X.cell n c hc
    refine ⟨oc, hk' _ _ (fun q => ?_) hoc, hd'⟩
    rw [q, ho] at hoc; cases hoc; rw [hd] at hd'; cases hd'
  · obtain ⟨op, n, hop, hc, hd', hpl⟩ := F.pts p hp
    refine ⟨op, n, hk' _ _ (fun q => ?_) hop, hc, hd', hpl⟩
    rw [q, ho] at hop; cases hop; rw [hd] at hd'; cases hd'

theorem FS.new0 (F : FS s₀ s₁ env l os s) {a : Addr} (h : s.heap.get? a = none) : s₀.heap.get? a = none := by
  cases e : s₀.heap.get? a with
  | none => rfl
  | some o => rw [kKeep F.keep a o e] at h; cases h

theorem FS.add (F : FS s₀ s₁ env l os s) {a : Addr} {c : String} {items : List Value} {o : Obj} {n : Nat} (hn : a ∉ os.map (·.1)) (ho : s.heap.get? a = some o) (hc : o.cls = .type (tagCls c)) (hd : o.data = .seq items.toArray n) (hp : c = "plain" → o.dict = none ∧ o.slots = #[]) : FS s₀ s₁ env l ((a, c, items) :: os) s :=
  ⟨F.ic, F.kind, F.base, fun p hp' => by
    rcases List.mem_cons.mp hp' with rfl | hp'
    · exact ⟨o, n, ho, hc, hd, hp⟩
    · exact F.pts p hp', List.nodup_cons.mpr ⟨hn, F.nd⟩, F.kf⟩
theorem FS.notin (F : FS s₀ s₁ env l os s) {a : Addr} (h : s.heap.get? a = none) : a ∉ os.map (·.1) := fun hm => by
  obtain ⟨p, hp, rfl⟩ := List.mem_map.mp hm
  obtain ⟨o, n, ho, _⟩ := F.pts p hp
  rw [h] at ho; cases ho
theorem KL.seq {h h' : Heap} (k : KL h h') {a : Addr} {o : Obj} {xs : Array Value} {n : Nat} (ho : h.get? a = some o) (hd : o.data = .seq xs n) : h'.get? a = some o :=
  k a o (fun _ _ e => by rw [hd] at e; cases e) (fun _ e => by rw [hd] at e; cases e) ho

/-- a for over range(n) -/
theorem x_forRange {x : Str} {px pos : Pos} {iter : Expr} {body orelse : List Stmt} {Q : Flow → Shared → Prop} (n : Nat) (Inv : Nat → List (Str × Value) → List (Addr × String × List Value) → Prop)
    (hh : A.handled = none) (F : FS s₀ s₁ env l os s) (hx : KindOk env x) (hs : ∀ x, foldedSetIterable iter env x = pure x)
    (h : wpAny (model prog w) A (eval iter env) (fun xv s' => ∃ r t u v, xv = .ref r ∧ Keeps s s' ∧ IsRange s'.heap r 0 (n : Int) 1 t u v) NoE s) (hn : n < 2 ^ 62)
    (h0 : Inv 0 l os)
    (hstep : ∀ i l' os' s' t, i < n → Inv i l' os' → FS s₀ s' env ((x, .int (i : Int) t) :: l') os' s' → wpAny (model prog w) A (execs body env) (fun fl s'' => match fl with
        | .next | .cont => ∃ l'' os'', Inv (i + 1) l'' os'' ∧ FS s₀ s' env l'' os'' s''
        | .brk => ∃ l'' os'', FS s₀ s' env l'' os'' s'' ∧ (∀ s3, FS s₀ s₁ env l'' os'' s3 → Q .next s3)
        | .ret v => Q (.ret v) s'') NoE s')
    (hend : ∀ l' os' s', Inv n l' os' → FS s₀ s₁ env l' os' s' → wpAny (model prog w) A (execs orelse env) Q NoE s') :
    wpAny (model prog w) A (exec (.For (.Name x px) iter body orelse pos) env) Q NoE s := by
  refine wpAny_For (wpAny_mono h (fun xv s2 h2 => ?_) fun _ _ e => e) hs
  obtain ⟨r, t, u, v, rfl, k2, hr⟩ := h2
  have hsz : Builtin.Range.rangeSize 0 (n : Int) 1 = (n : Int) := by rw [rangeSize_one]; split <;> omega
  refine wpAny_pyIter_range hr (small_one (by decide) (by decide) (by omega) (by omega)) ?_
  rw [hsz]
  have F2 := F.grow k2
  have hnew : s2.heap.get? s2.heap.objs.size = none := by
    cases e : s2.heap.get? s2.heap.objs.size with
    | none => rfl
    | some o => exact absurd (Heap.lt_size e) (Nat.lt_irrefl _)
  have hI0 : s₀.heap.get? s2.heap.objs.size = none := F2.new0 hnew
  have W := Walks.range (prog := prog) (w := w) (A := A) hh s2.heap.objs.size 0 1 n
  have hI1 : s.heap.get? s2.heap.objs.size = none := by
    cases e : s.heap.get? s2.heap.objs.size with
    | none => rfl
    | some o => rw [kKeep k2 _ o e] at hnew; cases hnew
  have key : codeAny (model prog w) A (.forLoop (.Name x px) (.ref s2.heap.objs.size) body orelse env) (fun r s' => match r with | .ok f => Q f s' | .error e => False)
      { s2 with heap := s2.heap.push { cls := .type "range_iterator", data := .fields #[rawInt 0, rawInt (n : Int), rawInt 1] } } := by
    refine codeAny_forLoop (fun k s' => ∃ i l' os', k = n + 1 - i ∧ i ≤ n ∧ Inv i l' os' ∧ FS s₀ s env l' os' s' ∧ IsRangeIter s'.heap s2.heap.objs.size (0 + (i : Nat) * 1) ((n : Int) - (i : Nat)) 1) ?_ (n + 1) ?_
    · rintro k s3 ⟨i, l', os', rfl, hi, hinv, F3, hit⟩
      by_cases hlt : i < n
      · refine W.item i s3 _ _ hlt hit fun v h4 tk4 hP hit4 hk4 => ?_
        obtain ⟨t4, rfl⟩ := hP
        have F4 : FS s₀ s env l' os' { s3 with heap := h4, toks := tk4 } := F3.other hit rfl hI0 hI1 hk4
        refine wpAny_assign_Name (storeF F4 hx fun s5 F5 kl => ?_)
        have hit5 : IsRangeIter s5.heap s2.heap.objs.size (0 + ((i + 1 : Nat) : Int) * 1) ((n : Int) - ((i + 1 : Nat) : Int)) 1 := kl _ _ (fun _ _ e => by cases e) (fun _ e => by cases e) hit4
        have ev : (0 + (i : Int) * 1) = (i : Int) := by omega
        rw [ev] at F5
        refine wpAny_mono (hstep i l' os' s5 t4 hlt hinv F5.anew) (fun fl s6 h6 => ?_) fun _ _ e => e.elim
        have fin : (∃ l'' os'', Inv (i + 1) l'' os'' ∧ FS s₀ s5 env l'' os'' s6) → ∃ m, m < n + 1 - i ∧ ∃ i l' os', m = n + 1 - i ∧ i ≤ n ∧ Inv i l' os' ∧ FS s₀ s env l' os' s6 ∧ IsRangeIter s6.heap s2.heap.objs.size (0 + (i : Nat) * 1) ((n : Int) - (i : Nat)) 1 := by
          rintro ⟨l'', os'', hinv', F6⟩
          refine ⟨n + 1 - (i + 1), by omega, i + 1, l'', os'', rfl, hlt, hinv', F6.back F5.kf, F6.kf _ _ ⟨(fun _ _ e => by cases e), (fun _ e => by cases e), (show Value.type "range_iterator" ≠ Value.type "list" by decide)⟩ hit5⟩
        cases fl with
        | next => exact fin h6
        | cont => exact fin h6
        | brk =>
          obtain ⟨l'', os'', F6, hq⟩ := h6
          refine hq s6 ((F6.back F5.kf).back fun b o so e => ?_)
          exact F.kf b o so e
        | ret v => exact h6
      · have hin : i = n := by omega
        subst hin
        refine W.done s3 _ _ hit fun h4 tk4 hk4 => ?_
        have F4 : FS s₀ s env l' os' { s3 with heap := h4, toks := tk4 } := F3.other hit rfl hI0 hI1 hk4
        exact wpAny_mono (hend l' os' _ hinv (F4.back F.kf)) (fun fl s5 h5 => h5) fun _ _ e => e.elim
    · refine ⟨0, l, os, rfl, Nat.zero_le _, h0, (F.anew.grow k2).grow (kPush ..), ?_⟩
      have e1 : (0 + ((0 : Nat) : Int) * 1) = 0 := by omega
      have e2 : ((n : Int) - ((0 : Nat) : Int)) = n := by omega
      rw [e1, e2]
      exact Heap.get?_push_size _ rfl
  exact codeAny_mono key fun r s' hr => by cases r with | ok f => exact hr | error e => exact hr.elim

/-- a while -/
theorem x_while {test : Expr} {body orelse : List Stmt} {pos : Pos} {Q : Flow → Shared → Prop} (Inv : Nat → List (Str × Value) → List (Addr × String × List Value) → Prop) (n : Nat)
    (F : FS s₀ s₁ env l os s) (h0 : Inv n l os)
    (hstep : ∀ n l' os' s', Inv n l' os' → FS s₀ s₁ env l' os' s' → wpAny (model prog w) A (isTrue test env (eval test env)) (fun b s2 => Two b
      (wpAny (model prog w) A (execs body env) (fun fl s3 => match fl with
        | .next | .cont => ∃ m l'' os'', m < n ∧ Inv m l'' os'' ∧ FS s₀ s₁ env l'' os'' s3
        | .brk => Q .next s3
        | .ret v => Q (.ret v) s3) NoE s2)
      (wpAny (model prog w) A (execs orelse env) Q NoE s2)) NoE s') :
    wpAny (model prog w) A (exec (.While test body orelse pos) env) Q NoE s := by
  refine wpAny_While ?_
  have key : codeAny (model prog w) A (.whileLoop test body orelse env) (fun r s' => match r with | .ok f => Q f s' | .error e => False) s := by
    refine codeAny_whileLoop (fun k s' => ∃ l' os', Inv k l' os' ∧ FS s₀ s₁ env l' os' s') ?_ n ⟨l, os, h0, F⟩
    rintro k s3 ⟨l', os', hinv, F3⟩
    refine wpAny_mono (hstep k l' os' s3 hinv F3) (fun b s4 h4 => ?_) fun _ _ e => e.elim
    refine Two.ite ⟨fun e => wpAny_mono (h4.1 e) (fun fl s5 h5 => ?_) fun _ _ e => e.elim, fun e => wpAny_mono (h4.2 e) (fun fl s5 h5 => h5) fun _ _ e => e.elim⟩
    have fin : (∃ m l'' os'', m < k ∧ Inv m l'' os'' ∧ FS s₀ s₁ env l'' os'' s5) → ∃ m, m < k ∧ ∃ l' os', Inv m l' os' ∧ FS s₀ s₁ env l' os' s5 := by
      rintro ⟨m, l'', os'', hm, hi, Fi⟩
      exact ⟨m, hm, l'', os'', hi, Fi⟩
    cases fl with
    | next => exact fin h5
    | cont => exact fin h5
    | brk => exact h5
    | ret v => exact h5
  exact codeAny_mono key fun r s' hr => by cases r with | ok f => exact hr | error e => exact hr.elim

/-- one of the lists turns -/
theorem FS.upd (F : FS s₀ s₁ env l os s) {i : Nat} {a : Addr} {tg : String} {items items' : List Value} {h' : Heap} {tk : Nat} (hi : os[i]? = some (a, tg, items)) (htg : tagCls tg = "list") (h0 : s₀.heap.get? a = none)
    (hs : Heap.SameBut a s.heap h') (hl : ∃ o n, h'.get? a = some o ∧ o.cls = .type "list" ∧ o.data = .seq items'.toArray n ∧ (tg = "plain" → o.dict = none ∧ o.slots = #[])) : FS s₀ s₁ env l (os.set i (a, tg, items')) { s with heap := h', toks := tk } := by
  have hmem : (a, tg, items) ∈ os := List.mem_of_getElem? hi
  obtain ⟨o, n, ho, hc, hd, _⟩ := F.pts _ hmem
  obtain ⟨m, cm, X, B⟩ := F.ic
  have hlt : i < os.length := (List.getElem?_eq_some_iff.mp hi).1
  refine ⟨⟨m, cm, ⟨⟨?_, X.toInCall.ns.sameBut hs ?_, fun b o' e => hs.extBut b o' ?_ (X.toInCall.keep b o' e), X.toInCall.fresh⟩, fun n c hc => ?_, X.apart, X.above⟩, B⟩, F.kind, F.base, fun p hp => ?_, ?_, fun b o' so e => hs.extBut b o' ?_ (F.kf b o' so e)⟩
  · obtain ⟨h₁, tk₁, rfl⟩ := X.toInCall.same
    exact ⟨h', tk, rfl⟩
  · intro q
    obtain ⟨oL, es, ep, hL, hd', r⟩ := X.toInCall.ns
    rw [q, ho] at hL; cases hL; rw [hd] at hd'; cases hd'
  · intro q; rw [q, h0] at e; cases e
  · refine (X.cell n c hc).sameBut hs fun q => ?_
    obtain ⟨oc, hoc, hd'⟩ := X.cell n c hc
    rw [q, ho] at hoc; cases hoc; rw [hd] at hd'; cases hd'
  · obtain ⟨j, hj⟩ := List.mem_iff_getElem?.mp hp
    by_cases hij : j = i
    · subst hij
      rw [List.getElem?_set_self hlt] at hj
      cases hj
      obtain ⟨o', n', ho', hc', hd', hp'⟩ := hl
      exact ⟨o', n', ho', by rw [hc']; exact congrArg Value.type htg.symm, hd', hp'⟩
    · rw [List.getElem?_set_ne (Ne.symm hij)] at hj
      obtain ⟨o', n', ho', r⟩ := F.pts p (List.mem_of_getElem? hj)
      refine ⟨o', n', hs.extBut _ _ (fun q => hij ?_) ho', r⟩
      have e1 : (os.map (·.1))[j]? = some a := by rw [List.getElem?_map, hj]; exact congrArg some q
      have e2 : (os.map (·.1))[i]? = some a := by rw [List.getElem?_map, hi]; rfl
      have hjl : j < (os.map (·.1)).length := (List.getElem?_eq_some_iff.mp e1).1
      exact (List.getElem?_inj hjl F.nd).mp (e1.trans e2.symm)
  · have : (os.set i (a, tg, items')).map (·.1) = os.map (·.1) := by
      rw [List.map_set]
      have e2 : (os.map (·.1))[i]? = some a := by rw [List.getElem?_map, hi]; rfl
      apply List.ext_getElem?
      intro j
      by_cases hij : i = j
      · subst hij
        rw [List.getElem?_set_self (by simpa using hlt), e2]
      · rw [List.getElem?_set_ne hij]
    rw [this]; exact F.nd
  · intro q
    have := F.kf b o' so e
    rw [q, ho] at this; cases this
    exact so.2.2 (by rw [hc]; exact congrArg Value.type htg)
end
end Mine

namespace Mine
/-! ### more rules -/
theorem newAt (h : Heap) : h.get? h.objs.size = none := by
  cases e : h.get? h.objs.size with
  | none => rfl
  | some o => exact absurd (Heap.lt_size e) (Nat.lt_irrefl _)
section
variable {prog : Program} {w : World} {A : Around} {s₀ s₁ s s' : Shared} {env : Env} {l : List (Str × Value)} {os : List (Addr × String × List Value)} {E : Value → Shared → Prop} {Q : Value → Shared → Prop}
theorem i_sn {x : Str} {t : Tok} {i : Int} {ui : Tok} (hz : x.length ≤ sizeLine) (h : ∀ t' s', Keeps s s' → Q (.str (Txt.slice x (some i) none) t') s') :
    ItemOn (model prog w) A E (.str x t) (.ref s.heap.objs.size) Q { s with heap := s.heap.push { cls := .type "slice", data := .fields #[.int i ui, .none, .none] } } :=
  ⟨"str", _, F.slot_str_getitem.lookup, typeIs_str _ _ _, wpAny_getItem_str_slice (l := some (i, ui)) (u := none) (st := none) ⟨_, Heap.get?_push_size _ rfl, rfl, rfl⟩ rfl
    (post_val_or_str ⟨Nat.le_trans (Txt.slice_le x _ _) hz, fun t' k => h t' _ (kPush ..)⟩)⟩
theorem i_ns {x : Str} {t : Tok} {i : Int} {ui : Tok} (hz : x.length ≤ sizeLine) (h : ∀ t' s', Keeps s s' → Q (.str (Txt.slice x none (some i)) t') s') :
    ItemOn (model prog w) A E (.str x t) (.ref s.heap.objs.size) Q { s with heap := s.heap.push { cls := .type "slice", data := .fields #[.none, .int i ui, .none] } } :=
  ⟨"str", _, F.slot_str_getitem.lookup, typeIs_str _ _ _, wpAny_getItem_str_slice (l := none) (u := some (i, ui)) (st := none) ⟨_, Heap.get?_push_size _ rfl, rfl, rfl⟩ rfl
    (post_val_or_str ⟨Nat.le_trans (Txt.slice_le x _ _) hz, fun t' k => h t' _ (kPush ..)⟩)⟩
theorem i_nn {x : Str} {t : Tok} (hz : x.length ≤ sizeLine) (h : ∀ t' s', Keeps s s' → Q (.str (Txt.slice x none none) t') s') :
    ItemOn (model prog w) A E (.str x t) (.ref s.heap.objs.size) Q { s with heap := s.heap.push { cls := .type "slice", data := .fields #[.none, .none, .none] } } :=
  ⟨"str", _, F.slot_str_getitem.lookup, typeIs_str _ _ _, wpAny_getItem_str_slice (l := none) (u := none) (st := none) ⟨_, Heap.get?_push_size _ rfl, rfl, rfl⟩ rfl
    (post_val_or_str ⟨Nat.le_trans (Txt.slice_le x _ _) hz, fun t' k => h t' _ (kPush ..)⟩)⟩
theorem st_str {value slice : Expr} {x : Str} {t u : Tok} {i : Int} (h1 : -(x.length : Int) ≤ i) (h2 : i < x.length) (hz : x.length ≤ sizeLine) (hs : subscripted slice false (.str x t) (.int i u) = operate [.str x t, .int i u] (getItem (.str x t) (.int i u)))
    (h : ∀ t' s', Keeps s s' → Q (.str (Txt.item x i) t') s') : wpAny (model prog w) A (subscriptTail value slice (.str x t) (.int i u)) Q E s := by
  obtain ⟨T, id, hl, hT, hg⟩ := SBL.item (prog := prog) (w := w) (A := A) (E := E) (u := u) (t := t) h1 h2 (by rw [sizeLine_eq] at hz; omega) (fun _ => h s.toks { s with toks := s.toks + 1 } (kTok ..))
  exact tail_any hT hl hg hs
theorem st_list {value slice : Expr} {a : Addr} {items : List Value} {k : Int} {u : Tok} {v : Value} (hl : s.heap.IsList a items.toArray) (h0 : 0 ≤ k) (h1 : k < 2 ^ 63) (hx : items[k.toNat]? = some v) (hs : subscripted slice false (.ref a) (.int k u) = operate [.ref a, .int k u] (getItem (.ref a) (.int k u)))
    (h : Q v s) : wpAny (model prog w) A (subscriptTail value slice (.ref a) (.int k u)) Q E s :=
  tail_any hl.typeIs slot_list_getitem.lookup (wpAny_getItem_list hl h0 h1 (by simpa using hx) h) hs
theorem c_lenStr {x : Str} {t : Tok} (hz : x.length ≤ sizeLine) (h : ∀ t' s', Keeps s s' → Q (.int x.length t') s') : wpAny (model prog w) A (call (.builtin "len") [.str x t]) Q E s :=
  SBL.len (by rw [sizeLine_eq] at hz; omega) (h _ _ (kTok ..))
theorem c_min {a b : Int} {t u : Tok} (hh : A.handled = none) (h : ∀ t' s', Keeps s s' → Q (.int (min a b) t') s') : wpAny (model prog w) A (call (.builtin "min") [.int a t, .int b u]) Q E s := by
  refine min_two_ints hh fun h' tk hk => ?_
  by_cases hb : b < a
  · rw [if_pos hb]
    have e : min a b = b := by omega
    rw [← e]
    exact e ▸ h u _ (kHeap hk)
  · rw [if_neg hb]
    have e : min a b = a := by omega
    exact e ▸ h t _ (kHeap hk)
theorem c_range1 {n : Int} {t : Tok} (h : ∀ r t u v s', Keeps s s' → IsRange s'.heap r 0 n 1 t u v → Q (.ref r) s') : wpAny (model prog w) A (call (.type "range") [.int n t]) Q E s :=
  call_range_1 (h _ _ _ _ _ (kPush ..) (IsRange.new ..))
theorem c_range2 {a b : Int} {t t' : Tok} (h : ∀ r t u v s', Keeps s s' → IsRange s'.heap r a b 1 t u v → Q (.ref r) s') : wpAny (model prog w) A (call (.type "range") [.int a t, .int b t']) Q E s :=
  call_range_2 (h _ _ _ _ _ (kPush ..) (IsRange.new ..))
theorem c_range3 {a b c : Int} {t t' t'' : Tok} (hc : c ≠ 0) (hc2 : c.natAbs < 1073741824) (h : ∀ r t u v s', Keeps s s' → IsRange s'.heap r a b c t u v → Q (.ref r) s') : wpAny (model prog w) A (call (.type "range") [.int a t, .int b t', .int c t'']) Q E s :=
  call_range_3 hc (h _ _ _ _ _ (kPush ..) (IsRange.new ..)) (.inl (PyProof.noPylong_small hc2))
theorem e_tuple {elts : List Expr} {k : Nat} {p : Pos} (h : wpAny (model prog w) A (spliced (backTo p (starEach elts env))) (fun vs s₁ => vs.length ≤ 1000 ∧ ∀ T s', Keeps s₁ s' → s₁.heap.get? T = none → s'.heap.get? T = some { cls := .type "tuple", data := .seq vs.toArray } → Q (.ref T) s') E s) :
    wpAny (model prog w) A (eval (.Tuple elts k p) env) Q E s :=
  wpAny_Tuple (wpAny_mono h (fun vs s₁ h => ⟨by rw [sizeLine_eq]; have := h.1; omega, h.2 _ _ (kPush ..) (newAt _) (Heap.get?_push_size _ rfl)⟩) fun _ _ e => e)
theorem e_list {elts : List Expr} {p : Pos} (h : wpAny (model prog w) A (spliced (backTo p (starEach elts env))) (fun vs s₁ => vs.length ≤ 1000 ∧ ∀ T s', Keeps s₁ s' → s₁.heap.get? T = none → s'.heap.get? T = some { cls := .type "list", data := .seq vs.toArray } → Q (.ref T) s') E s) :
    wpAny (model prog w) A (eval (.List elts p) env) Q E s :=
  wpAny_List (wpAny_mono h (fun vs s₁ h => ⟨by rw [sizeLine_eq]; have := h.1; omega, h.2 _ _ (kPush ..) (newAt _) (Heap.get?_push_size _ rfl)⟩) fun _ _ e => e)
theorem unpack_tup {T : Addr} {items : List Value} {n : Nat} {Q : List Value → Shared → Prop} (hh : A.handled = none) (ht : s.heap.IsTuple T items.toArray) (hn : n = items.length) (h : ∀ s', Keeps s s' → Q items s') : wpAny (model prog w) A (unpackItems (.ref T) n none) Q E s := by
  subst hn
  have := unpackItems_tuple (prog := prog) (w := w) (E := E) (Q := Q) hh (items := items.toArray) ht fun h' he => h _ (kHeap (t := s.toks) fun b o e => he b o (Nat.ne_of_lt (Heap.lt_size e)) e)
  simpa using this
theorem asg2 {t1 t2 : Value → Sem Unit} {x1 x2 : Value} {Q : Unit → Shared → Prop} (h : wpAny (model prog w) A (t1 x1) (fun _ s₁ => wpAny (model prog w) A (t2 x2) Q E s₁) E s) : wpAny (model prog w) A (assignInOrder [t1, t2] [x1, x2]) Q E s :=
  wpAny_bind (wpAny_holding (wpAny_mono h (fun _ _ h => wpAny_bind (wpAny_holding (wpAny_mono h (fun _ _ h => wpAny_pure h) fun _ _ e => e))) fun _ _ e => e))
theorem mulL {a b : Int} (h1 : -(2 ^ 64) < a) (h2 : a < 2 ^ 64) : IntMulOk a b := .of_left (intBits_le_64 h1 h2)
theorem mulR {a b : Int} (h1 : -(2 ^ 64) < b) (h2 : b < 2 ^ 64) : IntMulOk a b := .of_right (intBits_le_64 h1 h2)
/-- ints -/
def Ints (vs : List Value) (ns : List Int) : Prop := vs.length = ns.length ∧ ∀ (i : Nat) (n : Int), ns[i]? = some n → ∃ t, vs[i]? = some (.int n t)
theorem c_listRange {r : Addr} {a b c : Int} {t u v : Tok} {n : Nat} (hh : A.handled = none) (hr : IsRange s.heap r a b c t u v) (hsmall : Builtin.Range.small a b c = true) (hn : Builtin.Range.rangeSize a b c = n) (hlen : n ≤ 2 ^ 24)
    (h : ∀ D vs m s', Keeps s s' → s.heap.get? D = none → s'.heap.get? D = some { cls := .type "list", dict := none, data := .seq vs.toArray m, slots := #[] } → Ints vs ((List.range n).map fun (i : Nat) => a + (i : Int) * c) → Q (.ref D) s') :
    wpAny (model prog w) A (call (.type "list") [.ref r]) Q E s := by
  refine call_list_range hh hr hsmall hn hlen fun h' tk acc' c' hk hS hI => ?_
  refine h _ acc'.toList c' _ (kHeap hk) (newAt _) hS ?_
  refine ⟨?_, fun i m hm => ?_⟩
  · rw [List.length_map, List.length_range, Array.length_toList]; exact hI.1
  · rw [List.getElem?_map] at hm
    by_cases hi : i < n
    · rw [List.getElem?_range hi] at hm
      cases hm
      have hlt : i < acc'.size := by rw [hI.1]; exact hi
      obtain ⟨t, e⟩ := hI.2 i acc'[i] (by simp [hlt])
      exact ⟨t, by rw [Array.getElem?_toList]; simp [hlt, e]⟩
    · rw [List.getElem?_eq_none (by simp; omega)] at hm; cases hm
end

theorem Ints.get {vs : List Value} {ns : List Int} (h : Ints vs ns) {k : Int} (h0 : 0 ≤ k) (h1 : k < ns.length) : ∃ t, vs[k.toNat]? = some (.int (ns.getD k.toNat 0) t) := by
  have hlt : k.toNat < ns.length := by omega
  refine h.2 _ _ ?_
  rw [List.getD_eq_getElem?_getD, List.getElem?_eq_getElem hlt]; rfl
theorem Ints.set {vs : List Value} {ns : List Int} (h : Ints vs ns) (i : Nat) (n : Int) (t : Tok) : Ints (vs.set i (.int n t)) (ns.set i n) := by
  refine ⟨by rw [List.length_set, List.length_set]; exact h.1, fun j m hm => ?_⟩
  by_cases hij : i = j
  · subst hij
    by_cases hi : i < ns.length
    · rw [List.getElem?_set_self hi] at hm
      cases hm
      exact ⟨t, List.getElem?_set_self (by rw [h.1]; exact hi)⟩
    · rw [List.getElem?_eq_none (by simp; omega)] at hm; cases hm
  · rw [List.getElem?_set_ne hij] at hm ⊢
    exact h.2 j m hm
end Mine

namespace Mine
/-! ### the distance, as a plain function -/
def preTest (a b : Str) (p : Int) : Bool := (((Txt.slice a (some p) none).length : Int) != 0) && ((((Txt.slice b (some p) none).length : Int) != 0) && (Txt.item a p == Txt.item b p))
def preLoop (a b : Str) : Nat → Int → Int
  | 0, p => p
  | n + 1, p => if preTest a b p then preLoop a b n (p + 1) else p
def cut (x : Str) (p : Int) : Str := if p != 0 then Txt.slice x none (some p) else Txt.slice x none none
def postTest (a b : Str) (p : Int) : Bool := (((cut a p).length : Int) != 0) && ((((cut b p).length : Int) != 0) && (Txt.item a (p - 1) == Txt.item b (p - 1)))
def postLoop (a b : Str) : Nat → Int → Int
  | 0, p => p
  | n + 1, p => if postTest a b p then postLoop a b n (p - 1) else p
structure IS where
  row : List Int
  distance : Int
  result : Int
  minimum : Int
def istep (a c : Str) (i : Nat) (x : IS) : IS :=
  let d := x.row.getD i 0
  let r := min (min x.result d + 2) (x.distance + subCost c (Txt.item a (i : Int)))
  ⟨x.row.set i r, d, r, if r < x.minimum then r else x.minimum⟩
def inner (a c : Str) : Nat → IS → IS
  | 0, x => x
  | n + 1, x => istep a c n (inner a c n x)
def bigInt : Int := 9223372036854775807
def istart (row : List Int) (i : Nat) : IS := ⟨row, (i : Int) * 2, (i : Int) * 2, bigInt⟩
def outer (a b : Str) (mc : Int) : Nat → Nat → List Int → Int → Int
  | 0, _, _, r => r
  | n + 1, i, row, r =>
    let x := inner a (Txt.item b (i : Int)) a.length (istart row i)
    if x.minimum > mc then mc + 1 else outer a b mc n (i + 1) x.row x.result
def row0 (n : Nat) : List Int := (List.range n).map fun (i : Nat) => 2 + (i : Int) * 2
def lev3 (a b : Str) (mc : Int) : Int := if ((b.length : Int) - (a.length : Int)) * 2 > mc then mc + 1 else outer a b mc b.length 0 (row0 a.length) 0
def lev2 (a b : Str) (mc : Int) : Int :=
  if (a.length : Int) = 0 ∨ (b.length : Int) = 0 then 2 * ((a.length : Int) + (b.length : Int))
  else if (b.length : Int) < (a.length : Int) then lev3 b a mc else lev3 a b mc
def lev1 (a b : Str) (mc : Int) : Int := let p := postLoop a b (a.length + 1) 0; lev2 (cut a p) (cut b p) mc
def lev (a b : Str) (mc : Int) : Int := if a == b then 0 else
  let p := preLoop a b (a.length + 1) 0
  lev1 (Txt.slice a (some p) none) (Txt.slice b (some p) none) mc

theorem slice_from_ne {x : Str} {i : Int} (h : ((Txt.slice x (some i) none).length : Int) ≠ 0) : i < x.length := by
  by_cases hi : i < x.length
  · exact hi
  · rw [slice_beyond (by omega)] at h
    exact absurd rfl h
theorem cut_le (x : Str) (p : Int) : (cut x p).length ≤ x.length := by unfold cut; split <;> exact Txt.slice_le _ _ _
theorem slice_to_short {x : Str} {k : Int} (hk : k < 0) (h : (x.length : Int) ≤ -k) : (Txt.slice x none (some k)).length = 0 := by
  have e : Builtin.Str.strSliceIndices none (some k) 1 x.length = [] := by
    unfold Builtin.Str.strSliceIndices sliceRange
    simp only [show (1 : Int) > 0 by decide, if_true, hk]
    have : max 0 (min (k + (x.length : Int)) x.length) = 0 := by omega
    rw [this]
    rfl
  unfold Txt.slice
  rw [e]
  split
  · rename_i hc
    simp at hc
    exact hc.symm
  · rfl
theorem cut_ne {x : Str} {p : Int} (hp : p ≤ 0) (h : ((cut x p).length : Int) ≠ 0) : -(x.length : Int) ≤ p - 1 := by
  unfold cut at h
  by_cases h0 : p = 0
  · subst h0
    have := Txt.slice_le x none none
    simp at h
    omega
  · have hb : (p != 0) = true := by simpa using h0
    rw [if_pos hb] at h
    by_cases hx : (x.length : Int) ≤ -p
    · exact absurd (by rw [slice_to_short (by omega) hx]; rfl) h
    · omega
theorem preLoop_step {a b : Str} {n : Nat} {p : Int} (h : preTest a b p = true) : preLoop a b (n + 1) p = preLoop a b n (p + 1) := by show (if preTest a b p then _ else _) = _; rw [if_pos h]
theorem preLoop_stop {a b : Str} {n : Nat} {p : Int} (h : preTest a b p = false) : preLoop a b n p = p := by
  cases n with
  | zero => rfl
  | succ n => show (if preTest a b p then _ else _) = _; rw [if_neg (by simp [h])]
theorem postLoop_step {a b : Str} {n : Nat} {p : Int} (h : postTest a b p = true) : postLoop a b (n + 1) p = postLoop a b n (p - 1) := by show (if postTest a b p then _ else _) = _; rw [if_pos h]
theorem postLoop_stop {a b : Str} {n : Nat} {p : Int} (h : postTest a b p = false) : postLoop a b n p = p := by
  cases n with
  | zero => rfl
  | succ n => show (if postTest a b p then _ else _) = _; rw [if_neg (by simp [h])]
theorem inner_len (a c : Str) (n : Nat) (x : IS) : (inner a c n x).row.length = x.row.length := by
  induction n with
  | zero => rfl
  | succ n ih => show ((inner a c n x).row.set _ _).length = _; rw [List.length_set]; exact ih
theorem row0_len (n : Nat) : (row0 n).length = n := by simp [row0]

structure Aok (n : Nat) (A : Around) : Prop where
  hd : A.handled = none
  dp : A.depth + n < recursionLimit
theorem Aok.deeper {n : Nat} {A : Around} (h : Aok (n + 1) A) (env : Env) : Aok n (A.deeper env) := ⟨h.hd, by show A.depth + 1 + n < _; have := h.dp; omega⟩
theorem Aok.room {n : Nat} {A : Around} (h : Aok n A) : A.depth < recursionLimit := by have := h.dp; omega
/-! ### lines -/
set_option hygiene false in
local macro_rules | `(tactic| k_extra "k") => `(tactic| (intro t s' k; replace C := Cx.step C k; clear k))
set_option hygiene false in
local macro_rules | `(tactic| k_extra "ks") => `(tactic| (intro s' k; replace C := Cx.step C k; clear k))
local macro_rules | `(tactic| k_extra "lkm") => `(tactic| ((with_reducible show Lk _ _ (List.cons _ _)); first | with_reducible exact Lk.here | exact Lk.there (by k_extra "lkm")))
set_option hygiene false in
local macro_rules | `(tactic| k_extra "name") => `(tactic| first
  | with_reducible refine e_name C (lk_eq (by k_extra "lkm") (by kernel_rfl)) ?_ (by kernel_rfl)
  | with_reducible refine e_glob C (lk_eq (by k_extra "lkm") (by kernel_rfl)) (by kernel_rfl) (by kernel_rfl) (by kernel_rfl) ?_ (by kernel_rfl))
set_option hygiene false in
local macro_rules | `(tactic| k_extra "e1") => `(tactic| first
  | ((with_reducible show wpAny _ _ (eval (Expr.Name _ _) _) _ _ _); k_extra "name")
  | (with_reducible refine e_int ?_; k_extra "k")
  | (with_reducible refine e_str ?_; k_extra "k")
  | with_reducible refine wpAny_Constant_none ?_
  | with_reducible refine wpAny_Constant_bool ?_
  | with_reducible refine wpAny_BinOp ?_
  | with_reducible refine wpAny_UnaryOp ?_
  | with_reducible refine wpAny_Compare1 ?_
  | with_reducible refine wpAny_isTrue_Compare1 ?_
  | with_reducible refine wpAny_isTrue_Not ?_
  | with_reducible refine wpAny_isTrue_BoolOp ?_
  | with_reducible refine e_andC ?_
  | with_reducible refine e_orC ?_
  | with_reducible refine wpAny_allTrue_And_nil ?_
  | with_reducible refine wpAny_allTrue_Or_nil ?_
  | with_reducible refine wpAny_truthy_bool ?_
  | with_reducible refine t_int ?_
  | (with_reducible refine o_add ?_; k_extra "k")
  | (with_reducible refine o_sub ?_; k_extra "k")
  | (with_reducible refine o_and ?_; k_extra "k")
  | (with_reducible refine o_neg ?_; k_extra "k")
  | (with_reducible refine o_iadd ?_; k_extra "k")
  | (with_reducible refine o_isub ?_; k_extra "k")
  | (with_reducible refine o_ixor ?_; k_extra "k")
  | (with_reducible refine o_mod (by decide) ?_; k_extra "k")
  | (with_reducible refine o_div (by decide) (by decide) ?_; k_extra "k")
  | with_reducible refine o_strEq ?_
  | with_reducible refine PyProof.Rows.eq_int ?_
  | with_reducible refine PyProof.Rows.ne_int ?_
  | with_reducible refine PyProof.Rows.lt_int ?_
  | with_reducible refine PyProof.Rows.gt_int ?_
  | with_reducible refine wpAny_Call_NameR ?_
  | with_reducible refine Call_method0 (by kernel_rfl) (by kernel_rfl) ?_
  | with_reducible refine Call_method1 (by kernel_rfl) (by kernel_rfl) (by kernel_rfl) ?_
  | with_reducible refine Call_method2 (by kernel_rfl) (by kernel_rfl) (by kernel_rfl) ?_
  | with_reducible refine Subscript_Slice ?_ (fun _ _ => by kernel_rfl)
  | with_reducible refine wpAny_Slice ?_
  | with_reducible refine PyProof.Rows.Subscript_ ?_
  | with_reducible refine wpAny_items_cons ?_ (by kernel_rfl)
  | with_reducible refine wpAny_items_nil ?_
  | with_reducible refine evalPart_none_step ?_
  | with_reducible refine evalPart_some_step ?_
  | with_reducible refine wpAny_isTrue_value ?_ (by kernel_rfl))
local macro_rules | `(tactic| k_extra "e") => `(tactic| repeat k_extra "e1")
set_option hygiene false in
local macro_rules | `(tactic| k_extra "asl") => `(tactic| refine wpAny_execs_cons (x_assign F (.inl (by kernel_rfl)) ?_ (by kernel_rfl)))
set_option hygiene false in
local macro_rules | `(tactic| k_extra "asc") => `(tactic| refine wpAny_execs_cons (x_assign F (.inr ⟨by kernel_rfl, by kernel_rfl⟩) ?_ (by kernel_rfl)))
set_option hygiene false in
local macro_rules | `(tactic| k_extra "set") => `(tactic| (refine ⟨C.k, ?_⟩; intro s2 F2 kl2; clear kl2 C F; have F := F2; clear F2; have C := F.cx))
set_option hygiene false in
local macro_rules | `(tactic| k_extra "fn") => `(tactic| (have K0 := C.k; replace C := C.anew))
set_option hygiene false in
local macro_rules | `(tactic| k_extra "nf") => `(tactic| (refine ⟨C.k, ?_⟩; replace C := C.rebase K0; clear K0))
local macro_rules | `(tactic| k_extra "lkv") => `(tactic| ((with_reducible show Lk _ _ (List.cons _ _)); first | ((with_reducible refine Lk.same ?_); first | rfl | fail "lkv") | exact Lk.there (by k_extra "lkv")))
local macro_rules | `(tactic| k_extra "wk") => `(tactic| first | exact lk_nil | exact lk_cons (lk_eq (by k_extra "lkv") (by kernel_rfl)) (by k_extra "wk"))

local macro_rules | `(tactic| k_extra "cap") => `(tactic| first | exact trivial | exact ⟨⟨by kernel_rfl, by kernel_rfl, by kernel_rfl⟩, by k_extra "cap"⟩)

end Mine

namespace Mine
/-! ### lines -/
set_option hygiene false in
local macro_rules | `(tactic| k_extra "k") => `(tactic| (intro t s' k; replace C := Cx.step C k; clear k))
set_option hygiene false in
local macro_rules | `(tactic| k_extra "ks") => `(tactic| (intro s' k; replace C := Cx.step C k; clear k))
local macro_rules | `(tactic| k_extra "lkm") => `(tactic| ((with_reducible show Lk _ _ (List.cons _ _)); first | with_reducible exact Lk.here | exact Lk.there (by k_extra "lkm")))
set_option hygiene false in
local macro_rules | `(tactic| k_extra "name") => `(tactic| first
  | with_reducible refine e_name C (lk_eq (by k_extra "lkm") (by kernel_rfl)) ?_ (by kernel_rfl)
  | with_reducible refine e_glob C (lk_eq (by k_extra "lkm") (by kernel_rfl)) (by kernel_rfl) (by kernel_rfl) (by kernel_rfl) ?_ (by kernel_rfl))
set_option hygiene false in
local macro_rules | `(tactic| k_extra "e1") => `(tactic| first
  | ((with_reducible show wpAny _ _ (eval (Expr.Name _ _) _) _ _ _); k_extra "name")
  | (with_reducible refine e_int ?_; k_extra "k")
  | (with_reducible refine e_str ?_; k_extra "k")
  | with_reducible refine wpAny_Constant_none ?_
  | with_reducible refine wpAny_Constant_bool ?_
  | with_reducible refine wpAny_BinOp ?_
  | with_reducible refine wpAny_UnaryOp ?_
  | with_reducible refine wpAny_Compare1 ?_
  | with_reducible refine wpAny_isTrue_Compare1 ?_
  | with_reducible refine wpAny_isTrue_Not ?_
  | with_reducible refine wpAny_isTrue_BoolOp ?_
  | with_reducible refine e_andC ?_
  | with_reducible refine e_orC ?_
  | with_reducible refine wpAny_allTrue_And_nil ?_
  | with_reducible refine wpAny_allTrue_Or_nil ?_
  | with_reducible refine wpAny_truthy_bool ?_
  | with_reducible refine t_int ?_
  | (with_reducible refine o_add ?_; k_extra "k")
  | (with_reducible refine o_sub ?_; k_extra "k")
  | (with_reducible refine o_and ?_; k_extra "k")
  | (with_reducible refine o_neg ?_; k_extra "k")
  | (with_reducible refine o_iadd ?_; k_extra "k")
  | (with_reducible refine o_isub ?_; k_extra "k")
  | (with_reducible refine o_ixor ?_; k_extra "k")
  | (with_reducible refine o_mod (by decide) ?_; k_extra "k")
  | (with_reducible refine o_div (by decide) (by decide) ?_; k_extra "k")
  | with_reducible refine o_strEq ?_
  | with_reducible refine PyProof.Rows.eq_int ?_
  | with_reducible refine PyProof.Rows.ne_int ?_
  | with_reducible refine PyProof.Rows.lt_int ?_
  | with_reducible refine PyProof.Rows.gt_int ?_
  | with_reducible refine wpAny_Call_NameR ?_
  | with_reducible refine Call_method0 (by kernel_rfl) (by kernel_rfl) ?_
  | with_reducible refine Call_method1 (by kernel_rfl) (by kernel_rfl) (by kernel_rfl) ?_
  | with_reducible refine Call_method2 (by kernel_rfl) (by kernel_rfl) (by kernel_rfl) ?_
  | with_reducible refine Subscript_Slice ?_ (fun _ _ => by kernel_rfl)
  | with_reducible refine wpAny_Slice ?_
  | with_reducible refine PyProof.Rows.Subscript_ ?_
  | with_reducible refine wpAny_items_cons ?_ (by kernel_rfl)
  | with_reducible refine wpAny_items_nil ?_
  | with_reducible refine evalPart_none_step ?_
  | with_reducible refine evalPart_some_step ?_
  | with_reducible refine wpAny_isTrue_value ?_ (by kernel_rfl))
local macro_rules | `(tactic| k_extra "e") => `(tactic| repeat k_extra "e1")
set_option hygiene false in
local macro_rules | `(tactic| k_extra "asl") => `(tactic| refine wpAny_execs_cons (x_assign F (.inl (by kernel_rfl)) ?_ (by kernel_rfl)))
set_option hygiene false in
local macro_rules | `(tactic| k_extra "asc") => `(tactic| refine wpAny_execs_cons (x_assign F (.inr ⟨by kernel_rfl, by kernel_rfl⟩) ?_ (by kernel_rfl)))
set_option hygiene false in
local macro_rules | `(tactic| k_extra "set") => `(tactic| (refine ⟨C.k, ?_⟩; intro s2 F2 kl2; clear kl2 C F; have F := F2; clear F2; have C := F.cx))
set_option hygiene false in
local macro_rules | `(tactic| k_extra "fn") => `(tactic| (have K0 := C.k; replace C := C.anew))
set_option hygiene false in
local macro_rules | `(tactic| k_extra "nf") => `(tactic| (refine ⟨C.k, ?_⟩; replace C := C.rebase K0; clear K0))
local macro_rules | `(tactic| k_extra "lkv") => `(tactic| ((with_reducible show Lk _ _ (List.cons _ _)); first | ((with_reducible refine Lk.same ?_); first | rfl | fail "lkv") | exact Lk.there (by k_extra "lkv")))
local macro_rules | `(tactic| k_extra "wk") => `(tactic| first | exact lk_nil | exact lk_cons (lk_eq (by k_extra "lkv") (by kernel_rfl)) (by k_extra "wk"))

local macro_rules | `(tactic| k_extra "cap") => `(tactic| first | exact trivial | exact ⟨⟨by kernel_rfl, by kernel_rfl, by kernel_rfl⟩, by k_extra "cap"⟩)
theorem sz {x : Str} {n : Nat} (h : x.length ≤ n) (hn : n ≤ 100) : x.length ≤ sizeLine := by rw [sizeLine_eq]; omega
section
variable {prog : Program} {w : World} {A : Around} {s₀ s₁ s s' : Shared} {env : Env} {l : List (Str × Value)} {os : List (Addr × String × List Value)} {E : Value → Shared → Prop}
theorem set_list {i : Nat} {a : Addr} {items : List Value} {k : Int} {t : Tok} {v : Value} {Q : Unit → Shared → Prop} (F : FS s₀ s₁ env l os s) (hi : os[i]? = some (a, "list", items)) (hf : s₀.heap.get? a = none) (h0 : 0 ≤ k) (h1 : k < items.length) (h2 : items.length ≤ 1000000)
    (h : ∀ s', FS s₀ s₁ env l (os.set i (a, "list", items.set k.toNat v)) s' → Q () s') : wpAny (model prog w) A (setItem (.ref a) (.int k t) v) Q E s := by
  refine wpAny_setItem_list (F.cx.list (List.mem_of_getElem? hi)) h0 (by omega) (by simpa using h1) fun h' hl hs => ?_
  obtain ⟨o, ho, hc, n, hd⟩ := hl
  exact h { s with heap := h', toks := s.toks } (F.upd hi rfl hf hs ⟨o, n, ho, hc, by simpa using hd, fun e => absurd e (by decide)⟩)
end
section
variable {prog : Program} {w : World} {A : Around} {s₀ s₁ s : Shared} {q : Str} {cd : Value} {L : Addr}
abbrev LB (k : Nat) : List Stmt := (fBody (topSt 5)).drop k
def innerBody : List Stmt := match (fBody (topSt 5)).getD 15 (.Pass default) with
  | .For _ _ body _ _ => (match body.getD 3 (.Pass default) with | .For _ _ b _ _ => b | _ => [])
  | _ => []
abbrev lIn (x : IS) (c a b : Str) (mc : Int) (ar : Addr) (t1 t2 t3 tc ta tb tm : Tok) : List (Str × Value) :=
  [("minimum", .int x.minimum t1), ("result", .int x.result t2), ("distance", .int x.distance t3), ("bchar", .str c tc), ("row", .ref ar), ("a", .str a ta), ("b", .str b tb), ("max_cost", .int mc tm)]
set_option maxHeartbeats 1000000 in
theorem lev_turn {a b c : Str} {ta tb tc tm : Tok} {mc : Int} {x : IS} {j : Nat} {ar : Addr} {rv : List Value} {t1 t2 t3 t : Tok} {Q : Flow → Shared → Prop} (hA : Aok 1 A) (hj : j < a.length) (ha : a.length ≤ 40) (hc : c.length ≤ 40)
    (F : FS s₀ s₁ (fenv (topSt 5) q cd L 28) (("index", .int (j : Int) t) :: lIn x c a b mc ar t1 t2 t3 tc ta tb tm) [(ar, "list", rv)] s)
    (har : s₀.heap.get? ar = none) (hrv : Ints rv x.row) (hrl : x.row.length = a.length)
    (h : ∀ rv' t1 t2 t3 s', Ints rv' (istep a c j x).row → FS s₀ s₁ (fenv (topSt 5) q cd L 28) (lIn (istep a c j x) c a b mc ar t1 t2 t3 tc ta tb tm) [(ar, "list", rv')] s' → Q .next s') :
    wpAny (model prog w) A (execs innerBody (fenv (topSt 5) q cd L 28)) Q NoE s := by
  have C := F.cx
  k_extra "asl"
  k_extra "e"
  k_extra "fn"
  refine c_f2 C.base.fSub (by kernel_rfl) ?_
  k_extra "e"
  refine st_str (by omega) (by omega) (sz ha (by omega)) (by kernel_rfl) ?_
  k_extra "k"
  k_extra "nf"
  refine sub_call C.base hA.room (by omega) (by rw [len_item]; omega) ?_
  k_extra "k"
  k_extra "e"
  k_extra "set"
  -- distance = row[index]
  obtain ⟨tv, hv⟩ := hrv.get (k := (j : Int)) (by omega) (by omega)
  k_extra "asl"
  k_extra "e"
  refine st_list (C.list (.head _)) (by omega) (by omega) hv (by kernel_rfl) ?_
  k_extra "set"
  -- insert_delete
  k_extra "asl"
  k_extra "e"
  refine c_b2 (by kernel_rfl) ?_
  k_extra "e"
  refine c_min hA.hd ?_
  k_extra "k"
  k_extra "e"
  k_extra "set"
  -- result
  k_extra "asl"
  k_extra "e"
  refine c_b2 (by kernel_rfl) ?_
  k_extra "e"
  refine c_min hA.hd ?_
  k_extra "k"
  k_extra "set"
  -- row[index] = result
  refine wpAny_execs_cons (wpAny_Assign_Subscript ?_ (by kernel_rfl))
  k_extra "e"
  refine set_list (i := 0) (F.grow C.k) rfl har (by omega) (by rw [hrv.1]; omega) (by rw [hrv.1]; omega) ?_
  intro s3 F3
  clear C F
  have F := F3
  clear F3
  have C := F.cx
  -- the least
  refine wpAny_execs_cons (x_if ?_)
  k_extra "e"
  have hrow := hrv.set j (istep a c j x).result
  refine ⟨fun e => ?_, fun e => ?_⟩
  · k_extra "asl"
    k_extra "e"
    k_extra "set"
    refine wpAny_execs_nil (wpAny_execs_nil ?_)
    have em : (istep a c j x).minimum = (istep a c j x).result := by
      show (if _ < x.minimum then _ else _) = _
      exact if_pos (of_decide_eq_true e)
    refine h _ t t tv _ (hrow t) ?_
    unfold lIn
    rw [em]
    exact F.weaken (by k_extra "wk")
  · refine wpAny_execs_nil (wpAny_execs_nil ?_)
    have em : (istep a c j x).minimum = x.minimum := by
      show (if _ < x.minimum then _ else _) = _
      exact if_neg (of_decide_eq_false e)
    refine h _ t1 t tv _ (hrow t) ?_
    unfold lIn
    rw [em]
    exact F.weaken (by k_extra "wk")
end
end Mine

namespace Mine
/-! ### lines -/
set_option hygiene false in
local macro_rules | `(tactic| k_extra "k") => `(tactic| (intro t s' k; replace C := Cx.step C k; clear k))
set_option hygiene false in
local macro_rules | `(tactic| k_extra "ks") => `(tactic| (intro s' k; replace C := Cx.step C k; clear k))
local macro_rules | `(tactic| k_extra "lkm") => `(tactic| ((with_reducible show Lk _ _ (List.cons _ _)); first | with_reducible exact Lk.here | exact Lk.there (by k_extra "lkm")))
set_option hygiene false in
local macro_rules | `(tactic| k_extra "name") => `(tactic| first
  | with_reducible refine e_name C (lk_eq (by k_extra "lkm") (by kernel_rfl)) ?_ (by kernel_rfl)
  | with_reducible refine e_glob C (lk_eq (by k_extra "lkm") (by kernel_rfl)) (by kernel_rfl) (by kernel_rfl) (by kernel_rfl) ?_ (by kernel_rfl))
set_option hygiene false in
local macro_rules | `(tactic| k_extra "e1") => `(tactic| first
  | ((with_reducible show wpAny _ _ (eval (Expr.Name _ _) _) _ _ _); k_extra "name")
  | (with_reducible refine e_int ?_; k_extra "k")
  | (with_reducible refine e_str ?_; k_extra "k")
  | with_reducible refine wpAny_Constant_none ?_
  | with_reducible refine wpAny_Constant_bool ?_
  | with_reducible refine wpAny_BinOp ?_
  | with_reducible refine wpAny_UnaryOp ?_
  | with_reducible refine wpAny_Compare1 ?_
  | with_reducible refine wpAny_isTrue_Compare1 ?_
  | with_reducible refine wpAny_isTrue_Not ?_
  | with_reducible refine wpAny_isTrue_BoolOp ?_
  | with_reducible refine e_andC ?_
  | with_reducible refine e_orC ?_
  | with_reducible refine wpAny_allTrue_And_nil ?_
  | with_reducible refine wpAny_allTrue_Or_nil ?_
  | with_reducible refine wpAny_truthy_bool ?_
  | with_reducible refine t_int ?_
  | (with_reducible refine o_add ?_; k_extra "k")
  | (with_reducible refine o_sub ?_; k_extra "k")
  | (with_reducible refine o_and ?_; k_extra "k")
  | (with_reducible refine o_neg ?_; k_extra "k")
  | (with_reducible refine o_iadd ?_; k_extra "k")
  | (with_reducible refine o_isub ?_; k_extra "k")
  | (with_reducible refine o_ixor ?_; k_extra "k")
  | (with_reducible refine o_mod (by decide) ?_; k_extra "k")
  | (with_reducible refine o_div (by decide) (by decide) ?_; k_extra "k")
  | with_reducible refine o_strEq ?_
  | with_reducible refine PyProof.Rows.eq_int ?_
  | with_reducible refine PyProof.Rows.ne_int ?_
  | with_reducible refine PyProof.Rows.lt_int ?_
  | with_reducible refine PyProof.Rows.gt_int ?_
  | with_reducible refine wpAny_Call_NameR ?_
  | with_reducible refine Call_method0 (by kernel_rfl) (by kernel_rfl) ?_
  | with_reducible refine Call_method1 (by kernel_rfl) (by kernel_rfl) (by kernel_rfl) ?_
  | with_reducible refine Call_method2 (by kernel_rfl) (by kernel_rfl) (by kernel_rfl) ?_
  | with_reducible refine Subscript_Slice ?_ (fun _ _ => by kernel_rfl)
  | with_reducible refine wpAny_Slice ?_
  | with_reducible refine PyProof.Rows.Subscript_ ?_
  | with_reducible refine wpAny_items_cons ?_ (by kernel_rfl)
  | with_reducible refine wpAny_items_nil ?_
  | with_reducible refine evalPart_none_step ?_
  | with_reducible refine evalPart_some_step ?_
  | with_reducible refine wpAny_isTrue_value ?_ (by kernel_rfl))
local macro_rules | `(tactic| k_extra "e") => `(tactic| repeat k_extra "e1")
set_option hygiene false in
local macro_rules | `(tactic| k_extra "asl") => `(tactic| refine wpAny_execs_cons (x_assign F (.inl (by kernel_rfl)) ?_ (by kernel_rfl)))
set_option hygiene false in
local macro_rules | `(tactic| k_extra "asc") => `(tactic| refine wpAny_execs_cons (x_assign F (.inr ⟨by kernel_rfl, by kernel_rfl⟩) ?_ (by kernel_rfl)))
set_option hygiene false in
local macro_rules | `(tactic| k_extra "set") => `(tactic| (refine ⟨C.k, ?_⟩; intro s2 F2 kl2; clear kl2 C F; have F := F2; clear F2; have C := F.cx))
set_option hygiene false in
local macro_rules | `(tactic| k_extra "fn") => `(tactic| (have K0 := C.k; replace C := C.anew))
set_option hygiene false in
local macro_rules | `(tactic| k_extra "nf") => `(tactic| (refine ⟨C.k, ?_⟩; replace C := C.rebase K0; clear K0))
local macro_rules | `(tactic| k_extra "lkv") => `(tactic| ((with_reducible show Lk _ _ (List.cons _ _)); first | ((with_reducible refine Lk.same ?_); first | rfl | fail "lkv") | exact Lk.there (by k_extra "lkv")))
local macro_rules | `(tactic| k_extra "wk") => `(tactic| first | exact lk_nil | exact lk_cons (lk_eq (by k_extra "lkv") (by kernel_rfl)) (by k_extra "wk"))

local macro_rules | `(tactic| k_extra "cap") => `(tactic| first | exact trivial | exact ⟨⟨by kernel_rfl, by kernel_rfl, by kernel_rfl⟩, by k_extra "cap"⟩)
section
variable {prog : Program} {w : World} {A : Around} {s₀ s₁ s : Shared} {q : Str} {cd : Value} {L : Addr}
def outerBody : List Stmt := match (fBody (topSt 5)).getD 15 (.Pass default) with
  | .For _ _ body _ _ => body
  | _ => []
theorem outer_succ {a b : Str} {mc : Int} {n i : Nat} {row : List Int} {r : Int} (hn : i < n) : outer a b mc (n - i) i row r =
    if (inner a (Txt.item b (i : Int)) a.length (istart row i)).minimum > mc then mc + 1 else outer a b mc (n - (i + 1)) (i + 1) (inner a (Txt.item b (i : Int)) a.length (istart row i)).row (inner a (Txt.item b (i : Int)) a.length (istart row i)).result := by
  have : n - i = (n - (i + 1)) + 1 := by omega
  rw [this]; rfl
set_option maxHeartbeats 1000000 in
theorem lev_outer {a b : Str} {ta tb : Tok} {mc : Int} {tm : Tok} {row : List Int} {r : Int} {i : Nat} {ar : Addr} {rv : List Value} {t1 t : Tok} {Q : Flow → Shared → Prop} (hA : Aok 1 A) (hi : i < b.length) (ha : a.length ≤ 40) (hb : b.length ≤ 40)
    (F : FS s₀ s₁ (fenv (topSt 5) q cd L 28) [("bindex", .int (i : Int) t), ("result", .int r t1), ("row", .ref ar), ("b", .str b tb), ("a", .str a ta), ("max_cost", .int mc tm)] [(ar, "list", rv)] s)
    (har : s₀.heap.get? ar = none) (hrv : Ints rv row) (hrl : row.length = a.length)
    (h1 : ¬ (inner a (Txt.item b (i : Int)) a.length (istart row i)).minimum > mc → ∀ rv' t1 s', Ints rv' (inner a (Txt.item b (i : Int)) a.length (istart row i)).row → FS s₀ s₁ (fenv (topSt 5) q cd L 28) [("result", .int (inner a (Txt.item b (i : Int)) a.length (istart row i)).result t1), ("row", .ref ar), ("b", .str b tb), ("a", .str a ta), ("max_cost", .int mc tm)] [(ar, "list", rv')] s' → Q .next s')
    (h2 : (inner a (Txt.item b (i : Int)) a.length (istart row i)).minimum > mc → ∀ t s', Keeps s₀ s' → Q (.ret (.int (mc + 1) t)) s') :
    wpAny (model prog w) A (execs outerBody (fenv (topSt 5) q cd L 28)) Q NoE s := by
  have C := F.cx
  -- bchar = b[bindex]
  k_extra "asl"
  k_extra "e"
  refine st_str (by omega) (by omega) (sz hb (by omega)) (by kernel_rfl) ?_
  intro tc s' k; replace C := C.step k; clear k
  k_extra "set"
  -- distance = result = bindex * _MOVE_COST
  refine wpAny_execs_cons (wpAny_Assign_two ?_ (by kernel_rfl) (by kernel_rfl))
  k_extra "e"
  refine o_mul (mulR (by decide) (by decide)) ?_
  intro tr s' k; replace C := C.step k; clear k
  refine wpAny_assign_Name (storeF (F.grow C.k) (.inl (by kernel_rfl)) fun s3 F3 kl3 => ?_)
  refine wpAny_assign_Name (storeF F3 (.inl (by kernel_rfl)) fun s4 F4 kl4 => ?_)
  clear C F F3
  have F := F4
  clear F4
  have C := F.cx
  -- minimum
  k_extra "asl"
  refine e_int ?_
  intro tn s' k; replace C := C.step k; clear k
  k_extra "set"
  -- the inner loop
  have F' : FS s₀ s₁ (fenv (topSt 5) q cd L 28) (lIn (istart row i) (Txt.item b (i : Int)) a b mc ar tn tr tr tc ta tb tm) [(ar, "list", rv)] s2 := F.weaken (by k_extra "wk")
  refine wpAny_execs_cons (x_forRange a.length (fun j l os => ∃ rv t1 t2 t3, Ints rv (inner a (Txt.item b (i : Int)) j (istart row i)).row ∧ os = [(ar, "list", rv)] ∧
    l = lIn (inner a (Txt.item b (i : Int)) j (istart row i)) (Txt.item b (i : Int)) a b mc ar t1 t2 t3 tc ta tb tm) hA.hd F' (.inl (by kernel_rfl)) (fun _ => by kernel_rfl) ?_ (by omega) ⟨rv, _, _, _, hrv, rfl, rfl⟩ ?_ ?_)
  · k_extra "e"
    refine c_t1 (by kernel_rfl) ?_
    k_extra "e"
    refine c_b1 (by kernel_rfl) ?_
    k_extra "e"
    refine c_lenStr (sz ha (by omega)) ?_
    k_extra "k"
    refine c_range1 ?_
    intro r t u v s' k hr
    exact ⟨r, t, u, v, rfl, kTrans C.k k, hr⟩
  · rintro j l' os' s' t hj ⟨rv', t1, t2, t3, hr', rfl, rfl⟩ F3
    refine lev_turn hA hj ha (by rw [len_item]; omega) F3 har hr' (by rw [inner_len]; exact hrl) ?_
    intro rv3 t4 t5 t6 s4 hr4 F4
    exact ⟨_, _, ⟨rv3, t4, t5, t6, hr4, rfl, rfl⟩, F4⟩
  · rintro l' os' s' ⟨rv', t1, t2, t3, hr', rfl, rfl⟩ F3
    refine wpAny_execs_nil ?_
    clear C F F'
    have F := F3
    clear F3
    have C := F.cx
    refine wpAny_execs_cons (x_if ?_)
    k_extra "e"
    refine ⟨fun e => ?_, fun e => ?_⟩
    · refine wpAny_execs_cons (wpAny_Return_some ?_)
      k_extra "e"
      exact h2 (of_decide_eq_true e) _ _ (kTrans F.keep C.k)
    · refine wpAny_execs_nil (wpAny_execs_nil ?_)
      exact h1 (of_decide_eq_false e) rv' t2 _ hr' (F.weaken (by k_extra "wk"))
end
end Mine

namespace Mine
/-! ### lines -/
set_option hygiene false in
local macro_rules | `(tactic| k_extra "k") => `(tactic| (intro t s' k; replace C := Cx.step C k; clear k))
set_option hygiene false in
local macro_rules | `(tactic| k_extra "ks") => `(tactic| (intro s' k; replace C := Cx.step C k; clear k))
local macro_rules | `(tactic| k_extra "lkm") => `(tactic| ((with_reducible show Lk _ _ (List.cons _ _)); first | with_reducible exact Lk.here | exact Lk.there (by k_extra "lkm")))
set_option hygiene false in
local macro_rules | `(tactic| k_extra "name") => `(tactic| first
  | with_reducible refine e_name C (lk_eq (by k_extra "lkm") (by kernel_rfl)) ?_ (by kernel_rfl)
  | with_reducible refine e_glob C (lk_eq (by k_extra "lkm") (by kernel_rfl)) (by kernel_rfl) (by kernel_rfl) (by kernel_rfl) ?_ (by kernel_rfl))
set_option hygiene false in
local macro_rules | `(tactic| k_extra "e1") => `(tactic| first
  | ((with_reducible show wpAny _ _ (eval (Expr.Name _ _) _) _ _ _); k_extra "name")
  | (with_reducible refine e_int ?_; k_extra "k")
  | (with_reducible refine e_str ?_; k_extra "k")
  | with_reducible refine wpAny_Constant_none ?_
  | with_reducible refine wpAny_Constant_bool ?_
  | with_reducible refine wpAny_BinOp ?_
  | with_reducible refine wpAny_UnaryOp ?_
  | with_reducible refine wpAny_Compare1 ?_
  | with_reducible refine wpAny_isTrue_Compare1 ?_
  | with_reducible refine wpAny_isTrue_Not ?_
  | with_reducible refine wpAny_isTrue_BoolOp ?_
  | with_reducible refine e_andC ?_
  | with_reducible refine e_orC ?_
  | with_reducible refine wpAny_allTrue_And_nil ?_
  | with_reducible refine wpAny_allTrue_Or_nil ?_
  | with_reducible refine wpAny_truthy_bool ?_
  | with_reducible refine t_int ?_
  | (with_reducible refine o_add ?_; k_extra "k")
  | (with_reducible refine o_sub ?_; k_extra "k")
  | (with_reducible refine o_and ?_; k_extra "k")
  | (with_reducible refine o_neg ?_; k_extra "k")
  | (with_reducible refine o_iadd ?_; k_extra "k")
  | (with_reducible refine o_isub ?_; k_extra "k")
  | (with_reducible refine o_ixor ?_; k_extra "k")
  | (with_reducible refine o_mod (by decide) ?_; k_extra "k")
  | (with_reducible refine o_div (by decide) (by decide) ?_; k_extra "k")
  | with_reducible refine o_strEq ?_
  | with_reducible refine PyProof.Rows.eq_int ?_
  | with_reducible refine PyProof.Rows.ne_int ?_
  | with_reducible refine PyProof.Rows.lt_int ?_
  | with_reducible refine PyProof.Rows.gt_int ?_
  | with_reducible refine wpAny_Call_NameR ?_
  | with_reducible refine Call_method0 (by kernel_rfl) (by kernel_rfl) ?_
  | with_reducible refine Call_method1 (by kernel_rfl) (by kernel_rfl) (by kernel_rfl) ?_
  | with_reducible refine Call_method2 (by kernel_rfl) (by kernel_rfl) (by kernel_rfl) ?_
  | with_reducible refine Subscript_Slice ?_ (fun _ _ => by kernel_rfl)
  | with_reducible refine wpAny_Slice ?_
  | with_reducible refine PyProof.Rows.Subscript_ ?_
  | with_reducible refine wpAny_items_cons ?_ (by kernel_rfl)
  | with_reducible refine wpAny_items_nil ?_
  | with_reducible refine evalPart_none_step ?_
  | with_reducible refine evalPart_some_step ?_
  | with_reducible refine wpAny_isTrue_value ?_ (by kernel_rfl))
local macro_rules | `(tactic| k_extra "e") => `(tactic| repeat k_extra "e1")
set_option hygiene false in
local macro_rules | `(tactic| k_extra "asl") => `(tactic| refine wpAny_execs_cons (x_assign F (.inl (by kernel_rfl)) ?_ (by kernel_rfl)))
set_option hygiene false in
local macro_rules | `(tactic| k_extra "asc") => `(tactic| refine wpAny_execs_cons (x_assign F (.inr ⟨by kernel_rfl, by kernel_rfl⟩) ?_ (by kernel_rfl)))
set_option hygiene false in
local macro_rules | `(tactic| k_extra "set") => `(tactic| (refine ⟨C.k, ?_⟩; intro s2 F2 kl2; clear kl2 C F; have F := F2; clear F2; have C := F.cx))
set_option hygiene false in
local macro_rules | `(tactic| k_extra "fn") => `(tactic| (have K0 := C.k; replace C := C.anew))
set_option hygiene false in
local macro_rules | `(tactic| k_extra "nf") => `(tactic| (refine ⟨C.k, ?_⟩; replace C := C.rebase K0; clear K0))
local macro_rules | `(tactic| k_extra "lkv") => `(tactic| ((with_reducible show Lk _ _ (List.cons _ _)); first | ((with_reducible refine Lk.same ?_); first | rfl | fail "lkv") | exact Lk.there (by k_extra "lkv")))
local macro_rules | `(tactic| k_extra "wk") => `(tactic| first | exact lk_nil | exact lk_cons (lk_eq (by k_extra "lkv") (by kernel_rfl)) (by k_extra "wk"))

local macro_rules | `(tactic| k_extra "cap") => `(tactic| first | exact trivial | exact ⟨⟨by kernel_rfl, by kernel_rfl, by kernel_rfl⟩, by k_extra "cap"⟩)
theorem kExt {s : Shared} {h' : Heap} {t : Nat} (he : Heap.ExtBut s.heap.objs.size s.heap h') : Keeps s { s with heap := h', toks := t } :=
  kHeap fun b o e => he b o (Nat.ne_of_lt (Heap.lt_size e)) e
section
variable {prog : Program} {w : World} {A : Around} {s₀ s₁ s : Shared} {q : Str} {cd : Value} {L : Addr}
abbrev lO (r : Int) (a b : Str) (mc : Int) (ar : Addr) (t1 ta tb tm : Tok) : List (Str × Value) := [("result", .int r t1), ("row", .ref ar), ("b", .str b tb), ("a", .str a ta), ("max_cost", .int mc tm)]
set_option maxHeartbeats 1000000 in
theorem lev_s15 {a b : Str} {ta tb tm t1 : Tok} {mc : Int} {ar : Addr} {rv : List Value} {Q : Flow → Shared → Prop} (hA : Aok 1 A) (ha : a.length ≤ 40) (hb : b.length ≤ 40)
    (F : FS s₀ s₁ (fenv (topSt 5) q cd L 28) (lO 0 a b mc ar t1 ta tb tm) [(ar, "list", rv)] s)
    (har : s₀.heap.get? ar = none) (hrv : Ints rv (row0 a.length))
    (h : ∀ t s', Keeps s₀ s' → Q (.ret (.int (outer a b mc b.length 0 (row0 a.length) 0) t)) s') :
    wpAny (model prog w) A (execs (LB 15) (fenv (topSt 5) q cd L 28)) Q NoE s := by
  have C := F.cx
  refine wpAny_execs_cons (x_forRange b.length (fun i l os => ∃ rv row r t1, Ints rv row ∧ row.length = a.length ∧ os = [(ar, "list", rv)] ∧ l = lO r a b mc ar t1 ta tb tm ∧
    outer a b mc b.length 0 (row0 a.length) 0 = outer a b mc (b.length - i) i row r) hA.hd F (.inl (by kernel_rfl)) (fun _ => by kernel_rfl) ?_ (by omega) ⟨rv, row0 a.length, 0, t1, hrv, row0_len _, rfl, rfl, rfl⟩ ?_ ?_)
  · k_extra "e"
    refine c_t1 (by kernel_rfl) ?_
    k_extra "e"
    refine c_b1 (by kernel_rfl) ?_
    k_extra "e"
    refine c_lenStr (sz hb (by omega)) ?_
    k_extra "k"
    refine c_range1 ?_
    intro r t u v s' k hr
    exact ⟨r, t, u, v, rfl, kTrans C.k k, hr⟩
  · rintro i l' os' s' t hi ⟨rv', row, r, t2, hr', hlen, rfl, rfl, hout⟩ F3
    rw [outer_succ hi] at hout
    refine lev_outer hA hi ha hb F3 har hr' hlen (fun hm rv3 t3 s4 hr4 F4 => ?_) (fun hm t3 s4 k4 => ?_)
    · rw [if_neg hm] at hout
      exact ⟨_, _, ⟨rv3, _, _, t3, hr4, by rw [inner_len]; exact hlen, rfl, rfl, hout⟩, F4⟩
    · rw [if_pos hm] at hout
      have := h t3 s4 k4
      rw [hout] at this
      exact this
  · rintro l' os' s' ⟨rv', row, r, t2, hr', hlen, rfl, rfl, hout⟩ F3
    refine wpAny_execs_nil ?_
    clear C F
    have F := F3
    clear F3
    have C := F.cx
    refine wpAny_execs_cons (wpAny_Return_some ?_)
    k_extra "e"
    have e0 : b.length - b.length = 0 := by omega
    rw [e0] at hout
    have := h t2 s' (kTrans F.keep C.k)
    rw [hout] at this
    exact this
theorem row_size (n : Nat) (hn : n ≤ 40) : Builtin.Range.rangeSize 2 (2 * ((n : Int) + 1)) 2 = (n : Int) := by
  unfold Builtin.Range.rangeSize
  simp only [show (2 : Int) > 0 by decide, if_true]
  split <;> omega
theorem row_small (n : Nat) (hn : n ≤ 40) : Builtin.Range.small 2 (2 * ((n : Int) + 1)) 2 = true := by
  have : ∀ n : Nat, n ≤ 40 → Builtin.Range.small 2 (2 * ((n : Int) + 1)) 2 = true := by decide +kernel
  exact this n hn
set_option maxHeartbeats 1000000 in
theorem lev_s12 {a b : Str} {ta tb tm : Tok} {mc : Int} {Q : Flow → Shared → Prop} (hA : Aok 1 A) (ha : a.length ≤ 40) (hb : b.length ≤ 40)
    (F : FS s₀ s₁ (fenv (topSt 5) q cd L 28) [("b", .str b tb), ("a", .str a ta), ("max_cost", .int mc tm)] [] s)
    (h : ∀ t s', Keeps s₀ s' → Q (.ret (.int (lev3 a b mc) t)) s') :
    wpAny (model prog w) A (execs (LB 12) (fenv (topSt 5) q cd L 28)) Q NoE s := by
  have C := F.cx
  refine wpAny_execs_cons (x_if ?_)
  k_extra "e"
  refine c_b1 (by kernel_rfl) ?_
  k_extra "e"
  refine c_lenStr (sz hb (by omega)) ?_
  k_extra "k"
  k_extra "e"
  refine c_b1 (by kernel_rfl) ?_
  k_extra "e"
  refine c_lenStr (sz ha (by omega)) ?_
  k_extra "k"
  k_extra "e"
  refine o_mul (mulR (by decide) (by decide)) ?_
  k_extra "k"
  k_extra "e"
  refine ⟨fun e => ?_, fun e => ?_⟩
  · have el : lev3 a b mc = mc + 1 := if_pos (of_decide_eq_true e)
    refine wpAny_execs_cons (wpAny_Return_some ?_)
    k_extra "e"
    have := h t s' (kTrans F.keep C.k)
    rw [el] at this
    exact this
  have el : lev3 a b mc = outer a b mc b.length 0 (row0 a.length) 0 := if_neg (of_decide_eq_false e)
  rw [el] at h
  clear el e
  refine wpAny_execs_nil ?_
  replace F := F.grow C.k
  replace C := C.anew
  -- row
  k_extra "asl"
  k_extra "e"
  refine c_t1 (by kernel_rfl) ?_
  k_extra "e"
  refine c_t3 (by kernel_rfl) ?_
  k_extra "e"
  refine c_b1 (by kernel_rfl) ?_
  k_extra "e"
  refine c_lenStr (sz ha (by omega)) ?_
  k_extra "k"
  k_extra "e"
  refine o_mul (mulL (by decide) (by decide)) ?_
  k_extra "k"
  k_extra "e"
  refine c_range3 (by decide) (by decide) ?_
  intro r t u v s' k hr
  replace C := C.step k
  clear k
  refine c_listRange hA.hd hr (row_small _ ha) (row_size _ ha) (by omega) ?_
  intro D vs m s' k hD hS hI
  have hD0 := (F.grow C.k).new0 hD
  have hn := (F.grow C.k).notin hD
  refine ⟨kTrans C.k k, ?_⟩
  intro s3 F3 kl3
  have F4 := F3.add (c := "list") hn (kl3.seq hS rfl) rfl rfl (fun e => absurd e (by decide))
  clear C F F3
  have F := F4
  clear F4
  have C := F.cx
  -- result
  k_extra "asl"
  k_extra "e"
  k_extra "set"
  exact lev_s15 hA ha hb (F.weaken (by k_extra "wk")) hD0 hI h
end
end Mine

namespace Mine
/-! ### lines -/
set_option hygiene false in
local macro_rules | `(tactic| k_extra "k") => `(tactic| (intro t s' k; replace C := Cx.step C k; clear k))
set_option hygiene false in
local macro_rules | `(tactic| k_extra "ks") => `(tactic| (intro s' k; replace C := Cx.step C k; clear k))
local macro_rules | `(tactic| k_extra "lkm") => `(tactic| ((with_reducible show Lk _ _ (List.cons _ _)); first | with_reducible exact Lk.here | exact Lk.there (by k_extra "lkm")))
set_option hygiene false in
local macro_rules | `(tactic| k_extra "name") => `(tactic| first
  | with_reducible refine e_name C (lk_eq (by k_extra "lkm") (by kernel_rfl)) ?_ (by kernel_rfl)
  | with_reducible refine e_glob C (lk_eq (by k_extra "lkm") (by kernel_rfl)) (by kernel_rfl) (by kernel_rfl) (by kernel_rfl) ?_ (by kernel_rfl))
set_option hygiene false in
local macro_rules | `(tactic| k_extra "e1") => `(tactic| first
  | ((with_reducible show wpAny _ _ (eval (Expr.Name _ _) _) _ _ _); k_extra "name")
  | (with_reducible refine e_int ?_; k_extra "k")
  | (with_reducible refine e_str ?_; k_extra "k")
  | with_reducible refine wpAny_Constant_none ?_
  | with_reducible refine wpAny_Constant_bool ?_
  | with_reducible refine wpAny_BinOp ?_
  | with_reducible refine wpAny_UnaryOp ?_
  | with_reducible refine wpAny_Compare1 ?_
  | with_reducible refine wpAny_isTrue_Compare1 ?_
  | with_reducible refine wpAny_isTrue_Not ?_
  | with_reducible refine wpAny_isTrue_BoolOp ?_
  | with_reducible refine e_andC ?_
  | with_reducible refine e_orC ?_
  | with_reducible refine wpAny_allTrue_And_nil ?_
  | with_reducible refine wpAny_allTrue_Or_nil ?_
  | with_reducible refine wpAny_truthy_bool ?_
  | with_reducible refine t_int ?_
  | (with_reducible refine o_add ?_; k_extra "k")
  | (with_reducible refine o_sub ?_; k_extra "k")
  | (with_reducible refine o_and ?_; k_extra "k")
  | (with_reducible refine o_neg ?_; k_extra "k")
  | (with_reducible refine o_iadd ?_; k_extra "k")
  | (with_reducible refine o_isub ?_; k_extra "k")
  | (with_reducible refine o_ixor ?_; k_extra "k")
  | (with_reducible refine o_mod (by decide) ?_; k_extra "k")
  | (with_reducible refine o_div (by decide) (by decide) ?_; k_extra "k")
  | with_reducible refine o_strEq ?_
  | with_reducible refine PyProof.Rows.eq_int ?_
  | with_reducible refine PyProof.Rows.ne_int ?_
  | with_reducible refine PyProof.Rows.lt_int ?_
  | with_reducible refine PyProof.Rows.gt_int ?_
  | with_reducible refine wpAny_Call_NameR ?_
  | with_reducible refine Call_method0 (by kernel_rfl) (by kernel_rfl) ?_
  | with_reducible refine Call_method1 (by kernel_rfl) (by kernel_rfl) (by kernel_rfl) ?_
  | with_reducible refine Call_method2 (by kernel_rfl) (by kernel_rfl) (by kernel_rfl) ?_
  | with_reducible refine Subscript_Slice ?_ (fun _ _ => by kernel_rfl)
  | with_reducible refine wpAny_Slice ?_
  | with_reducible refine PyProof.Rows.Subscript_ ?_
  | with_reducible refine wpAny_items_cons ?_ (by kernel_rfl)
  | with_reducible refine wpAny_items_nil ?_
  | with_reducible refine evalPart_none_step ?_
  | with_reducible refine evalPart_some_step ?_
  | with_reducible refine wpAny_isTrue_value ?_ (by kernel_rfl))
local macro_rules | `(tactic| k_extra "e") => `(tactic| repeat k_extra "e1")
set_option hygiene false in
local macro_rules | `(tactic| k_extra "asl") => `(tactic| refine wpAny_execs_cons (x_assign F (.inl (by kernel_rfl)) ?_ (by kernel_rfl)))
set_option hygiene false in
local macro_rules | `(tactic| k_extra "asc") => `(tactic| refine wpAny_execs_cons (x_assign F (.inr ⟨by kernel_rfl, by kernel_rfl⟩) ?_ (by kernel_rfl)))
set_option hygiene false in
local macro_rules | `(tactic| k_extra "set") => `(tactic| (refine ⟨C.k, ?_⟩; intro s2 F2 kl2; clear kl2 C F; have F := F2; clear F2; have C := F.cx))
set_option hygiene false in
local macro_rules | `(tactic| k_extra "fn") => `(tactic| (have K0 := C.k; replace C := C.anew))
set_option hygiene false in
local macro_rules | `(tactic| k_extra "nf") => `(tactic| (refine ⟨C.k, ?_⟩; replace C := C.rebase K0; clear K0))
local macro_rules | `(tactic| k_extra "lkv") => `(tactic| ((with_reducible show Lk _ _ (List.cons _ _)); first | ((with_reducible refine Lk.same ?_); first | rfl | fail "lkv") | exact Lk.there (by k_extra "lkv")))
local macro_rules | `(tactic| k_extra "wk") => `(tactic| first | exact lk_nil | exact lk_cons (lk_eq (by k_extra "lkv") (by kernel_rfl)) (by k_extra "wk"))

local macro_rules | `(tactic| k_extra "cap") => `(tactic| first | exact trivial | exact ⟨⟨by kernel_rfl, by kernel_rfl, by kernel_rfl⟩, by k_extra "cap"⟩)
section
variable {prog : Program} {w : World} {A : Around} {s₀ s₁ s : Shared} {q : Str} {cd : Value} {L : Addr}
theorem of_ne {x : Int} (h : (x != 0) = true) : x ≠ 0 := by simpa using h
theorem of_eq {x : Int} (h : (x != 0) = false) : x = 0 := by simpa using h
set_option maxHeartbeats 1000000 in
theorem lev_s10 {a b : Str} {ta tb tm : Tok} {mc : Int} {Q : Flow → Shared → Prop} (hA : Aok 1 A) (ha : a.length ≤ 40) (hb : b.length ≤ 40)
    (F : FS s₀ s₁ (fenv (topSt 5) q cd L 28) [("b", .str b tb), ("a", .str a ta), ("max_cost", .int mc tm)] [] s)
    (h : ∀ t s', Keeps s₀ s' → Q (.ret (.int (if (b.length : Int) < (a.length : Int) then lev3 b a mc else lev3 a b mc) t)) s') :
    wpAny (model prog w) A (execs (LB 10) (fenv (topSt 5) q cd L 28)) Q NoE s := by
  have C := F.cx
  refine wpAny_execs_cons (x_if ?_)
  k_extra "e"
  refine c_b1 (by kernel_rfl) ?_
  k_extra "e"
  refine c_lenStr (sz ha (by omega)) ?_
  k_extra "k"
  k_extra "e"
  refine ⟨fun e => absurd (of_decide_eq_true e) (by omega), fun e => ?_⟩
  k_extra "e"
  refine c_b1 (by kernel_rfl) ?_
  k_extra "e"
  refine c_lenStr (sz hb (by omega)) ?_
  k_extra "k"
  k_extra "e"
  refine ⟨fun e => absurd (of_decide_eq_true e) (by omega), fun e => ?_⟩
  k_extra "e"
  refine ⟨fun e => (by cases e), fun e => ?_⟩
  refine wpAny_execs_nil ?_
  replace F := F.grow C.k
  replace C := C.anew
  -- the swap
  refine wpAny_execs_cons (x_if ?_)
  k_extra "e"
  refine c_b1 (by kernel_rfl) ?_
  k_extra "e"
  refine c_lenStr (sz hb (by omega)) ?_
  k_extra "k"
  k_extra "e"
  refine c_b1 (by kernel_rfl) ?_
  k_extra "e"
  refine c_lenStr (sz ha (by omega)) ?_
  k_extra "k"
  k_extra "e"
  refine ⟨fun e => ?_, fun e => ?_⟩
  · rw [if_pos (of_decide_eq_true e)] at h
    refine wpAny_execs_cons (Assign_Tuple_swapped (names := ["a", "b"]) ?_ (by kernel_rfl) (by kernel_rfl))
    refine e_tuple ?_
    k_extra "e"
    refine ⟨by show 2 ≤ 1000; omega, fun T s2 k hT ho => ?_⟩
    replace C := C.step k
    clear k
    refine unpack_tup hA.hd (items := [.str b tb, .str a ta]) ⟨_, ho, rfl, _, rfl⟩ rfl ?_
    k_extra "ks"
    refine asg2 (wpAny_bindName (storeF (F.grow C.k) (.inl (by kernel_rfl)) fun s3 F3 kl3 => ?_))
    refine wpAny_bindName (storeF F3 (.inl (by kernel_rfl)) fun s4 F4 kl4 => ?_)
    exact wpAny_execs_nil (lev_s12 hA hb ha (F4.weaken (by k_extra "wk")) h)
  · rw [if_neg (of_decide_eq_false e)] at h
    exact wpAny_execs_nil (lev_s12 hA ha hb (F.grow C.k) h)
end
end Mine

namespace Mine
/-! ### lines -/
set_option hygiene false in
local macro_rules | `(tactic| k_extra "k") => `(tactic| (intro t s' k; replace C := Cx.step C k; clear k))
set_option hygiene false in
local macro_rules | `(tactic| k_extra "ks") => `(tactic| (intro s' k; replace C := Cx.step C k; clear k))
local macro_rules | `(tactic| k_extra "lkm") => `(tactic| ((with_reducible show Lk _ _ (List.cons _ _)); first | with_reducible exact Lk.here | exact Lk.there (by k_extra "lkm")))
set_option hygiene false in
local macro_rules | `(tactic| k_extra "name") => `(tactic| first
  | with_reducible refine e_name C (lk_eq (by k_extra "lkm") (by kernel_rfl)) ?_ (by kernel_rfl)
  | with_reducible refine e_glob C (lk_eq (by k_extra "lkm") (by kernel_rfl)) (by kernel_rfl) (by kernel_rfl) (by kernel_rfl) ?_ (by kernel_rfl))
set_option hygiene false in
local macro_rules | `(tactic| k_extra "e1") => `(tactic| first
  | ((with_reducible show wpAny _ _ (eval (Expr.Name _ _) _) _ _ _); k_extra "name")
  | (with_reducible refine e_int ?_; k_extra "k")
  | (with_reducible refine e_str ?_; k_extra "k")
  | with_reducible refine wpAny_Constant_none ?_
  | with_reducible refine wpAny_Constant_bool ?_
  | with_reducible refine wpAny_BinOp ?_
  | with_reducible refine wpAny_UnaryOp ?_
  | with_reducible refine wpAny_Compare1 ?_
  | with_reducible refine wpAny_isTrue_Compare1 ?_
  | with_reducible refine wpAny_isTrue_Not ?_
  | with_reducible refine wpAny_isTrue_BoolOp ?_
  | with_reducible refine e_andC ?_
  | with_reducible refine e_orC ?_
  | with_reducible refine wpAny_allTrue_And_nil ?_
  | with_reducible refine wpAny_allTrue_Or_nil ?_
  | with_reducible refine wpAny_truthy_bool ?_
  | with_reducible refine t_int ?_
  | (with_reducible refine o_add ?_; k_extra "k")
  | (with_reducible refine o_sub ?_; k_extra "k")
  | (with_reducible refine o_and ?_; k_extra "k")
  | (with_reducible refine o_neg ?_; k_extra "k")
  | (with_reducible refine o_iadd ?_; k_extra "k")
  | (with_reducible refine o_isub ?_; k_extra "k")
  | (with_reducible refine o_ixor ?_; k_extra "k")
  | (with_reducible refine o_mod (by decide) ?_; k_extra "k")
  | (with_reducible refine o_div (by decide) (by decide) ?_; k_extra "k")
  | with_reducible refine o_strEq ?_
  | with_reducible refine PyProof.Rows.eq_int ?_
  | with_reducible refine PyProof.Rows.ne_int ?_
  | with_reducible refine PyProof.Rows.lt_int ?_
  | with_reducible refine PyProof.Rows.gt_int ?_
  | with_reducible refine wpAny_Call_NameR ?_
  | with_reducible refine Call_method0 (by kernel_rfl) (by kernel_rfl) ?_
  | with_reducible refine Call_method1 (by kernel_rfl) (by kernel_rfl) (by kernel_rfl) ?_
  | with_reducible refine Call_method2 (by kernel_rfl) (by kernel_rfl) (by kernel_rfl) ?_
  | with_reducible refine Subscript_Slice ?_ (fun _ _ => by kernel_rfl)
  | with_reducible refine wpAny_Slice ?_
  | with_reducible refine PyProof.Rows.Subscript_ ?_
  | with_reducible refine wpAny_items_cons ?_ (by kernel_rfl)
  | with_reducible refine wpAny_items_nil ?_
  | with_reducible refine evalPart_none_step ?_
  | with_reducible refine evalPart_some_step ?_
  | with_reducible refine wpAny_isTrue_value ?_ (by kernel_rfl))
local macro_rules | `(tactic| k_extra "e") => `(tactic| repeat k_extra "e1")
set_option hygiene false in
local macro_rules | `(tactic| k_extra "asl") => `(tactic| refine wpAny_execs_cons (x_assign F (.inl (by kernel_rfl)) ?_ (by kernel_rfl)))
set_option hygiene false in
local macro_rules | `(tactic| k_extra "asc") => `(tactic| refine wpAny_execs_cons (x_assign F (.inr ⟨by kernel_rfl, by kernel_rfl⟩) ?_ (by kernel_rfl)))
set_option hygiene false in
local macro_rules | `(tactic| k_extra "set") => `(tactic| (refine ⟨C.k, ?_⟩; intro s2 F2 kl2; clear kl2 C F; have F := F2; clear F2; have C := F.cx))
set_option hygiene false in
local macro_rules | `(tactic| k_extra "fn") => `(tactic| (have K0 := C.k; replace C := C.anew))
set_option hygiene false in
local macro_rules | `(tactic| k_extra "nf") => `(tactic| (refine ⟨C.k, ?_⟩; replace C := C.rebase K0; clear K0))
local macro_rules | `(tactic| k_extra "lkv") => `(tactic| ((with_reducible show Lk _ _ (List.cons _ _)); first | ((with_reducible refine Lk.same ?_); first | rfl | fail "lkv") | exact Lk.there (by k_extra "lkv")))
local macro_rules | `(tactic| k_extra "wk") => `(tactic| first | exact lk_nil | exact lk_cons (lk_eq (by k_extra "lkv") (by kernel_rfl)) (by k_extra "wk"))

local macro_rules | `(tactic| k_extra "cap") => `(tactic| first | exact trivial | exact ⟨⟨by kernel_rfl, by kernel_rfl, by kernel_rfl⟩, by k_extra "cap"⟩)
section
variable {prog : Program} {w : World} {A : Around} {s₀ s₁ s : Shared} {q : Str} {cd : Value} {L : Addr}
set_option maxHeartbeats 1000000 in
theorem lev_s9 {a b : Str} {ta tb tm : Tok} {mc : Int} {Q : Flow → Shared → Prop} (hA : Aok 1 A) (ha : a.length ≤ 40) (hb : b.length ≤ 40)
    (F : FS s₀ s₁ (fenv (topSt 5) q cd L 28) [("b", .str b tb), ("a", .str a ta), ("max_cost", .int mc tm)] [] s)
    (h : ∀ t s', Keeps s₀ s' → Q (.ret (.int (lev2 a b mc) t)) s') :
    wpAny (model prog w) A (execs (LB 9) (fenv (topSt 5) q cd L 28)) Q NoE s := by
  have C := F.cx
  have fin : ∀ s', (a.length : Int) = 0 ∨ (b.length : Int) = 0 → Cx s (fenv (topSt 5) q cd L 28) [("b", .str b tb), ("a", .str a ta), ("max_cost", .int mc tm)] [] s' → wpAny (model prog w) A (execs (match (fBody (topSt 5)).getD 9 (.Pass default) with | .If _ body _ _ => body | _ => []) (fenv (topSt 5) q cd L 28)) (fun f s' => match f with | .next => wpAny (model prog w) A (execs (LB 10) (fenv (topSt 5) q cd L 28)) Q NoE s' | f => Q f s') NoE s' := by
    intro s' hz C
    have el : lev2 a b mc = 2 * ((a.length : Int) + (b.length : Int)) := if_pos hz
    refine wpAny_execs_cons (wpAny_Return_some ?_)
    k_extra "e"
    refine c_b1 (by kernel_rfl) ?_
    k_extra "e"
    refine c_lenStr (sz ha (by omega)) ?_
    k_extra "k"
    k_extra "e"
    refine c_b1 (by kernel_rfl) ?_
    k_extra "e"
    refine c_lenStr (sz hb (by omega)) ?_
    k_extra "k"
    k_extra "e"
    refine o_mul (mulL (by decide) (by decide)) ?_
    k_extra "k"
    have := h t s' (kTrans F.keep C.k)
    rw [el] at this
    exact this
  refine wpAny_execs_cons (x_if ?_)
  k_extra "e"
  refine t_str (sz ha (by omega)) ?_
  k_extra "ks"
  refine ⟨fun e => ⟨fun _ => fin _ (.inl (by simpa using e)) C, fun e => (by cases e)⟩, fun e => ?_⟩
  k_extra "e"
  refine t_str (sz hb (by omega)) ?_
  k_extra "ks"
  refine ⟨fun e => ⟨fun _ => fin _ (.inr (by simpa using e)) C, fun e => (by cases e)⟩, fun e2 => ?_⟩
  k_extra "e"
  refine ⟨fun e => (by cases e), fun _ => wpAny_execs_nil ?_⟩
  have el : lev2 a b mc = if (b.length : Int) < (a.length : Int) then lev3 b a mc else lev3 a b mc := if_neg (by
    simp at e e2
    rintro (h | h) <;> omega)
  rw [el] at h
  exact lev_s10 hA ha hb (F.grow C.k) h
set_option maxHeartbeats 1000000 in
theorem lev_cutA {s' : Shared} {l : List (Str × Value)} {os : List (Addr × String × List Value)} {env : Env} {x : Str} {tx tp : Tok} {p : Int} {nx np : Str} {p1 p2 p3 p4 p5 p6 : Pos} {kk : Nat} {Q : Value → Shared → Prop} (hx : x.length ≤ 40) (C : Cx s' env l os s)
    (h1 : l.lookup nx = some (.str x tx)) (h2 : l.lookup np = some (.int p tp)) (d1 : (nx == ("__debug__" : Str)) = false) (d2 : (np == ("__debug__" : Str)) = false) (h : ∀ t s'', Cx s' env l os s'' → Q (.str (cut x p) t) s'') :
    wpAny (model prog w) A (eval (.Subscript (.Name nx p1) (.Slice none (some (.BoolOp .Or [.Name np p2, .Constant .none kk p3] p4)) none p5) p6) env) Q NoE s := by
  refine Subscript_Slice ?_ (fun _ _ => by kernel_rfl)
  refine e_name C h1 ?_ d1
  refine wpAny_Slice (evalPart_none_step (evalPart_some_step (e_or2 (e_name C h2 ?_ d2))))
  refine t_int ⟨fun e => evalPart_none_step (i_ns (sz hx (by omega)) ?_), fun e => wpAny_Constant_none (evalPart_none_step (i_nn (sz hx (by omega)) ?_))⟩
  · intro t s'' k
    have : cut x p = Txt.slice x none (some p) := if_pos e
    rw [← this]
    exact h _ _ (C.step k)
  · intro t s'' k
    have : cut x p = Txt.slice x none none := if_neg (by simp [e])
    rw [← this]
    exact h _ _ (C.step k)
end
end Mine

namespace Mine
/-! ### lines -/
set_option hygiene false in
local macro_rules | `(tactic| k_extra "k") => `(tactic| (intro t s' k; replace C := Cx.step C k; clear k))
set_option hygiene false in
local macro_rules | `(tactic| k_extra "ks") => `(tactic| (intro s' k; replace C := Cx.step C k; clear k))
local macro_rules | `(tactic| k_extra "lkm") => `(tactic| ((with_reducible show Lk _ _ (List.cons _ _)); first | with_reducible exact Lk.here | exact Lk.there (by k_extra "lkm")))
set_option hygiene false in
local macro_rules | `(tactic| k_extra "name") => `(tactic| first
  | with_reducible refine e_name C (lk_eq (by k_extra "lkm") (by kernel_rfl)) ?_ (by kernel_rfl)
  | with_reducible refine e_glob C (lk_eq (by k_extra "lkm") (by kernel_rfl)) (by kernel_rfl) (by kernel_rfl) (by kernel_rfl) ?_ (by kernel_rfl))
set_option hygiene false in
local macro_rules | `(tactic| k_extra "e1") => `(tactic| first
  | ((with_reducible show wpAny _ _ (eval (Expr.Name _ _) _) _ _ _); k_extra "name")
  | (with_reducible refine e_int ?_; k_extra "k")
  | (with_reducible refine e_str ?_; k_extra "k")
  | with_reducible refine wpAny_Constant_none ?_
  | with_reducible refine wpAny_Constant_bool ?_
  | with_reducible refine wpAny_BinOp ?_
  | with_reducible refine wpAny_UnaryOp ?_
  | with_reducible refine wpAny_Compare1 ?_
  | with_reducible refine wpAny_isTrue_Compare1 ?_
  | with_reducible refine wpAny_isTrue_Not ?_
  | with_reducible refine wpAny_isTrue_BoolOp ?_
  | with_reducible refine e_andC ?_
  | with_reducible refine e_orC ?_
  | with_reducible refine wpAny_allTrue_And_nil ?_
  | with_reducible refine wpAny_allTrue_Or_nil ?_
  | with_reducible refine wpAny_truthy_bool ?_
  | with_reducible refine t_int ?_
  | (with_reducible refine o_add ?_; k_extra "k")
  | (with_reducible refine o_sub ?_; k_extra "k")
  | (with_reducible refine o_and ?_; k_extra "k")
  | (with_reducible refine o_neg ?_; k_extra "k")
  | (with_reducible refine o_iadd ?_; k_extra "k")
  | (with_reducible refine o_isub ?_; k_extra "k")
  | (with_reducible refine o_ixor ?_; k_extra "k")
  | (with_reducible refine o_mod (by decide) ?_; k_extra "k")
  | (with_reducible refine o_div (by decide) (by decide) ?_; k_extra "k")
  | with_reducible refine o_strEq ?_
  | with_reducible refine PyProof.Rows.eq_int ?_
  | with_reducible refine PyProof.Rows.ne_int ?_
  | with_reducible refine PyProof.Rows.lt_int ?_
  | with_reducible refine PyProof.Rows.gt_int ?_
  | with_reducible refine wpAny_Call_NameR ?_
  | with_reducible refine Call_method0 (by kernel_rfl) (by kernel_rfl) ?_
  | with_reducible refine Call_method1 (by kernel_rfl) (by kernel_rfl) (by kernel_rfl) ?_
  | with_reducible refine Call_method2 (by kernel_rfl) (by kernel_rfl) (by kernel_rfl) ?_
  | with_reducible refine Subscript_Slice ?_ (fun _ _ => by kernel_rfl)
  | with_reducible refine wpAny_Slice ?_
  | with_reducible refine PyProof.Rows.Subscript_ ?_
  | with_reducible refine wpAny_items_cons ?_ (by kernel_rfl)
  | with_reducible refine wpAny_items_nil ?_
  | with_reducible refine evalPart_none_step ?_
  | with_reducible refine evalPart_some_step ?_
  | with_reducible refine wpAny_isTrue_value ?_ (by kernel_rfl))
local macro_rules | `(tactic| k_extra "e") => `(tactic| repeat k_extra "e1")
set_option hygiene false in
local macro_rules | `(tactic| k_extra "asl") => `(tactic| refine wpAny_execs_cons (x_assign F (.inl (by kernel_rfl)) ?_ (by kernel_rfl)))
set_option hygiene false in
local macro_rules | `(tactic| k_extra "asc") => `(tactic| refine wpAny_execs_cons (x_assign F (.inr ⟨by kernel_rfl, by kernel_rfl⟩) ?_ (by kernel_rfl)))
set_option hygiene false in
local macro_rules | `(tactic| k_extra "set") => `(tactic| (refine ⟨C.k, ?_⟩; intro s2 F2 kl2; clear kl2 C F; have F := F2; clear F2; have C := F.cx))
set_option hygiene false in
local macro_rules | `(tactic| k_extra "fn") => `(tactic| (have K0 := C.k; replace C := C.anew))
set_option hygiene false in
local macro_rules | `(tactic| k_extra "nf") => `(tactic| (refine ⟨C.k, ?_⟩; replace C := C.rebase K0; clear K0))
local macro_rules | `(tactic| k_extra "lkv") => `(tactic| ((with_reducible show Lk _ _ (List.cons _ _)); first | ((with_reducible refine Lk.same ?_); first | rfl | fail "lkv") | exact Lk.there (by k_extra "lkv")))
local macro_rules | `(tactic| k_extra "wk") => `(tactic| first | exact lk_nil | exact lk_cons (lk_eq (by k_extra "lkv") (by kernel_rfl)) (by k_extra "wk"))

local macro_rules | `(tactic| k_extra "cap") => `(tactic| first | exact trivial | exact ⟨⟨by kernel_rfl, by kernel_rfl, by kernel_rfl⟩, by k_extra "cap"⟩)
section
variable {prog : Program} {w : World} {A : Around} {s₀ s₁ s : Shared} {q : Str} {cd : Value} {L : Addr}
abbrev lP (n : Str) (p : Int) (a b : Str) (mc : Int) (tp ta tb tm : Tok) : List (Str × Value) := [(n, .int p tp), ("b", .str b tb), ("a", .str a ta), ("max_cost", .int mc tm)]
set_option maxHeartbeats 1000000 in
theorem lev_s5 {a b : Str} {ta tb tm : Tok} {mc : Int} {Q : Flow → Shared → Prop} (hA : Aok 1 A) (ha : a.length ≤ 40) (hb : b.length ≤ 40)
    (F : FS s₀ s₁ (fenv (topSt 5) q cd L 28) [("b", .str b tb), ("a", .str a ta), ("max_cost", .int mc tm)] [] s)
    (h : ∀ t s', Keeps s₀ s' → Q (.ret (.int (lev1 a b mc) t)) s') :
    wpAny (model prog w) A (execs (LB 5) (fenv (topSt 5) q cd L 28)) Q NoE s := by
  have C := F.cx
  k_extra "asl"
  refine e_int ?_
  intro tp s' k; replace C := C.step k; clear k
  k_extra "set"
  have rest : ∀ p tp s2, postLoop a b (a.length + 1) 0 = p → FS s₀ s₁ (fenv (topSt 5) q cd L 28) (lP "post" p a b mc tp ta tb tm) [] s2 → wpAny (model prog w) A (execs (LB 7) (fenv (topSt 5) q cd L 28)) Q NoE s2 := by
    intro p tp s2 hp F
    have C := F.cx
    k_extra "asl"
    refine lev_cutA ha C (lk_eq (by k_extra "lkm") (by kernel_rfl)) (lk_eq (by k_extra "lkm") (by kernel_rfl)) (by kernel_rfl) (by kernel_rfl) ?_
    intro t1 s3 C3
    clear C
    have C := C3
    clear C3
    k_extra "set"
    k_extra "asl"
    refine lev_cutA hb C (lk_eq (by k_extra "lkm") (by kernel_rfl)) (lk_eq (by k_extra "lkm") (by kernel_rfl)) (by kernel_rfl) (by kernel_rfl) ?_
    intro t2 s3 C3
    clear C
    have C := C3
    clear C3
    k_extra "set"
    refine lev_s9 hA (Nat.le_trans (cut_le a p) ha) (Nat.le_trans (cut_le b p) hb) (F.weaken (by k_extra "wk")) ?_
    subst hp
    exact h
  refine wpAny_execs_cons (x_while (fun n l os => ∃ p tp, l = lP "post" p a b mc tp ta tb tm ∧ os = [] ∧ p ≤ 0 ∧ (n : Int) - p = (a.length : Int) + 1 ∧ postLoop a b (a.length + 1) 0 = postLoop a b n p) (a.length + 1) F ⟨0, tp, rfl, rfl, by omega, by omega, rfl⟩ ?_)
  rintro n l' os' s4 ⟨p, tp', rfl, rfl, hp0, hn, hloop⟩ F4
  clear C F
  have F := F4
  clear F4
  have C := F.cx
  have stop : ∀ s5, postTest a b p = false → Cx s4 (fenv (topSt 5) q cd L 28) (lP "post" p a b mc tp' ta tb tm) [] s5 → wpAny (model prog w) A (execs [] (fenv (topSt 5) q cd L 28)) (fun f s' => match f with | .next => wpAny (model prog w) A (execs (LB 7) (fenv (topSt 5) q cd L 28)) Q NoE s' | f => Q f s') NoE s5 := by
    intro s5 ht C5
    refine wpAny_execs_nil ?_
    refine rest p tp' s5 ?_ (F.grow C5.k)
    rw [hloop]
    exact postLoop_stop ht
  refine wpAny_isTrue_BoolOp (e_andC (wpAny_isTrue_value ?_ (by kernel_rfl)))
  refine lev_cutA ha C (lk_eq (by k_extra "lkm") (by kernel_rfl)) (lk_eq (by k_extra "lkm") (by kernel_rfl)) (by kernel_rfl) (by kernel_rfl) ?_
  intro t1 s5 C5
  clear C
  have C := C5
  clear C5
  refine t_str (sz (Nat.le_trans (cut_le a p) ha) (by omega)) ?_
  k_extra "ks"
  refine ⟨fun e1 => ?_, fun e1 => ⟨fun e => (by cases e), fun _ => stop _ (by unfold postTest; rw [e1]; rfl) C⟩⟩
  refine e_andC (wpAny_isTrue_value ?_ (by kernel_rfl))
  refine lev_cutA hb C (lk_eq (by k_extra "lkm") (by kernel_rfl)) (lk_eq (by k_extra "lkm") (by kernel_rfl)) (by kernel_rfl) (by kernel_rfl) ?_
  intro t1 s5 C5
  clear C
  have C := C5
  clear C5
  refine t_str (sz (Nat.le_trans (cut_le b p) hb) (by omega)) ?_
  k_extra "ks"
  refine ⟨fun e2 => ?_, fun e2 => ⟨fun e => (by cases e), fun _ => stop _ (by unfold postTest; rw [e1, e2]; rfl) C⟩⟩
  have b1 := cut_ne hp0 (of_ne e1)
  have b2 := cut_ne hp0 (of_ne e2)
  refine e_andC ?_
  k_extra "e"
  refine st_str (by omega) (by omega) (sz ha (by omega)) (by kernel_rfl) ?_
  k_extra "k"
  k_extra "e"
  refine st_str (by omega) (by omega) (sz hb (by omega)) (by kernel_rfl) ?_
  k_extra "k"
  k_extra "e"
  refine ⟨fun e3 => ?_, fun e3 => ⟨fun e => (by cases e), fun _ => stop _ (by unfold postTest; rw [e1, e2, e3]; rfl) C⟩⟩
  k_extra "e"
  have ht : postTest a b p = true := by unfold postTest; rw [e1, e2, e3]; rfl
  refine ⟨fun _ => ?_, fun e => (by cases e)⟩
  replace F := F.grow C.k
  replace C := C.anew
  refine wpAny_execs_cons (x_aug F (lk_eq (by k_extra "lkm") (by kernel_rfl)) (.inl (by kernel_rfl)) ?_)
  k_extra "e"
  refine ⟨C.k, fun s6 F6 kl6 => wpAny_execs_nil ?_⟩
  refine ⟨n - 1, lP "post" (p - 1) a b mc t ta tb tm, [], by omega, ⟨p - 1, t, rfl, rfl, by omega, by omega, ?_⟩, F6.weaken (by k_extra "wk")⟩
  have en : n = (n - 1) + 1 := by omega
  rw [hloop, en]
  exact postLoop_step ht
end
end Mine

namespace Mine
/-! ### lines -/
set_option hygiene false in
local macro_rules | `(tactic| k_extra "k") => `(tactic| (intro t s' k; replace C := Cx.step C k; clear k))
set_option hygiene false in
local macro_rules | `(tactic| k_extra "ks") => `(tactic| (intro s' k; replace C := Cx.step C k; clear k))
local macro_rules | `(tactic| k_extra "lkm") => `(tactic| ((with_reducible show Lk _ _ (List.cons _ _)); first | with_reducible exact Lk.here | exact Lk.there (by k_extra "lkm")))
set_option hygiene false in
local macro_rules | `(tactic| k_extra "name") => `(tactic| first
  | with_reducible refine e_name C (lk_eq (by k_extra "lkm") (by kernel_rfl)) ?_ (by kernel_rfl)
  | with_reducible refine e_glob C (lk_eq (by k_extra "lkm") (by kernel_rfl)) (by kernel_rfl) (by kernel_rfl) (by kernel_rfl) ?_ (by kernel_rfl))
set_option hygiene false in
local macro_rules | `(tactic| k_extra "e1") => `(tactic| first
  | ((with_reducible show wpAny _ _ (eval (Expr.Name _ _) _) _ _ _); k_extra "name")
  | (with_reducible refine e_int ?_; k_extra "k")
  | (with_reducible refine e_str ?_; k_extra "k")
  | with_reducible refine wpAny_Constant_none ?_
  | with_reducible refine wpAny_Constant_bool ?_
  | with_reducible refine wpAny_BinOp ?_
  | with_reducible refine wpAny_UnaryOp ?_
  | with_reducible refine wpAny_Compare1 ?_
  | with_reducible refine wpAny_isTrue_Compare1 ?_
  | with_reducible refine wpAny_isTrue_Not ?_
  | with_reducible refine wpAny_isTrue_BoolOp ?_
  | with_reducible refine e_andC ?_
  | with_reducible refine e_orC ?_
  | with_reducible refine wpAny_allTrue_And_nil ?_
  | with_reducible refine wpAny_allTrue_Or_nil ?_
  | with_reducible refine wpAny_truthy_bool ?_
  | with_reducible refine t_int ?_
  | (with_reducible refine o_add ?_; k_extra "k")
  | (with_reducible refine o_sub ?_; k_extra "k")
  | (with_reducible refine o_and ?_; k_extra "k")
  | (with_reducible refine o_neg ?_; k_extra "k")
  | (with_reducible refine o_iadd ?_; k_extra "k")
  | (with_reducible refine o_isub ?_; k_extra "k")
  | (with_reducible refine o_ixor ?_; k_extra "k")
  | (with_reducible refine o_mod (by decide) ?_; k_extra "k")
  | (with_reducible refine o_div (by decide) (by decide) ?_; k_extra "k")
  | with_reducible refine o_strEq ?_
  | with_reducible refine PyProof.Rows.eq_int ?_
  | with_reducible refine PyProof.Rows.ne_int ?_
  | with_reducible refine PyProof.Rows.lt_int ?_
  | with_reducible refine PyProof.Rows.gt_int ?_
  | with_reducible refine wpAny_Call_NameR ?_
  | with_reducible refine Call_method0 (by kernel_rfl) (by kernel_rfl) ?_
  | with_reducible refine Call_method1 (by kernel_rfl) (by kernel_rfl) (by kernel_rfl) ?_
  | with_reducible refine Call_method2 (by kernel_rfl) (by kernel_rfl) (by kernel_rfl) ?_
  | with_reducible refine Subscript_Slice ?_ (fun _ _ => by kernel_rfl)
  | with_reducible refine wpAny_Slice ?_
  | with_reducible refine PyProof.Rows.Subscript_ ?_
  | with_reducible refine wpAny_items_cons ?_ (by kernel_rfl)
  | with_reducible refine wpAny_items_nil ?_
  | with_reducible refine evalPart_none_step ?_
  | with_reducible refine evalPart_some_step ?_
  | with_reducible refine wpAny_isTrue_value ?_ (by kernel_rfl))
local macro_rules | `(tactic| k_extra "e") => `(tactic| repeat k_extra "e1")
set_option hygiene false in
local macro_rules | `(tactic| k_extra "asl") => `(tactic| refine wpAny_execs_cons (x_assign F (.inl (by kernel_rfl)) ?_ (by kernel_rfl)))
set_option hygiene false in
local macro_rules | `(tactic| k_extra "asc") => `(tactic| refine wpAny_execs_cons (x_assign F (.inr ⟨by kernel_rfl, by kernel_rfl⟩) ?_ (by kernel_rfl)))
set_option hygiene false in
local macro_rules | `(tactic| k_extra "set") => `(tactic| (refine ⟨C.k, ?_⟩; intro s2 F2 kl2; clear kl2 C F; have F := F2; clear F2; have C := F.cx))
set_option hygiene false in
local macro_rules | `(tactic| k_extra "fn") => `(tactic| (have K0 := C.k; replace C := C.anew))
set_option hygiene false in
local macro_rules | `(tactic| k_extra "nf") => `(tactic| (refine ⟨C.k, ?_⟩; replace C := C.rebase K0; clear K0))
local macro_rules | `(tactic| k_extra "lkv") => `(tactic| ((with_reducible show Lk _ _ (List.cons _ _)); first | ((with_reducible refine Lk.same ?_); first | rfl | fail "lkv") | exact Lk.there (by k_extra "lkv")))
local macro_rules | `(tactic| k_extra "wk") => `(tactic| first | exact lk_nil | exact lk_cons (lk_eq (by k_extra "lkv") (by kernel_rfl)) (by k_extra "wk"))

local macro_rules | `(tactic| k_extra "cap") => `(tactic| first | exact trivial | exact ⟨⟨by kernel_rfl, by kernel_rfl, by kernel_rfl⟩, by k_extra "cap"⟩)
section
variable {prog : Program} {w : World} {A : Around} {s₀ s₁ s : Shared} {q : Str} {cd : Value} {L : Addr}
set_option maxHeartbeats 1000000 in
theorem lev_s1 {a b : Str} {ta tb tm : Tok} {mc : Int} {Q : Flow → Shared → Prop} (hA : Aok 1 A) (ha : a.length ≤ 40) (hb : b.length ≤ 40)
    (F : FS s₀ s₁ (fenv (topSt 5) q cd L 28) [("b", .str b tb), ("a", .str a ta), ("max_cost", .int mc tm)] [] s)
    (h : ∀ t s', Keeps s₀ s' → Q (.ret (.int (let p := preLoop a b (a.length + 1) 0; lev1 (Txt.slice a (some p) none) (Txt.slice b (some p) none) mc) t)) s') :
    wpAny (model prog w) A (execs (LB 1) (fenv (topSt 5) q cd L 28)) Q NoE s := by
  have C := F.cx
  k_extra "asl"
  refine e_int ?_
  intro tp s' k; replace C := C.step k; clear k
  k_extra "set"
  have rest : ∀ p tp s2, preLoop a b (a.length + 1) 0 = p → FS s₀ s₁ (fenv (topSt 5) q cd L 28) (lP "pre" p a b mc tp ta tb tm) [] s2 → wpAny (model prog w) A (execs (LB 3) (fenv (topSt 5) q cd L 28)) Q NoE s2 := by
    intro p tp s2 hp F
    have C := F.cx
    k_extra "asl"
    k_extra "e"
    refine i_sn (sz ha (by omega)) ?_
    k_extra "k"
    k_extra "set"
    k_extra "asl"
    k_extra "e"
    refine i_sn (sz hb (by omega)) ?_
    k_extra "k"
    k_extra "set"
    refine lev_s5 hA (Nat.le_trans (Txt.slice_le a _ _) ha) (Nat.le_trans (Txt.slice_le b _ _) hb) (F.weaken (by k_extra "wk")) ?_
    subst hp
    exact h
  refine wpAny_execs_cons (x_while (fun n l os => ∃ p tp, l = lP "pre" p a b mc tp ta tb tm ∧ os = [] ∧ 0 ≤ p ∧ (n : Int) + p = (a.length : Int) + 1 ∧ preLoop a b (a.length + 1) 0 = preLoop a b n p) (a.length + 1) F ⟨0, tp, rfl, rfl, by omega, by omega, rfl⟩ ?_)
  rintro n l' os' s4 ⟨p, tp', rfl, rfl, hp0, hn, hloop⟩ F4
  clear C F
  have F := F4
  clear F4
  have C := F.cx
  have stop : ∀ s5, preTest a b p = false → Cx s4 (fenv (topSt 5) q cd L 28) (lP "pre" p a b mc tp' ta tb tm) [] s5 → wpAny (model prog w) A (execs [] (fenv (topSt 5) q cd L 28)) (fun f s' => match f with | .next => wpAny (model prog w) A (execs (LB 3) (fenv (topSt 5) q cd L 28)) Q NoE s' | f => Q f s') NoE s5 := by
    intro s5 ht C5
    refine wpAny_execs_nil ?_
    refine rest p tp' s5 ?_ (F.grow C5.k)
    rw [hloop]
    exact preLoop_stop ht
  k_extra "e"
  refine i_sn (sz ha (by omega)) ?_
  k_extra "k"
  refine t_str (sz (Nat.le_trans (Txt.slice_le a _ _) ha) (by omega)) ?_
  k_extra "ks"
  refine ⟨fun e1 => ?_, fun e1 => ⟨fun e => (by cases e), fun _ => stop _ (by unfold preTest; rw [e1]; rfl) C⟩⟩
  k_extra "e"
  refine i_sn (sz hb (by omega)) ?_
  k_extra "k"
  refine t_str (sz (Nat.le_trans (Txt.slice_le b _ _) hb) (by omega)) ?_
  k_extra "ks"
  refine ⟨fun e2 => ?_, fun e2 => ⟨fun e => (by cases e), fun _ => stop _ (by unfold preTest; rw [e1, e2]; rfl) C⟩⟩
  have b1 := slice_from_ne (of_ne e1)
  have b2 := slice_from_ne (of_ne e2)
  refine e_andC ?_
  k_extra "e"
  refine st_str (by omega) (by omega) (sz ha (by omega)) (by kernel_rfl) ?_
  k_extra "k"
  k_extra "e"
  refine st_str (by omega) (by omega) (sz hb (by omega)) (by kernel_rfl) ?_
  k_extra "k"
  k_extra "e"
  refine ⟨fun e3 => ?_, fun e3 => ⟨fun e => (by cases e), fun _ => stop _ (by unfold preTest; rw [e1, e2, e3]; rfl) C⟩⟩
  k_extra "e"
  have ht : preTest a b p = true := by unfold preTest; rw [e1, e2, e3]; rfl
  refine ⟨fun _ => ?_, fun e => (by cases e)⟩
  replace F := F.grow C.k
  replace C := C.anew
  refine wpAny_execs_cons (x_aug F (lk_eq (by k_extra "lkm") (by kernel_rfl)) (.inl (by kernel_rfl)) ?_)
  k_extra "e"
  refine ⟨C.k, fun s6 F6 kl6 => wpAny_execs_nil ?_⟩
  refine ⟨n - 1, lP "pre" (p + 1) a b mc t ta tb tm, [], by omega, ⟨p + 1, t, rfl, rfl, by omega, by omega, ?_⟩, F6.weaken (by k_extra "wk")⟩
  have en : n = (n - 1) + 1 := by omega
  rw [hloop, en]
  exact preLoop_step ht
set_option maxHeartbeats 1000000 in
theorem lev_call {a b : Str} {ta tb tm : Tok} {mc : Int} {Q : Value → Shared → Prop} {E : Value → Shared → Prop} (B : Base s.heap) (hA : Aok 2 A) (ha : a.length ≤ 40) (hb : b.length ≤ 40)
    (h : ∀ t s', Keeps s s' → Q (.int (lev a b mc) t) s') : wpAny (model prog w) A (call (.ref 28) [.str a ta, .str b tb, .int mc tm]) Q E s := by
  refine call_fn B B.fLev hA.room (binds := [("a", .str a ta), ("b", .str b tb), ("max_cost", .int mc tm)]) (by intros; kernel_rfl) (fun n => fm_cons (.inl (by kernel_rfl)) (fm_cons (.inl (by kernel_rfl)) (fm_cons (.inl (by kernel_rfl)) fm_nil))) (by kernel_rfl) (by kernel_rfl) (by kernel_rfl) ?_
  intro q cd L s₁ F
  change FS _ _ _ [("max_cost", .int mc tm), ("b", .str b tb), ("a", .str a ta)] _ _ at F
  have C := F.cx
  refine wpAny_execs_cons (x_if ?_)
  k_extra "e"
  refine ⟨fun e => ?_, fun e => ?_⟩
  · refine wpAny_execs_cons (wpAny_Return_some ?_)
    k_extra "e"
    have hc : lev a b mc = 0 := if_pos e
    exact hc ▸ h _ _ (kTrans F.keep C.k)
  refine wpAny_execs_nil (lev_s1 (hA.deeper _) ha hb ((F.grow C.k).weaken (by k_extra "wk")) ?_)
  intro t s' k
  have hc : lev a b mc = (let p := preLoop a b (a.length + 1) 0; lev1 (Txt.slice a (some p) none) (Txt.slice b (some p) none) mc) := if_neg (by simp [e])
  exact hc ▸ h _ _ k
end
end Mine

namespace Mine
/-! ### lists that grow, the table of flags -/
section
variable {prog : Program} {w : World} {A : Around} {s₀ s₁ s s' : Shared} {env : Env} {l : List (Str × Value)} {os : List (Addr × String × List Value)} {E : Value → Shared → Prop}
theorem x_append {n : Str} {p1 p2 p3 p4 : Pos} {elt : Expr} {D : Addr} {items : List Value} {i : Nat} {Q : Flow → Shared → Prop} (F : FS s₀ s₁ env l os s) (hn : l.lookup n = some (.ref D)) (hi : os[i]? = some (D, "plain", items)) (hf : s₀.heap.get? D = none) (hz : items.length ≤ 1000)
    (hd : (n == ("__debug__" : Str)) = false) (hbase : attributeBase (.Name n p1) "append" env (eval (.Name n p1) env) = eval (.Name n p1) env)
    (hline : (p2.endLine == p3.line) = true) (htrees : backTo p3 (starEach [elt] env) = [(false, eval elt env)]) (hint : interactive env = false) (hsw : swapsWith (.Call (.Attribute (.Name n p1) "append" p2) [elt] [] p3) none p4.line env = pure false)
    (h : wpAny (model prog w) A (eval elt env) (fun y s' => Keeps s s' ∧ ∀ s'', FS s₀ s₁ env l (os.set i (D, "plain", items ++ [y])) s'' → (∀ b o, b ≠ D → s'.heap.get? b = some o → s''.heap.get? b = some o) → Q .next s'') NoE s) :
    wpAny (model prog w) A (exec (.Expr (.Call (.Attribute (.Name n p1) "append" p2) [elt] [] p3) p4) env) Q NoE s := by
  refine wpAny_Expr (wpAny_Call_append hbase (by rw [htrees]; rfl) hline htrees (e_name F.cx hn ?_ hd)) hint hsw
  refine ⟨D, items.toArray, rfl, let ⟨n, e⟩ := F.cx.plain (List.mem_of_getElem? hi); ⟨_, n, e, rfl, rfl, rfl⟩, wpAny_mono h (fun y s' h' => ?_) fun _ _ e => e⟩
  have F' := F.grow h'.1
  refine wpAny_list_append_plain (F'.cx.plain (List.mem_of_getElem? hi)) (fun h2 hl hs => ?_) (by rw [sizeLine_eq, List.size_toArray]; omega)
  obtain ⟨m, ho⟩ := hl
  refine h'.2 { s' with heap := h2, toks := s'.toks } (F'.upd hi rfl hf hs ⟨_, m, ho, rfl, by simp, fun _ => ⟨rfl, rfl⟩⟩) fun b o hb e => hs.extBut b o hb e
theorem Call_method3 {o e₁ e₂ e₃ : Expr} {name : Str} {apos pos : Pos} {Q : Value → Shared → Prop} (hbase : attributeBase o name env (eval o env) = eval o env) (hs : starEach [e₁, e₂, e₃] env = [(false, eval e₁ env), (false, eval e₂ env), (false, eval e₃ env)]) (hline : (apos.endLine == pos.line) = true)
    (h : wpAny (model prog w) A (eval o env) (fun ov s₁ => MethodOnS prog w A E name ov pos [(false, eval e₁ env), (false, eval e₂ env), (false, eval e₃ env)] Q s₁) E s) :
    wpAny (model prog w) A (eval (.Call (.Attribute o name apos) [e₁, e₂, e₃] [] pos) env) Q E s := by
  refine wpAny_Call_method_lateS hbase (by rw [hs]; rfl) hline ?_
  rw [hs]; exact h
theorem m_str1 {name : Str} {id : String} {x : Str} {t : Tok} {pos : Pos} {a : Sem Value} {Q : Value → Shared → Prop} (slot : Slot "str" name id) (ty : typeOf (.builtin id) = pure (.type "method_descriptor"))
    (h : wpAny (model prog w) A a (fun v s₁ => wpAny (model prog w) A (call (.builtin id) [.str x t, v]) Q E s₁) E s) : MethodOnS prog w A E name (.str x t) pos [(false, a)] Q s :=
  ⟨"str", id, F.plainAttrs_str, slot, ty, typeIs_str _ _ _, (fun _ e => by cases e), Calls.callWith_builtin rfl (Calls.evalArgs_plain (Calls.spliced_cons (wpAny_mono h (fun v s₁ h₁ => Calls.spliced_nil h₁) fun _ _ e => e)))⟩
theorem m_join {x : Str} {t : Tok} {pos : Pos} {a : Sem Value} {Q : Value → Shared → Prop}
    (h : wpAny (model prog w) A a (fun v s₁ => ∃ D ls, v = .ref D ∧ s₁.heap.IsList D (strValues ls).toArray ∧ JoinOk x (ls.map (·.1)) = true ∧ ∀ t' s', Keeps s₁ s' → Q (.str (Txt.join x (ls.map (·.1))) t') s') E s) : MethodOnS prog w A E "join" (.str x t) pos [(false, a)] Q s :=
  SB.join (wpAny_mono h (fun v s₁ h₁ => by
    obtain ⟨D, ls, rfl, hl, hok, hq⟩ := h₁
    exact ⟨D, ls, rfl, hl, _, rfl, hok, fun t' k => hq t' _ (kTok ..)⟩) fun _ _ e => e)
theorem c_hex {i : Int} {t : Tok} {Q : Value → Shared → Prop} (hz : (baseText "0x" 16 i).length ≤ sizeLine) (h : ∀ t s', Keeps s s' → Q (.str (baseText "0x" 16 i) t) s') : wpAny (model prog w) A (call (.builtin "hex") [.int i t]) Q E s :=
  P.hex_of_int (h _ _ (kTok ..)) hz

def flagStr (k : Int) : Str := match findBy Value.isInt flagEs k with
  | some (.str x _) => x
  | _ => baseText "0x" 16 k
theorem flagVals : ∀ e ∈ flagEs.toList, ∃ x t, e.val = .str x t := by
  intro e he
  simp only [flagEs, List.mem_cons, List.not_mem_nil, or_false] at he
  rcases he with rfl | rfl | rfl | rfl | rfl | rfl | rfl | rfl | rfl | rfl <;> exact ⟨_, _, rfl⟩
theorem flag_get (k : Int) (t : Tok) : ∃ t', (findBy Value.isInt flagEs k).getD (.str (baseText "0x" 16 k) t) = .str (flagStr k) t' := by
  unfold flagStr
  cases h : findBy Value.isInt flagEs k with
  | none => exact ⟨t, rfl⟩
  | some v =>
    unfold findBy at h
    obtain ⟨e, he, rfl⟩ := Option.map_eq_some_iff.mp h
    obtain ⟨x, t', hv⟩ := flagVals e (Array.mem_toList_iff.mpr (Array.mem_of_find?_eq_some he))
    rw [hv]
    exact ⟨t', rfl⟩
theorem flagMap (B : Base s.heap) : s.heap.MapOf (intKind prog w) 29 (fun k => findBy Value.isInt flagEs k) := by
  refine ⟨_, flagEs, 10, B.tab, ⟨rfl, rfl, rfl⟩, rfl, fun e he => ?_, fun _ => rfl⟩
  have he' := Array.mem_toList_iff.mpr he
  simp only [flagEs, List.mem_cons, List.not_mem_nil, or_false] at he'
  rcases he' with rfl | rfl | rfl | rfl | rfl | rfl | rfl | rfl | rfl | rfl
  · exact ⟨1, rfl, rfl⟩
  · exact ⟨2, rfl, rfl⟩
  · exact ⟨4, rfl, rfl⟩
  · exact ⟨8, rfl, rfl⟩
  · exact ⟨16, rfl, rfl⟩
  · exact ⟨32, rfl, rfl⟩
  · exact ⟨64, rfl, rfl⟩
  · exact ⟨128, rfl, rfl⟩
  · exact ⟨256, rfl, rfl⟩
  · exact ⟨512, rfl, rfl⟩
theorem m_get {pos : Pos} {a b : Sem Value} {Q : Value → Shared → Prop} (B : Base s.heap)
    (h : wpAny (model prog w) A a (fun v s₁ => wpAny (model prog w) A b (fun d s₂ => ∃ k t t', v = .int k t ∧ d = .str (baseText "0x" 16 k) t' ∧ Base s₂.heap ∧ ∀ t s', Keeps s₂ s' → Q (.str (flagStr k) t) s') E s₁) E s) :
    MethodOnS prog w A E "get" (.ref 29) pos [(false, a), (false, b)] Q s := by
  refine ⟨"dict", "dict.get", F.plainAttrs_dict, F.slot_dict_get, F.type_dict_get, (flagMap (prog := prog) (w := w) B).typeIs, (flagMap (prog := prog) (w := w) B).noDict,
    wpAny_dict_get2 (knd := intKind prog w) (by decide) (wpAny_mono h (fun v s₁ h₁ => wpAny_mono h₁ (fun d s₂ h₂ => ?_) fun _ _ e => e) fun _ _ e => e)⟩
  obtain ⟨k, t, t', rfl, rfl, B2, hq⟩ := h₂
  refine ⟨k, _, intKind_is prog w k t, flagMap B2, ?_⟩
  obtain ⟨t2, e⟩ := flag_get k t'
  show Q ((findBy Value.isInt flagEs k).getD _) _
  rw [e]
  exact hq t2 _ (kTok ..)
end
def flagAt (i : Nat) : Int := 1 * 2 ^ ((i : Int)).toNat
def pfLoop : Nat → Nat → List Str → Int → List Str
  | 0, _, names, f => names ++ [baseText "0x" 16 f]
  | n + 1, i, names, f => if (Builtin.bitAnd f (flagAt i) != 0) then (if (Builtin.bitXor f (flagAt i) != 0) then pfLoop n (i + 1) (names ++ [flagStr (flagAt i)]) (Builtin.bitXor f (flagAt i)) else names ++ [flagStr (flagAt i)])
    else pfLoop n (i + 1) names f
def pfRest : Nat → Nat → Int → Option Int
  | 0, _, f => some f
  | n + 1, i, f => if (Builtin.bitAnd f (flagAt i) != 0) then (if (Builtin.bitXor f (flagAt i) != 0) then pfRest n (i + 1) (Builtin.bitXor f (flagAt i)) else none) else pfRest n (i + 1) f
def prettyText (f : Int) : Str := Txt.join ", " (pfLoop 32 0 [] f)
theorem hexFits : ∀ i : Nat, i < 32 → (baseText "0x" 16 (flagAt i)).length ≤ 1000 := by decide +kernel
end Mine

namespace Mine
/-! ### lines -/
set_option hygiene false in
local macro_rules | `(tactic| k_extra "k") => `(tactic| (intro t s' k; replace C := Cx.step C k; clear k))
set_option hygiene false in
local macro_rules | `(tactic| k_extra "ks") => `(tactic| (intro s' k; replace C := Cx.step C k; clear k))
local macro_rules | `(tactic| k_extra "lkm") => `(tactic| ((with_reducible show Lk _ _ (List.cons _ _)); first | with_reducible exact Lk.here | exact Lk.there (by k_extra "lkm")))
set_option hygiene false in
local macro_rules | `(tactic| k_extra "name") => `(tactic| first
  | with_reducible refine e_name C (lk_eq (by k_extra "lkm") (by kernel_rfl)) ?_ (by kernel_rfl)
  | with_reducible refine e_glob C (lk_eq (by k_extra "lkm") (by kernel_rfl)) (by kernel_rfl) (by kernel_rfl) (by kernel_rfl) ?_ (by kernel_rfl))
set_option hygiene false in
local macro_rules | `(tactic| k_extra "e1") => `(tactic| first
  | ((with_reducible show wpAny _ _ (eval (Expr.Name _ _) _) _ _ _); k_extra "name")
  | (with_reducible refine e_int ?_; k_extra "k")
  | (with_reducible refine e_str ?_; k_extra "k")
  | with_reducible refine wpAny_Constant_none ?_
  | with_reducible refine wpAny_Constant_bool ?_
  | with_reducible refine wpAny_BinOp ?_
  | with_reducible refine wpAny_UnaryOp ?_
  | with_reducible refine wpAny_Compare1 ?_
  | with_reducible refine wpAny_isTrue_Compare1 ?_
  | with_reducible refine wpAny_isTrue_Not ?_
  | with_reducible refine wpAny_isTrue_BoolOp ?_
  | with_reducible refine e_andC ?_
  | with_reducible refine e_orC ?_
  | with_reducible refine wpAny_allTrue_And_nil ?_
  | with_reducible refine wpAny_allTrue_Or_nil ?_
  | with_reducible refine wpAny_truthy_bool ?_
  | with_reducible refine t_int ?_
  | (with_reducible refine o_add ?_; k_extra "k")
  | (with_reducible refine o_sub ?_; k_extra "k")
  | (with_reducible refine o_and ?_; k_extra "k")
  | (with_reducible refine o_neg ?_; k_extra "k")
  | (with_reducible refine o_iadd ?_; k_extra "k")
  | (with_reducible refine o_isub ?_; k_extra "k")
  | (with_reducible refine o_ixor ?_; k_extra "k")
  | (with_reducible refine o_mod (by decide) ?_; k_extra "k")
  | (with_reducible refine o_div (by decide) (by decide) ?_; k_extra "k")
  | with_reducible refine o_strEq ?_
  | with_reducible refine PyProof.Rows.eq_int ?_
  | with_reducible refine PyProof.Rows.ne_int ?_
  | with_reducible refine PyProof.Rows.lt_int ?_
  | with_reducible refine PyProof.Rows.gt_int ?_
  | with_reducible refine wpAny_Call_NameR ?_
  | with_reducible refine Call_method0 (by kernel_rfl) (by kernel_rfl) ?_
  | with_reducible refine Call_method1 (by kernel_rfl) (by kernel_rfl) (by kernel_rfl) ?_
  | with_reducible refine Call_method2 (by kernel_rfl) (by kernel_rfl) (by kernel_rfl) ?_
  | with_reducible refine Subscript_Slice ?_ (fun _ _ => by kernel_rfl)
  | with_reducible refine wpAny_Slice ?_
  | with_reducible refine PyProof.Rows.Subscript_ ?_
  | with_reducible refine wpAny_items_cons ?_ (by kernel_rfl)
  | with_reducible refine wpAny_items_nil ?_
  | with_reducible refine evalPart_none_step ?_
  | with_reducible refine evalPart_some_step ?_
  | with_reducible refine wpAny_isTrue_value ?_ (by kernel_rfl))
local macro_rules | `(tactic| k_extra "e") => `(tactic| repeat k_extra "e1")
set_option hygiene false in
local macro_rules | `(tactic| k_extra "asl") => `(tactic| refine wpAny_execs_cons (x_assign F (.inl (by kernel_rfl)) ?_ (by kernel_rfl)))
set_option hygiene false in
local macro_rules | `(tactic| k_extra "asc") => `(tactic| refine wpAny_execs_cons (x_assign F (.inr ⟨by kernel_rfl, by kernel_rfl⟩) ?_ (by kernel_rfl)))
set_option hygiene false in
local macro_rules | `(tactic| k_extra "set") => `(tactic| (refine ⟨C.k, ?_⟩; intro s2 F2 kl2; clear kl2 C F; have F := F2; clear F2; have C := F.cx))
set_option hygiene false in
local macro_rules | `(tactic| k_extra "fn") => `(tactic| (have K0 := C.k; replace C := C.anew))
set_option hygiene false in
local macro_rules | `(tactic| k_extra "nf") => `(tactic| (refine ⟨C.k, ?_⟩; replace C := C.rebase K0; clear K0))
local macro_rules | `(tactic| k_extra "lkv") => `(tactic| ((with_reducible show Lk _ _ (List.cons _ _)); first | ((with_reducible refine Lk.same ?_); first | rfl | fail "lkv") | exact Lk.there (by k_extra "lkv")))
local macro_rules | `(tactic| k_extra "wk") => `(tactic| first | exact lk_nil | exact lk_cons (lk_eq (by k_extra "lkv") (by kernel_rfl)) (by k_extra "wk"))

local macro_rules | `(tactic| k_extra "cap") => `(tactic| first | exact trivial | exact ⟨⟨by kernel_rfl, by kernel_rfl, by kernel_rfl⟩, by k_extra "cap"⟩)
section
variable {prog : Program} {w : World} {A : Around} {s₀ s₁ s : Shared} {q : Str} {cd : Value} {L : Addr}
abbrev PB (k : Nat) : List Stmt := (fBody (topSt 8)).drop k
abbrev lF (f : Int) (D : Addr) (t : Tok) : List (Str × Value) := [("flags", .int f t), ("names", .ref D)]
theorem strValues_snoc (ls : List (Str × Tok)) (x : Str) (t : Tok) : strValues ls ++ [.str x t] = strValues (ls ++ [(x, t)]) := by simp [strValues]
set_option maxHeartbeats 1000000 in
theorem pf_s2 {f : Int} {D : Addr} {t : Tok} {ls : List (Str × Tok)} {Q : Flow → Shared → Prop} (F : FS s₀ s₁ (fenv (topSt 8) q cd L 36) (lF f D t) [(D, "plain", strValues ls)] s) (hok : JoinOk ", " (ls.map (·.1)) = true)
    (h : ∀ t s', Keeps s₀ s' → Q (.ret (.str (Txt.join ", " (ls.map (·.1))) t)) s') : wpAny (model prog w) A (execs (PB 2) (fenv (topSt 8) q cd L 36)) Q NoE s := by
  have C := F.cx
  refine wpAny_execs_cons (wpAny_Return_some ?_)
  k_extra "e"
  refine m_join ?_
  k_extra "e"
  refine ⟨D, ls, rfl, (C.plain (.head _)).isList, hok, ?_⟩
  k_extra "k"
  exact h _ _ (kTrans F.keep C.k)
theorem pfLoop_s (n i : Nat) (names : List Str) (f : Int) : pfLoop (n + 1) i names f = if (Builtin.bitAnd f (flagAt i) != 0) then (if (Builtin.bitXor f (flagAt i) != 0) then pfLoop n (i + 1) (names ++ [flagStr (flagAt i)]) (Builtin.bitXor f (flagAt i)) else names ++ [flagStr (flagAt i)])
    else pfLoop n (i + 1) names f := rfl
theorem pfRest_s (n i : Nat) (f : Int) : pfRest (n + 1) i f = if (Builtin.bitAnd f (flagAt i) != 0) then (if (Builtin.bitXor f (flagAt i) != 0) then pfRest n (i + 1) (Builtin.bitXor f (flagAt i)) else none) else pfRest n (i + 1) f := rfl
set_option maxHeartbeats 1000000 in
theorem pf_call {f : Int} {tf : Tok} {Q : Value → Shared → Prop} {E : Value → Shared → Prop} (B : Base s.heap) (hA : Aok 1 A) (hok : JoinOk ", " (pfLoop 32 0 [] f) = true) (hrest : ∀ g, pfRest 32 0 f = some g → (baseText "0x" 16 g).length ≤ 1000)
    (h : ∀ t s', Keeps s s' → Q (.str (prettyText f) t) s') : wpAny (model prog w) A (call (.ref 36) [.int f tf]) Q E s := by
  refine call_fn B B.fFlags hA.room (binds := [("flags", .int f tf)]) (by intros; kernel_rfl) (fun n => fm_cons (.inl (by kernel_rfl)) fm_nil) (by kernel_rfl) (by kernel_rfl) (by kernel_rfl) ?_
  intro q cd L s₁ F
  change FS _ _ _ [("flags", .int f tf)] _ _ at F
  have hA1 := hA.deeper (fenv (topSt 8) q cd L 36)
  generalize hAe : A.deeper (fenv (topSt 8) q cd L 36) = A1 at hA1 ⊢
  have C := F.cx
  k_extra "asl"
  refine e_list ?_
  k_extra "e"
  refine ⟨by show 0 ≤ 1000; omega, fun D s2 k hD ho => ?_⟩
  have hD0 := (F.grow C.k).new0 hD
  have hn := (F.grow C.k).notin hD
  refine ⟨kTrans C.k k, fun s3 F3 kl3 => ?_⟩
  have F4 := F3.add (c := "plain") hn (kl3.seq ho rfl) rfl rfl (fun _ => ⟨rfl, rfl⟩)
  replace F4 := F4.weaken (l' := lF f D tf) (by k_extra "wk")
  clear C F F3
  have F := F4
  clear F4
  have C := F.cx
  refine wpAny_execs_cons (x_forRange 32 (fun i l os => ∃ f' t ls, l = lF f' D t ∧ os = [(D, "plain", strValues ls)] ∧ ls.length ≤ i ∧ pfLoop 32 0 [] f = pfLoop (32 - i) i (ls.map (·.1)) f' ∧ pfRest 32 0 f = pfRest (32 - i) i f')
    hA1.hd F (.inl (by kernel_rfl)) (fun _ => by kernel_rfl) ?_ (by decide) ⟨f, tf, [], rfl, rfl, Nat.le_refl _, rfl, rfl⟩ ?_ ?_)
  · k_extra "e"
    refine c_t1 (by kernel_rfl) ?_
    k_extra "e"
    refine c_range1 ?_
    intro r t u v s' k hr
    exact ⟨r, t, u, v, rfl, kTrans C.k k, hr⟩
  · rintro i l' os' si ti hi ⟨f', t', ls, rfl, rfl, hlen, hl1, hl2⟩ F3
    have en : 32 - i = (32 - (i + 1)) + 1 := by omega
    rw [en] at hl1 hl2
    replace hl1 := hl1.trans (pfLoop_s _ _ _ _)
    replace hl2 := hl2.trans (pfRest_s _ _ _)
    clear C F
    have F := F3
    clear F3
    have C := F.cx
    k_extra "asl"
    k_extra "e"
    refine o_shl (by omega) (by omega) (by decide) ?_
    intro tg s3 k3; replace C := C.step k3; clear k3
    k_extra "set"
    change FS _ _ _ (("flag", .int (flagAt i) tg) :: ("i", .int (i : Int) _) :: lF f' D t') _ _ at F
    replace C := F.cx
    refine wpAny_execs_cons (x_if ?_)
    k_extra "e"
    refine ⟨fun e => ?_, fun e => ?_⟩
    · rw [if_pos e] at hl1 hl2
      replace F := F.grow C.k
      replace C := C.anew
      refine wpAny_execs_cons (x_append (i := 0) F (lk_eq (by k_extra "lkm") (by kernel_rfl)) rfl hD0 (by simp [strValues]; omega) (by kernel_rfl) (by kernel_rfl) (by kernel_rfl) (by kernel_rfl) (by kernel_rfl) (by kernel_rfl) ?_)
      k_extra "e"
      refine m_get C.base ?_
      k_extra "e"
      refine c_b1 (by kernel_rfl) ?_
      k_extra "e"
      refine c_hex (Nat.le_trans (hexFits i hi) (by rw [sizeLine_eq]; omega)) ?_
      k_extra "k"
      refine ⟨flagAt i, _, _, rfl, rfl, C.base, ?_⟩
      intro ta s5 k5; replace C := C.step k5; clear k5
      refine ⟨C.k, fun s6 F6 hk6 => ?_⟩
      clear C F
      have F := F6
      clear F6
      have C := F.cx
      refine wpAny_execs_cons (x_aug F (lk_eq (by k_extra "lkm") (by kernel_rfl)) (.inl (by kernel_rfl)) ?_)
      k_extra "e"
      refine ⟨C.k, fun s7 F7 kl7 => ?_⟩
      clear C F
      have F := F7
      clear F7
      have C := F.cx
      have F8 : FS s si (fenv (topSt 8) q cd L 36) (lF (Builtin.bitXor f' (flagAt i)) D t) [(D, "plain", strValues (ls ++ [(flagStr (flagAt i), ta)]))] s7 := by
        rw [← strValues_snoc]
        exact F.weaken (by k_extra "wk")
      have em : (ls ++ [(flagStr (flagAt i), ta)]).map (·.1) = ls.map (·.1) ++ [flagStr (flagAt i)] := by simp
      clear C F
      have F := F8
      clear F8
      have C := F.cx
      refine wpAny_execs_cons (x_if ?_)
      k_extra "e"
      refine ⟨fun e2 => ?_, fun e2 => ?_⟩
      · have e3 : (Builtin.bitXor f' (flagAt i) != 0) = false := by simpa using e2
        rw [if_neg (by simp [e3]), ← em] at hl1
        refine wpAny_execs_cons (wpAny_Break ?_)
        refine ⟨_, _, F, fun s9 F9 => ?_⟩
        refine pf_s2 F9 (by rw [← hl1]; exact hok) fun t s' k => ?_
        have := h t s' k
        unfold prettyText at this
        rw [hl1] at this
        exact this
      · have e3 : (Builtin.bitXor f' (flagAt i) != 0) = true := by simpa using e2
        rw [if_pos e3, ← em] at hl1
        rw [if_pos e3] at hl2
        refine wpAny_execs_nil (wpAny_execs_nil (wpAny_execs_nil ?_))
        exact ⟨_, _, ⟨_, _, _, rfl, rfl, by simp; omega, hl1, hl2⟩, F⟩
    · rw [if_neg (by simp [e])] at hl1 hl2
      refine wpAny_execs_nil (wpAny_execs_nil ?_)
      exact ⟨_, _, ⟨f', t', ls, rfl, rfl, by omega, hl1, hl2⟩, (F.grow C.k).weaken (by k_extra "wk")⟩
  · rintro l' os' s5 ⟨f', t', ls, rfl, rfl, hlen, hl1, hl2⟩ F3
    clear C F
    have F := F3
    clear F3
    have C := F.cx
    change pfLoop 32 0 [] f = ls.map (·.1) ++ [baseText "0x" 16 f'] at hl1
    refine wpAny_execs_cons (x_append (i := 0) F (lk_eq (by k_extra "lkm") (by kernel_rfl)) rfl hD0 (by simp [strValues]; omega) (by kernel_rfl) (by kernel_rfl) (by kernel_rfl) (by kernel_rfl) (by kernel_rfl) (by kernel_rfl) ?_)
    k_extra "e"
    refine c_b1 (by kernel_rfl) ?_
    k_extra "e"
    refine c_hex (Nat.le_trans (hrest f' hl2) (by rw [sizeLine_eq]; omega)) ?_
    intro ta s6 k6; replace C := C.step k6; clear k6
    refine ⟨C.k, fun s7 F7 hk7 => wpAny_execs_nil ?_⟩
    have em : (ls ++ [(baseText "0x" 16 f', ta)]).map (·.1) = ls.map (·.1) ++ [baseText "0x" 16 f'] := by simp
    rw [← em] at hl1
    have F8 : FS s s₁ (fenv (topSt 8) q cd L 36) (lF f' D t') [(D, "plain", strValues (ls ++ [(baseText "0x" 16 f', ta)]))] s7 := by
      rw [← strValues_snoc]
      exact F7
    refine pf_s2 F8 (by rw [← hl1]; exact hok) fun t s' k => ?_
    have := h t s' k
    unfold prettyText at this
    rw [hl1] at this
    exact this
end
end Mine

namespace Mine
/-! ### rules for the match by dots -/
def findIn (x y : Str) (i j : Int) : Int := match Builtin.Str.occurrences x y (fromIndex x.length i) (min (fromIndex x.length j) x.length) 1 with
  | k :: _ => (k : Int)
  | [] => -1
theorem gives_findIn (x y : Str) (i j : Int) (t u v v' : Tok) : Gives (Builtin.«str.find» ⟨[.str x t, .str y u, .int i v, .int j v'], []⟩) (.int (findIn x y i j)) := by
  show Gives (match Builtin.Str.occurrences x y (fromIndex x.length i) (min (fromIndex x.length j) x.length) 1 with | k :: _ => retInt k | [] => (do rule "str.find.not-found"; retInt (-1))) _
  unfold findIn
  cases Builtin.Str.occurrences x y (fromIndex x.length i) (min (fromIndex x.length j) x.length) 1 with
  | nil => exact .rule (.of_eq rfl)
  | cons k _ => exact .of_eq rfl
section
variable {prog : Program} {w : World} {A : Around} {s₀ s₁ s s' : Shared} {env : Env} {l : List (Str × Value)} {os : List (Addr × String × List Value)} {E : Value → Shared → Prop} {Q : Value → Shared → Prop}
theorem m_find {x : Str} {t : Tok} {pos : Pos} {a b c : Sem Value}
    (h : wpAny (model prog w) A a (fun v1 s₁ => wpAny (model prog w) A b (fun v2 s₂ => wpAny (model prog w) A c (fun v3 s₃ => ∃ y u i t2 j t3, v1 = .str y u ∧ v2 = .int i t2 ∧ v3 = .int j t3 ∧ ∀ t s', Keeps s₃ s' → Q (.int (findIn x y i j) t) s') E s₂) E s₁) E s) :
    MethodOnS prog w A E "find" (.str x t) pos [(false, a), (false, b), (false, c)] Q s := by
  refine ⟨"str", "str.find", F.plainAttrs_str, F.slot_str_find, F.type_str_find, typeIs_str _ _ _, (fun _ e => by cases e), Calls.callWith_builtin rfl (Calls.evalArgs_plain (Calls.spliced_cons (wpAny_mono h (fun v1 s₁ h₁ => Calls.spliced_cons (wpAny_mono h₁ (fun v2 s₂ h₂ => Calls.spliced_cons (wpAny_mono h₂ (fun v3 s₃ h₃ => Calls.spliced_nil ?_) fun _ _ e => e)) fun _ _ e => e)) fun _ _ e => e)))⟩
  obtain ⟨y, u, i, t2, j, t3, rfl, rfl, rfl, hq⟩ := h₃
  exact call_gives F.slot_str_find (typeIs_str _ _ _) F.entry_str_find (F.args_str_find_4 _ _ _ _) (gives_findIn x y i j t u t2 t3) (hq _ _ (kTok ..))
theorem m_starts {x : Str} {t : Tok} {pos : Pos} {a : Sem Value} (h : wpAny (model prog w) A a (fun v s₁ => ∃ y u, v = .str y u ∧ Q (.bool (Txt.startswith x y)) s₁) E s) : MethodOnS prog w A E "startswith" (.str x t) pos [(false, a)] Q s := SB.startswith h
theorem m_ends {x : Str} {t : Tok} {pos : Pos} {a : Sem Value} (h : wpAny (model prog w) A a (fun v s₁ => ∃ y u, v = .str y u ∧ Q (.bool (Txt.endswith x y)) s₁) E s) : MethodOnS prog w A E "endswith" (.str x t) pos [(false, a)] Q s := SB.endswith h
/-- a split, as a new list -/
theorem c_split {x y : Str} {t u : Tok} (hy : (y.length == 0) = false) (hz : x.length ≤ 1000) (hz2 : (Builtin.Str.partsBetween x (Builtin.Str.occurrences x y 0 x.length (x.length + 1)) y.length).length ≤ sizeLine)
    (h : ∀ D ls n s', Keeps s s' → s.heap.get? D = none → s'.heap.get? D = some { cls := .type "list", data := .seq (strValues ls).toArray n } → ls.map (·.1) = Txt.split x y → Q (.ref D) s') :
    wpAny (model prog w) A (call (.builtin "str.split") [.str x t, .str y u]) Q E s := by
  have hz' : x.length ≤ sizeLine := by rw [sizeLine_eq]; omega
  have e1 : Txt.split x y = if (decide (x.length < y.length) || decide (Builtin.Str.strKind x < Builtin.Str.strKind y)) = true then [x] else
    if (Builtin.Str.occurrences x y 0 x.length (x.length + 1)).isEmpty = true then [x] else Builtin.Str.partsBetween x (Builtin.Str.occurrences x y 0 x.length (x.length + 1)) y.length := rfl
  cases h1 : (decide (x.length < y.length) || decide (Builtin.Str.strKind x < Builtin.Str.strKind y)) with
  | true =>
    rw [if_pos h1] at e1
    exact call_meets F.slot_str_split (typeIs_str _ _ _) F.entry_str_split (F.args_str_split_2 _ _) (meets_str_split_cannot_occur x y t u h1) (h _ [(x, t)] _ _ (kPush s _ s.toks) (newAt _) (Heap.get?_push_size _ rfl) e1.symm)
  | false =>
    rw [if_neg (ne_true_of_eq_false h1)] at e1
    cases hf : (Builtin.Str.occurrences x y 0 x.length (x.length + 1)).isEmpty with
    | true =>
      rw [if_pos hf] at e1
      exact call_meets F.slot_str_split (typeIs_str _ _ _) F.entry_str_split (F.args_str_split_2 _ _) (meets_str_split_not_found x y t u h1 hy hf) (h _ [(x, t)] _ _ (kPush s _ s.toks) (newAt _) (Heap.get?_push_size _ rfl) e1.symm)
    | false =>
      rw [if_neg (ne_true_of_eq_false hf)] at e1
      refine call_meets F.slot_str_split (typeIs_str _ _ _) F.entry_str_split (F.args_str_split_2 _ _) (meets_str_split_sep x y t u h1 hy hf hz' hz2) ?_
      show wants Q E _ { s with toks := _, heap := s.heap.push { cls := .type "list", data := .seq (strsFrom s.toks (Builtin.Str.partsBetween x (Builtin.Str.occurrences x y 0 x.length (x.length + 1)) y.length)).toArray } }
      rw [strsFrom_eq]
      exact h _ (numbered s.toks _) _ _ (kPush ..) (newAt _) (Heap.get?_push_size _ rfl) ((numbered_texts _ _).trans e1.symm)
theorem del_list {i : Nat} {a : Addr} {items : List Value} {k : Int} {t : Tok} {j : Nat} {Q : Unit → Shared → Prop} (F : FS s₀ s₁ env l os s) (hi : os[i]? = some (a, "plain", items)) (hf : s₀.heap.get? a = none) (hfit : Builtin.List.listFitsIndex k = true) (hj : seqIndex? k items.length = some j) (h2 : items.length ≤ 1000)
    (h : ∀ s', FS s₀ s₁ env l (os.set i (a, "plain", items.eraseIdx j)) s' → Q () s') : wpAny (model prog w) A (delItem (.ref a) (.int k t)) Q E s := by
  refine wpAny_delItem_plain (F.cx.plain (List.mem_of_getElem? hi)) hfit (by simpa using hj) (fun h' hl hs => ?_) (by rw [sizeLine_eq, List.size_toArray]; omega)
  obtain ⟨n, ho⟩ := hl
  exact h { s with heap := h', toks := s.toks } (F.upd hi rfl hf hs ⟨_, n, ho, rfl, by simp, fun _ => ⟨rfl, rfl⟩⟩)
theorem st_listNeg {value slice : Expr} {a : Addr} {items : List Value} {k : Int} {u : Tok} {v : Value} (hl : s.heap.IsList a items.toArray) (h0 : k < 0) (h1 : -(items.length : Int) ≤ k) (h2 : -(2 ^ 63) ≤ k) (hx : items[(k + items.length).toNat]? = some v) (hs : subscripted slice false (.ref a) (.int k u) = operate [.ref a, .int k u] (getItem (.ref a) (.int k u)))
    (h : Q v s) : wpAny (model prog w) A (subscriptTail value slice (.ref a) (.int k u)) Q E s :=
  tail_any hl.typeIs slot_list_getitem.lookup (wpAny_getItem_list_neg hl h0 (by simpa using h1) h2 (by simpa using hx) h) hs
theorem c_lenList {a : Addr} {items : List Value} (hl : s.heap.IsList a items.toArray) (hz : items.length ≤ 1000) (h : ∀ t' s', Keeps s s' → Q (.int items.length t') s') : wpAny (model prog w) A (call (.builtin "len") [.ref a]) Q E s :=
  Calls.call_len_list hl (by rw [List.size_toArray]; omega) (by rw [List.size_toArray]; exact h _ _ (kTok ..))
/-- a for over a list that stays -/
theorem x_forList {x : Str} {px pos : Pos} {iter : Expr} {body orelse : List Stmt} {Q : Flow → Shared → Prop} (items : List Value) (D : Addr) (tg : String) (Inv : Nat → List (Str × Value) → List (Addr × String × List Value) → Prop)
    (hh : A.handled = none) (F : FS s₀ s₁ env l os s) (hx : KindOk env x) (hs : ∀ x, foldedSetIterable iter env x = pure x) (htg : tagCls tg = "list")
    (h : wpAny (model prog w) A (eval iter env) (fun xv s' => xv = .ref D ∧ Keeps s s') NoE s)
    (hmem : ∀ i l' os', Inv i l' os' → (D, tg, items) ∈ os') (h0 : Inv 0 l os)
    (hstep : ∀ i l' os' s' v, items[i]? = some v → Inv i l' os' → FS s₀ s' env ((x, v) :: l') os' s' → wpAny (model prog w) A (execs body env) (fun fl s'' => match fl with
        | .next | .cont => ∃ l'' os'', Inv (i + 1) l'' os'' ∧ FS s₀ s' env l'' os'' s''
        | .brk => ∃ l'' os'', FS s₀ s' env l'' os'' s'' ∧ (∀ s3, FS s₀ s₁ env l'' os'' s3 → Q .next s3)
        | .ret v => Q (.ret v) s'') NoE s')
    (hend : ∀ l' os' s', Inv items.length l' os' → FS s₀ s₁ env l' os' s' → wpAny (model prog w) A (execs orelse env) Q NoE s') :
    wpAny (model prog w) A (exec (.For (.Name x px) iter body orelse pos) env) Q NoE s := by
  refine wpAny_For (wpAny_mono h (fun xv s2 h2 => ?_) fun _ _ e => e) hs
  obtain ⟨rfl, k2⟩ := h2
  have isl : ∀ {i l' os' s1 s'}, Inv i l' os' → FS s₀ s1 env l' os' s' → s'.heap.IsList D items.toArray := fun hi F => by
    obtain ⟨o, n, ho, hc, hd, _⟩ := F.pts _ (hmem _ _ _ hi)
    exact ⟨o, ho, by rw [hc]; exact congrArg Value.type htg, n, hd⟩
  have F2 := F.grow k2
  refine wpAny_pyIter_list (isl h0 F2) ?_
  have hnew := newAt s2.heap
  have hI0 : s₀.heap.get? s2.heap.objs.size = none := F2.new0 hnew
  have hI1 : s.heap.get? s2.heap.objs.size = none := by
    cases e : s.heap.get? s2.heap.objs.size with
    | none => rfl
    | some o => rw [kKeep k2 _ o e] at hnew; cases hnew
  have key : codeAny (model prog w) A (.forLoop (.Name x px) (.ref s2.heap.objs.size) body orelse env) (fun r s' => match r with | .ok f => Q f s' | .error e => False)
      { s2 with heap := s2.heap.push { cls := .type "list_iterator", data := .fields #[.ref D, .int 0 0] } } := by
    refine codeAny_forLoop (fun k s' => ∃ i l' os', k = items.length + 1 - i ∧ i ≤ items.length ∧ Inv i l' os' ∧ FS s₀ s env l' os' s' ∧ s'.heap.IsListIter s2.heap.objs.size D i) ?_ (items.length + 1) ?_
    · rintro k s3 ⟨i, l', os', rfl, hi, hinv, F3, hit⟩
      obtain ⟨oi, hoi, hci, hdi⟩ := id hit
      cases hv : items[i]? with
      | some v =>
        have hlt : i < items.length := (List.getElem?_eq_some_iff.mp hv).1
        refine wpAny_pyNext_list_item hit (isl hinv F3) (x := v) (by simpa using hv) fun h4 hit4 hs4 => ?_
        have F4 : FS s₀ s env l' os' { s3 with heap := h4, toks := s3.toks } := F3.other hoi hdi hI0 hI1 fun b o hb e => hs4.extBut b o (fun q => hb (by simp [q])) e
        refine wpAny_assign_Name (storeF F4 hx fun s5 F5 kl => ?_)
        obtain ⟨o4, ho4, hc4, hd4⟩ := hit4
        have ho5 : s5.heap.get? s2.heap.objs.size = some o4 := kl _ _ (fun _ _ e => by rw [hd4] at e; cases e) (fun _ e => by rw [hd4] at e; cases e) ho4
        refine wpAny_mono (hstep i l' os' s5 v hv hinv F5.anew) (fun fl s6 h6 => ?_) fun _ _ e => e.elim
        have fin : (∃ l'' os'', Inv (i + 1) l'' os'' ∧ FS s₀ s5 env l'' os'' s6) → ∃ m, m < items.length + 1 - i ∧ ∃ i l' os', m = items.length + 1 - i ∧ i ≤ items.length ∧ Inv i l' os' ∧ FS s₀ s env l' os' s6 ∧ s6.heap.IsListIter s2.heap.objs.size D i := by
          rintro ⟨l'', os'', hinv', F6⟩
          refine ⟨items.length + 1 - (i + 1), by omega, i + 1, l'', os'', rfl, hlt, hinv', F6.back F5.kf, ⟨o4, F6.kf _ _ ⟨(fun _ _ e => by rw [hd4] at e; cases e), (fun _ e => by rw [hd4] at e; cases e), (by rw [hc4]; decide)⟩ ho5, hc4, hd4⟩⟩
        cases fl with
        | next => exact fin h6
        | cont => exact fin h6
        | brk =>
          obtain ⟨l'', os'', F6, hq⟩ := h6
          refine hq s6 ((F6.back F5.kf).back fun b o so e => ?_)
          exact F.kf b o so e
        | ret v => exact h6
      | none =>
        have hge : items.length ≤ i := by simpa using hv
        have hin : i = items.length := by omega
        refine wpAny_pyNext_list_end hh hit (isl hinv F3) (by simpa using hv) fun h4 he4 => ?_
        have F4 : FS s₀ s env l' os' { s3 with heap := h4, toks := s3.toks } := F3.other hoi hdi hI0 hI1 fun b o hb e => he4 b o (fun q => hb (by simp [q])) e
        exact wpAny_mono (hend l' os' _ (hin ▸ hinv) (F4.back F.kf)) (fun fl s5 h5 => h5) fun _ _ e => e.elim
    · exact ⟨0, l, os, rfl, Nat.zero_le _, h0, (F.anew.grow k2).grow (kPush s2 _ s2.toks), ⟨_, Heap.get?_push_size _ rfl, rfl, rfl⟩⟩
  exact codeAny_mono key fun r s' hr => by cases r with | ok f => exact hr | error e => exact hr.elim
end
end Mine

namespace Mine
/-! ### lines -/
set_option hygiene false in
local macro_rules | `(tactic| k_extra "k") => `(tactic| (intro t s' k; replace C := Cx.step C k; clear k))
set_option hygiene false in
local macro_rules | `(tactic| k_extra "ks") => `(tactic| (intro s' k; replace C := Cx.step C k; clear k))
local macro_rules | `(tactic| k_extra "lkm") => `(tactic| ((with_reducible show Lk _ _ (List.cons _ _)); first | with_reducible exact Lk.here | exact Lk.there (by k_extra "lkm")))
set_option hygiene false in
local macro_rules | `(tactic| k_extra "name") => `(tactic| first
  | with_reducible refine e_name C (lk_eq (by k_extra "lkm") (by kernel_rfl)) ?_ (by kernel_rfl)
  | with_reducible refine e_glob C (lk_eq (by k_extra "lkm") (by kernel_rfl)) (by kernel_rfl) (by kernel_rfl) (by kernel_rfl) ?_ (by kernel_rfl))
set_option hygiene false in
local macro_rules | `(tactic| k_extra "e1") => `(tactic| first
  | ((with_reducible show wpAny _ _ (eval (Expr.Name _ _) _) _ _ _); k_extra "name")
  | (with_reducible refine e_int ?_; k_extra "k")
  | (with_reducible refine e_str ?_; k_extra "k")
  | with_reducible refine wpAny_Constant_none ?_
  | with_reducible refine wpAny_Constant_bool ?_
  | with_reducible refine wpAny_BinOp ?_
  | with_reducible refine wpAny_UnaryOp ?_
  | with_reducible refine wpAny_Compare1 ?_
  | with_reducible refine wpAny_isTrue_Compare1 ?_
  | with_reducible refine wpAny_isTrue_Not ?_
  | with_reducible refine wpAny_isTrue_BoolOp ?_
  | with_reducible refine e_andC ?_
  | with_reducible refine e_orC ?_
  | with_reducible refine wpAny_allTrue_And_nil ?_
  | with_reducible refine wpAny_allTrue_Or_nil ?_
  | with_reducible refine wpAny_truthy_bool ?_
  | with_reducible refine t_int ?_
  | (with_reducible refine o_add ?_; k_extra "k")
  | (with_reducible refine o_sub ?_; k_extra "k")
  | (with_reducible refine o_and ?_; k_extra "k")
  | (with_reducible refine o_neg ?_; k_extra "k")
  | (with_reducible refine o_iadd ?_; k_extra "k")
  | (with_reducible refine o_isub ?_; k_extra "k")
  | (with_reducible refine o_ixor ?_; k_extra "k")
  | (with_reducible refine o_mod (by decide) ?_; k_extra "k")
  | (with_reducible refine o_div (by decide) (by decide) ?_; k_extra "k")
  | with_reducible refine o_strEq ?_
  | with_reducible refine PyProof.Rows.eq_int ?_
  | with_reducible refine PyProof.Rows.ne_int ?_
  | with_reducible refine PyProof.Rows.lt_int ?_
  | with_reducible refine PyProof.Rows.gt_int ?_
  | with_reducible refine wpAny_Call_NameR ?_
  | with_reducible refine Call_method0 (by kernel_rfl) (by kernel_rfl) ?_
  | with_reducible refine Call_method1 (by kernel_rfl) (by kernel_rfl) (by kernel_rfl) ?_
  | with_reducible refine Call_method2 (by kernel_rfl) (by kernel_rfl) (by kernel_rfl) ?_
  | with_reducible refine Subscript_Slice ?_ (fun _ _ => by kernel_rfl)
  | with_reducible refine wpAny_Slice ?_
  | with_reducible refine PyProof.Rows.Subscript_ ?_
  | with_reducible refine wpAny_items_cons ?_ (by kernel_rfl)
  | with_reducible refine wpAny_items_nil ?_
  | with_reducible refine evalPart_none_step ?_
  | with_reducible refine evalPart_some_step ?_
  | with_reducible refine wpAny_isTrue_value ?_ (by kernel_rfl))
local macro_rules | `(tactic| k_extra "e") => `(tactic| repeat k_extra "e1")
set_option hygiene false in
local macro_rules | `(tactic| k_extra "asl") => `(tactic| refine wpAny_execs_cons (x_assign F (.inl (by kernel_rfl)) ?_ (by kernel_rfl)))
set_option hygiene false in
local macro_rules | `(tactic| k_extra "asc") => `(tactic| refine wpAny_execs_cons (x_assign F (.inr ⟨by kernel_rfl, by kernel_rfl⟩) ?_ (by kernel_rfl)))
set_option hygiene false in
local macro_rules | `(tactic| k_extra "set") => `(tactic| (refine ⟨C.k, ?_⟩; intro s2 F2 kl2; clear kl2 C F; have F := F2; clear F2; have C := F.cx))
set_option hygiene false in
local macro_rules | `(tactic| k_extra "fn") => `(tactic| (have K0 := C.k; replace C := C.anew))
set_option hygiene false in
local macro_rules | `(tactic| k_extra "nf") => `(tactic| (refine ⟨C.k, ?_⟩; replace C := C.rebase K0; clear K0))
local macro_rules | `(tactic| k_extra "lkv") => `(tactic| ((with_reducible show Lk _ _ (List.cons _ _)); first | ((with_reducible refine Lk.same ?_); first | rfl | fail "lkv") | exact Lk.there (by k_extra "lkv")))
local macro_rules | `(tactic| k_extra "wk") => `(tactic| first | exact lk_nil | exact lk_cons (lk_eq (by k_extra "lkv") (by kernel_rfl)) (by k_extra "wk"))

local macro_rules | `(tactic| k_extra "cap") => `(tactic| first | exact trivial | exact ⟨⟨by kernel_rfl, by kernel_rfl, by kernel_rfl⟩, by k_extra "cap"⟩)
def ell4 (got : Str) (ep : Int) : List Str → Int → Bool
  | [], _ => true
  | w :: r, sp => if findIn got w sp ep < 0 then false else ell4 got ep r (findIn got w sp ep + (w.length : Int))
def ell3 (ws : List Str) (got : Str) (sp ep : Int) : Bool := if sp > ep then false else ell4 got ep ws sp
def ell2 (ws : List Str) (got : Str) (sp ep : Int) : Bool :=
  let w := ws.getD (ws.length - 1) Str.empty
  if ((w.length : Int) != 0) then (if Txt.endswith got w then ell3 (ws.eraseIdx (ws.length - 1)) got sp (ep - (w.length : Int)) else false) else ell3 ws got sp ep
def ell1 (ws : List Str) (got : Str) : Bool :=
  let w := ws.getD 0 Str.empty
  if ((w.length : Int) != 0) then (if Txt.startswith got w then ell2 (ws.eraseIdx 0) got (w.length : Int) (got.length : Int) else false) else ell2 ws got 0 (got.length : Int)
def ellB (want got : Str) : Bool := if !Txt.contains want "..." then want == got else ell1 (Txt.split want "...") got
section
variable {prog : Program} {w : World} {A : Around} {s₀ s₁ s : Shared} {q : Str} {cd : Value} {L : Addr}
abbrev EB (k : Nat) : List Stmt := (fBody (topSt 11)).drop k
abbrev lE (got : Str) (sp ep : Int) (D : Addr) (tg ts te : Tok) : List (Str × Value) := [("startpos", .int sp ts), ("endpos", .int ep te), ("ws", .ref D), ("got", .str got tg)]
theorem strValues_get {ls : List (Str × Tok)} {i : Nat} {v : Value} (h : (strValues ls)[i]? = some v) : ∃ x t, ls[i]? = some (x, t) ∧ v = .str x t := by
  unfold strValues at h
  rw [List.getElem?_map] at h
  obtain ⟨p, hp, rfl⟩ := Option.map_eq_some_iff.mp h
  exact ⟨p.1, p.2, hp, rfl⟩
theorem ell4_drop {got : Str} {ep sp : Int} {ws : List Str} {i : Nat} {w : Str} (h : ws[i]? = some w) : ell4 got ep (ws.drop i) sp = if findIn got w sp ep < 0 then false else ell4 got ep (ws.drop (i + 1)) (findIn got w sp ep + (w.length : Int)) := by
  obtain ⟨hlt, rfl⟩ := List.getElem?_eq_some_iff.mp h
  rw [List.drop_eq_getElem_cons hlt]
  rfl
set_option maxHeartbeats 1000000 in
theorem ell_s7 {got : Str} {sp ep : Int} {D : Addr} {tg ts te : Tok} {ls : List (Str × Tok)} {Q : Flow → Shared → Prop} (hh : A.handled = none) (hls : ∀ p ∈ ls, p.1.length ≤ 100)
    (F : FS s₀ s₁ (fenv (topSt 11) q cd L 43) (lE got sp ep D tg ts te) [(D, "plain", strValues ls)] s)
    (h : ∀ s', Keeps s₀ s' → Q (.ret (.bool (ell3 (ls.map (·.1)) got sp ep))) s') : wpAny (model prog w) A (execs (EB 8) (fenv (topSt 11) q cd L 43)) Q NoE s := by
  have C := F.cx
  refine wpAny_execs_cons (x_if ?_)
  k_extra "e"
  refine ⟨fun e => ?_, fun e => ?_⟩
  · have e3 : ell3 (ls.map (·.1)) got sp ep = false := if_pos (of_decide_eq_true e)
    refine wpAny_execs_cons (wpAny_Return_some ?_)
    k_extra "e"
    have := h s (kTrans F.keep C.k)
    rw [e3] at this
    exact this
  have e3 : ell3 (ls.map (·.1)) got sp ep = ell4 got ep (ls.map (·.1)) sp := if_neg (of_decide_eq_false e)
  rw [e3] at h
  refine wpAny_execs_nil ?_
  refine wpAny_execs_cons (x_forList (strValues ls) D "plain" (fun i l os => ∃ sp' ts', l = lE got sp' ep D tg ts' te ∧ os = [(D, "plain", strValues ls)] ∧ ell4 got ep (ls.map (·.1)) sp = ell4 got ep ((ls.map (·.1)).drop i) sp') hh F (.inl (by kernel_rfl)) (fun _ => by kernel_rfl) rfl ?_ ?_ ⟨sp, ts, rfl, rfl, rfl⟩ ?_ ?_)
  · k_extra "e"
    exact ⟨rfl, C.k⟩
  · rintro i l' os' ⟨sp', ts', rfl, rfl, _⟩
    exact .head _
  · rintro i l' os' si v hv ⟨sp', ts', rfl, rfl, hell⟩ F3
    obtain ⟨x, tx, hx, rfl⟩ := strValues_get hv
    have hx' : (ls.map (·.1))[i]? = some x := by rw [List.getElem?_map, hx]; rfl
    have hxl : x.length ≤ 100 := hls _ (List.mem_of_getElem? hx)
    rw [ell4_drop hx'] at hell
    clear C F
    have F := F3
    clear F3
    have C := F.cx
    k_extra "asl"
    refine Call_method3 (by kernel_rfl) (by kernel_rfl) (by kernel_rfl) ?_
    k_extra "e"
    refine m_find ?_
    k_extra "e"
    refine ⟨x, tx, sp', ts', ep, te, rfl, rfl, rfl, ?_⟩
    intro tf s3 k3; replace C := C.step k3; clear k3
    k_extra "set"
    refine wpAny_execs_cons (x_if ?_)
    k_extra "e"
    refine ⟨fun e => ?_, fun e => ?_⟩
    · rw [if_pos (of_decide_eq_true e)] at hell
      refine wpAny_execs_cons (wpAny_Return_some ?_)
      k_extra "e"
      have := h _ (kTrans F.keep C.k)
      rw [hell] at this
      exact this
    · rw [if_neg (of_decide_eq_false e)] at hell
      refine wpAny_execs_nil ?_
      replace F := F.grow C.k
      replace C := C.anew
      refine wpAny_execs_cons (x_aug F (lk_eq (by k_extra "lkm") (by kernel_rfl)) (.inl (by kernel_rfl)) ?_)
      k_extra "e"
      refine c_b1 (by kernel_rfl) ?_
      k_extra "e"
      refine c_lenStr (sz hxl (by omega)) ?_
      k_extra "k"
      k_extra "e"
      refine ⟨C.k, fun s7 F7 kl7 => wpAny_execs_nil ?_⟩
      exact ⟨_, _, ⟨_, t, rfl, rfl, hell⟩, F7.weaken (by k_extra "wk")⟩
  · rintro l' os' s5 ⟨sp', ts', rfl, rfl, hell⟩ F3
    have e0 : (ls.map (·.1)).drop (strValues ls).length = [] := List.drop_eq_nil_of_le (by simp [strValues])
    rw [e0] at hell
    clear C F
    have F := F3
    clear F3
    have C := F.cx
    refine wpAny_execs_nil (wpAny_execs_cons (wpAny_Return_some ?_))
    k_extra "e"
    have := h _ (kTrans F.keep C.k)
    rw [hell] at this
    exact this
end
end Mine

namespace Mine
/-! ### lines -/
set_option hygiene false in
local macro_rules | `(tactic| k_extra "k") => `(tactic| (intro t s' k; replace C := Cx.step C k; clear k))
set_option hygiene false in
local macro_rules | `(tactic| k_extra "ks") => `(tactic| (intro s' k; replace C := Cx.step C k; clear k))
local macro_rules | `(tactic| k_extra "lkm") => `(tactic| ((with_reducible show Lk _ _ (List.cons _ _)); first | with_reducible exact Lk.here | exact Lk.there (by k_extra "lkm")))
set_option hygiene false in
local macro_rules | `(tactic| k_extra "name") => `(tactic| first
  | with_reducible refine e_name C (lk_eq (by k_extra "lkm") (by kernel_rfl)) ?_ (by kernel_rfl)
  | with_reducible refine e_glob C (lk_eq (by k_extra "lkm") (by kernel_rfl)) (by kernel_rfl) (by kernel_rfl) (by kernel_rfl) ?_ (by kernel_rfl))
set_option hygiene false in
local macro_rules | `(tactic| k_extra "e1") => `(tactic| first
  | ((with_reducible show wpAny _ _ (eval (Expr.Name _ _) _) _ _ _); k_extra "name")
  | (with_reducible refine e_int ?_; k_extra "k")
  | (with_reducible refine e_str ?_; k_extra "k")
  | with_reducible refine wpAny_Constant_none ?_
  | with_reducible refine wpAny_Constant_bool ?_
  | with_reducible refine wpAny_BinOp ?_
  | with_reducible refine wpAny_UnaryOp ?_
  | with_reducible refine wpAny_Compare1 ?_
  | with_reducible refine wpAny_isTrue_Compare1 ?_
  | with_reducible refine wpAny_isTrue_Not ?_
  | with_reducible refine wpAny_isTrue_BoolOp ?_
  | with_reducible refine e_andC ?_
  | with_reducible refine e_orC ?_
  | with_reducible refine wpAny_allTrue_And_nil ?_
  | with_reducible refine wpAny_allTrue_Or_nil ?_
  | with_reducible refine wpAny_truthy_bool ?_
  | with_reducible refine t_int ?_
  | (with_reducible refine o_add ?_; k_extra "k")
  | (with_reducible refine o_sub ?_; k_extra "k")
  | (with_reducible refine o_and ?_; k_extra "k")
  | (with_reducible refine o_neg ?_; k_extra "k")
  | (with_reducible refine o_iadd ?_; k_extra "k")
  | (with_reducible refine o_isub ?_; k_extra "k")
  | (with_reducible refine o_ixor ?_; k_extra "k")
  | (with_reducible refine o_mod (by decide) ?_; k_extra "k")
  | (with_reducible refine o_div (by decide) (by decide) ?_; k_extra "k")
  | with_reducible refine o_strEq ?_
  | with_reducible refine PyProof.Rows.eq_int ?_
  | with_reducible refine PyProof.Rows.ne_int ?_
  | with_reducible refine PyProof.Rows.lt_int ?_
  | with_reducible refine PyProof.Rows.gt_int ?_
  | with_reducible refine wpAny_Call_NameR ?_
  | with_reducible refine Call_method0 (by kernel_rfl) (by kernel_rfl) ?_
  | with_reducible refine Call_method1 (by kernel_rfl) (by kernel_rfl) (by kernel_rfl) ?_
  | with_reducible refine Call_method2 (by kernel_rfl) (by kernel_rfl) (by kernel_rfl) ?_
  | with_reducible refine Subscript_Slice ?_ (fun _ _ => by kernel_rfl)
  | with_reducible refine wpAny_Slice ?_
  | with_reducible refine PyProof.Rows.Subscript_ ?_
  | with_reducible refine wpAny_items_cons ?_ (by kernel_rfl)
  | with_reducible refine wpAny_items_nil ?_
  | with_reducible refine evalPart_none_step ?_
  | with_reducible refine evalPart_some_step ?_
  | with_reducible refine wpAny_isTrue_value ?_ (by kernel_rfl))
local macro_rules | `(tactic| k_extra "e") => `(tactic| repeat k_extra "e1")
set_option hygiene false in
local macro_rules | `(tactic| k_extra "asl") => `(tactic| refine wpAny_execs_cons (x_assign F (.inl (by kernel_rfl)) ?_ (by kernel_rfl)))
set_option hygiene false in
local macro_rules | `(tactic| k_extra "asc") => `(tactic| refine wpAny_execs_cons (x_assign F (.inr ⟨by kernel_rfl, by kernel_rfl⟩) ?_ (by kernel_rfl)))
set_option hygiene false in
local macro_rules | `(tactic| k_extra "set") => `(tactic| (refine ⟨C.k, ?_⟩; intro s2 F2 kl2; clear kl2 C F; have F := F2; clear F2; have C := F.cx))
set_option hygiene false in
local macro_rules | `(tactic| k_extra "fn") => `(tactic| (have K0 := C.k; replace C := C.anew))
set_option hygiene false in
local macro_rules | `(tactic| k_extra "nf") => `(tactic| (refine ⟨C.k, ?_⟩; replace C := C.rebase K0; clear K0))
local macro_rules | `(tactic| k_extra "lkv") => `(tactic| ((with_reducible show Lk _ _ (List.cons _ _)); first | ((with_reducible refine Lk.same ?_); first | rfl | fail "lkv") | exact Lk.there (by k_extra "lkv")))
local macro_rules | `(tactic| k_extra "wk") => `(tactic| first | exact lk_nil | exact lk_cons (lk_eq (by k_extra "lkv") (by kernel_rfl)) (by k_extra "wk"))

local macro_rules | `(tactic| k_extra "cap") => `(tactic| first | exact trivial | exact ⟨⟨by kernel_rfl, by kernel_rfl, by kernel_rfl⟩, by k_extra "cap"⟩)
section
variable {prog : Program} {w : World} {A : Around} {s₀ s₁ s : Shared} {q : Str} {cd : Value} {L : Addr}
theorem getD_map {ls : List (Str × Tok)} {i : Nat} (h : i < ls.length) : ∃ t, (strValues ls)[i]? = some (.str ((ls.map (·.1)).getD i Str.empty) t) ∧ ((ls.map (·.1)).getD i Str.empty, t) ∈ ls := by
  refine ⟨ls[i].2, ?_, ?_⟩
  · simp [strValues, h]
  · have : ls[i] ∈ ls := List.getElem_mem h
    have e : (ls.map (·.1)).getD i Str.empty = ls[i].1 := by simp [h]
    rw [e]; exact this
theorem map_eraseIdx {α β : Type} (f : α → β) : ∀ (l : List α) (i : Nat), (l.map f).eraseIdx i = (l.eraseIdx i).map f
  | [], _ => rfl
  | _ :: _, 0 => rfl
  | a :: l, i + 1 => by simp [map_eraseIdx f l i]
theorem strValues_erase (ls : List (Str × Tok)) (i : Nat) : (strValues ls).eraseIdx i = strValues (ls.eraseIdx i) := by
  unfold strValues
  rw [map_eraseIdx]
theorem map_erase (ls : List (Str × Tok)) (i : Nat) : (ls.map (·.1)).eraseIdx i = (ls.eraseIdx i).map (·.1) := map_eraseIdx _ _ _
set_option maxHeartbeats 1000000 in
theorem ell_s6 {got : Str} {sp ep : Int} {D : Addr} {tg ts te : Tok} {ls : List (Str × Tok)} {Q : Flow → Shared → Prop} (hh : A.handled = none) (hls : ∀ p ∈ ls, p.1.length ≤ 100) (hlen : 1 ≤ ls.length) (hlen2 : ls.length ≤ 100) (hD : s₀.heap.get? D = none)
    (F : FS s₀ s₁ (fenv (topSt 11) q cd L 43) (lE got sp ep D tg ts te) [(D, "plain", strValues ls)] s)
    (h : ∀ s', Keeps s₀ s' → Q (.ret (.bool (ell2 (ls.map (·.1)) got sp ep))) s') : wpAny (model prog w) A (execs (EB 6) (fenv (topSt 11) q cd L 43)) Q NoE s := by
  have C := F.cx
  obtain ⟨tw, hw, hwm⟩ := getD_map (ls := ls) (i := ls.length - 1) (by omega)
  have hl2 : ((strValues ls).length : Int) = ls.length := by simp [strValues]
  have hwl := hls _ hwm
  have em : (ls.map (·.1)).length = ls.length := by simp
  unfold ell2 at h
  rw [em] at h
  generalize hww : (ls.map (·.1)).getD (ls.length - 1) Str.empty = wl at h hw hwm hwl
  k_extra "asl"
  k_extra "e"
  refine st_listNeg (C.plain (.head _)).isList (by decide) (by rw [hl2]; omega) (by decide) (v := .str wl tw) (by rw [hl2, ← hw]; congr 1; omega) (by kernel_rfl) ?_
  k_extra "set"
  refine wpAny_execs_cons (x_if ?_)
  k_extra "e"
  refine t_str (sz hwl (by omega)) ?_
  k_extra "ks"
  refine ⟨fun e => ?_, fun e => ?_⟩
  · dsimp only at h
    rw [if_pos e] at h
    refine wpAny_execs_cons (x_if ?_)
    k_extra "e"
    refine m_ends ?_
    k_extra "e"
    refine ⟨wl, tw, rfl, ?_⟩
    k_extra "e"
    refine ⟨fun e2 => ?_, fun e2 => ?_⟩
    · rw [if_pos e2] at h
      replace F := F.grow C.k
      replace C := C.anew
      refine wpAny_execs_cons (x_aug F (lk_eq (by k_extra "lkm") (by kernel_rfl)) (.inl (by kernel_rfl)) ?_)
      k_extra "e"
      refine c_b1 (by kernel_rfl) ?_
      k_extra "e"
      refine c_lenStr (sz hwl (by omega)) ?_
      k_extra "k"
      k_extra "e"
      k_extra "set"
      obtain ⟨tE, F2⟩ : ∃ tE, FS s₀ s₁ (fenv (topSt 11) q cd L 43) (("endpos", .int (ep - (wl.length : Int)) tE) :: ("w", .str wl tw) :: lE got sp ep D tg ts te) [(D, "plain", strValues ls)] s2 := ⟨_, F⟩
      clear F C
      have F := F2
      clear F2
      have C := F.cx
      refine wpAny_execs_cons (wpAny_Delete (wpAny_deleteEach_cons (wpAny_delete_Subscript ?_)))
      k_extra "e"
      refine del_list (i := 0) (j := ls.length - 1) (F.grow C.k) rfl hD (by decide) ?_ (by omega) ?_
      · rw [seqIndex_neg (by decide) (by rw [hl2]; omega)]
        rw [hl2]; congr 1; omega
      intro s7 F7
      refine wpAny_deleteEach_nil (wpAny_execs_nil (wpAny_execs_nil ?_))
      have F8 : FS s₀ s₁ (fenv (topSt 11) q cd L 43) (lE got sp (ep - (wl.length : Int)) D tg ts tE) [(D, "plain", strValues (ls.eraseIdx (ls.length - 1)))] s7 := by
        rw [← strValues_erase]
        exact F7.weaken (by k_extra "wk")
      rw [map_erase] at h
      exact ell_s7 hh (fun p hp => hls p (List.mem_of_mem_eraseIdx hp)) F8 h
    · rw [if_neg (by simp [e2])] at h
      refine wpAny_execs_cons (wpAny_Return_some ?_)
      k_extra "e"
      exact h _ (kTrans F.keep C.k)
  · dsimp only at h
    rw [if_neg (by simp [e])] at h
    refine wpAny_execs_nil ?_
    exact ell_s7 hh hls ((F.grow C.k).weaken (by k_extra "wk")) h
set_option maxHeartbeats 1000000 in
theorem ell_s4 {got : Str} {D : Addr} {tg ts te : Tok} {ls : List (Str × Tok)} {Q : Flow → Shared → Prop} (hh : A.handled = none) (hls : ∀ p ∈ ls, p.1.length ≤ 100) (hlen : 2 ≤ ls.length) (hlen2 : ls.length ≤ 100) (hD : s₀.heap.get? D = none)
    (F : FS s₀ s₁ (fenv (topSt 11) q cd L 43) (lE got 0 (got.length : Int) D tg ts te) [(D, "plain", strValues ls)] s)
    (h : ∀ s', Keeps s₀ s' → Q (.ret (.bool (ell1 (ls.map (·.1)) got))) s') : wpAny (model prog w) A (execs (EB 4) (fenv (topSt 11) q cd L 43)) Q NoE s := by
  have C := F.cx
  obtain ⟨tw, hw, hwm⟩ := getD_map (ls := ls) (i := 0) (by omega)
  have hl2 : ((strValues ls).length : Int) = ls.length := by simp [strValues]
  have hwl := hls _ hwm
  unfold ell1 at h
  generalize hww : (ls.map (·.1)).getD 0 Str.empty = wl at h hw hwm hwl
  k_extra "asl"
  k_extra "e"
  refine st_list (C.plain (.head _)).isList (by decide) (by decide) hw (by kernel_rfl) ?_
  k_extra "set"
  refine wpAny_execs_cons (x_if ?_)
  k_extra "e"
  refine t_str (sz hwl (by omega)) ?_
  k_extra "ks"
  refine ⟨fun e => ?_, fun e => ?_⟩
  · dsimp only at h
    rw [if_pos e] at h
    refine wpAny_execs_cons (x_if ?_)
    k_extra "e"
    refine m_starts ?_
    k_extra "e"
    refine ⟨wl, tw, rfl, ?_⟩
    k_extra "e"
    refine ⟨fun e2 => ?_, fun e2 => ?_⟩
    · rw [if_pos e2] at h
      replace F := F.grow C.k
      replace C := C.anew
      k_extra "asl"
      k_extra "e"
      refine c_b1 (by kernel_rfl) ?_
      k_extra "e"
      refine c_lenStr (sz hwl (by omega)) ?_
      intro tE s3 k3; replace C := C.step k3; clear k3
      k_extra "set"
      refine wpAny_execs_cons (wpAny_Delete (wpAny_deleteEach_cons (wpAny_delete_Subscript ?_)))
      k_extra "e"
      refine del_list (i := 0) (j := 0) (F.grow C.k) rfl hD (by decide) ?_ (by omega) ?_
      · have : 0 < (strValues ls).length := by omega
        simp [seqIndex?, this]
      intro s7 F7
      refine wpAny_deleteEach_nil (wpAny_execs_nil (wpAny_execs_nil ?_))
      have F8 : FS s₀ s₁ (fenv (topSt 11) q cd L 43) (lE got (wl.length : Int) (got.length : Int) D tg tE te) [(D, "plain", strValues (ls.eraseIdx 0))] s7 := by
        rw [← strValues_erase]
        exact F7.weaken (by k_extra "wk")
      rw [map_erase] at h
      have hel : (ls.eraseIdx 0).length = ls.length - 1 := by rw [List.length_eraseIdx]; rw [if_pos (by omega)]
      exact ell_s6 hh (fun p hp => hls p (List.mem_of_mem_eraseIdx hp)) (by omega) (by omega) hD F8 h
    · rw [if_neg (by simp [e2])] at h
      refine wpAny_execs_cons (wpAny_Return_some ?_)
      k_extra "e"
      exact h _ (kTrans F.keep C.k)
  · dsimp only at h
    rw [if_neg (by simp [e])] at h
    refine wpAny_execs_nil ?_
    exact ell_s6 hh hls (by omega) (by omega) hD ((F.grow C.k).weaken (by k_extra "wk")) h
set_option maxHeartbeats 1000000 in
theorem ell_call {want got : Str} {t1 t2 : Tok} {Q : Value → Shared → Prop} {E : Value → Shared → Prop} (B : Base s.heap) (hA : Aok 1 A) (hw : want.length ≤ 100) (hg : got.length ≤ 100)
    (hsp : Txt.contains want "..." = true → 2 ≤ (Txt.split want "...").length ∧ (Txt.split want "...").length ≤ 100 ∧ (∀ x ∈ Txt.split want "...", x.length ≤ 100) ∧
      (Builtin.Str.partsBetween want (Builtin.Str.occurrences want "..." 0 want.length (want.length + 1)) (Str.ofString "...").length).length ≤ 1000)
    (h : ∀ s', Keeps s s' → Q (.bool (ellB want got)) s') : wpAny (model prog w) A (call (.ref 43) [.str want t1, .str got t2]) Q E s := by
  refine call_fn B B.fEll hA.room (binds := [("want", .str want t1), ("got", .str got t2)]) (by intros; kernel_rfl) (fun n => fm_cons (.inl (by kernel_rfl)) (fm_cons (.inl (by kernel_rfl)) fm_nil)) (by kernel_rfl) (by kernel_rfl) (by kernel_rfl) ?_
  intro q cd L s₁ F
  change FS _ _ _ [("got", .str got t2), ("want", .str want t1)] _ _ at F
  have hA1 := hA.deeper (fenv (topSt 11) q cd L 43)
  generalize hAe : A.deeper (fenv (topSt 11) q cd L 43) = A1 at hA1 ⊢
  have C := F.cx
  refine wpAny_execs_cons (x_if ?_)
  k_extra "e"
  refine SB.notContains ?_
  k_extra "e"
  refine ⟨fun e => ?_, fun e => ?_⟩
  · have eB : ellB want got = (want == got) := if_pos e
    refine wpAny_execs_cons (wpAny_Return_some ?_)
    k_extra "e"
    have := h _ (kTrans F.keep C.k)
    rw [eB] at this
    exact this
  have eB : ellB want got = ell1 (Txt.split want "...") got := if_neg (by simp [e])
  rw [eB] at h
  obtain ⟨g1, g2, g3, g4⟩ := hsp (by simpa using e)
  refine wpAny_execs_nil ?_
  replace F := F.grow C.k
  replace C := C.anew
  -- ws
  k_extra "asl"
  k_extra "e"
  refine m_str1 PySem.F.slot_str_split PySem.F.type_str_split ?_
  k_extra "e"
  refine c_split (by decide +kernel) (by omega) (Nat.le_trans g4 (by rw [sizeLine_eq]; omega)) ?_
  intro D ls n s2 k hD ho hls
  have hD0 := (F.grow C.k).new0 hD
  have hn := (F.grow C.k).notin hD
  refine ⟨kTrans C.k k, fun s3 F3 kl3 => ?_⟩
  have F4 := F3.add (c := "plain") hn (kl3.seq ho rfl) rfl rfl (fun _ => ⟨rfl, rfl⟩)
  clear C F F3
  have F := F4
  clear F4
  have C := F.cx
  have hll : ls.length = (Txt.split want "...").length := by rw [← hls]; simp
  have hlsl : ∀ p ∈ ls, p.1.length ≤ 100 := fun p hp => g3 _ (by rw [← hls]; exact List.mem_map_of_mem hp)
  have hsv : (strValues ls).length = ls.length := by simp [strValues]
  -- assert
  refine wpAny_execs_cons (wpAny_Assert_holds ?_)
  k_extra "e"
  refine c_b1 (by kernel_rfl) ?_
  k_extra "e"
  refine c_lenList (C.plain (.head _)).isList (by omega) ?_
  k_extra "k"
  k_extra "e"
  refine PyProof.Rows.ge_int ?_
  k_extra "e"
  refine ⟨decide_eq_true (by rw [hsv]; omega), ?_⟩
  replace F := F.grow C.k
  replace C := C.anew
  -- startpos, endpos
  refine wpAny_execs_cons (Assign_Tuple_swapped (names := ["startpos", "endpos"]) ?_ (by kernel_rfl) (by kernel_rfl))
  refine e_tuple ?_
  refine wpAny_items_cons ?_ (by kernel_rfl)
  refine e_int ?_
  intro ts s4 k4; replace C := C.step k4; clear k4
  k_extra "e"
  refine c_b1 (by kernel_rfl) ?_
  k_extra "e"
  refine c_lenStr (sz hg (by omega)) ?_
  intro te s4 k4; replace C := C.step k4; clear k4
  k_extra "e"
  refine ⟨by show 2 ≤ 1000; omega, fun T s5 k hT ho5 => ?_⟩
  replace C := C.step k
  clear k
  refine unpack_tup hA1.hd (items := [.int 0 ts, .int (got.length : Int) te]) ⟨_, ho5, rfl, _, rfl⟩ rfl ?_
  k_extra "ks"
  refine asg2 (wpAny_bindName (storeF (F.grow C.k) (.inl (by kernel_rfl)) fun s6 F6 kl6 => ?_))
  refine wpAny_bindName (storeF F6 (.inl (by kernel_rfl)) fun s7 F7 kl7 => ?_)
  rw [← hls] at h
  exact ell_s4 hA1.hd hlsl (by omega) (by omega) hD0 (F7.weaken (by k_extra "wk")) h
end
end Mine

namespace Mine
/-! ### comprehensions -/
structure Trn (prog : Program) (w : World) (A : Around) (target : Expr) (I : Addr) (fp wr : List Addr) (n : Nat) (B : Nat → List (Str × Value) → Prop) (St : Nat → Heap → Prop) (names : List Str) : Prop where
  sub : ∀ b ∈ wr, b ∈ fp
  frame : ∀ i h h', St i h → (∀ b ∈ fp, ∀ o, h.get? b = some o → h'.get? b = some o) → St i h'
  turn : ∀ i (s : Shared) (env : Env) (m : Str → Option Value) (Q : Unit → Shared → Prop) (E : Value → Shared → Prop), i < n → St i s.heap → env.locals ∉ fp → s.heap.Ns env.locals m → env.scope.kind = .function → (∀ x ∈ names, env.kindOf x = some .local) →
    (∀ bs m' h' tk, B i bs → h'.Ns env.locals m' → (∀ x v, bs.lookup x = some v → x ∈ names ∧ m' x = some v) → St (i + 1) h' → (∀ b o, b ∉ wr → b ≠ env.locals → s.heap.get? b = some o → h'.get? b = some o) → Q () { s with heap := h', toks := tk }) →
    wpAny (model prog w) A (pyNext (.ref I)) (fun r s₁ => ∃ v, r = some v ∧ wpAny (model prog w) A (letOwnedTupleGo target (.ref I) v) (fun _ s₂ => wpAny (model prog w) A (assign target env v) Q E s₂) E s₁) E s
  done : ∀ (s : Shared) (Q : Option Value → Shared → Prop) (E : Value → Shared → Prop), St n s.heap →
    (∀ h' tk, (∀ b o, b ∉ wr → s.heap.get? b = some o → h'.get? b = some o) → Q none { s with heap := h', toks := tk }) → wpAny (model prog w) A (pyNext (.ref I)) Q E s
  self : ∀ i (s : Shared) (Q : Value → Shared → Prop) (E : Value → Shared → Prop), St i s.heap → Q (.ref I) s → wpAny (model prog w) A (pyIter (.ref I)) Q E s
  here : ∀ i h, St i h → ∀ b ∈ wr, ∃ o, h.get? b = some o
section
variable {prog : Program} {w : World} {A : Around}
theorem Trn.name {I : Addr} {fp wr : List Addr} {n : Nat} {P : Nat → Value → Prop} {St : Nat → Heap → Prop} {x : Str} {px : Pos} (W : Walks prog w A I fp wr n P St) (hr : ∀ i h, St i h → ∀ b ∈ wr, ∃ o, h.get? b = some o) :
    Trn prog w A (.Name x px) I fp wr n (fun i bs => ∃ v, P i v ∧ bs = [(x, v)]) St [x] where
  sub := W.sub
  frame := W.frame
  done := W.done
  self := W.self
  here := hr
  turn := fun i s env m Q E hi st hC hn hk hx h => by
    refine W.item i s _ _ hi st fun v h1 tk1 hP st1 hk1 => ⟨v, rfl, ?_⟩
    show wpAny _ _ (pure ()) _ _ _
    refine wpAny_pure (wpAny_assign_Name (wpAny_storeName_local (hx x (.head _)) (hn.at' fun o e => hk1 _ o (fun hm => hC (W.sub _ hm)) e) (fun h2 hn2 hs2 => ?_) (by rw [hk]; rfl)))
    refine h _ _ h2 _ ⟨v, hP, rfl⟩ hn2 (fun y u e => ?_) (W.frame _ _ _ st1 fun b hb o e => hs2.extBut b o (fun q => hC (q ▸ hb)) e) fun b o hb hbC e => hs2.extBut b o hbC (hk1 b o hb e)
    rw [lookup_cons'] at e
    by_cases hy : y = x
    · subst hy; rw [if_pos rfl] at e; cases e; exact ⟨.head _, by simp⟩
    · rw [if_neg hy] at e; cases e
theorem Trn.pair {I : Addr} {fp wr : List Addr} {n : Nat} {Pt : Nat → Array Value → Prop} {St : Nat → Heap → Prop} {Mid : Nat → Addr → Heap → Prop} {a b : Str} {pa pb tp : Pos} {kk : Nat} (hh : A.handled = none) (h2p : ∀ i v, Pt i v → ∃ x y, v = #[x, y]) (W : WalksU prog w A I fp wr n Pt St Mid) (hr : ∀ i h, St i h → ∀ b ∈ wr, ∃ o, h.get? b = some o) :
    Trn prog w A (.Tuple [.Name a pa, .Name b pb] kk tp) I fp wr n (fun i bs => ∃ x y, Pt i #[x, y] ∧ bs = [(b, y), (a, x)]) St [a, b] where
  sub := W.sub
  frame := W.frame
  done := W.done
  self := W.self
  here := hr
  turn := fun i s env m Q E hi st hC hn hk hx h => by
    refine W.item i s _ _ hi st fun T vals h1 tk1 hP hT hM hk1 => ⟨_, rfl, ?_⟩
    refine W.go _ _ _ i T _ _ _ hM fun h2 st2 hk2 => ?_
    obtain ⟨x, y, rfl⟩ := h2p i vals hP
    have hT2 : h2.IsTuple T #[x, y] := by
      obtain ⟨o, e, r⟩ := hT
      exact ⟨o, hk2 T o (W.apart i T _ hM) e, r⟩
    have hn2 : h2.Ns env.locals m := (hn.at' fun o e => hk1 _ o (fun q => hC (W.sub _ q)) e).at' fun o e => hk2 _ o (fun q => hC (W.sub _ q)) e
    refine kcp_assign hh hT2 (hx a (by simp)) (hx b (by simp)) (by rw [hk]; rfl) hn2 fun h3 tk3 hn3 hk3 => ?_
    refine h _ _ h3 _ ⟨x, y, hP, rfl⟩ hn3 (fun z u e => ?_) (W.frame _ _ _ st2 fun c hc o e => hk3 c o (fun q => hC (q ▸ hc)) e) fun c o hc hcL e => hk3 c o hcL (hk2 c o hc (hk1 c o hc e))
    rw [lookup_cons'] at e
    by_cases hz : z = b
    · subst hz; rw [if_pos rfl] at e; cases e; exact ⟨by simp, by simp⟩
    · rw [if_neg hz, lookup_cons'] at e
      by_cases hz2 : z = a
      · subst hz2; rw [if_pos rfl] at e; cases e; exact ⟨by simp, by simp [hz]⟩
      · rw [if_neg hz2] at e; cases e
end
end Mine

namespace Mine
/-! ### the block of a list comprehension -/
def closL (cells : List (Str × Addr)) : List (Str × NameKind) → List (Str × Addr) → List (Str × Addr)
  | [], acc => acc
  | (n, k) :: r, acc => closL cells r (if k == .free then (match cells.lookup n with | some a => (n, a) :: acc | none => acc) else acc)
def Cap (env : Env) (scope : Scope) (cl : List (Str × Addr)) : List Str → Prop
  | [] => True
  | x :: r => (env.kindOf x = some .cell ∧ (relabel scope env).names.lookup x = some .cell ∧ cl.lookup x = env.cells.lookup x) ∧ Cap env scope cl r
theorem Cap.mem {env : Env} {scope : Scope} {cl : List (Str × Addr)} : ∀ {xs : List Str} {x : Str}, Cap env scope cl xs → x ∈ xs → env.kindOf x = some .cell ∧ (relabel scope env).names.lookup x = some .cell ∧ cl.lookup x = env.cells.lookup x
  | _ :: _, _, h, hx => by
    rcases List.mem_cons.mp hx with rfl | hx
    · exact h.1
    · exact Cap.mem h.2 hx
theorem mem_names {l : List (Str × Value)} {x : Str} {v : Value} (h : l.lookup x = some v) : x ∈ l.map (·.1) := by
  induction l with
  | nil => cases h
  | cons p r ih =>
    obtain ⟨y, u⟩ := p
    rw [lookup_cons'] at h
    by_cases hy : x = y
    · subst hy; simp
    · rw [if_neg hy] at h; simp [ih h]
theorem lookup_app {l l' : List (Str × Value)} {x : Str} {v : Value} (h : (l ++ l').lookup x = some v) : l.lookup x = some v ∨ l'.lookup x = some v := by
  induction l with
  | nil => exact .inr h
  | cons p r ih =>
    obtain ⟨y, u⟩ := p
    rw [List.cons_append, lookup_cons'] at h
    rw [lookup_cons']
    by_cases hy : x = y
    · rw [if_pos hy] at h ⊢; exact .inl h
    · rw [if_neg hy] at h ⊢; exact ih h

abbrev Objs := List (Addr × String × List Value)
section
variable {prog : Program} {w : World} {A : Around} {E : Value → Shared → Prop} {s s₁ : Shared} {env : Env} {l : List (Str × Value)} {os : Objs}
theorem cl_loop {elt target iter : Expr} {ifs : List Expr} {scope : Scope} {pos : Pos} {it acc : Value} {env : Env} {R : Result → Shared → Prop} (I : Nat → Shared → Prop)
    (turn : ∀ n s, I n s → wpAny (model prog w) A (pyNext it) (fun r s₁ => (r = none ∧ R (.ok .next) s₁) ∨ ∃ v, r = some v ∧ wpAny (model prog w) A (letOwnedTupleGo target it v) (fun _ s₀ => wpAny (model prog w) A (assign target env v) (fun _ s₂ =>
          wpAny (model prog w) A (forIn ifs true fun c r => if r = true then do let ok ← isTrue c env (eval c env); pure (ForInStep.yield ok) else pure (ForInStep.yield r)) (fun ok s₃ =>
            if ok = true then wpAny (model prog w) A (eval elt env) (fun x s₄ =>
              wpAny (model prog w) A (call (.builtin "list.append") [acc, x]) (fun _ s₅ => ∃ m, m < n ∧ I m s₅) (notedBy (model prog w) A env fun e s' => R (.error e) s') s₄) (notedBy (model prog w) A env fun e s' => R (.error e) s') s₃
            else ∃ m, m < n ∧ I m s₃) (notedBy (model prog w) A env fun e s' => R (.error e) s') s₂)
          (notedBy (model prog w) A env fun e s' => R (.error e) s') s₀) (notedBy (model prog w) A env fun e s' => R (.error e) s') s₁) (notedBy (model prog w) A env fun e s' => R (.error e) s') s)
    (n : Nat) (h : I n s) : codeAny (model prog w) A (.compLoop (.ListComp elt [⟨target, iter, ifs, 0⟩] scope pos) 0 it acc env) R s := by
  refine codeAny_loop rfl I (fun n s hI => ?_) n h
  show wpAny _ A ((compTurn (.ListComp elt [⟨target, iter, ifs, 0⟩] scope pos) 0 it acc env).onRaise (fun x => do noteFrame x env; theTreesLotGoes x)) _ _ s
  refine wpAny_noted ?_
  rw [compTurn_list]
  refine wpAny_bind (wpAny_standAt (wpAny_bind (wpAny_mono (turn n s hI) (fun r s₁ h₁ => ?_) fun _ _ h' => h')))
  rcases h₁ with ⟨rfl, h₁⟩ | ⟨v, rfl, h₁⟩
  · exact wpAny_pure h₁
  · refine wpAny_bind (wpAny_mono h₁ (fun _ s₁' h₁' => ?_) fun _ _ h' => h')
    refine wpAny_bind (wpAny_mono h₁' (fun _ s₂ h₂ => wpAny_bind (wpAny_mono h₂ (fun ok s₃ h₃ => ?_) fun _ _ h' => h')) fun _ _ h' => h')
    cases ok with
    | false => exact wpAny_pure ⟨rfl, h₃⟩
    | true =>
      exact wpAny_bind (wpAny_bind (wpAny_mono h₃ (fun x s₄ h₄ => wpAny_bind (wpAny_mono h₄ (fun _ s₅ h₅ => wpAny_pure (wpAny_pure ⟨rfl, h₅⟩)) fun _ _ h' => h')) fun _ _ h' => h'))

/-- one turn's tests and element, in the comprehension's own frame -/
def Elem (prog : Program) (w : World) (A : Around) (env : Env) (scope : Scope) (cl : List (Str × Addr)) (ifs : List Expr) (elt : Expr) (n : Nat) (B : Nat → List (Str × Value) → Prop) (Acc : Nat → List Value → Objs → Prop) (l' : List (Str × Value)) (os : Objs) : Prop :=
  ∀ i bs ys news C s₃ (E' : Value → Shared → Prop), i < n → B i bs → Acc i ys news → Cx s₃ (compEnvC scope cl C env) (bs ++ l') (news ++ os) s₃ →
    wpAny (model prog w) A (forIn ifs true fun c r => if r = true then do let ok ← isTrue c (compEnvC scope cl C env) (eval c (compEnvC scope cl C env)); pure (ForInStep.yield ok) else pure (ForInStep.yield r))
      (fun ok s₄ => if ok = true then wpAny (model prog w) A (eval elt (compEnvC scope cl C env)) (fun y s₅ => Keeps s₃ s₅ ∧ ∃ nw : Objs, (∀ p ∈ nw, s₃.heap.get? p.1 = none) ∧ (nw.map (·.1)).Nodup ∧ Pts nw s₅.heap ∧ Acc (i + 1) (ys ++ [y]) (nw ++ news)) E' s₄
        else Keeps s₃ s₄ ∧ Acc (i + 1) ys news) E' s₃

theorem cblock {elt target iter : Expr} {ifs : List Expr} {scope : Scope} {cl : List (Str × Addr)} {pos : Pos} {s₂ : Shared} {I : Addr} {fp wr : List Addr} {n : Nat} {B : Nat → List (Str × Value) → Prop} {St : Nat → Heap → Prop} {names : List Str}
    {l' : List (Str × Value)} {Acc : Nat → List Value → Objs → Prop} {RR : Value → Addr → Result → Shared → Prop}
    (T : Trn prog w A target I fp wr n B St names) (hsz : n ≤ sizeLine) (hcell : ∀ y ∈ scope.names, y.2 ≠ .cell) (hkind : scope.kind = .function) (hx : ∀ x ∈ names, scope.names.lookup x = some .local)
    (hst : St 0 s₂.heap) (hfp : ∀ b ∈ fp, b < s₂.heap.objs.size) (K : Keeps s s₂) (hwr : ∀ b ∈ wr, s.heap.get? b = none) (V : Cx s₁ env l os s) (hcap : Cap env scope cl (l'.map (·.1))) (hl' : ∀ x v, l'.lookup x = some v → l.lookup x = some v)
    (el : Elem prog w A env scope cl ifs elt n B Acc l' os) (h0 : Acc 0 [] [])
    (hRR : ∀ D C h tk m' ys news, s₂.heap.get? D = none → s₂.heap.get? C = none → D ≠ C → h.Ns C m' → h.get? D = some (LCg.lst ys) → Pts news h → (∀ p ∈ news, s₂.heap.get? p.1 = none ∧ p.1 ≠ C ∧ p.1 ≠ D) → (news.map (·.1)).Nodup → Acc n ys news → ys.length ≤ n →
      (∀ b o, s.heap.get? b = some o → h.get? b = some o) → RR (.ref D) C (.ok .next) { s₂ with heap := h, toks := tk }) :
    wpAny (model prog w) A (newList []) (fun acc s₃ => wpAny (model prog w) A (newFunctionEnv scope env.globals cl [] env.qual none .none (some env)) (fun cenv s₄ =>
      codeAny (model prog w) A (.compStart (.ListComp elt [⟨target, iter, ifs, 0⟩] scope pos) 0 (.ref I) acc { cenv with scope := relabel scope env }) (RR acc cenv.locals) s₄) E s₃) E s₂ := by
  refine wpAny_newObj_type (wpAny_newFunctionEnv hcell (by intro y hy; simp at hy) (fun h₁ hns₁ hsb₁ => ?_) hkind)
  dsimp only at hns₁ hsb₁ ⊢
  generalize hH2 : s₂.heap.push { cls := .type "list", dict := none, data := .seq ([] : List Value).toArray } = H2 at hns₁ hsb₁ ⊢
  have hC : H2.objs.size = s₂.heap.objs.size + 1 := by rw [← hH2, Heap.size_push]
  have hDC : s₂.heap.objs.size ≠ H2.objs.size := by rw [hC]; exact Nat.ne_of_lt (Nat.lt_succ_self _)
  have below : ∀ b, b < s₂.heap.objs.size → b ≠ H2.objs.size ∧ b ≠ s₂.heap.objs.size := fun b hb => ⟨by rw [hC]; exact Nat.ne_of_lt (Nat.lt_succ_of_lt hb), Nat.ne_of_lt hb⟩
  have hDf : s₂.heap.objs.size ∉ fp := fun hm => Nat.lt_irrefl _ (hfp _ hm)
  have hCf : H2.objs.size ∉ fp := fun hm => by have := hfp _ hm; rw [hC] at this; exact Nat.lt_irrefl _ (Nat.lt_of_succ_lt this)
  have old : ∀ b o, s₂.heap.get? b = some o → h₁.get? b = some o := fun b o e => hsb₁.extBut b o (below b (Heap.lt_size e)).1 (Heap.get?_push_of_some _ (hH2 ▸ Heap.get?_push_of_some _ e))
  have hacc : h₁.get? s₂.heap.objs.size = some (LCg.lst []) := hsb₁.extBut _ _ hDC (Heap.get?_push_of_some _ (hH2 ▸ Heap.get?_push_size _ rfl))
  have hst₁ : St 0 h₁ := T.frame _ _ _ hst fun b _ o e => old b o e
  have fresh : ∀ a, s₂.heap.objs.size ≤ a → s₂.heap.get? a = none := fun a ha => by
    cases e : s₂.heap.get? a with
    | none => rfl
    | some o' => exact absurd (Heap.lt_size e) (Nat.not_lt.mpr ha)
  generalize hDD : s₂.heap.objs.size = D at *
  generalize hCC : H2.objs.size = C at *
  have hD2 : s₂.heap.get? D = none := fresh D (Nat.le_refl _)
  have hC2 : s₂.heap.get? C = none := fresh C (by rw [hC]; exact Nat.le_succ _)
  have ko : ∀ b o, s.heap.get? b = some o → s₂.heap.get? b = some o := fun b o e => kKeep K b o e
  have sC : ∀ b o, s.heap.get? b = some o → b ≠ C := fun b o e q => by rw [q] at e; rw [ko _ _ e] at hC2; cases hC2
  have sD : ∀ b o, s.heap.get? b = some o → b ≠ D := fun b o e q => by rw [q] at e; rw [ko _ _ e] at hD2; cases hD2
  have sW : ∀ b o, s.heap.get? b = some o → b ∉ wr := fun b o e q => by rw [hwr b q] at e; cases e
  have hDw : D ∉ wr := fun q => hDf (T.sub _ q)
  have hCw : C ∉ wr := fun q => hCf (T.sub _ q)
  have ek : (compEnvC scope cl C env).scope.kind = .function := by simp [compEnvC, relabel, hkind]
  have loop : ∀ s₃ : Shared, s₃ = { s₂ with heap := h₁, toks := s₂.toks + ([] : List (Str × Value)).length } →
      codeAny (model prog w) A (.compLoop (.ListComp elt [⟨target, iter, ifs, 0⟩] scope pos) 0 (.ref I) (.ref D) (compEnvC scope cl C env)) (RR (.ref D) C) s₃ := by
    rintro s₃ rfl
    refine cl_loop
      (fun k s' => ∃ h' tk i ys m' news, s' = { s₂ with heap := h', toks := tk } ∧ i ≤ n ∧ k = n + 1 - i ∧ ys.length ≤ i ∧ St i h' ∧ h'.Ns C m' ∧ h'.get? D = some (LCg.lst ys) ∧ Pts news h' ∧
        (∀ p ∈ news, s₂.heap.get? p.1 = none ∧ p.1 ≠ C ∧ p.1 ≠ D ∧ p.1 ∉ wr) ∧ (news.map (·.1)).Nodup ∧ Acc i ys news ∧ (∀ b o, b ∉ wr → s₂.heap.get? b = some o → h'.get? b = some o)) ?_ (n + 1)
      ⟨h₁, _, 0, [], _, [], rfl, Nat.zero_le _, rfl, Nat.le_refl _, hst₁, hns₁, hacc, (fun _ hp => by cases hp), (fun _ hp => by cases hp), List.nodup_nil, h0, fun b o _ e => old b o e⟩
    rintro k s' ⟨h', tk, i, ys, m', news, rfl, hi, rfl, hyl, hst', hn', hD', hP', hN', hnd', hA', hk'⟩
    by_cases hlt : i < n
    · refine wpAny_mono (T.turn i _ (compEnvC scope cl C env) m' _ _ hlt hst' hCf hn' ek (fun x hm => lookup_relabel_local (hx x hm)) (fun bs m₃ h₃ tk₃ hB hn₃ hbs hst₃ hk₃ => ?_)) (fun r s1 hr => .inr hr) fun _ _ e => e
      have kp : ∀ b o, s.heap.get? b = some o → h₃.get? b = some o := fun b o e => hk₃ b o (sW b o e) (sC b o e) (hk' b o (sW b o e) (ko b o e))
      have hD₃ : h₃.get? D = some (LCg.lst ys) := hk₃ D _ hDw hDC hD'
      have hP₃ : Pts news h₃ := fun p hp => by
        obtain ⟨o, m, ho, r⟩ := hP' p hp
        exact ⟨o, m, hk₃ _ _ (hN' p hp).2.2.2 (hN' p hp).2.1 ho, r⟩
      have Cn : Cx { s₂ with heap := h₃, toks := tk₃ } (compEnvC scope cl C env) (bs ++ l') (news ++ os) { s₂ with heap := h₃, toks := tk₃ } := by
        refine ⟨kRefl _, ⟨ek, fun x v e => ?_⟩, V.base.keeps kp, fun p hp => ?_⟩
        · rcases lookup_app e with e | e
          · obtain ⟨a, b⟩ := hbs x v e
            exact .loc (lookup_relabel_local (hx x a)) m₃ hn₃ b
          · obtain ⟨a, b, c⟩ := hcap.mem (mem_names e)
            cases V.vars.get x v (hl' x v e) with
            | loc hk => rw [a] at hk; cases hk
            | cel hk c' hc hv => exact .cel b c' (c.trans hc) (hv.keeps kp)
        · rcases List.mem_append.mp hp with hp | hp
          · exact hP₃ p hp
          · exact V.pts.keeps kp p hp
      refine wpAny_mono (el i bs ys news C _ _ hlt hB hA' Cn) (fun ok s₄ h₄ => ?_) fun _ _ e => e
      cases ok with
      | false =>
        obtain ⟨k4, hA4⟩ := h₄
        obtain ⟨h4, tk4, rfl, g4⟩ := k4
        exact ⟨n + 1 - (i + 1), by omega, h4, tk4, i + 1, ys, m₃, news, rfl, hlt, rfl, Nat.le_succ_of_le hyl, T.frame _ _ _ hst₃ fun b _ o e => g4 b o e, hn₃.keeps g4, g4 _ _ hD₃, hP₃.keeps g4, hN', hnd', hA4,
          fun b o hb e => g4 b o (hk₃ b o hb (fun q => by rw [show b = C from q, hC2] at e; cases e) (hk' b o hb e))⟩
      | true =>
        refine wpAny_mono h₄ (fun y s₅ h₅ => ?_) fun _ _ e => e
        obtain ⟨k5, nw, hnf, hnn, hnp, hA5⟩ := h₅
        obtain ⟨h5, tk5, rfl, g5⟩ := k5
        refine append_at (hsz := by show ys.toArray.size ≤ sizeLine; rw [List.size_toArray]; omega) (g5 _ _ hD₃) fun h6 hs6 hD6 => ?_
        have hst5 : St (i + 1) h5 := T.frame _ _ _ hst₃ fun b _ o e => g5 b o e
        have out : ∀ p ∈ nw, p.1 ≠ C ∧ p.1 ≠ D ∧ p.1 ∉ wr ∧ s₂.heap.get? p.1 = none ∧ p.1 ∉ news.map (·.1) := fun p hp => by
          have z := hnf p hp
          have hw : p.1 ∉ wr := fun q => by obtain ⟨o, e⟩ := T.here _ _ hst₃ _ q; rw [e] at z; cases z
          refine ⟨fun q => ?_, fun q => ?_, hw, ?_, fun q => ?_⟩
          · obtain ⟨o, _, _, e, _⟩ := hn₃
            rw [q, show (Shared.heap { s₂ with heap := h₃, toks := tk₃ }) = h₃ from rfl] at z
            rw [show (compEnvC scope cl C env).locals = C from rfl, z] at e; cases e
          · rw [q, hD₃] at z; cases z
          · cases e : s₂.heap.get? p.1 with
            | none => rfl
            | some o =>
              have := hk₃ _ o hw (fun q => by rw [show p.1 = C from q, hC2] at e; cases e) (hk' _ o hw e)
              rw [this] at z; cases z
          · obtain ⟨p', hp', e⟩ := List.mem_map.mp q
            obtain ⟨o, _, ho, _⟩ := hP₃ p' hp'
            rw [show p'.1 = p.1 from e, z] at ho; cases ho
        have up : ∀ b o, b ≠ D → h5.get? b = some o → h6.get? b = some o := fun b o hb e => hs6.extBut b o hb e
        refine ⟨n + 1 - (i + 1), by omega, h6, tk5, i + 1, ys ++ [y], m₃, nw ++ news, rfl, hlt, rfl, by rw [List.length_append, List.length_singleton]; omega, T.frame _ _ _ hst5 fun b hb o e => up b o (fun q => hDf (q ▸ hb)) e,
          (hn₃.keeps g5).sameBut hs6 (Ne.symm hDC), hD6.trans (congrArg some (LCg.lst_snoc ys y)), fun p hp => ?_, fun p hp => ?_, ?_, hA5, fun b o hb e => up b o (fun q => by rw [q, hD2] at e; cases e) (g5 b o (hk₃ b o hb (fun q => by rw [show b = C from q, hC2] at e; cases e) (hk' b o hb e)))⟩
        · rcases List.mem_append.mp hp with hp | hp
          · obtain ⟨o, m, ho, r⟩ := hnp p hp
            exact ⟨o, m, up _ _ (out p hp).2.1 ho, r⟩
          · obtain ⟨o, m, ho, r⟩ := hP₃ p hp
            exact ⟨o, m, up _ _ (hN' p hp).2.2.1 (g5 _ _ ho), r⟩
        · rcases List.mem_append.mp hp with hp | hp
          · exact ⟨(out p hp).2.2.2.1, (out p hp).1, (out p hp).2.1, (out p hp).2.2.1⟩
          · exact hN' p hp
        · rw [List.map_append]
          refine List.nodup_append.mpr ⟨hnn, hnd', fun a ha b hb q => ?_⟩
          obtain ⟨p, hp, rfl⟩ := List.mem_map.mp ha
          exact (out p hp).2.2.2.2 (q ▸ hb)
    · obtain rfl : i = n := Nat.le_antisymm hi (Nat.not_lt.mp hlt)
      refine T.done _ _ _ hst' fun h₂ tk₂ hk₂ => .inl ⟨rfl, ?_⟩
      exact hRR D C h₂ tk₂ m' ys news hD2 hC2 hDC (hn'.at' fun o e => hk₂ _ o hCw e) (hk₂ _ _ hDw hD') (fun p hp => by
        obtain ⟨o, m, ho, r⟩ := hP' p hp
        exact ⟨o, m, hk₂ _ _ (hN' p hp).2.2.2 ho, r⟩) (fun p hp => ⟨(hN' p hp).1, (hN' p hp).2.1, (hN' p hp).2.2.1⟩) hnd' hA' hyl fun b o e => hk₂ b o (sW b o e) (hk' b o (sW b o e) (ko b o e))
  exact codeAny_compStart_list (loop _ rfl) (T.self 0 _ _ _ hst₁ (loop _ rfl))
end
end Mine

namespace Mine
/-! ### list comprehensions as values, and bound to a name at once -/
def Itr (prog : Program) (w : World) (A : Around) (target : Expr) (names : List Str) (s : Shared) (n : Nat) (B : Nat → List (Str × Value) → Prop) (xv : Value) (s1 : Shared) : Prop :=
  ∀ (Q : Value → Shared → Prop) (E : Value → Shared → Prop), (∀ I fp wr St s2, Trn prog w A target I fp wr n B St names → St 0 s2.heap → (∀ b ∈ fp, b < s2.heap.objs.size) → (∀ b ∈ wr, s.heap.get? b = none) → Keeps s s2 → Q (.ref I) s2) →
    wpAny (model prog w) A (pyIter xv) Q E s1
def Fresh (s : Shared) (nw : Objs) : Prop := (∀ p ∈ nw, s.heap.get? p.1 = none) ∧ (nw.map (·.1)).Nodup
def scopeOk (scope : Scope) (names : List Str) : Bool :=
  decide (scope.kind = .function) && scope.names.all (fun y => decide (y.2 ≠ .cell)) && scope.names.all (fun y => decide (y.2 = .local → scope.names.lookup y.1 = some .local)) && names.all (fun x => decide (scope.names.lookup x = some .local))
theorem kNew {s s' : Shared} {a : Addr} (k : Keeps s s') (h : s'.heap.get? a = none) : s.heap.get? a = none := by
  cases e : s.heap.get? a with
  | none => rfl
  | some o => rw [kKeep k a o e] at h; cases h
section
variable {prog : Program} {w : World} {A : Around} {E : Value → Shared → Prop} {s s₀ s₁ : Shared} {env : Env} {l : List (Str × Value)} {os : Objs}
theorem FS.adds (F : FS s₀ s₁ env l os s) {nw : Objs} (hn : ∀ p ∈ nw, p.1 ∉ os.map (·.1)) (hd : (nw.map (·.1)).Nodup) (hp : Pts nw s.heap) : FS s₀ s₁ env l (nw ++ os) s :=
  ⟨F.ic, F.kind, F.base, fun p h => by
    rcases List.mem_append.mp h with h | h
    · exact hp p h
    · exact F.pts p h, by
    rw [List.map_append]
    refine List.nodup_append.mpr ⟨hd, F.nd, fun a ha b hb q => ?_⟩
    obtain ⟨p, hp', rfl⟩ := List.mem_map.mp ha
    exact hn p hp' (q ▸ hb), F.kf⟩
theorem FS.butNs (F : FS s₀ s₁ env l os s) {C : Addr} {m : Str → Option Value} {h' : Heap} (hC : s.heap.Ns C m) (h0 : s₀.heap.get? C = none) (h1 : s₁.heap.get? C = none) (hL : env.locals ≠ C) (hs : Heap.SameBut C s.heap h') : FS s₀ s₁ env l os { s with heap := h' } := by
  have hk' : ∀ b o', b ≠ C → s.heap.get? b = some o' → h'.get? b = some o' := fun b o' hb e => hs.extBut b o' hb e
  obtain ⟨mL, cm, X, B⟩ := F.ic
  obtain ⟨oC, esC, epC, gC, dC, _⟩ := id hC
  have ne0 : ∀ b o', s₀.heap.get? b = some o' → b ≠ C := fun b o' e q => by rw [q, h0] at e; cases e
  have ne1 : ∀ b o', s₁.heap.get? b = some o' → b ≠ C := fun b o' e q => by rw [q, h1] at e; cases e
  refine ⟨⟨mL, cm, ⟨⟨?_, X.toInCall.ns.sameBut hs hL, fun b o' e => hk' b o' (ne0 b o' e) (X.toInCall.keep b o' e), X.toInCall.fresh⟩, fun n c hc => ?_, X.apart, X.above⟩, B⟩, F.kind, F.base, fun p hp => ?_, F.nd, fun b o' so e => hk' b o' (ne1 b o' e) (F.kf b o' so e)⟩
  · obtain ⟨h₁, tk₁, rfl⟩ := X.toInCall.same
    exact ⟨h', tk₁, rfl⟩
  · obtain ⟨oc, hoc, hd'⟩ := X.cell n c hc
    refine ⟨oc, hk' _ _ (fun q => ?_) hoc, hd'⟩
    rw [q, gC] at hoc; cases hoc; rw [dC] at hd'; cases hd'
  · obtain ⟨op, n, hop, hc, hd', hpl⟩ := F.pts p hp
    refine ⟨op, n, hk' _ _ (fun q => ?_) hop, hc, hd', hpl⟩
    rw [q, gC] at hop; cases hop; rw [dC] at hd'; cases hd'
theorem storeL {x : Str} {v : Value} {Q : Unit → Shared → Prop} (F : FS s₀ s₁ env l os s) (hk : env.kindOf x = some .local) (h : ∀ h' tk, FS s₀ s₁ env ((x, v) :: l) os { s with heap := h', toks := tk } → Heap.SameBut env.locals s.heap h' → Q () { s with heap := h', toks := tk }) :
    wpAny (model prog w) A (storeName env x v) Q E s := by
  obtain ⟨m, cm, X, B⟩ := F.ic
  refine wpAny_storeName_local hk X.toInCall.ns (fun h' hn' hs' => ?_) (by rw [F.kind]; rfl)
  have kl := KL.sameBut_ns X.toInCall.ns hs'
  refine h _ _ ⟨⟨_, cm, ⟨⟨?_, hn', fun b o e => ?_, X.toInCall.fresh⟩, fun k c hc => ?_, X.apart, X.above⟩, B.setL hk⟩, F.kind, F.base, F.pts.kl kl, F.nd, fun b o so e => kl.kf b o so (F.kf b o so e)⟩ hs'
  · obtain ⟨h₁, tk, rfl⟩ := X.toInCall.same
    exact ⟨h', _, rfl⟩
  · exact hs'.extBut b o (Nat.ne_of_lt (Nat.lt_of_lt_of_le (Heap.lt_size e) X.toInCall.fresh)) (X.toInCall.keep b o e)
  · exact (X.cell k c hc).sameBut hs' (Nat.ne_of_gt (X.above k c (mem_of_lookup hc)))
theorem pts_lst {D : Addr} {ys : List Value} {h : Heap} {news : Objs} (hD : h.get? D = some (LCg.lst ys)) (hP : Pts news h) : Pts ((D, "plain", ys) :: news) h := fun p hp => by
  rcases List.mem_cons.mp hp with rfl | hp
  · exact ⟨_, _, hD, rfl, rfl, fun _ => ⟨rfl, rfl⟩⟩
  · exact hP p hp

theorem e_comp {elt target iter : Expr} {ifs : List Expr} {scope : Scope} {pos : Pos} {n : Nat} {B : Nat → List (Str × Value) → Prop} {names : List Str} {Q : Value → Shared → Prop}
    (l' : List (Str × Value)) (Acc : Nat → List Value → Objs → Prop) (C : Cx s₁ env l os s) (hclos : closureFor scope env = pure (closL env.cells scope.names [])) (hok : scopeOk scope names = true)
    (hcap : Cap env scope (closL env.cells scope.names []) (l'.map (·.1))) (hl' : ∀ x v, l'.lookup x = some v → l.lookup x = some v) (hsz : n ≤ sizeLine) (hs : ∀ x, foldedSetIterable iter env x = pure x)
    (hit : wpAny (model prog w) A (eval iter env) (Itr prog w A target names s n B) E s)
    (el : Elem prog w A env scope (closL env.cells scope.names []) ifs elt n B Acc l' os) (h0 : Acc 0 [] [])
    (h : ∀ D ys news s', Keeps s s' → Pts ((D, "plain", ys) :: news) s'.heap → Fresh s ((D, "plain", ys) :: news) → ys.length ≤ n → Acc n ys news → Q (.ref D) s') :
    wpAny (model prog w) A (eval (.ListComp elt [⟨target, iter, ifs, 0⟩] scope pos) env) Q E s := by
  simp only [scopeOk, Bool.and_eq_true, List.all_eq_true, decide_eq_true_eq] at hok
  obtain ⟨⟨⟨hkind, hcell⟩, hnames⟩, hx⟩ := hok
  rw [eval_ListComp]
  refine wpAny_comprehension_free (use := none) rfl hs hclos hkind hnames (wpAny_mono hit (fun xv s1 h1 => h1 _ _ fun I fp wr St s2 T hst hfp hwr K => ?_) fun _ _ e => e)
  refine cblock (RR := fun acc C => compPost (model prog w) A E none Q acc C) T hsz hcell hkind hx hst hfp K hwr C hcap hl' el h0 ?_
  intro D Ca h' tk m' ys news hD hCn hDC hn hl hP hN hnd hA hlen hk
  refine ⟨m', hn, fun h'' hs'' => h D ys news _ ?_ (pts_lst (hs''.extBut _ _ hDC hl) fun p hp => ?_) ⟨fun p hp => ?_, ?_⟩ hlen hA⟩
  · obtain ⟨hh, tkk, rfl, _⟩ := K
    exact ⟨h'', tk, rfl, fun b o e => hs''.extBut b o (fun q => by
      have := kNew ⟨hh, tkk, rfl, by assumption⟩ hCn
      rw [← q, e] at this; cases this) (hk b o e)⟩
  · obtain ⟨o, m, ho, r⟩ := hP p hp
    exact ⟨o, m, hs''.extBut _ _ (hN p hp).2.1 ho, r⟩
  · rcases List.mem_cons.mp hp with rfl | hp
    · exact kNew K hD
    · exact kNew K (hN p hp).1
  · refine List.nodup_cons.mpr ⟨fun hm => ?_, hnd⟩
    obtain ⟨p, hp, e⟩ := List.mem_map.mp hm
    exact (hN p hp).2.2 e

theorem x_comp {y : Str} {py spos : Pos} {elt target iter : Expr} {ifs : List Expr} {scope : Scope} {pos : Pos} {n : Nat} {B : Nat → List (Str × Value) → Prop} {names : List Str} {Q : Flow → Shared → Prop}
    (l' : List (Str × Value)) (Acc : Nat → List Value → Objs → Prop) (F : FS s₀ s₁ env l os s) (hsw : swapsWith (.ListComp elt [⟨target, iter, ifs, 0⟩] scope pos) (some (.Name y py)) spos.line env = pure true)
    (hclos : closureFor scope env = pure (closL env.cells scope.names [])) (hok : scopeOk scope names = true) (hy : env.kindOf y = some .local)
    (hcap : Cap env scope (closL env.cells scope.names []) (l'.map (·.1))) (hl' : ∀ x v, l'.lookup x = some v → l.lookup x = some v) (hsz : n ≤ sizeLine) (hs : ∀ x, foldedSetIterable iter env x = pure x)
    (hit : wpAny (model prog w) A (eval iter env) (Itr prog w A target names s n B) E s)
    (el : Elem prog w A env scope (closL env.cells scope.names []) ifs elt n B Acc l' os) (h0 : Acc 0 [] [])
    (h : ∀ D ys news s', FS s₀ s₁ env ((y, .ref D) :: l) ((D, "plain", ys) :: (news ++ os)) s' → (∀ p ∈ (D, "plain", ys) :: news, s₀.heap.get? p.1 = none) → ys.length ≤ n → Acc n ys news → Q .next s') :
    wpAny (model prog w) A (exec (.Assign [.Name y py] (.ListComp elt [⟨target, iter, ifs, 0⟩] scope pos) spos) env) Q E s := by
  simp only [scopeOk, Bool.and_eq_true, List.all_eq_true, decide_eq_true_eq] at hok
  obtain ⟨⟨⟨hkind, hcell⟩, hnames⟩, hx⟩ := hok
  rw [exec_Assign_Name_used _ _ _ _ hsw]
  refine wpAny_bind (wpAny_standAt (wpAny_bind ?_))
  show wpAny _ A (do let _ ← comprehension (.ListComp elt [⟨target, iter, ifs, 0⟩] scope pos) scope env _ (newList []) false (eval iter env) (some (assign (.Name y py) env))) _ _ s
  refine wpAny_bind (wpAny_mono (wpAny_comprehension_free (use := some (assign (.Name y py) env)) (Q := fun _ s' => Q .next s') rfl hs hclos hkind hnames
    (wpAny_mono hit (fun xv s1 h1 => h1 _ _ fun I fp wr St s2 T hst hfp hwr K => ?_) fun _ _ e => e)) (fun _ s' hq => wpAny_pure (wpAny_pure hq)) fun _ _ e => e)
  refine cblock (RR := fun acc C => compPost (model prog w) A E (some (assign (.Name y py) env)) (fun _ s' => Q .next s') acc C) T hsz hcell hkind hx hst hfp K hwr F.cx hcap hl' el h0 ?_
  intro D Ca h' tk m' ys news hD hCn hDC hn hl hP hN hnd hA hlen hk
  have fr : Fresh s ((D, "plain", ys) :: news) := ⟨fun p hp => by
    rcases List.mem_cons.mp hp with rfl | hp
    · exact kNew K hD
    · exact kNew K (hN p hp).1, by
    refine List.nodup_cons.mpr ⟨fun hm => ?_, hnd⟩
    obtain ⟨p, hp, e⟩ := List.mem_map.mp hm
    exact (hN p hp).2.2 e⟩
  have hCs : s.heap.get? Ca = none := kNew K hCn
  have K' : Keeps s { s2 with heap := h', toks := tk } := by
    obtain ⟨hh, tkk, rfl, _⟩ := K
    exact ⟨h', tk, rfl, hk⟩
  have F1 : FS s₀ s env l ((D, "plain", ys) :: news ++ os) { s2 with heap := h', toks := tk } := (F.anew.grow K').adds (fun p hp => F.notin (fr.1 p hp)) fr.2 (pts_lst hl hP)
  show wpAny _ A (assign (.Name y py) env (.ref D)) _ _ _
  have hLs : env.locals ≠ Ca := fun q => by
    obtain ⟨m, cm, X, _⟩ := F.ic
    obtain ⟨o, _, _, ho, _⟩ := X.toInCall.ns
    rw [q, hCs] at ho; cases ho
  refine wpAny_assign_Name (storeL F1 hy fun h3 tk3 F3 hs3 => ?_)
  have hn3 : h3.Ns Ca m' := hn.sameBut hs3 (Ne.symm hLs)
  refine ⟨m', hn3, fun h4 hs4 => h D ys news _ ((F3.butNs hn3 (F.new0 hCs) hCs hLs hs4).back F.kf) (fun p hp => F.new0 (fr.1 p hp)) hlen hA⟩
end
end Mine

namespace Mine
/-! ### what a comprehension runs over -/
def Bi (x : Str) (a : Int) (i : Nat) (bs : List (Str × Value)) : Prop := ∃ t, bs = [(x, .int (a + i) t)]
def Bv (x : Str) (items : List Value) (i : Nat) (bs : List (Str × Value)) : Prop := ∃ v, items[i]? = some v ∧ bs = [(x, v)]
def Bz (a b : Str) (xs ys : List Value) (i : Nat) (bs : List (Str × Value)) : Prop := ∃ x y, xs[i]? = some x ∧ ys[i]? = some y ∧ bs = [(b, y), (a, x)]
def Bp (a b : Str) (ps : List (Value × Value)) (i : Nat) (bs : List (Str × Value)) : Prop := ∃ x y, ps[i]? = some (x, y) ∧ bs = [(b, y), (a, x)]
section
variable {prog : Program} {w : World} {A : Around} {E : Value → Shared → Prop} {s s1 s₀ s₁ : Shared} {env : Env} {l : List (Str × Value)} {os : Objs}
theorem itr_list {x : Str} {px : Pos} {D : Addr} {items : List Value} (hh : A.handled = none) (k : Keeps s s1) (hl : s1.heap.IsList D items.toArray) :
    Itr prog w A (.Name x px) [x] s items.length (Bv x items) (.ref D) s1 := by
  intro Q E h
  refine wpAny_pyIter_list hl ?_
  have hlt : D < s1.heap.objs.size := by obtain ⟨_, e, _⟩ := hl; exact Heap.lt_size e
  have W := Walks.list (prog := prog) (w := w) (A := A) hh s1.heap.objs.size D (Nat.ne_of_lt hlt) items.toArray
  have T := Trn.name (x := x) (px := px) W (fun i h st b hb => by
    obtain ⟨o, e, _⟩ := st.1
    exact ⟨o, by rw [List.mem_singleton.mp hb]; exact e⟩)
  have hn : items.toArray.size = items.length := List.size_toArray ..
  rw [hn] at T
  refine h _ _ _ _ _ ⟨T.sub, T.frame, fun i s env m Q E a b c d e f g => T.turn i s env m Q E a b c d e f fun bs m' h' tk hB => g bs m' h' tk ?_, T.done, T.self, T.here⟩ ⟨⟨_, Heap.get?_push_size _ rfl, rfl, rfl⟩, hl.push _⟩ (fun b hb => ?_) (fun b hb => ?_) ?_
  · obtain ⟨v, hv, e⟩ := hB
    exact ⟨v, by simpa using hv, e⟩
  · show b < (s1.heap.push _).objs.size
    rw [Heap.size_push]
    rcases List.mem_cons.mp hb with rfl | hb
    · exact Nat.lt_succ_self _
    · rw [List.mem_singleton.mp hb]; exact Nat.lt_succ_of_lt hlt
  · rw [List.mem_singleton.mp hb]
    exact kNew k (newAt _)
  · exact kTrans k (kPush ..)
theorem itr_range {x : Str} {px : Pos} {r : Addr} {a b : Int} {t u v : Tok} (n : Nat) (hh : A.handled = none) (k : Keeps s s1) (hr : IsRange s1.heap r a b 1 t u v) (ha : 0 ≤ a) (hb : b = a + n) (hb2 : b < 2 ^ 62) :
    Itr prog w A (.Name x px) [x] s n (Bi x a) (.ref r) s1 := by
  intro Q E h
  have hsz : Builtin.Range.rangeSize a b 1 = (n : Int) := by rw [rangeSize_one]; split <;> omega
  refine wpAny_pyIter_range hr (small_one (by omega) (by omega) (by omega) (by omega)) ?_
  rw [hsz]
  have W := Walks.range (prog := prog) (w := w) (A := A) hh s1.heap.objs.size a 1 n
  have T := Trn.name (x := x) (px := px) W (fun i h st b hb => by
    have hb' := List.mem_singleton.mp hb
    subst hb'
    exact ⟨_, st⟩)
  refine h _ _ _ _ _ ⟨T.sub, T.frame, fun i s env m Q E a b c d e f g => T.turn i s env m Q E a b c d e f fun bs m' h' tk hB => g bs m' h' tk ?_, T.done, T.self, T.here⟩ ?_ (fun b hb => ?_) (fun b hb => ?_) ?_
  · obtain ⟨v, ⟨t, rfl⟩, e⟩ := hB
    exact ⟨t, by rw [e, Int.mul_one]⟩
  · have := Heap.get?_push_size s1.heap (o := { cls := .type "range_iterator", data := .fields #[rawInt a, rawInt (n : Int), rawInt 1] }) rfl
    simpa [IsRangeIter] using this
  · show b < (s1.heap.push _).objs.size
    rw [Heap.size_push, List.mem_singleton.mp hb]
    exact Nat.lt_succ_self _
  · rw [List.mem_singleton.mp hb]
    exact kNew k (newAt _)
  · exact kTrans k (kPush ..)
theorem itr_zip {a b : Str} {pa pb tp : Pos} {kk : Nat} {l1 l2 : Addr} {xs ys : List Value} (hh : A.handled = none) (k : Keeps s s1) (hl1 : s1.heap.IsList l1 xs.toArray) (hl2 : s1.heap.IsList l2 ys.toArray) :
    wpAny (model prog w) A (call (.type "zip") [.ref l1, .ref l2]) (Itr prog w A (.Tuple [.Name a pa, .Name b pb] kk tp) [a, b] s (min xs.length ys.length) (Bz a b xs ys)) E s1 := by
  refine call_zip_2 hl1 hl2 fun h' hz hTI hTO h1 h2 hsz hk => ?_
  intro Q E h
  refine wpAny_pyIter_zip hz ?_
  have g1 : l1 < s1.heap.objs.size := by obtain ⟨_, e, _⟩ := hl1; exact Heap.lt_size e
  have g2 : l2 < s1.heap.objs.size := by obtain ⟨_, e, _⟩ := hl2; exact Heap.lt_size e
  have D : ZipApart (s1.heap.objs.size + 4) (s1.heap.objs.size + 2) (s1.heap.objs.size + 3) s1.heap.objs.size (s1.heap.objs.size + 1) l1 l2 := by
    constructor <;> (intro q; (try unfold Addr at *); omega)
  have W := (WalksT.zip2 (prog := prog) (w := w) (A := A) hh _ _ _ _ _ l1 l2 D xs.toArray ys.toArray).toU
  have T := Trn.pair (a := a) (b := b) (pa := pa) (pb := pb) (tp := tp) (kk := kk) hh (fun i v hv => by obtain ⟨x, y, _, _, e⟩ := hv; exact ⟨x, y, e⟩) W (fun i h st b hb => by
    obtain ⟨z1, _, ⟨_, _, z2⟩, z3, z4, _⟩ := st
    simp only [List.mem_cons, List.not_mem_nil, or_false] at hb
    rcases hb with rfl | rfl | rfl | rfl
    · exact ⟨_, z1⟩
    · exact ⟨_, z2⟩
    · obtain ⟨o, e, _⟩ := z3; exact ⟨o, e⟩
    · obtain ⟨o, e, _⟩ := z4; exact ⟨o, e⟩)
  have hn : min xs.toArray.size ys.toArray.size = min xs.length ys.length := by simp
  rw [hn] at T
  have new : ∀ j, s1.heap.get? (s1.heap.objs.size + j) = none := fun j => by
    cases e : s1.heap.get? (s1.heap.objs.size + j) with
    | none => rfl
    | some o => exact absurd (Heap.lt_size e) (Nat.not_lt.mpr (Nat.le_add_right _ _))
  refine h _ _ _ _ _ ⟨T.sub, T.frame, fun i s env m Q E a b c d e f g => T.turn i s env m Q E a b c d e f fun bs m' h' tk hB => g bs m' h' tk ?_, T.done, T.self, T.here⟩ ⟨hz, hTI, ⟨_, _, hTO⟩, h1, h2, hl1.at fun o e => hk _ o e, hl2.at fun o e => hk _ o e⟩ (fun b hb => ?_) (fun b hb => ?_) ?_
  · obtain ⟨x, y, ⟨x', y', hx, hy, e'⟩, e⟩ := hB
    have e1 : x = x' ∧ y = y' := by
      have := congrArg Array.toList e'
      simpa using this
    obtain ⟨rfl, rfl⟩ := e1
    exact ⟨x, y, by simpa using hx, by simpa using hy, e⟩
  · show b < h'.objs.size
    rw [hsz]
    simp only [List.mem_cons, List.not_mem_nil, or_false] at hb
    rcases hb with rfl | rfl | rfl | rfl | rfl | rfl | rfl <;> ((try unfold Addr at *); omega)
  · simp only [List.mem_cons, List.not_mem_nil, or_false] at hb
    rcases hb with rfl | rfl | rfl | rfl
    · exact kNew k (new 4)
    · exact kNew k (new 3)
    · exact kNew k (new 0)
    · exact kNew k (new 1)
  · obtain ⟨h1', tk1, e1, kk1⟩ := k
    subst e1
    exact ⟨h', tk1, rfl, fun b o e => hk b o (kk1 b o e)⟩
/-- a list of pairs -/
def PairsAt (os : Objs) : List Value → List (Value × Value) → Prop
  | [], [] => True
  | .ref T :: r, (x, y) :: q => (T, "tuple", [x, y]) ∈ os ∧ PairsAt os r q
  | _, _ => False
theorem PairsAt.len {os : Objs} : ∀ {vs : List Value} {ps : List (Value × Value)}, PairsAt os vs ps → vs.length = ps.length
  | [], [], _ => rfl
  | .ref T :: r, (x, y) :: q, h => by simp [PairsAt.len h.2]
theorem PairsAt.get {os : Objs} : ∀ {vs : List Value} {ps : List (Value × Value)}, PairsAt os vs ps → ∀ i, i < vs.length → ∃ T p, vs[i]? = some (.ref T) ∧ ps[i]? = some p ∧ (T, "tuple", [p.1, p.2]) ∈ os
  | .ref T :: r, (x, y) :: q, h, 0, _ => ⟨T, (x, y), rfl, rfl, h.1⟩
  | .ref T :: r, (x, y) :: q, h, i + 1, hi => by
    obtain ⟨T', p, a, b, c⟩ := PairsAt.get h.2 i (by simpa using hi)
    exact ⟨T', p, by simpa using a, by simpa using b, c⟩
theorem PairsAt.more {os os' : Objs} (hs : ∀ p ∈ os, p ∈ os') : ∀ {vs : List Value} {ps : List (Value × Value)}, PairsAt os vs ps → PairsAt os' vs ps
  | [], [], _ => trivial
  | .ref T :: r, (x, y) :: q, h => ⟨hs _ h.1, PairsAt.more hs h.2⟩
theorem PairsAt.snoc {os : Objs} {T : Addr} {x y : Value} (hT : (T, "tuple", [x, y]) ∈ os) : ∀ {vs : List Value} {ps : List (Value × Value)}, PairsAt os vs ps → PairsAt os (vs ++ [.ref T]) (ps ++ [(x, y)])
  | [], [], _ => ⟨hT, trivial⟩
  | .ref T :: r, (x, y) :: q, h => ⟨h.1, PairsAt.snoc hT h.2⟩
theorem itr_pairs {a b : Str} {pa pb tp : Pos} {kk : Nat} {D : Addr} {vs : List Value} {ps : List (Value × Value)} (hh : A.handled = none) (k : Keeps s s1) (hl : s1.heap.IsList D vs.toArray) (P : Pts os s1.heap) (hp : PairsAt os vs ps) :
    Itr prog w A (.Tuple [.Name a pa, .Name b pb] kk tp) [a, b] s vs.length (Bp a b ps) (.ref D) s1 := by
  intro Q E h
  refine wpAny_pyIter_list hl ?_
  have hlt : D < s1.heap.objs.size := by obtain ⟨_, e, _⟩ := hl; exact Heap.lt_size e
  have hsz : vs.toArray.size = vs.length := List.size_toArray ..
  let Ts : Nat → Addr := fun j => match vs[j]? with | some (.ref T) => T | _ => 0
  let vals : Nat → Array Value := fun j => match ps[j]? with | some p => #[p.1, p.2] | none => #[]
  have tup : ∀ j, j < vs.length → vs[j]? = some (.ref (Ts j)) ∧ s1.heap.IsTuple (Ts j) (vals j) ∧ ∃ x y, ps[j]? = some (x, y) ∧ vals j = #[x, y] := fun j hj => by
    obtain ⟨T, p, e1, e2, hm⟩ := hp.get j hj
    obtain ⟨o, n, ho, hc, hd, _⟩ := P _ hm
    simp only [Ts, vals, e1, e2]
    exact ⟨trivial, ⟨o, ho, hc, n, hd⟩, p.1, p.2, rfl, rfl⟩
  have tlt : ∀ j, j < vs.length → Ts j < s1.heap.objs.size := fun j hj => by
    obtain ⟨_, e, _⟩ := (tup j hj).2.1; exact Heap.lt_size e
  have W := WalksU.listOfTuples (prog := prog) (w := w) (A := A) hh s1.heap.objs.size D (Nat.ne_of_lt hlt) vs.toArray Ts vals (fun j hj => by rw [hsz] at hj; simpa using (tup j hj).1) (fun j hj => by rw [hsz] at hj; exact Nat.ne_of_lt (tlt j hj))
  have W' := W.bound
  have T := Trn.pair (a := a) (b := b) (pa := pa) (pb := pb) (tp := tp) (kk := kk) hh (fun i v hv => by
    obtain ⟨hi, rfl⟩ := hv
    rw [hsz] at hi
    obtain ⟨_, _, x, y, _, e⟩ := tup i hi
    exact ⟨x, y, e⟩) W' (fun i h st b hb => by
    obtain ⟨o, e, _⟩ := st.1
    exact ⟨o, by rw [List.mem_singleton.mp hb]; exact e⟩)
  rw [hsz] at T
  refine h _ _ _ _ _ ⟨T.sub, T.frame, fun i s env m Q E a b c d e f g => T.turn i s env m Q E a b c d e f fun bs m' h' tk hB => g bs m' h' tk ?_, T.done, T.self, T.here⟩ ⟨⟨_, Heap.get?_push_size _ rfl, rfl, rfl⟩, hl.push _, fun j hj => ?_⟩ (fun b hb => ?_) (fun b hb => ?_) ?_
  · obtain ⟨x, y, ⟨hi, e'⟩, e⟩ := hB
    obtain ⟨_, _, x', y', e1, e2⟩ := tup i hi
    rw [e2] at e'
    have e3 : x = x' ∧ y = y' := by
      have := congrArg Array.toList e'
      simpa using this
    obtain ⟨rfl, rfl⟩ := e3
    exact ⟨x, y, e1, e⟩
  · exact (tup j hj).2.1.at fun o e => Heap.get?_push_of_some _ e
  · show b < (s1.heap.push _).objs.size
    rw [Heap.size_push]
    rcases List.mem_cons.mp hb with rfl | hb
    · exact Nat.lt_succ_self _
    · rcases List.mem_cons.mp hb with rfl | hb
      · exact Nat.lt_succ_of_lt hlt
      · obtain ⟨j, hj, rfl⟩ := List.mem_map.mp hb
        exact Nat.lt_succ_of_lt (tlt j (List.mem_range.mp hj))
  · rw [List.mem_singleton.mp hb]
    exact kNew k (newAt _)
  · exact kTrans k (kPush ..)
end
end Mine

namespace Mine
/-! ### lines -/
set_option hygiene false in
local macro_rules | `(tactic| k_extra "k") => `(tactic| (intro t s' k; replace C := Cx.step C k; clear k))
set_option hygiene false in
local macro_rules | `(tactic| k_extra "ks") => `(tactic| (intro s' k; replace C := Cx.step C k; clear k))
local macro_rules | `(tactic| k_extra "lkm") => `(tactic| ((with_reducible show Lk _ _ (List.cons _ _)); first | with_reducible exact Lk.here | exact Lk.there (by k_extra "lkm")))
set_option hygiene false in
local macro_rules | `(tactic| k_extra "name") => `(tactic| first
  | with_reducible refine e_name C (lk_eq (by k_extra "lkm") (by kernel_rfl)) ?_ (by kernel_rfl)
  | with_reducible refine e_glob C (lk_eq (by k_extra "lkm") (by kernel_rfl)) (by kernel_rfl) (by kernel_rfl) (by kernel_rfl) ?_ (by kernel_rfl))
set_option hygiene false in
local macro_rules | `(tactic| k_extra "e1") => `(tactic| first
  | ((with_reducible show wpAny _ _ (eval (Expr.Name _ _) _) _ _ _); k_extra "name")
  | (with_reducible refine e_int ?_; k_extra "k")
  | (with_reducible refine e_str ?_; k_extra "k")
  | with_reducible refine wpAny_Constant_none ?_
  | with_reducible refine wpAny_Constant_bool ?_
  | with_reducible refine wpAny_BinOp ?_
  | with_reducible refine wpAny_UnaryOp ?_
  | with_reducible refine wpAny_Compare1 ?_
  | with_reducible refine wpAny_isTrue_Compare1 ?_
  | with_reducible refine wpAny_isTrue_Not ?_
  | with_reducible refine wpAny_isTrue_BoolOp ?_
  | with_reducible refine e_andC ?_
  | with_reducible refine e_orC ?_
  | with_reducible refine wpAny_allTrue_And_nil ?_
  | with_reducible refine wpAny_allTrue_Or_nil ?_
  | with_reducible refine wpAny_truthy_bool ?_
  | with_reducible refine t_int ?_
  | (with_reducible refine o_add ?_; k_extra "k")
  | (with_reducible refine o_sub ?_; k_extra "k")
  | (with_reducible refine o_and ?_; k_extra "k")
  | (with_reducible refine o_neg ?_; k_extra "k")
  | (with_reducible refine o_iadd ?_; k_extra "k")
  | (with_reducible refine o_isub ?_; k_extra "k")
  | (with_reducible refine o_ixor ?_; k_extra "k")
  | (with_reducible refine o_mod (by decide) ?_; k_extra "k")
  | (with_reducible refine o_div (by decide) (by decide) ?_; k_extra "k")
  | with_reducible refine o_strEq ?_
  | with_reducible refine PyProof.Rows.eq_int ?_
  | with_reducible refine PyProof.Rows.ne_int ?_
  | with_reducible refine PyProof.Rows.lt_int ?_
  | with_reducible refine PyProof.Rows.gt_int ?_
  | with_reducible refine wpAny_Call_NameR ?_
  | with_reducible refine Call_method0 (by kernel_rfl) (by kernel_rfl) ?_
  | with_reducible refine Call_method1 (by kernel_rfl) (by kernel_rfl) (by kernel_rfl) ?_
  | with_reducible refine Call_method2 (by kernel_rfl) (by kernel_rfl) (by kernel_rfl) ?_
  | with_reducible refine Subscript_Slice ?_ (fun _ _ => by kernel_rfl)
  | with_reducible refine wpAny_Slice ?_
  | with_reducible refine PyProof.Rows.Subscript_ ?_
  | with_reducible refine wpAny_items_cons ?_ (by kernel_rfl)
  | with_reducible refine wpAny_items_nil ?_
  | with_reducible refine evalPart_none_step ?_
  | with_reducible refine evalPart_some_step ?_
  | with_reducible refine wpAny_isTrue_value ?_ (by kernel_rfl))
local macro_rules | `(tactic| k_extra "e") => `(tactic| repeat k_extra "e1")
set_option hygiene false in
local macro_rules | `(tactic| k_extra "asl") => `(tactic| refine wpAny_execs_cons (x_assign F (.inl (by kernel_rfl)) ?_ (by kernel_rfl)))
set_option hygiene false in
local macro_rules | `(tactic| k_extra "asc") => `(tactic| refine wpAny_execs_cons (x_assign F (.inr ⟨by kernel_rfl, by kernel_rfl⟩) ?_ (by kernel_rfl)))
set_option hygiene false in
local macro_rules | `(tactic| k_extra "set") => `(tactic| (refine ⟨C.k, ?_⟩; intro s2 F2 kl2; clear kl2 C F; have F := F2; clear F2; have C := F.cx))
set_option hygiene false in
local macro_rules | `(tactic| k_extra "fn") => `(tactic| (have K0 := C.k; replace C := C.anew))
set_option hygiene false in
local macro_rules | `(tactic| k_extra "nf") => `(tactic| (refine ⟨C.k, ?_⟩; replace C := C.rebase K0; clear K0))
local macro_rules | `(tactic| k_extra "lkv") => `(tactic| ((with_reducible show Lk _ _ (List.cons _ _)); first | ((with_reducible refine Lk.same ?_); first | rfl | fail "lkv") | exact Lk.there (by k_extra "lkv")))
local macro_rules | `(tactic| k_extra "wk") => `(tactic| first | exact lk_nil | exact lk_cons (lk_eq (by k_extra "lkv") (by kernel_rfl)) (by k_extra "wk"))

local macro_rules | `(tactic| k_extra "cap") => `(tactic| first | exact trivial | exact ⟨⟨by kernel_rfl, by kernel_rfl, by kernel_rfl⟩, by k_extra "cap"⟩)
/-! ### _law_word -/
def letter (m : Int) (i : Nat) : Str := ⟨#[((if (Builtin.bitAnd (m.fdiv (2 ^ i)) 1 != 0) = true then 65 else 97) + (i : Int)).toNat]⟩
def wordOf (m : Int) : Str := Txt.join "" ((List.range 4).map (letter m))
section
variable {prog : Program} {w : World} {A : Around} {E : Value → Shared → Prop} {s s1 s₀ s₁ : Shared} {env : Env} {l : List (Str × Value)} {os : Objs}
theorem c_chr {i : Int} {t : Tok} {Q : Value → Shared → Prop} (h0 : 0 ≤ i) (h1 : i ≤ 1114111) (h : ∀ t s', Keeps s s' → Q (.str ⟨#[i.toNat]⟩ t) s') : wpAny (model prog w) A (call (.builtin "chr") [.int i t]) Q E s :=
  PyProof.Rows.chr_of_range h0 h1 (h _ _ (kTok ..))
theorem word_call {m : Int} {tm : Tok} {Q : Value → Shared → Prop} (B : Base s.heap) (hA : Aok 1 A) (h : ∀ t s', Keeps s s' → Q (.str (wordOf m) t) s') : wpAny (model prog w) A (call (.ref 48) [.int m tm]) Q E s := by
  refine call_fn B B.fWord hA.room (binds := [("number", .int m tm)]) (by intros; kernel_rfl) (fun n => fm_cons (.inr ⟨by kernel_rfl, by kernel_rfl⟩) fm_nil) (by kernel_rfl) (by kernel_rfl) (by kernel_rfl) ?_
  intro q cd L s₁ F
  change FS _ _ _ [("number", .int m tm)] _ _ at F
  have hA1 := hA.deeper (fenv (topSt 13) q cd L 48)
  generalize hAe : A.deeper (fenv (topSt 13) q cd L 48) = A1 at hA1 ⊢
  have C := F.cx
  refine wpAny_execs_cons (wpAny_Return_some ?_)
  k_extra "e"
  refine m_join ?_
  refine e_comp (n := 4) (B := Bi "i" 0) (names := ["i"]) [("number", .int m tm)] (fun i ys news => news = [] ∧ ∃ ls, ys = strValues ls ∧ ls.map (·.1) = (List.range i).map (letter m)) C (by kernel_rfl) (by kernel_rfl) (by k_extra "cap") (by k_extra "wk") (by rw [sizeLine_eq]; decide) (by intro _; rfl) ?_ ?_ ⟨rfl, [], rfl, rfl⟩ ?_
  · have K0 := C.k
    replace C := C.anew
    k_extra "e"
    refine c_t1 (by kernel_rfl) ?_
    k_extra "e"
    refine c_range1 fun r t u v s' k hr => ?_
    exact itr_range 4 hA1.hd (kTrans C.k k) hr (by decide) (by decide) (by decide)
  · intro i bs ys news Ca s3 E' hi hB hAcc C
    obtain ⟨ti, rfl⟩ := hB
    obtain ⟨rfl, ls, rfl, hls⟩ := hAcc
    change Cx s3 _ [("i", .int (0 + (i : Int)) ti), ("number", .int m tm)] _ s3 at C
    refine wpAny_tests_nil ?_
    rw [if_pos rfl]
    k_extra "e"
    refine c_b1 (by kernel_rfl) ?_
    k_extra "e"
    refine e_ifexp ?_
    k_extra "e"
    refine o_shr (by omega) ?_
    k_extra "k"
    k_extra "e"
    have em : ∀ x : Int, (if (Builtin.bitAnd (m.fdiv (2 ^ (0 + (i : Int)).toNat)) 1 != 0) = true then (65 : Int) else 97) = x → ∀ t, strValues ls ++ [Value.str ⟨#[(x + (0 + (i : Int))).toNat]⟩ t] = strValues (ls ++ [(letter m i, t)]) := fun x hx t => by
      have : (0 + (i : Int)) = i := by omega
      rw [← hx, this]
      simp [strValues, letter]
    have fin : ∀ t : Tok, List.map (fun x : Str × Tok => x.1) (ls ++ [(letter m i, t)]) = (List.range (i + 1)).map (letter m) := fun t => by rw [List.map_append, hls, List.range_succ, List.map_append]; rfl
    refine ⟨fun e => ?_, fun e => ?_⟩
    · k_extra "e"
      refine c_chr (by omega) (by omega) ?_
      k_extra "k"
      exact ⟨C.k, [], (fun _ hp => by cases hp), List.nodup_nil, (fun _ hp => by cases hp), rfl, _, em 65 (if_pos e) _, fin _⟩
    · k_extra "e"
      refine c_chr (by omega) (by omega) ?_
      k_extra "k"
      exact ⟨C.k, [], (fun _ hp => by cases hp), List.nodup_nil, (fun _ hp => by cases hp), rfl, _, em 97 (by rw [e]; rfl) _, fin _⟩
  · rintro D ys news s' k hP hF hlen ⟨rfl, ls, rfl, hls⟩
    replace C := C.step k
    refine ⟨D, ls, rfl, ?_, ?_, ?_⟩
    · obtain ⟨o, n, ho, hc, hd, _⟩ := hP _ (.head _)
      exact ⟨o, ho, hc, n, hd⟩
    · rw [hls]
      kernel_rfl
    · rw [hls]
      k_extra "k"
      exact h _ _ (kTrans F.keep C.k)
end
end Mine

namespace Mine
/-! ### more rules -/
theorem IntsAre.at {vs : List Value} {ns : List Int} (h : IntsAre vs ns) : ∀ i, i < ns.length → ∃ t, vs[i]? = some (.int (ns.getD i 0) t) := by
  induction h with
  | nil => intro i hi; simp at hi
  | cons n t r ih =>
    intro i hi
    cases i with
    | zero => exact ⟨t, rfl⟩
    | succ j =>
      obtain ⟨t', e⟩ := ih j (by simpa using hi)
      exact ⟨t', by simpa using e⟩
theorem IntsAre.snoc {vs : List Value} {ns : List Int} (h : IntsAre vs ns) (n : Int) (t : Tok) : IntsAre (vs ++ [.int n t]) (ns ++ [n]) := h.append (.cons n t .nil)
section
variable {prog : Program} {w : World} {A : Around} {E : Value → Shared → Prop} {s s1 s₀ s₁ : Shared} {env : Env} {l : List (Str × Value)} {os : Objs} {Q : Value → Shared → Prop}
theorem a_list {a b : Addr} {vs ws : List Value} (hl : s.heap.IsList a vs.toArray) (hb : s.heap.IsList b ws.toArray) (hsz : vs.length + ws.length ≤ 1000)
    (h : ∀ D s', Keeps s s' → s.heap.get? D = none → s'.heap.get? D = some { cls := .type "list", data := .seq (vs ++ ws).toArray } → Q (.ref D) s') :
    wpAny (model prog w) A (binaryOp .Add (.ref a) (.ref b)) Q E s := by
  obtain ⟨⟨cls, dd, data, sl⟩, ho, hc, n, hd⟩ := id hl
  obtain ⟨⟨cls2, dd2, data2, sl2⟩, ho2, hc2, n2, hd2⟩ := id hb
  simp only at hc hd hc2 hd2
  subst hc hd hc2 hd2
  have e : vs.toArray ++ ws.toArray = (vs ++ ws).toArray := by simp
  refine concat_meets ⟨_, ho, rfl⟩ ⟨_, ho2, rfl⟩ noFill_list_add seq_list_add PySem.F.slot_list_add PySem.F.entry_list_add (PySem.F.args_list_add_2 _ _) (list_addW a b vs.toArray ws.toArray n n2 dd dd2 sl sl2 (by rw [sizeLine_eq]; simp; omega)) ⟨ho, ho2, ?_⟩
  rw [e]
  exact h _ _ (kPush ..) (newAt _) (Heap.get?_push_size _ rfl)
theorem c_sum {D : Addr} {vs : List Value} {ns : List Int} (hh : A.handled = none) (hl : s.heap.IsList D vs.toArray) (hi : IntsAre vs ns) (h : ∀ t s', Keeps s s' → Q (.int ns.sum t) s') : wpAny (model prog w) A (call (.builtin "sum") [.ref D]) Q E s := by
  obtain ⟨xs, hx⟩ := hi.allInts.items
  rw [hx] at hl
  refine sum_intListG hh hl fun h' tk t' hk => ?_
  have e : ns.sum = preSum (numAt xs) xs.size := by
    rw [preSum_eq, List.take_of_length_le (by simp), ← nums_intItems, ← hx, show vs.toArray.toList = vs from rfl, hi.numsOf]
  rw [← e]
  exact h _ _ ⟨h', tk, rfl, hk⟩
theorem s_upto {value : Expr} {upper : Expr} {p pos : Pos}
    (h : wpAny (model prog w) A (eval value env) (fun o s₁ => wpAny (model prog w) A (eval upper env) (fun vu s₃ =>
      ∃ a vs ns y t, o = .ref a ∧ vu = .int y t ∧ 0 ≤ y ∧ s₃.heap.IsList a vs.toArray ∧ vs.length ≤ sizeLine ∧ IntsAre vs ns ∧
        ∀ D ws s', Keeps s₃ s' → s₃.heap.get? D = none → s'.heap.get? D = some { cls := .type "list", data := .seq ws.toArray } → IntsAre ws (ns.take y.toNat) → Q (.ref D) s') E s₁) E s)
    (ht : ∀ o r, letTemporaryGo value o r = pure ()) :
    wpAny (model prog w) A (eval (.Subscript value (.Slice none (some upper) none p) pos) env) Q E s := by
  refine wpAny_Subscript_list_slice (wpAny_mono h (fun o s₁ h₁ => evalPart_none_step (evalPart_some_step (wpAny_mono h₁ (fun vu s₃ h₃ => ?_) fun _ _ e => e))) fun _ _ e => e) ht
  obtain ⟨a, vs, ns, y, t, rfl, rfl, h0, hl, hz, hi, hq⟩ := h₃
  refine ⟨a, vs.toArray, none, some y, rfl, hl, by simpa using hz, .none, .int y t, ?_⟩
  refine hq _ (slicePick vs.toArray none (some y) none).toList _ (kTrans (kPush s₃ _ s₃.toks) (kPush _ _ s₃.toks)) ?_ ?_ (slice_ints_uptoW hi h0)
  · cases e : s₃.heap.get? (s₃.heap.objs.size + 1) with
    | none => rfl
    | some o => exact absurd (Heap.lt_size e) (Nat.not_lt.mpr (Nat.le_add_right _ _))
  · have := Heap.get?_push_size (s₃.heap.push { cls := .type "slice", data := .fields #[.none, .int y t, .none] }) (o := { cls := .type "list", data := .seq (slicePick vs.toArray none (some y) none) }) rfl
    rw [Heap.size_push] at this
    exact this
theorem o_strAdd {x y : Str} {t u : Tok} (hz : x.length + y.length ≤ 1000) (h : ∀ t s', Keeps s s' → Q (.str (x ++ y) t) s') : wpAny (model prog w) A (binaryOp .Add (.str x t) (.str y u)) Q E s :=
  PyProof.Rows.add_str (fun t' tk => h _ _ (kTok ..)) (by rw [sizeLine_eq]; omega)
theorem o_strMul {x : Str} {n : Int} {t u : Tok} (hok : MulOk x n) (h : ∀ t s', Keeps s s' → Q (.str (Txt.mul x n) t) s') : wpAny (model prog w) A (binaryOp .Mult (.str x t) (.int n u)) Q E s :=
  SB.mul hok fun t' k => h _ _ (kTok ..)
theorem c_isBool {n : Int} {u : Tok} (h : ∀ s', Keeps s s' → Q (.bool false) s') : wpAny (model prog w) A (call (.builtin "isinstance") [.int n u, .type "bool"]) Q E s := PySem.IsiPair.int_bool (h _ (kTok ..))
theorem o_notIn {D : Addr} {vs : List Value} {ns : List Int} {n : Int} {t : Tok} (hl : s.heap.IsList D vs.toArray) (hi : IntsAre vs ns) (h : Q (.bool (!ns.contains n)) s) : wpAny (model prog w) A (compareOp .NotIn (.int n t) (.ref D)) Q E s := by
  let e : Value → Bool := fun v => match v with | .int a _ => a == n | _ => false
  have hm : ∀ {vs : List Value} {ns : List Int}, IntsAre vs ns → (∀ y ∈ vs, ∃ a t, y = .int a t) ∧ vs.any e = ns.contains n := fun h => by
    induction h with
    | nil => exact ⟨(fun _ h => by cases h), rfl⟩
    | cons a t r ih =>
      refine ⟨fun y hy => ?_, ?_⟩
      · rcases List.mem_cons.mp hy with rfl | hy
        · exact ⟨a, t, rfl⟩
        · exact ih.1 y hy
      · rw [List.any_cons, ih.2, List.contains_cons]
        simp only [e]
        rw [Bool.beq_comm]
  obtain ⟨h1, h2⟩ := hm hi
  refine PySem.SeqAt.notIn_listAt e hl (fun y hy => ?_) ?_
  · obtain ⟨a, u, rfl⟩ := h1 y (by simpa using hy)
    exact PySem.SeqAt.EqAt.int_int a u n t
  · rw [show vs.toArray.any e = vs.any e by simp, h2]
    exact h
theorem o_isB {a b : Bool} (h : Q (.bool (a == b)) s) : wpAny (model prog w) A (compareOp .Is (.bool a) (.bool b)) Q E s := wpAny_is_plain rfl (by
  have : (Value.bool a == Value.bool b) = (a == b) := by cases a <;> cases b <;> rfl
  rw [this]; exact h)
end
end Mine

namespace Mine
/-! ### lines -/
set_option hygiene false in
local macro_rules | `(tactic| k_extra "k") => `(tactic| (intro t s' k; replace C := Cx.step C k; clear k))
set_option hygiene false in
local macro_rules | `(tactic| k_extra "ks") => `(tactic| (intro s' k; replace C := Cx.step C k; clear k))
local macro_rules | `(tactic| k_extra "lkm") => `(tactic| ((with_reducible show Lk _ _ (List.cons _ _)); first | with_reducible exact Lk.here | exact Lk.there (by k_extra "lkm")))
set_option hygiene false in
local macro_rules | `(tactic| k_extra "name") => `(tactic| first
  | with_reducible refine e_name C (lk_eq (by k_extra "lkm") (by kernel_rfl)) ?_ (by kernel_rfl)
  | with_reducible refine e_glob C (lk_eq (by k_extra "lkm") (by kernel_rfl)) (by kernel_rfl) (by kernel_rfl) (by kernel_rfl) ?_ (by kernel_rfl))
set_option hygiene false in
local macro_rules | `(tactic| k_extra "e1") => `(tactic| first
  | ((with_reducible show wpAny _ _ (eval (Expr.Name _ _) _) _ _ _); k_extra "name")
  | (with_reducible refine e_int ?_; k_extra "k")
  | (with_reducible refine e_str ?_; k_extra "k")
  | with_reducible refine wpAny_Constant_none ?_
  | with_reducible refine wpAny_Constant_bool ?_
  | with_reducible refine wpAny_BinOp ?_
  | with_reducible refine wpAny_UnaryOp ?_
  | with_reducible refine wpAny_Compare1 ?_
  | with_reducible refine wpAny_isTrue_Compare1 ?_
  | with_reducible refine wpAny_isTrue_Not ?_
  | with_reducible refine wpAny_isTrue_BoolOp ?_
  | with_reducible refine e_andC ?_
  | with_reducible refine e_orC ?_
  | with_reducible refine wpAny_allTrue_And_nil ?_
  | with_reducible refine wpAny_allTrue_Or_nil ?_
  | with_reducible refine wpAny_truthy_bool ?_
  | with_reducible refine t_int ?_
  | (with_reducible refine o_add ?_; k_extra "k")
  | (with_reducible refine o_sub ?_; k_extra "k")
  | (with_reducible refine o_and ?_; k_extra "k")
  | (with_reducible refine o_neg ?_; k_extra "k")
  | (with_reducible refine o_iadd ?_; k_extra "k")
  | (with_reducible refine o_isub ?_; k_extra "k")
  | (with_reducible refine o_ixor ?_; k_extra "k")
  | (with_reducible refine o_mod (by decide) ?_; k_extra "k")
  | (with_reducible refine o_div (by decide) (by decide) ?_; k_extra "k")
  | with_reducible refine o_strEq ?_
  | with_reducible refine PyProof.Rows.eq_int ?_
  | with_reducible refine PyProof.Rows.ne_int ?_
  | with_reducible refine PyProof.Rows.lt_int ?_
  | with_reducible refine PyProof.Rows.gt_int ?_
  | with_reducible refine wpAny_Call_NameR ?_
  | with_reducible refine Call_method0 (by kernel_rfl) (by kernel_rfl) ?_
  | with_reducible refine Call_method1 (by kernel_rfl) (by kernel_rfl) (by kernel_rfl) ?_
  | with_reducible refine Call_method2 (by kernel_rfl) (by kernel_rfl) (by kernel_rfl) ?_
  | with_reducible refine Subscript_Slice ?_ (fun _ _ => by kernel_rfl)
  | with_reducible refine wpAny_Slice ?_
  | with_reducible refine PyProof.Rows.Subscript_ ?_
  | with_reducible refine wpAny_items_cons ?_ (by kernel_rfl)
  | with_reducible refine wpAny_items_nil ?_
  | with_reducible refine evalPart_none_step ?_
  | with_reducible refine evalPart_some_step ?_
  | with_reducible refine wpAny_isTrue_value ?_ (by kernel_rfl))
local macro_rules | `(tactic| k_extra "e") => `(tactic| repeat k_extra "e1")
set_option hygiene false in
local macro_rules | `(tactic| k_extra "asl") => `(tactic| refine wpAny_execs_cons (x_assign F (.inl (by kernel_rfl)) ?_ (by kernel_rfl)))
set_option hygiene false in
local macro_rules | `(tactic| k_extra "asc") => `(tactic| refine wpAny_execs_cons (x_assign F (.inr ⟨by kernel_rfl, by kernel_rfl⟩) ?_ (by kernel_rfl)))
set_option hygiene false in
local macro_rules | `(tactic| k_extra "set") => `(tactic| (refine ⟨C.k, ?_⟩; intro s2 F2 kl2; clear kl2 C F; have F := F2; clear F2; have C := F.cx))
set_option hygiene false in
local macro_rules | `(tactic| k_extra "fn") => `(tactic| (have K0 := C.k; replace C := C.anew))
set_option hygiene false in
local macro_rules | `(tactic| k_extra "nf") => `(tactic| (refine ⟨C.k, ?_⟩; replace C := C.rebase K0; clear K0))
local macro_rules | `(tactic| k_extra "lkv") => `(tactic| ((with_reducible show Lk _ _ (List.cons _ _)); first | ((with_reducible refine Lk.same ?_); first | rfl | fail "lkv") | exact Lk.there (by k_extra "lkv")))
local macro_rules | `(tactic| k_extra "wk") => `(tactic| first | exact lk_nil | exact lk_cons (lk_eq (by k_extra "lkv") (by kernel_rfl)) (by k_extra "wk"))

local macro_rules | `(tactic| k_extra "cap") => `(tactic| first | exact trivial | exact ⟨⟨by kernel_rfl, by kernel_rfl, by kernel_rfl⟩, by k_extra "cap"⟩)
/-! ### _law_signs -/
def rowStep (u : Int) (i : Nat) (r : List Int) : List Int := 1 :: (List.range 4).map fun j => r.getD (j + 1) 0 + (if decide ((i : Int) < u) = true then -1 else 1) * r.getD j 0
def rowAt (u : Int) : Nat → List Int
  | 0 => [1, 0, 0, 0, 0]
  | i + 1 => rowStep u i (rowAt u i)
theorem rowAt_len (u : Int) (i : Nat) : (rowAt u i).length = 5 := by cases i <;> simp [rowAt, rowStep]
abbrev lR (D : Addr) (u : Int) (tu : Tok) : List (Str × Value) := [("row", .ref D), ("unlike", .int u tu)]
abbrev lR2 (x : Int) (tx : Tok) (i : Nat) (ti : Tok) (D : Addr) (u : Int) (tu : Tok) : List (Str × Value) := [("turn", .int x tx), ("i", .int (i : Int) ti), ("row", .ref D), ("unlike", .int u tu)]
abbrev lR3 (x : Int) (tx : Tok) (D : Addr) : List (Str × Value) := [("turn", .int x tx), ("row", .ref D)]
def sgBody : List Stmt := match fBody (topSt 14) with | [_, .For _ _ [_, x] _ _, _] => [x] | _ => []
theorem notPlain {P : Prop} (e : "list" = "plain") : P := absurd e (by decide)
theorem tupPlain {P : Prop} (e : "tuple" = "plain") : P := absurd e (by decide)
section
variable {prog : Program} {w : World} {A : Around} {E : Value → Shared → Prop} {s s1 s₀ s₁ : Shared}
theorem sg_row {q : Str} {cd : Value} {L D : Addr} {u x : Int} {tu tx ti : Tok} {i : Nat} {vs : List Value} {Q : Flow → Shared → Prop} (hA : Aok 0 A) (F : FS s₀ s₁ (fenv (topSt 14) q cd L 53) (lR2 x tx i ti D u tu) [(D, "list", vs)] s) (hvs : IntsAre vs (rowAt u i))
    (hx : (if decide ((i : Int) < u) = true then (-1 : Int) else 1) = x) (hi : i < 4)
    (h : ∀ D' vs' s', FS s₀ s₁ (fenv (topSt 14) q cd L 53) (lR D' u tu) [(D', "list", vs')] s' → IntsAre vs' (rowAt u (i + 1)) → s₀.heap.get? D' = none → Q .next s') :
    wpAny (model prog w) A (execs sgBody (fenv (topSt 14) q cd L 53)) Q NoE s := by
  have C := F.cx
  k_extra "asc"
  k_extra "e"
  refine e_list ?_
  k_extra "e"
  refine ⟨by show 1 ≤ 1000; omega, fun D1 s2 k hD1 ho1 => ?_⟩
  replace C := C.step k
  clear k
  replace C := C.more (c := "list") ho1 rfl rfl notPlain
  refine e_comp (n := 4) (B := Bi "k" 1) (names := ["k"]) (lR3 x tx D) (fun j ys news => news = [] ∧ IntsAre ys ((List.range j).map fun j => (rowAt u i).getD (j + 1) 0 + x * (rowAt u i).getD j 0)) C (by kernel_rfl) (by kernel_rfl) (by k_extra "cap") (by k_extra "wk") (by rw [sizeLine_eq]; decide) (by intro _; rfl) ?_ ?_ ⟨rfl, .nil⟩ ?_
  · have K0 := C.k
    replace C := C.anew
    k_extra "e"
    refine c_t2 (by kernel_rfl) ?_
    k_extra "e"
    refine c_range2 fun r t u v s' k hr => ?_
    exact itr_range 4 hA.hd (kTrans C.k k) hr (by decide) (by decide) (by decide)
  · intro j bs ys news Ca s3 E' hj hB hAcc C
    obtain ⟨tj, rfl⟩ := hB
    obtain ⟨rfl, hys⟩ := hAcc
    change Cx s3 _ (("k", .int (1 + (j : Int)) tj) :: lR3 x tx D) [(D1, "list", _), (D, "list", vs)] s3 at C
    refine wpAny_tests_nil ?_
    rw [if_pos rfl]
    k_extra "e"
    have hlen := rowAt_len u i
    obtain ⟨t1, e1⟩ := IntsAre.at hvs (j + 1) (by omega)
    obtain ⟨t2, e2⟩ := IntsAre.at hvs j (by omega)
    refine st_list (C.list (.tail _ (.head _))) (by omega) (by omega) (v := .int ((rowAt u i).getD (j + 1) 0) t1) (by rw [← e1]; congr 1; omega) (by kernel_rfl) ?_
    k_extra "e"
    refine st_list (C.list (.tail _ (.head _))) (by omega) (by omega) (v := .int ((rowAt u i).getD j 0) t2) (by rw [← e2]; congr 1; omega) (by kernel_rfl) ?_
    refine o_mul (mulL (by rw [← hx]; split <;> decide) (by rw [← hx]; split <;> decide)) ?_
    k_extra "k"
    k_extra "e"
    refine ⟨C.k, [], (fun _ hp => by cases hp), List.nodup_nil, (fun _ hp => by cases hp), rfl, ?_⟩
    rw [List.range_succ, List.map_append]
    exact IntsAre.snoc hys _ _
  · rintro D2 ys news s' k hP hF hlen ⟨rfl, hys⟩
    replace C := C.step k
    have hl2 : s'.heap.IsList D2 ys.toArray := by
      obtain ⟨o, n, ho, hc, hd, _⟩ := hP _ (.head _)
      exact ⟨o, ho, hc, n, hd⟩
    refine a_list (C.list (.head _)) hl2 (by show 1 + ys.length ≤ 1000; omega) fun D3 s4 k4 hD3 ho3 => ?_
    have K1 := C.k
    replace C := C.step k4
    have F1 := F.grow K1
    refine ⟨C.k, fun s5 F5 kl5 => wpAny_execs_nil ?_⟩
    have F6 := F5.add (c := "list") (F1.notin hD3) (kl5.seq ho3 rfl) rfl rfl notPlain
    refine h D3 _ s5 ((F6.sub (.cons_cons _ (.cons _ .slnil))).weaken (by k_extra "wk")) ?_ (F1.new0 hD3)
    show IntsAre _ (rowStep u i (rowAt u i))
    unfold rowStep
    rw [hx]
    exact .cons _ _ hys
theorem signs_call {u : Int} {tu : Tok} {Q : Value → Shared → Prop} (B : Base s.heap) (hA : Aok 1 A)
    (h : ∀ D vs s', Keeps s s' → s.heap.get? D = none → Pts [(D, "list", vs)] s'.heap → IntsAre vs (rowAt u 4) → Q (.ref D) s') : wpAny (model prog w) A (call (.ref 53) [.int u tu]) Q E s := by
  refine call_fn B B.fSigns hA.room (binds := [("unlike", .int u tu)]) (by intros; kernel_rfl) (fun n => fm_cons (.inl (by kernel_rfl)) fm_nil) (by kernel_rfl) (by kernel_rfl) (by kernel_rfl) ?_
  intro q cd L s₁ F
  change FS _ _ _ [("unlike", .int u tu)] _ _ at F
  have hA1 := hA.deeper (fenv (topSt 14) q cd L 53)
  generalize hAe : A.deeper (fenv (topSt 14) q cd L 53) = A1 at hA1 ⊢
  have C := F.cx
  k_extra "asc"
  refine e_list ?_
  k_extra "e"
  refine ⟨by show 5 ≤ 1000; omega, fun D s2 k hD ho => ?_⟩
  have hn := (F.grow C.k).notin hD
  have hD0 := (F.grow C.k).new0 hD
  refine ⟨kTrans C.k k, fun s3 F3 kl3 => ?_⟩
  have F4 := F3.add (c := "list") hn (kl3.seq ho rfl) rfl rfl notPlain
  clear C F F3
  have F := F4
  clear F4
  have C := F.cx
  refine wpAny_execs_cons (x_forRange 4 (fun i l os => ∃ D vs, l = lR D u tu ∧ os = [(D, "list", vs)] ∧ IntsAre vs (rowAt u i) ∧ s.heap.get? D = none)
    hA1.hd F (.inl (by kernel_rfl)) (fun _ => by kernel_rfl) ?_ (by decide) ⟨D, _, rfl, rfl, .cons _ _ (.cons _ _ (.cons _ _ (.cons _ _ (.cons _ _ .nil)))), hD0⟩ ?_ ?_)
  · k_extra "e"
    refine c_t1 (by kernel_rfl) ?_
    k_extra "e"
    refine c_range1 fun r t u v s' k hr => ⟨r, t, u, v, rfl, kTrans C.k k, hr⟩
  · rintro i l' os' s4 ti hi ⟨D, vs, rfl, rfl, hvs, hD0⟩ F4
    clear C F
    have F := F4
    clear F4
    have C := F.cx
    k_extra "asc"
    refine e_ifexp ?_
    k_extra "e"
    refine ⟨fun e => ?_, fun e => ?_⟩
    · k_extra "e"
      refine ⟨C.k, fun s5 F5 kl5 => ?_⟩
      exact sg_row hA1 F5 hvs (if_pos e) hi fun D' vs' s6 F6 hv' hD' => ⟨_, _, ⟨D', vs', rfl, rfl, hv', hD'⟩, F6⟩
    · k_extra "e"
      refine ⟨C.k, fun s5 F5 kl5 => ?_⟩
      exact sg_row hA1 F5 hvs (by rw [e]; rfl) hi fun D' vs' s6 F6 hv' hD' => ⟨_, _, ⟨D', vs', rfl, rfl, hv', hD'⟩, F6⟩
  · rintro l' os' s4 ⟨D, vs, rfl, rfl, hvs, hD0⟩ F4
    clear C F
    have F := F4
    clear F4
    have C := F.cx
    refine wpAny_execs_nil (wpAny_execs_cons (wpAny_Return_some ?_))
    k_extra "e"
    exact h D vs _ F.keep hD0 F.pts hvs
end
end Mine

namespace Mine
/-! ### comprehensions of whole numbers -/
abbrev sel (p : Nat → Bool) (f : Nat → Int) (n : Nat) : List Int := ((List.range n).filter p).map f
theorem sel_succ (p : Nat → Bool) (f : Nat → Int) (n : Nat) : sel p f (n + 1) = sel p f n ++ (if p n = true then [f n] else []) := by
  unfold sel
  rw [List.range_succ, List.filter_append, List.map_append]
  cases h : p n <;> simp [h]
/-- one turn, told by its number -/
def ElemI (prog : Program) (w : World) (A : Around) (env : Env) (scope : Scope) (ifs : List Expr) (elt : Expr) (n : Nat) (B : Nat → List (Str × Value) → Prop) (p : Nat → Bool) (f : Nat → Int) (l' : List (Str × Value)) (os : Objs) : Prop :=
  ∀ j bs Ca s₃ (E' : Value → Shared → Prop), j < n → B j bs → Cx s₃ (compEnvC scope (closL env.cells scope.names []) Ca env) (bs ++ l') os s₃ →
    wpAny (model prog w) A (forIn ifs true fun c r => if r = true then do let ok ← isTrue c (compEnvC scope (closL env.cells scope.names []) Ca env) (eval c (compEnvC scope (closL env.cells scope.names []) Ca env)); pure (ForInStep.yield ok) else pure (ForInStep.yield r))
      (fun ok s₄ => ok = p j ∧ Keeps s₃ s₄ ∧ (p j = true → wpAny (model prog w) A (eval elt (compEnvC scope (closL env.cells scope.names []) Ca env)) (fun y s₅ => Keeps s₃ s₅ ∧ ∃ t, y = .int (f j) t) E' s₄)) E' s₃
section
variable {prog : Program} {w : World} {A : Around} {E : Value → Shared → Prop} {s s₀ s₁ : Shared} {env : Env} {l : List (Str × Value)} {os : Objs}
theorem elemI {scope : Scope} {ifs : List Expr} {elt : Expr} {n : Nat} {B : Nat → List (Str × Value) → Prop} {p : Nat → Bool} {f : Nat → Int} {l' : List (Str × Value)} (h : ElemI prog w A env scope ifs elt n B p f l' os) :
    Elem prog w A env scope (closL env.cells scope.names []) ifs elt n B (fun i ys news => news = [] ∧ IntsAre ys (sel p f i)) l' os := by
  rintro i bs ys news Ca s3 E' hi hB ⟨rfl, hys⟩ C
  refine wpAny_mono (h i bs Ca s3 E' hi hB C) (fun ok s4 h4 => ?_) fun _ _ e => e
  obtain ⟨rfl, k4, h4⟩ := h4
  have e := sel_succ p f i
  cases hp : p i with
  | false =>
    rw [hp] at e
    rw [if_neg (by simp)]
    exact ⟨k4, rfl, by rw [e]; simpa using hys⟩
  | true =>
    rw [hp] at e
    rw [if_pos rfl]
    refine wpAny_mono (h4 hp) (fun y s5 h5 => ?_) fun _ _ e => e
    obtain ⟨k5, t, rfl⟩ := h5
    exact ⟨k5, [], (fun _ hp => by cases hp), List.nodup_nil, (fun _ hp => by cases hp), rfl, by rw [e]; exact IntsAre.snoc hys _ _⟩
theorem e_compI {elt target iter : Expr} {ifs : List Expr} {scope : Scope} {pos : Pos} {B : Nat → List (Str × Value) → Prop} {names : List Str} {Q : Value → Shared → Prop}
    (n : Nat) (l' : List (Str × Value)) (p : Nat → Bool) (f : Nat → Int) (C : Cx s₁ env l os s) (hclos : closureFor scope env = pure (closL env.cells scope.names [])) (hok : scopeOk scope names = true)
    (hcap : Cap env scope (closL env.cells scope.names []) (l'.map (·.1))) (hl' : ∀ x v, l'.lookup x = some v → l.lookup x = some v) (hs : ∀ x, foldedSetIterable iter env x = pure x) (hsz : n ≤ 1000)
    (hit : wpAny (model prog w) A (eval iter env) (Itr prog w A target names s n B) E s)
    (el : ElemI prog w A env scope ifs elt n B p f l' os)
    (h : ∀ D ys s', Keeps s s' → s.heap.get? D = none → Pts [(D, "plain", ys)] s'.heap → s'.heap.IsList D ys.toArray → IntsAre ys (sel p f n) → Q (.ref D) s') :
    wpAny (model prog w) A (eval (.ListComp elt [⟨target, iter, ifs, 0⟩] scope pos) env) Q E s := by
  refine e_comp l' _ C hclos hok hcap hl' (by rw [sizeLine_eq]; omega) hs hit (elemI el) ⟨rfl, .nil⟩ ?_
  rintro D ys news s' k hP hF hlen ⟨rfl, hys⟩
  refine h D ys s' k (hF.1 _ (.head _)) hP ?_ hys
  obtain ⟨o, n, ho, hc, hd, _⟩ := hP _ (.head _)
  exact ⟨o, ho, hc, n, hd⟩
theorem x_compI {y : Str} {py spos : Pos} {elt target iter : Expr} {ifs : List Expr} {scope : Scope} {pos : Pos} {B : Nat → List (Str × Value) → Prop} {names : List Str} {Q : Flow → Shared → Prop}
    (n : Nat) (l' : List (Str × Value)) (p : Nat → Bool) (f : Nat → Int) (F : FS s₀ s₁ env l os s) (hsw : swapsWith (.ListComp elt [⟨target, iter, ifs, 0⟩] scope pos) (some (.Name y py)) spos.line env = pure true)
    (hclos : closureFor scope env = pure (closL env.cells scope.names [])) (hok : scopeOk scope names = true) (hy : env.kindOf y = some .local)
    (hcap : Cap env scope (closL env.cells scope.names []) (l'.map (·.1))) (hl' : ∀ x v, l'.lookup x = some v → l.lookup x = some v) (hs : ∀ x, foldedSetIterable iter env x = pure x) (hsz : n ≤ 1000)
    (hit : wpAny (model prog w) A (eval iter env) (Itr prog w A target names s n B) E s)
    (el : ElemI prog w A env scope ifs elt n B p f l' os)
    (h : ∀ D ys s', FS s₀ s₁ env ((y, .ref D) :: l) ((D, "plain", ys) :: os) s' → s₀.heap.get? D = none → IntsAre ys (sel p f n) → Q .next s') :
    wpAny (model prog w) A (exec (.Assign [.Name y py] (.ListComp elt [⟨target, iter, ifs, 0⟩] scope pos) spos) env) Q E s := by
  refine x_comp l' _ F hsw hclos hok hy hcap hl' (by rw [sizeLine_eq]; omega) hs hit (elemI el) ⟨rfl, .nil⟩ ?_
  rintro D ys news s' F' hN hlen ⟨rfl, hys⟩
  exact h D ys s' F' (hN _ (.head _)) hys
theorem FS.re {os' : Objs} (F : FS s₀ s₁ env l os s) (hm : ∀ p ∈ os', p ∈ os) (hn : (os'.map (·.1)).Nodup) : FS s₀ s₁ env l os' s := ⟨F.ic, F.kind, F.base, fun p hp => F.pts p (hm p hp), hn, F.kf⟩
theorem FS.perm {os' : Objs} (F : FS s₀ s₁ env l os s) (h : os.Perm os') : FS s₀ s₁ env l os' s := F.re (fun p hp => h.symm.subset hp) ((h.map (·.1)).nodup F.nd)
end
end Mine

namespace Mine
/-! ### lines -/
set_option hygiene false in
local macro_rules | `(tactic| k_extra "k") => `(tactic| (intro t s' k; replace C := Cx.step C k; clear k))
set_option hygiene false in
local macro_rules | `(tactic| k_extra "ks") => `(tactic| (intro s' k; replace C := Cx.step C k; clear k))
local macro_rules | `(tactic| k_extra "lkm") => `(tactic| ((with_reducible show Lk _ _ (List.cons _ _)); first | with_reducible exact Lk.here | exact Lk.there (by k_extra "lkm")))
set_option hygiene false in
local macro_rules | `(tactic| k_extra "name") => `(tactic| first
  | with_reducible refine e_name C (lk_eq (by k_extra "lkm") (by kernel_rfl)) ?_ (by kernel_rfl)
  | with_reducible refine e_glob C (lk_eq (by k_extra "lkm") (by kernel_rfl)) (by kernel_rfl) (by kernel_rfl) (by kernel_rfl) ?_ (by kernel_rfl))
set_option hygiene false in
local macro_rules | `(tactic| k_extra "e1") => `(tactic| first
  | ((with_reducible show wpAny _ _ (eval (Expr.Name _ _) _) _ _ _); k_extra "name")
  | (with_reducible refine e_int ?_; k_extra "k")
  | (with_reducible refine e_str ?_; k_extra "k")
  | with_reducible refine wpAny_Constant_none ?_
  | with_reducible refine wpAny_Constant_bool ?_
  | with_reducible refine wpAny_BinOp ?_
  | with_reducible refine wpAny_UnaryOp ?_
  | with_reducible refine wpAny_Compare1 ?_
  | with_reducible refine wpAny_isTrue_Compare1 ?_
  | with_reducible refine wpAny_isTrue_Not ?_
  | with_reducible refine wpAny_isTrue_BoolOp ?_
  | with_reducible refine e_andC ?_
  | with_reducible refine e_orC ?_
  | with_reducible refine wpAny_allTrue_And_nil ?_
  | with_reducible refine wpAny_allTrue_Or_nil ?_
  | with_reducible refine wpAny_truthy_bool ?_
  | with_reducible refine t_int ?_
  | (with_reducible refine o_add ?_; k_extra "k")
  | (with_reducible refine o_sub ?_; k_extra "k")
  | (with_reducible refine o_and ?_; k_extra "k")
  | (with_reducible refine o_neg ?_; k_extra "k")
  | (with_reducible refine o_iadd ?_; k_extra "k")
  | (with_reducible refine o_isub ?_; k_extra "k")
  | (with_reducible refine o_ixor ?_; k_extra "k")
  | (with_reducible refine o_mod (by decide) ?_; k_extra "k")
  | (with_reducible refine o_div (by decide) (by decide) ?_; k_extra "k")
  | with_reducible refine o_strEq ?_
  | with_reducible refine PyProof.Rows.eq_int ?_
  | with_reducible refine PyProof.Rows.ne_int ?_
  | with_reducible refine PyProof.Rows.lt_int ?_
  | with_reducible refine PyProof.Rows.gt_int ?_
  | with_reducible refine wpAny_Call_NameR ?_
  | with_reducible refine Call_method0 (by kernel_rfl) (by kernel_rfl) ?_
  | with_reducible refine Call_method1 (by kernel_rfl) (by kernel_rfl) (by kernel_rfl) ?_
  | with_reducible refine Call_method2 (by kernel_rfl) (by kernel_rfl) (by kernel_rfl) ?_
  | with_reducible refine Subscript_Slice ?_ (fun _ _ => by kernel_rfl)
  | with_reducible refine wpAny_Slice ?_
  | with_reducible refine PyProof.Rows.Subscript_ ?_
  | with_reducible refine wpAny_items_cons ?_ (by kernel_rfl)
  | with_reducible refine wpAny_items_nil ?_
  | with_reducible refine evalPart_none_step ?_
  | with_reducible refine evalPart_some_step ?_
  | with_reducible refine wpAny_isTrue_value ?_ (by kernel_rfl))
local macro_rules | `(tactic| k_extra "e") => `(tactic| repeat k_extra "e1")
set_option hygiene false in
local macro_rules | `(tactic| k_extra "asl") => `(tactic| refine wpAny_execs_cons (x_assign F (.inl (by kernel_rfl)) ?_ (by kernel_rfl)))
set_option hygiene false in
local macro_rules | `(tactic| k_extra "asc") => `(tactic| refine wpAny_execs_cons (x_assign F (.inr ⟨by kernel_rfl, by kernel_rfl⟩) ?_ (by kernel_rfl)))
set_option hygiene false in
local macro_rules | `(tactic| k_extra "set") => `(tactic| (refine ⟨C.k, ?_⟩; intro s2 F2 kl2; clear kl2 C F; have F := F2; clear F2; have C := F.cx))
set_option hygiene false in
local macro_rules | `(tactic| k_extra "fn") => `(tactic| (have K0 := C.k; replace C := C.anew))
set_option hygiene false in
local macro_rules | `(tactic| k_extra "nf") => `(tactic| (refine ⟨C.k, ?_⟩; replace C := C.rebase K0; clear K0))
local macro_rules | `(tactic| k_extra "lkv") => `(tactic| ((with_reducible show Lk _ _ (List.cons _ _)); first | ((with_reducible refine Lk.same ?_); first | rfl | fail "lkv") | exact Lk.there (by k_extra "lkv")))
local macro_rules | `(tactic| k_extra "wk") => `(tactic| first | exact lk_nil | exact lk_cons (lk_eq (by k_extra "lkv") (by kernel_rfl)) (by k_extra "wk"))

local macro_rules | `(tactic| k_extra "cap") => `(tactic| first | exact trivial | exact ⟨⟨by kernel_rfl, by kernel_rfl, by kernel_rfl⟩, by k_extra "cap"⟩)
/-! ### law: the last line -/
def lawB (n : Nat) : List Stmt := (fBody (topSt 15)).drop n
abbrev lEnv (q : Str) (cd : Value) (L fa : Addr) : Env := fenv (topSt 15) q cd L fa
def Small (ns : List Int) : Prop := ∀ i, -(2 ^ 64) < ns.getD i 0 ∧ ns.getD i 0 < 2 ^ 64
def inKept (K : Int) (j : Nat) : Bool := Builtin.bitAnd (0 + (j : Int)) K == (0 + (j : Int))
def sq (ns : List Int) (j : Nat) : Int := ns.getD j 0 * ns.getD j 0
section
variable {prog : Program} {w : World} {A : Around} {s s1 s₀ s₁ : Shared} {q : Str} {cd : Value} {L fa : Addr}
theorem law19 {K X : Int} {tK tX : Tok} {Dc Dv : Addr} {vc vv : List Value} {cn wv : List Int} {Q : Flow → Shared → Prop} (hA : Aok 0 A)
    (F : FS s₀ s₁ (lEnv q cd L fa) [("squares", .int X tX), ("waves", .ref Dv), ("counts", .ref Dc), ("kept", .int K tK)] [(Dv, "plain", vv), (Dc, "plain", vc)] s) (hc : IntsAre vc cn) (hv : IntsAre vv wv) (hcl : cn.length = 16) (hvl : wv.length = 16)
    (hK : 0 ≤ K) (hK2 : K < 16) (hcK : 0 ≤ cn.getD K.toNat 0) (hcK2 : cn.getD K.toNat 0 ≤ 4) (hw : Small wv)
    (h : ∀ s', Keeps s₀ s' → Q (.ret (.bool (2 ^ (cn.getD K.toNat 0).toNat * X == (sel (inKept K) (sq wv) 16).sum))) s') :
    wpAny (model prog w) A (execs (lawB 19) (lEnv q cd L fa)) Q NoE s := by
  have C := F.cx
  refine wpAny_execs_cons (wpAny_Return_some ?_)
  k_extra "e"
  obtain ⟨t1, e1⟩ := IntsAre.at hc K.toNat (by omega)
  refine st_list (C.plain (.tail _ (.head _))).isList (by omega) (by omega) e1 (by kernel_rfl) ?_
  refine o_pow hcK (by omega) (by decide) ?_
  k_extra "k"
  k_extra "e"
  have hp : (2 : Int) ^ (cn.getD K.toNat 0).toNat < 2 ^ 64 ∧ 0 ≤ (2 : Int) ^ (cn.getD K.toNat 0).toNat := by
    have : (cn.getD K.toNat 0).toNat ≤ 4 := by omega
    generalize (cn.getD K.toNat 0).toNat = m at this
    match m, this with
    | 0, _ => decide
    | 1, _ => decide
    | 2, _ => decide
    | 3, _ => decide
    | 4, _ => decide
  refine o_mul (mulL (by omega) hp.1) ?_
  k_extra "k"
  k_extra "e"
  refine c_b1 (by kernel_rfl) ?_
  refine e_compI (B := Bi "c" 0) (names := ["c"]) 16 [("waves", .ref Dv), ("kept", .int K tK)] (inKept K) (sq wv) C (by kernel_rfl) (by kernel_rfl) (by k_extra "cap") (by k_extra "wk") (by intro _; rfl) (by decide) ?_ ?_ ?_
  · replace C := C.anew
    k_extra "e"
    refine c_t1 (by kernel_rfl) ?_
    k_extra "e"
    exact c_range1 fun r t u v s' k hr => itr_range 16 hA.hd (kTrans C.k k) hr (by decide) (by decide) (by decide)
  · rintro j bs Ca s3 E' hj ⟨tj, rfl⟩ C
    change Cx s3 _ [("c", .int (0 + (j : Int)) tj), ("waves", .ref Dv), ("kept", .int K tK)] _ s3 at C
    refine wpAny_tests_one ?_
    k_extra "e"
    refine ⟨rfl, C.k, fun _ => ?_⟩
    obtain ⟨t2, e2⟩ := IntsAre.at hv j (by omega)
    have e3 : vv[(0 + (j : Int)).toNat]? = some (.int (wv.getD j 0) t2) := by rw [← e2]; congr 1; omega
    k_extra "e"
    refine st_list (C.plain (.head _)).isList (by omega) (by omega) e3 (by kernel_rfl) ?_
    k_extra "e"
    refine st_list (C.plain (.head _)).isList (by omega) (by omega) e3 (by kernel_rfl) ?_
    refine o_mul (mulL (hw j).1 (hw j).2) ?_
    k_extra "k"
    exact ⟨C.k, _, rfl⟩
  · intro D ys s' k hD hP hl hys
    replace C := C.step k
    refine c_sum hA.hd hl hys ?_
    k_extra "k"
    k_extra "e"
    exact h _ (kTrans F.keep C.k)
end
end Mine

namespace Mine
/-! ### lines -/
set_option hygiene false in
local macro_rules | `(tactic| k_extra "k") => `(tactic| (intro t s' k; replace C := Cx.step C k; clear k))
set_option hygiene false in
local macro_rules | `(tactic| k_extra "ks") => `(tactic| (intro s' k; replace C := Cx.step C k; clear k))
local macro_rules | `(tactic| k_extra "lkm") => `(tactic| ((with_reducible show Lk _ _ (List.cons _ _)); first | with_reducible exact Lk.here | exact Lk.there (by k_extra "lkm")))
set_option hygiene false in
local macro_rules | `(tactic| k_extra "name") => `(tactic| first
  | with_reducible refine e_name C (lk_eq (by k_extra "lkm") (by kernel_rfl)) ?_ (by kernel_rfl)
  | with_reducible refine e_glob C (lk_eq (by k_extra "lkm") (by kernel_rfl)) (by kernel_rfl) (by kernel_rfl) (by kernel_rfl) ?_ (by kernel_rfl))
set_option hygiene false in
local macro_rules | `(tactic| k_extra "e1") => `(tactic| first
  | ((with_reducible show wpAny _ _ (eval (Expr.Name _ _) _) _ _ _); k_extra "name")
  | (with_reducible refine e_int ?_; k_extra "k")
  | (with_reducible refine e_str ?_; k_extra "k")
  | with_reducible refine wpAny_Constant_none ?_
  | with_reducible refine wpAny_Constant_bool ?_
  | with_reducible refine wpAny_BinOp ?_
  | with_reducible refine wpAny_UnaryOp ?_
  | with_reducible refine wpAny_Compare1 ?_
  | with_reducible refine wpAny_isTrue_Compare1 ?_
  | with_reducible refine wpAny_isTrue_Not ?_
  | with_reducible refine wpAny_isTrue_BoolOp ?_
  | with_reducible refine e_andC ?_
  | with_reducible refine e_orC ?_
  | with_reducible refine wpAny_allTrue_And_nil ?_
  | with_reducible refine wpAny_allTrue_Or_nil ?_
  | with_reducible refine wpAny_truthy_bool ?_
  | with_reducible refine t_int ?_
  | (with_reducible refine o_add ?_; k_extra "k")
  | (with_reducible refine o_sub ?_; k_extra "k")
  | (with_reducible refine o_and ?_; k_extra "k")
  | (with_reducible refine o_neg ?_; k_extra "k")
  | (with_reducible refine o_iadd ?_; k_extra "k")
  | (with_reducible refine o_isub ?_; k_extra "k")
  | (with_reducible refine o_ixor ?_; k_extra "k")
  | (with_reducible refine o_mod (by decide) ?_; k_extra "k")
  | (with_reducible refine o_div (by decide) (by decide) ?_; k_extra "k")
  | with_reducible refine o_strEq ?_
  | with_reducible refine PyProof.Rows.eq_int ?_
  | with_reducible refine PyProof.Rows.ne_int ?_
  | with_reducible refine PyProof.Rows.lt_int ?_
  | with_reducible refine PyProof.Rows.gt_int ?_
  | with_reducible refine wpAny_Call_NameR ?_
  | with_reducible refine Call_method0 (by kernel_rfl) (by kernel_rfl) ?_
  | with_reducible refine Call_method1 (by kernel_rfl) (by kernel_rfl) (by kernel_rfl) ?_
  | with_reducible refine Call_method2 (by kernel_rfl) (by kernel_rfl) (by kernel_rfl) ?_
  | with_reducible refine Subscript_Slice ?_ (fun _ _ => by kernel_rfl)
  | with_reducible refine wpAny_Slice ?_
  | with_reducible refine PyProof.Rows.Subscript_ ?_
  | with_reducible refine wpAny_items_cons ?_ (by kernel_rfl)
  | with_reducible refine wpAny_items_nil ?_
  | with_reducible refine evalPart_none_step ?_
  | with_reducible refine evalPart_some_step ?_
  | with_reducible refine wpAny_isTrue_value ?_ (by kernel_rfl))
local macro_rules | `(tactic| k_extra "e") => `(tactic| repeat k_extra "e1")
set_option hygiene false in
local macro_rules | `(tactic| k_extra "asl") => `(tactic| refine wpAny_execs_cons (x_assign F (.inl (by kernel_rfl)) ?_ (by kernel_rfl)))
set_option hygiene false in
local macro_rules | `(tactic| k_extra "asc") => `(tactic| refine wpAny_execs_cons (x_assign F (.inr ⟨by kernel_rfl, by kernel_rfl⟩) ?_ (by kernel_rfl)))
set_option hygiene false in
local macro_rules | `(tactic| k_extra "set") => `(tactic| (refine ⟨C.k, ?_⟩; intro s2 F2 kl2; clear kl2 C F; have F := F2; clear F2; have C := F.cx))
set_option hygiene false in
local macro_rules | `(tactic| k_extra "fn") => `(tactic| (have K0 := C.k; replace C := C.anew))
set_option hygiene false in
local macro_rules | `(tactic| k_extra "nf") => `(tactic| (refine ⟨C.k, ?_⟩; replace C := C.rebase K0; clear K0))
local macro_rules | `(tactic| k_extra "lkv") => `(tactic| ((with_reducible show Lk _ _ (List.cons _ _)); first | ((with_reducible refine Lk.same ?_); first | rfl | fail "lkv") | exact Lk.there (by k_extra "lkv")))
local macro_rules | `(tactic| k_extra "wk") => `(tactic| first | exact lk_nil | exact lk_cons (lk_eq (by k_extra "lkv") (by kernel_rfl)) (by k_extra "wk"))

local macro_rules | `(tactic| k_extra "cap") => `(tactic| first | exact trivial | exact ⟨⟨by kernel_rfl, by kernel_rfl, by kernel_rfl⟩, by k_extra "cap"⟩)
/-! ### comprehensions of texts -/
def ElemS (prog : Program) (w : World) (A : Around) (env : Env) (scope : Scope) (elt : Expr) (n : Nat) (B : Nat → List (Str × Value) → Prop) (f : Nat → Str) (l' : List (Str × Value)) (os : Objs) : Prop :=
  ∀ j bs Ca s₃ (E' : Value → Shared → Prop), j < n → B j bs → Cx s₃ (compEnvC scope (closL env.cells scope.names []) Ca env) (bs ++ l') os s₃ →
    wpAny (model prog w) A (eval elt (compEnvC scope (closL env.cells scope.names []) Ca env)) (fun y s₅ => Keeps s₃ s₅ ∧ ∃ t, y = .str (f j) t) E' s₃
section
variable {prog : Program} {w : World} {A : Around} {E : Value → Shared → Prop} {s s₀ s₁ : Shared} {env : Env} {l : List (Str × Value)} {os : Objs}
def AccS (f : Nat → Str) (i : Nat) (ys : List Value) (news : Objs) : Prop := news = [] ∧ ∃ ls : List (Str × Tok), ys = strValues ls ∧ ls.map (·.1) = (List.range i).map f
theorem elemS {scope : Scope} {elt : Expr} {n : Nat} {B : Nat → List (Str × Value) → Prop} {f : Nat → Str} {l' : List (Str × Value)} (h : ElemS prog w A env scope elt n B f l' os) :
    Elem prog w A env scope (closL env.cells scope.names []) [] elt n B (AccS f) l' os := by
  rintro i bs ys news Ca s3 E' hi hB ⟨rfl, ls, rfl, hls⟩ C
  refine wpAny_tests_nil ?_
  rw [if_pos rfl]
  refine wpAny_mono (h i bs Ca s3 E' hi hB C) (fun y s5 h5 => ?_) fun _ _ e => e
  obtain ⟨k5, t, rfl⟩ := h5
  refine ⟨k5, [], (fun _ hp => by cases hp), List.nodup_nil, (fun _ hp => by cases hp), rfl, ls ++ [(f i, t)], by simp [strValues], ?_⟩
  rw [List.map_append, hls, List.range_succ, List.map_append]; rfl
theorem e_compS {elt target iter : Expr} {scope : Scope} {pos : Pos} {B : Nat → List (Str × Value) → Prop} {names : List Str} {Q : Value → Shared → Prop}
    (n : Nat) (l' : List (Str × Value)) (f : Nat → Str) (C : Cx s₁ env l os s) (hclos : closureFor scope env = pure (closL env.cells scope.names [])) (hok : scopeOk scope names = true)
    (hcap : Cap env scope (closL env.cells scope.names []) (l'.map (·.1))) (hl' : ∀ x v, l'.lookup x = some v → l.lookup x = some v) (hs : ∀ x, foldedSetIterable iter env x = pure x) (hsz : n ≤ 1000)
    (hit : wpAny (model prog w) A (eval iter env) (Itr prog w A target names s n B) E s)
    (el : ElemS prog w A env scope elt n B f l' os)
    (h : ∀ D ls s', Keeps s s' → s.heap.get? D = none → Pts [(D, "plain", strValues ls)] s'.heap → s'.heap.IsList D (strValues ls).toArray → ls.map (·.1) = (List.range n).map f → Q (.ref D) s') :
    wpAny (model prog w) A (eval (.ListComp elt [⟨target, iter, [], 0⟩] scope pos) env) Q E s := by
  refine e_comp l' _ C hclos hok hcap hl' (by rw [sizeLine_eq]; omega) hs hit (elemS el) ⟨rfl, [], rfl, rfl⟩ ?_
  rintro D ys news s' k hP hF hlen ⟨rfl, ls, rfl, hls⟩
  refine h D ls s' k (hF.1 _ (.head _)) hP ?_ hls
  obtain ⟨o, n, ho, hc, hd, _⟩ := hP _ (.head _)
  exact ⟨o, ho, hc, n, hd⟩
theorem x_compS {y : Str} {py spos : Pos} {elt target iter : Expr} {scope : Scope} {pos : Pos} {B : Nat → List (Str × Value) → Prop} {names : List Str} {Q : Flow → Shared → Prop}
    (n : Nat) (l' : List (Str × Value)) (f : Nat → Str) (F : FS s₀ s₁ env l os s) (hsw : swapsWith (.ListComp elt [⟨target, iter, [], 0⟩] scope pos) (some (.Name y py)) spos.line env = pure true)
    (hclos : closureFor scope env = pure (closL env.cells scope.names [])) (hok : scopeOk scope names = true) (hy : env.kindOf y = some .local)
    (hcap : Cap env scope (closL env.cells scope.names []) (l'.map (·.1))) (hl' : ∀ x v, l'.lookup x = some v → l.lookup x = some v) (hs : ∀ x, foldedSetIterable iter env x = pure x) (hsz : n ≤ 1000)
    (hit : wpAny (model prog w) A (eval iter env) (Itr prog w A target names s n B) E s)
    (el : ElemS prog w A env scope elt n B f l' os)
    (h : ∀ D ls s', FS s₀ s₁ env ((y, .ref D) :: l) ((D, "plain", strValues ls) :: os) s' → s₀.heap.get? D = none → ls.map (·.1) = (List.range n).map f → Q .next s') :
    wpAny (model prog w) A (exec (.Assign [.Name y py] (.ListComp elt [⟨target, iter, [], 0⟩] scope pos) spos) env) Q E s := by
  refine x_comp l' _ F hsw hclos hok hy hcap hl' (by rw [sizeLine_eq]; omega) hs hit (elemS el) ⟨rfl, [], rfl, rfl⟩ ?_
  rintro D ys news s' F' hN hlen ⟨rfl, ls, rfl, hls⟩
  exact h D ls s' F' (hN _ (.head _)) hls
end
/-! ### law: the patterns -/
def bitOf (K : Int) (i : Int) : Bool := Builtin.bitAnd (K.fdiv (2 ^ i.toNat)) 1 != 0
def dotAt (K : Int) (j : Nat) : Str := if ((0 + (j : Int)) == 0 || bitOf K (0 + (j : Int) - 1)) = true then "..." else ""
def pieceAt (K z : Int) (j : Nat) : Str := if bitOf K (0 + (j : Int)) = true then Txt.item (wordOf z) (0 + (j : Int)) else dotAt K j
def wantOf (K z : Int) : Str := Txt.join "" ((List.range 4).map (pieceAt K z))
def WantOk (want : Str) : Prop := want.length ≤ 100 ∧ (Txt.contains want "..." = true → 2 ≤ (Txt.split want "...").length ∧ (Txt.split want "...").length ≤ 100 ∧ (∀ x ∈ Txt.split want "...", x.length ≤ 100) ∧
      (Builtin.Str.partsBetween want (Builtin.Str.occurrences want "..." 0 want.length (want.length + 1)) (Str.ofString "...").length).length ≤ 1000)
def takes (K z : Int) (ws : List Str) (j : Nat) : Bool := ellB (wantOf K z) (ws.getD j Str.empty)
def takenOf (K z : Int) (ws : List Str) (wt : List Int) : Int := (sel (takes K z ws) (fun j => wt.getD j 0) (min ws.length wt.length)).sum
def szBody : List Stmt := match (fBody (topSt 15)).drop 18 with | .For _ _ [.If _ body _ _] _ _ :: _ => body | _ => []
theorem word_len (z : Int) : (wordOf z).length = 4 := by
  unfold wordOf
  kernel_rfl
abbrev l18 (X : Int) (tX : Tok) (Dv Dc Dwd Dw : Addr) (K : Int) (tK : Tok) : List (Str × Value) := [("squares", .int X tX), ("waves", .ref Dv), ("counts", .ref Dc), ("words", .ref Dwd), ("weights", .ref Dw), ("kept", .int K tK)]
theorem FS.add1 {s₀ s₁ s s' : Shared} {env : Env} {l l' : List (Str × Value)} {os : Objs} {D : Addr} {c : String} {ys : List Value} (F : FS s₀ s₁ env l os s) (F' : FS s₀ s₁ env l' os s') (hD : s.heap.get? D = none) (hP : Pts [(D, c, ys)] s'.heap) : FS s₀ s₁ env l' ((D, c, ys) :: os) s' :=
  F'.adds (nw := [(D, c, ys)]) (fun p hp => by rw [List.mem_singleton.mp hp]; exact F.notin hD) (by simp) hP
section
variable {prog : Program} {w : World} {A : Around} {s s1 s₀ s₁ : Shared} {q : Str} {cd : Value} {L fa : Addr}
theorem sz_turn {K X z : Int} {tK tX tz : Tok} {Dc Dv Dwd Dw : Addr} {os0 : Objs} {vw : List Value} {ls : List (Str × Tok)} {wt : List Int} {Q : Flow → Shared → Prop} (hA : Aok 1 A)
    (F : FS s₀ s₁ (lEnv q cd L fa) (("sizes", .int z tz) :: l18 X tX Dv Dc Dwd Dw K tK) ((Dwd, "plain", strValues ls) :: (Dw, "plain", vw) :: os0) s) (hw : IntsAre vw wt) (hlw : wt.length ≤ 1000) (hls : ∀ p ∈ ls, p.1.length ≤ 100)
    (hok : WantOk (wantOf K z)) (hj : JoinOk "" ((List.range 4).map (pieceAt K z)) = true) (hsm : -(2 ^ 64) < takenOf K z (ls.map (·.1)) wt ∧ takenOf K z (ls.map (·.1)) wt < 2 ^ 64)
    (h : ∀ t s', FS s₀ s₁ (lEnv q cd L fa) (l18 (X + takenOf K z (ls.map (·.1)) wt * takenOf K z (ls.map (·.1)) wt) t Dv Dc Dwd Dw K tK) ((Dwd, "plain", strValues ls) :: (Dw, "plain", vw) :: os0) s' → Q .next s') :
    wpAny (model prog w) A (execs szBody (lEnv q cd L fa)) Q NoE s := by
  have C := F.cx
  -- spelled
  k_extra "asc"
  k_extra "e"
  k_extra "fn"
  refine c_f1 C.base.fWord (by kernel_rfl) ?_
  k_extra "e"
  k_extra "nf"
  refine word_call C.base hA ?_
  k_extra "k"
  k_extra "set"
  -- dots
  k_extra "asc"
  refine e_compS (B := Bi "p" 0) (names := ["p"]) 4 [("kept", .int K tK)] (dotAt K) C (by kernel_rfl) (by kernel_rfl) (by k_extra "cap") (by k_extra "wk") (by intro _; rfl) (by decide) ?_ ?_ ?_
  · replace C := C.anew
    k_extra "e"
    refine c_t1 (by kernel_rfl) ?_
    k_extra "e"
    exact c_range1 fun r t u v s' k hr => itr_range 4 hA.hd (kTrans C.k k) hr (by decide) (by decide) (by decide)
  · rintro j bs Ca s3 E' hj ⟨tj, rfl⟩ C
    change Cx s3 _ [("p", .int (0 + (j : Int)) tj), ("kept", .int K tK)] _ s3 at C
    refine e_ifexp ?_
    k_extra "e"
    unfold dotAt
    refine ⟨fun e => ?_, fun e => ?_⟩
    · refine ⟨fun _ => ?_, fun e2 => by cases e2⟩
      k_extra "e"
      rw [e, Bool.true_or, if_pos rfl]
      exact ⟨C.k, _, rfl⟩
    · k_extra "e"
      have hj1 : 0 ≤ 0 + (j : Int) - 1 := by
        rcases Nat.eq_zero_or_pos j with rfl | h
        · simp at e
        · omega
      refine o_shr hj1 ?_
      k_extra "k"
      k_extra "e"
      have e3 : bitOf K (0 + (j : Int) - 1) = (Builtin.bitAnd (K.fdiv (2 ^ (0 + (j : Int) - 1).toNat)) 1 != 0) := rfl
      refine ⟨fun e2 => ⟨fun _ => ?_, fun x => by cases x⟩, fun e2 => ?_⟩
      · k_extra "e"
        rw [e3, e2, Bool.or_true, if_pos rfl]
        exact ⟨C.k, _, rfl⟩
      · k_extra "e"
        refine ⟨fun x => (by cases x), fun _ => ?_⟩
        k_extra "e"
        rw [e3, e2, e, if_neg (by decide)]
        exact ⟨C.k, _, rfl⟩
  · intro Dd ld s3 k3 hDd hPd hld hlsd
    refine ⟨kTrans C.k k3, fun s4 F4 kl4 => ?_⟩
    have F5 := FS.add1 F F4 (kNew C.k hDd) (hPd.kl kl4)
    clear C F F4 kl4
    have F := F5
    clear F5
    have C := F.cx
    -- want
    k_extra "asc"
    k_extra "e"
    refine m_join ?_
    refine e_compS (B := Bi "p" 0) (names := ["p"]) 4 [("spelled", .str (wordOf z) _), ("dots", .ref Dd), ("kept", .int K tK)] (pieceAt K z) C (by kernel_rfl) (by kernel_rfl) (by k_extra "cap") (by k_extra "wk") (by intro _; rfl) (by decide) ?_ ?_ ?_
    · replace C := C.anew
      k_extra "e"
      refine c_t1 (by kernel_rfl) ?_
      k_extra "e"
      exact c_range1 fun r t u v s' k hr => itr_range 4 hA.hd (kTrans C.k k) hr (by decide) (by decide) (by decide)
    · rintro j bs Ca s3 E' hj ⟨tj, rfl⟩ C
      change Cx s3 _ [("p", .int (0 + (j : Int)) tj), ("spelled", .str (wordOf z) _), ("dots", .ref Dd), ("kept", .int K tK)] _ s3 at C
      refine e_ifexp ?_
      k_extra "e"
      refine o_shr (by omega) ?_
      k_extra "k"
      k_extra "e"
      unfold pieceAt bitOf
      refine ⟨fun e => ?_, fun e => ?_⟩
      · k_extra "e"
        rw [if_pos e]
        refine st_str (by omega) (by rw [word_len]; omega) (by rw [word_len, sizeLine_eq]; decide) (by kernel_rfl) ?_
        k_extra "k"
        exact ⟨C.k, _, rfl⟩
      · k_extra "e"
        rw [if_neg (by rw [e]; decide)]
        have hd : ∃ t, (strValues ld)[(0 + (j : Int)).toNat]? = some (.str (dotAt K j) t) := by
          have h1 : (ld.map (·.1))[j]? = some (dotAt K j) := by rw [hlsd]; simp [hj]
          rw [List.getElem?_map] at h1
          obtain ⟨p, hp, e⟩ := Option.map_eq_some_iff.mp h1
          refine ⟨p.2, ?_⟩
          rw [show (0 + (j : Int)).toNat = j by omega]
          simp [strValues, hp, ← e]
        obtain ⟨td, hd⟩ := hd
        refine st_list (C.plain (.head _)).isList (by omega) (by omega) hd (by kernel_rfl) ?_
        exact ⟨C.k, _, rfl⟩
    intro Dw2 lw s5 k5 hDw hPw hlw2 hlsw
    replace C := C.step k5
    refine ⟨Dw2, lw, rfl, hlw2, by rw [hlsw]; exact hj, ?_⟩
    rw [hlsw]
    k_extra "k"
    k_extra "set"
    -- taken
    k_extra "asl"
    k_extra "e"
    refine c_b1 (by kernel_rfl) ?_
    have hsl : (strValues ls).length = (ls.map (·.1)).length := by simp [strValues]
    have hvl : vw.length = wt.length := hw.length
    refine e_compI (B := Bz "word" "w" (strValues ls) vw) (names := ["word", "w"]) (min (strValues ls).length vw.length) [("want", .str (wantOf K z) _)] (takes K z (ls.map (·.1))) (fun j => wt.getD j 0) C (by kernel_rfl) (by kernel_rfl) (by k_extra "cap") (by k_extra "wk") (by intro _; rfl) (by omega) ?_ ?_ ?_
    · replace C := C.anew
      k_extra "e"
      refine c_t2 (by kernel_rfl) ?_
      k_extra "e"
      exact itr_zip hA.hd C.k (C.plain (.tail _ (.head _))).isList (C.plain (.tail _ (.tail _ (.head _)))).isList
    · rintro j bs Ca s3 E' hj ⟨x, y, hx, hy, rfl⟩ C
      obtain ⟨xs, tx, hx1, rfl⟩ := strValues_get hx
      have hjl : j < wt.length := by omega
      obtain ⟨ty, hy1⟩ := IntsAre.at hw j hjl
      rw [hy1] at hy
      cases hy
      change Cx s3 _ [("w", .int (wt.getD j 0) ty), ("word", .str xs tx), ("want", .str (wantOf K z) _)] _ s3 at C
      have hxg : (ls.map (·.1)).getD j Str.empty = xs := by simp [hx1]
      refine wpAny_tests_one ?_
      k_extra "e"
      k_extra "fn"
      refine c_f2 C.base.fEll (by kernel_rfl) ?_
      k_extra "e"
      k_extra "nf"
      refine ell_call C.base hA hok.1 (hls _ (List.mem_of_getElem? hx1)) hok.2 ?_
      k_extra "ks"
      k_extra "e"
      refine o_isB ?_
      k_extra "e"
      refine ⟨?_, C.k, fun _ => ?_⟩
      · unfold takes
        rw [hxg]
        simp
      · k_extra "e"
        exact ⟨C.k, _, rfl⟩
    · intro D6 y6 s6 k6 hD6 hP6 hl6 hy6
      replace C := C.step k6
      refine c_sum hA.hd hl6 hy6 ?_
      k_extra "k"
      have eT : (sel (takes K z (ls.map (·.1))) (fun j => wt.getD j 0) (min (strValues ls).length vw.length)).sum = takenOf K z (ls.map (·.1)) wt := by rw [hsl, hvl]; rfl
      rw [eT]
      k_extra "set"
      refine wpAny_execs_cons (x_aug F (lk_eq (by k_extra "lkm") (by kernel_rfl)) (.inl (by kernel_rfl)) ?_)
      k_extra "e"
      refine o_mul (mulL hsm.1 hsm.2) ?_
      k_extra "k"
      k_extra "e"
      refine ⟨C.k, fun s7 F7 kl7 => wpAny_execs_nil ?_⟩
      refine h _ _ ((F7.sub (.cons _ (List.Sublist.refl _))).weaken (by k_extra "wk"))
end
end Mine

namespace Mine
/-! ### lines -/
set_option hygiene false in
local macro_rules | `(tactic| k_extra "k") => `(tactic| (intro t s' k; replace C := Cx.step C k; clear k))
set_option hygiene false in
local macro_rules | `(tactic| k_extra "ks") => `(tactic| (intro s' k; replace C := Cx.step C k; clear k))
local macro_rules | `(tactic| k_extra "lkm") => `(tactic| ((with_reducible show Lk _ _ (List.cons _ _)); first | with_reducible exact Lk.here | exact Lk.there (by k_extra "lkm")))
set_option hygiene false in
local macro_rules | `(tactic| k_extra "name") => `(tactic| first
  | with_reducible refine e_name C (lk_eq (by k_extra "lkm") (by kernel_rfl)) ?_ (by kernel_rfl)
  | with_reducible refine e_glob C (lk_eq (by k_extra "lkm") (by kernel_rfl)) (by kernel_rfl) (by kernel_rfl) (by kernel_rfl) ?_ (by kernel_rfl))
set_option hygiene false in
local macro_rules | `(tactic| k_extra "e1") => `(tactic| first
  | ((with_reducible show wpAny _ _ (eval (Expr.Name _ _) _) _ _ _); k_extra "name")
  | (with_reducible refine e_int ?_; k_extra "k")
  | (with_reducible refine e_str ?_; k_extra "k")
  | with_reducible refine wpAny_Constant_none ?_
  | with_reducible refine wpAny_Constant_bool ?_
  | with_reducible refine wpAny_BinOp ?_
  | with_reducible refine wpAny_UnaryOp ?_
  | with_reducible refine wpAny_Compare1 ?_
  | with_reducible refine wpAny_isTrue_Compare1 ?_
  | with_reducible refine wpAny_isTrue_Not ?_
  | with_reducible refine wpAny_isTrue_BoolOp ?_
  | with_reducible refine e_andC ?_
  | with_reducible refine e_orC ?_
  | with_reducible refine wpAny_allTrue_And_nil ?_
  | with_reducible refine wpAny_allTrue_Or_nil ?_
  | with_reducible refine wpAny_truthy_bool ?_
  | with_reducible refine t_int ?_
  | (with_reducible refine o_add ?_; k_extra "k")
  | (with_reducible refine o_sub ?_; k_extra "k")
  | (with_reducible refine o_and ?_; k_extra "k")
  | (with_reducible refine o_neg ?_; k_extra "k")
  | (with_reducible refine o_iadd ?_; k_extra "k")
  | (with_reducible refine o_isub ?_; k_extra "k")
  | (with_reducible refine o_ixor ?_; k_extra "k")
  | (with_reducible refine o_mod (by decide) ?_; k_extra "k")
  | (with_reducible refine o_div (by decide) (by decide) ?_; k_extra "k")
  | with_reducible refine o_strEq ?_
  | with_reducible refine PyProof.Rows.eq_int ?_
  | with_reducible refine PyProof.Rows.ne_int ?_
  | with_reducible refine PyProof.Rows.lt_int ?_
  | with_reducible refine PyProof.Rows.gt_int ?_
  | with_reducible refine wpAny_Call_NameR ?_
  | with_reducible refine Call_method0 (by kernel_rfl) (by kernel_rfl) ?_
  | with_reducible refine Call_method1 (by kernel_rfl) (by kernel_rfl) (by kernel_rfl) ?_
  | with_reducible refine Call_method2 (by kernel_rfl) (by kernel_rfl) (by kernel_rfl) ?_
  | with_reducible refine Subscript_Slice ?_ (fun _ _ => by kernel_rfl)
  | with_reducible refine wpAny_Slice ?_
  | with_reducible refine PyProof.Rows.Subscript_ ?_
  | with_reducible refine wpAny_items_cons ?_ (by kernel_rfl)
  | with_reducible refine wpAny_items_nil ?_
  | with_reducible refine evalPart_none_step ?_
  | with_reducible refine evalPart_some_step ?_
  | with_reducible refine wpAny_isTrue_value ?_ (by kernel_rfl))
local macro_rules | `(tactic| k_extra "e") => `(tactic| repeat k_extra "e1")
set_option hygiene false in
local macro_rules | `(tactic| k_extra "asl") => `(tactic| refine wpAny_execs_cons (x_assign F (.inl (by kernel_rfl)) ?_ (by kernel_rfl)))
set_option hygiene false in
local macro_rules | `(tactic| k_extra "asc") => `(tactic| refine wpAny_execs_cons (x_assign F (.inr ⟨by kernel_rfl, by kernel_rfl⟩) ?_ (by kernel_rfl)))
set_option hygiene false in
local macro_rules | `(tactic| k_extra "set") => `(tactic| (refine ⟨C.k, ?_⟩; intro s2 F2 kl2; clear kl2 C F; have F := F2; clear F2; have C := F.cx))
set_option hygiene false in
local macro_rules | `(tactic| k_extra "fn") => `(tactic| (have K0 := C.k; replace C := C.anew))
set_option hygiene false in
local macro_rules | `(tactic| k_extra "nf") => `(tactic| (refine ⟨C.k, ?_⟩; replace C := C.rebase K0; clear K0))
local macro_rules | `(tactic| k_extra "lkv") => `(tactic| ((with_reducible show Lk _ _ (List.cons _ _)); first | ((with_reducible refine Lk.same ?_); first | rfl | fail "lkv") | exact Lk.there (by k_extra "lkv")))
local macro_rules | `(tactic| k_extra "wk") => `(tactic| first | exact lk_nil | exact lk_cons (lk_eq (by k_extra "lkv") (by kernel_rfl)) (by k_extra "wk"))

local macro_rules | `(tactic| k_extra "cap") => `(tactic| first | exact trivial | exact ⟨⟨by kernel_rfl, by kernel_rfl, by kernel_rfl⟩, by k_extra "cap"⟩)
/-! ### law: from `squares = 0` on -/
def sqOf (K : Int) (ws : List Str) (wt : List Int) (z : Nat) : Int := takenOf K (z : Int) ws wt * takenOf K (z : Int) ws wt
structure SzOk (K : Int) (ws : List Str) (wt : List Int) : Prop where
  want : ∀ z : Nat, z < 16 → inKept K z = true → WantOk (wantOf K z) ∧ JoinOk "" ((List.range 4).map (pieceAt K z)) = true
  small : ∀ z : Nat, -(2 ^ 64) < takenOf K z ws wt ∧ takenOf K z ws wt < 2 ^ 64
  words : ∀ x ∈ ws, x.length ≤ 100
  len : wt.length ≤ 1000
abbrev l17 (Dv Dc Dwd Dw : Addr) (K : Int) (tK : Tok) : List (Str × Value) := [("waves", .ref Dv), ("counts", .ref Dc), ("words", .ref Dwd), ("weights", .ref Dw), ("kept", .int K tK)]
section
variable {prog : Program} {w : World} {A : Around} {s s1 s₀ s₁ : Shared} {q : Str} {cd : Value} {L fa : Addr}
theorem law17 {K : Int} {tK : Tok} {Dc Dv Dwd Dw : Addr} {vc vv vw : List Value} {ls : List (Str × Tok)} {cn wv wt : List Int} {Q : Flow → Shared → Prop} (hA : Aok 1 A)
    (F : FS s₀ s₁ (lEnv q cd L fa) (l17 Dv Dc Dwd Dw K tK) [(Dwd, "plain", strValues ls), (Dw, "plain", vw), (Dv, "plain", vv), (Dc, "plain", vc)] s) (hw : IntsAre vw wt)
    (hz : SzOk K (ls.map (·.1)) wt) (hc : IntsAre vc cn) (hv : IntsAre vv wv) (hcl : cn.length = 16) (hvl : wv.length = 16)
    (hK : 0 ≤ K) (hK2 : K < 16) (hcK : 0 ≤ cn.getD K.toNat 0) (hcK2 : cn.getD K.toNat 0 ≤ 4) (hws : Small wv)
    (h : ∀ s', Keeps s₀ s' → Q (.ret (.bool (2 ^ (cn.getD K.toNat 0).toNat * (sel (inKept K) (sqOf K (ls.map (·.1)) wt) 16).sum == (sel (inKept K) (sq wv) 16).sum))) s') :
    wpAny (model prog w) A (execs (lawB 17) (lEnv q cd L fa)) Q NoE s := by
  have C := F.cx
  k_extra "asl"
  k_extra "e"
  k_extra "set"
  refine wpAny_execs_cons (x_forRange 16 (fun i l os => ∃ X t, l = l18 X t Dv Dc Dwd Dw K tK ∧ os = [(Dwd, "plain", strValues ls), (Dw, "plain", vw), (Dv, "plain", vv), (Dc, "plain", vc)] ∧ X = (sel (inKept K) (sqOf K (ls.map (·.1)) wt) i).sum)
    hA.hd F (.inl (by kernel_rfl)) (fun _ => by kernel_rfl) ?_ (by decide) ⟨_, _, rfl, rfl, rfl⟩ ?_ ?_)
  · k_extra "e"
    refine c_t1 (by kernel_rfl) ?_
    k_extra "e"
    exact c_range1 fun r t u v s' k hr => ⟨r, t, u, v, rfl, kTrans C.k k, hr⟩
  · rintro i l' os' s4 ti hi ⟨X, tX, rfl, rfl, hX⟩ F4
    clear C F
    have F := F4
    clear F4
    have C := F.cx
    have e0 : inKept K i = (Builtin.bitAnd (i : Int) K == (i : Int)) := by unfold inKept; rw [Int.zero_add]
    have e1 := sel_succ (inKept K) (sqOf K (ls.map (·.1)) wt) i
    refine wpAny_execs_cons (x_if ?_)
    k_extra "e"
    refine ⟨fun e => ?_, fun e => ?_⟩
    · rw [← e0] at e
      rw [e, if_pos rfl] at e1
      refine sz_turn hA (F.grow C.k) hw hz.len (fun p hp => hz.words p.1 (List.mem_map_of_mem hp)) (hz.want i hi e).1 (hz.want i hi e).2 (hz.small i) fun t s5 F5 => wpAny_execs_nil ?_
      exact ⟨_, _, ⟨_, _, rfl, rfl, by rw [e1, List.sum_append, ← hX]; simp [sqOf]⟩, F5⟩
    · rw [← e0] at e
      rw [e, if_neg (by decide)] at e1
      refine wpAny_execs_nil (wpAny_execs_nil ?_)
      exact ⟨l18 X tX Dv Dc Dwd Dw K tK, _, ⟨X, tX, rfl, rfl, by rw [e1, List.append_nil]; exact hX⟩, (F.grow C.k).weaken (by k_extra "wk")⟩
  · rintro l' os' s4 ⟨X, tX, rfl, rfl, hX⟩ F4
    refine wpAny_execs_nil ?_
    have F5 := (F4.sub (.cons _ (.cons _ (List.Sublist.refl _)))).weaken (l' := [("squares", .int X tX), ("waves", .ref Dv), ("counts", .ref Dc), ("kept", .int K tK)]) (by k_extra "wk")
    refine law19 (hA := ⟨hA.hd, by have := hA.dp; omega⟩) F5 hc hv hcl hvl hK hK2 hcK hcK2 hws ?_
    rw [hX]
    exact h
end
end Mine

namespace Mine
/-! ### lines -/
set_option hygiene false in
local macro_rules | `(tactic| k_extra "k") => `(tactic| (intro t s' k; replace C := Cx.step C k; clear k))
set_option hygiene false in
local macro_rules | `(tactic| k_extra "ks") => `(tactic| (intro s' k; replace C := Cx.step C k; clear k))
local macro_rules | `(tactic| k_extra "lkm") => `(tactic| ((with_reducible show Lk _ _ (List.cons _ _)); first | with_reducible exact Lk.here | exact Lk.there (by k_extra "lkm")))
set_option hygiene false in
local macro_rules | `(tactic| k_extra "name") => `(tactic| first
  | with_reducible refine e_name C (lk_eq (by k_extra "lkm") (by kernel_rfl)) ?_ (by kernel_rfl)
  | with_reducible refine e_glob C (lk_eq (by k_extra "lkm") (by kernel_rfl)) (by kernel_rfl) (by kernel_rfl) (by kernel_rfl) ?_ (by kernel_rfl))
set_option hygiene false in
local macro_rules | `(tactic| k_extra "e1") => `(tactic| first
  | ((with_reducible show wpAny _ _ (eval (Expr.Name _ _) _) _ _ _); k_extra "name")
  | (with_reducible refine e_int ?_; k_extra "k")
  | (with_reducible refine e_str ?_; k_extra "k")
  | with_reducible refine wpAny_Constant_none ?_
  | with_reducible refine wpAny_Constant_bool ?_
  | with_reducible refine wpAny_BinOp ?_
  | with_reducible refine wpAny_UnaryOp ?_
  | with_reducible refine wpAny_Compare1 ?_
  | with_reducible refine wpAny_isTrue_Compare1 ?_
  | with_reducible refine wpAny_isTrue_Not ?_
  | with_reducible refine wpAny_isTrue_BoolOp ?_
  | with_reducible refine e_andC ?_
  | with_reducible refine e_orC ?_
  | with_reducible refine wpAny_allTrue_And_nil ?_
  | with_reducible refine wpAny_allTrue_Or_nil ?_
  | with_reducible refine wpAny_truthy_bool ?_
  | with_reducible refine t_int ?_
  | (with_reducible refine o_add ?_; k_extra "k")
  | (with_reducible refine o_sub ?_; k_extra "k")
  | (with_reducible refine o_and ?_; k_extra "k")
  | (with_reducible refine o_neg ?_; k_extra "k")
  | (with_reducible refine o_iadd ?_; k_extra "k")
  | (with_reducible refine o_isub ?_; k_extra "k")
  | (with_reducible refine o_ixor ?_; k_extra "k")
  | (with_reducible refine o_mod (by decide) ?_; k_extra "k")
  | (with_reducible refine o_div (by decide) (by decide) ?_; k_extra "k")
  | with_reducible refine o_strEq ?_
  | with_reducible refine PyProof.Rows.eq_int ?_
  | with_reducible refine PyProof.Rows.ne_int ?_
  | with_reducible refine PyProof.Rows.lt_int ?_
  | with_reducible refine PyProof.Rows.gt_int ?_
  | with_reducible refine wpAny_Call_NameR ?_
  | with_reducible refine Call_method0 (by kernel_rfl) (by kernel_rfl) ?_
  | with_reducible refine Call_method1 (by kernel_rfl) (by kernel_rfl) (by kernel_rfl) ?_
  | with_reducible refine Call_method2 (by kernel_rfl) (by kernel_rfl) (by kernel_rfl) ?_
  | with_reducible refine Subscript_Slice ?_ (fun _ _ => by kernel_rfl)
  | with_reducible refine wpAny_Slice ?_
  | with_reducible refine PyProof.Rows.Subscript_ ?_
  | with_reducible refine wpAny_items_cons ?_ (by kernel_rfl)
  | with_reducible refine wpAny_items_nil ?_
  | with_reducible refine evalPart_none_step ?_
  | with_reducible refine evalPart_some_step ?_
  | with_reducible refine wpAny_isTrue_value ?_ (by kernel_rfl))
local macro_rules | `(tactic| k_extra "e") => `(tactic| repeat k_extra "e1")
set_option hygiene false in
local macro_rules | `(tactic| k_extra "asl") => `(tactic| refine wpAny_execs_cons (x_assign F (.inl (by kernel_rfl)) ?_ (by kernel_rfl)))
set_option hygiene false in
local macro_rules | `(tactic| k_extra "asc") => `(tactic| refine wpAny_execs_cons (x_assign F (.inr ⟨by kernel_rfl, by kernel_rfl⟩) ?_ (by kernel_rfl)))
set_option hygiene false in
local macro_rules | `(tactic| k_extra "set") => `(tactic| (refine ⟨C.k, ?_⟩; intro s2 F2 kl2; clear kl2 C F; have F := F2; clear F2; have C := F.cx))
set_option hygiene false in
local macro_rules | `(tactic| k_extra "fn") => `(tactic| (have K0 := C.k; replace C := C.anew))
set_option hygiene false in
local macro_rules | `(tactic| k_extra "nf") => `(tactic| (refine ⟨C.k, ?_⟩; replace C := C.rebase K0; clear K0))
local macro_rules | `(tactic| k_extra "lkv") => `(tactic| ((with_reducible show Lk _ _ (List.cons _ _)); first | ((with_reducible refine Lk.same ?_); first | rfl | fail "lkv") | exact Lk.there (by k_extra "lkv")))
local macro_rules | `(tactic| k_extra "wk") => `(tactic| first | exact lk_nil | exact lk_cons (lk_eq (by k_extra "lkv") (by kernel_rfl)) (by k_extra "wk"))

local macro_rules | `(tactic| k_extra "cap") => `(tactic| first | exact trivial | exact ⟨⟨by kernel_rfl, by kernel_rfl, by kernel_rfl⟩, by k_extra "cap"⟩)
/-! ### law: the five sums -/
def RowsAt (os : Objs) (ys : List Value) (n : Nat) : Prop := ys.length = n ∧ ∀ i, i < n → ∃ D vs, ys[i]? = some (.ref D) ∧ (D, "list", vs) ∈ os ∧ IntsAre vs (rowAt (i : Int) 4)
theorem RowsAt.more {os os' : Objs} {ys : List Value} {n : Nat} (R : RowsAt os ys n) (h : ∀ p ∈ os, p ∈ os') : RowsAt os' ys n := ⟨R.1, fun i hi => by
  obtain ⟨D, vs, a, b, c⟩ := R.2 i hi
  exact ⟨D, vs, a, h _ b, c⟩⟩
theorem RowsAt.snoc {os : Objs} {ys : List Value} {n : Nat} {D : Addr} {vs : List Value} (R : RowsAt os ys n) (hv : IntsAre vs (rowAt (n : Int) 4)) : RowsAt ((D, "list", vs) :: os) (ys ++ [.ref D]) (n + 1) := ⟨by simp [R.1], fun i hi => by
  by_cases h : i < n
  · obtain ⟨D', vs', a, b, c⟩ := R.2 i h
    exact ⟨D', vs', by rw [List.getElem?_append_left (by rw [R.1]; exact h)]; exact a, .tail _ b, c⟩
  · have : i = n := by omega
    subst this
    exact ⟨D, vs, by rw [List.getElem?_append_right (by rw [R.1]; exact Nat.le_refl _), R.1]; simp, .head _, hv⟩⟩
def PairsI (os : Objs) (vs : List Value) (aps : List (Int × Int)) : Prop := ∃ ps, PairsAt os vs ps ∧ ps.length = aps.length ∧ ∀ i, i < aps.length → ∃ t u, ps[i]? = some (.int (aps.getD i (0, 0)).1 t, .int (aps.getD i (0, 0)).2 u)
theorem PairsI.more {os os' : Objs} {vs : List Value} {aps : List (Int × Int)} (P : PairsI os vs aps) (h : ∀ p ∈ os, p ∈ os') : PairsI os' vs aps := by
  obtain ⟨ps, a, b⟩ := P
  exact ⟨ps, a.more h, b⟩
def toldOf (aps : List (Int × Int)) (k : Nat) : Int := (sel (fun _ => true) (fun i => (aps.getD i (0, 0)).2 * (rowAt (aps.getD i (0, 0)).1 4).getD k 0) aps.length).sum
def countIs (cn : List Int) (k : Nat) (c : Nat) : Bool := cn.getD c 0 == (k : Int)
theorem sign_small : ∀ g : Fin 5, ∀ k : Fin 5, -(2 ^ 64) < (rowAt (g.val : Int) 4).getD k.val 0 ∧ (rowAt (g.val : Int) 4).getD k.val 0 < 2 ^ 64 := by decide +kernel
abbrev l16 (Ds Dv Dc Dwd Dw Da : Addr) (K : Int) (tK : Tok) : List (Str × Value) := [("signs", .ref Ds), ("waves", .ref Dv), ("counts", .ref Dc), ("words", .ref Dwd), ("weights", .ref Dw), ("apart", .ref Da), ("kept", .int K tK)]
abbrev l15 (Dv Dc Dwd Dw Da : Addr) (K : Int) (tK : Tok) : List (Str × Value) := [("waves", .ref Dv), ("counts", .ref Dc), ("words", .ref Dwd), ("weights", .ref Dw), ("apart", .ref Da), ("kept", .int K tK)]
section
variable {prog : Program} {w : World} {A : Around} {s s1 s₀ s₁ : Shared} {q : Str} {cd : Value} {L fa : Addr}
theorem law16 {K : Int} {tK : Tok} {Ds Dc Dv Dwd Dw Da : Addr} {vc vv vw va ysg : List Value} {ls : List (Str × Tok)} {cn wv wt : List Int} {aps : List (Int × Int)} {os : Objs} {Q : Flow → Shared → Prop} (hA : Aok 1 A)
    (F : FS s₀ s₁ (lEnv q cd L fa) (l16 Ds Dv Dc Dwd Dw Da K tK) os s) (hsub : [(Dv, "plain", vv), (Dc, "plain", vc), (Dwd, "plain", strValues ls), (Dw, "plain", vw)].Sublist os)
    (mS : (Ds, "plain", ysg) ∈ os) (mA : (Da, "plain", va) ∈ os) (hR : RowsAt os ysg 5) (hP : PairsI os va aps) (hg : ∀ i, i < aps.length → 0 ≤ (aps.getD i (0, 0)).1 ∧ (aps.getD i (0, 0)).1 ≤ 4) (hal : aps.length ≤ 1000) (hw : IntsAre vw wt)
    (hz : SzOk K (ls.map (·.1)) wt) (hc : IntsAre vc cn) (hv : IntsAre vv wv) (hcl : cn.length = 16) (hvl : wv.length = 16)
    (hK : 0 ≤ K) (hK2 : K < 16) (hcK : 0 ≤ cn.getD K.toNat 0) (hcK2 : cn.getD K.toNat 0 ≤ 4) (hws : Small wv)
    (htold : ∀ k, k < 5 → toldOf aps k = (sel (countIs cn k) (sq wv) 16).sum)
    (h : ∀ s', Keeps s₀ s' → Q (.ret (.bool (2 ^ (cn.getD K.toNat 0).toNat * (sel (inKept K) (sqOf K (ls.map (·.1)) wt) 16).sum == (sel (inKept K) (sq wv) 16).sum))) s') :
    wpAny (model prog w) A (execs (lawB 16) (lEnv q cd L fa)) Q NoE s := by
  have C := F.cx
  have mV : (Dv, "plain", vv) ∈ os := hsub.subset (by simp)
  have mC : (Dc, "plain", vc) ∈ os := hsub.subset (by simp)
  have hlva : va.length = aps.length := by obtain ⟨ps, a, b, _⟩ := hP; rw [a.len, b]
  refine wpAny_execs_cons (x_forRange 5 (fun i l os' => l = l16 Ds Dv Dc Dwd Dw Da K tK ∧ os' = os) hA.hd F (.inr ⟨by kernel_rfl, by kernel_rfl⟩) (fun _ => by kernel_rfl) ?_ (by decide) ⟨rfl, rfl⟩ ?_ ?_)
  · k_extra "e"
    refine c_t1 (by kernel_rfl) ?_
    k_extra "e"
    exact c_range1 fun r t u v s' k hr => ⟨r, t, u, v, rfl, kTrans C.k k, hr⟩
  · rintro i l' os' s4 ti hi ⟨rfl, rfl⟩ F4
    clear C F
    have F := F4
    clear F4
    have C := F.cx
    k_extra "asl"
    k_extra "e"
    refine c_b1 (by kernel_rfl) ?_
    obtain ⟨ps, hps, hpl, hpg⟩ := hP
    refine e_compI (B := Bp "gap" "part" ps) (names := ["gap", "part"]) va.length [("k", .int (i : Int) ti), ("signs", .ref Ds)] (fun _ => true) (fun j => (aps.getD j (0, 0)).2 * (rowAt (aps.getD j (0, 0)).1 4).getD i 0) C (by kernel_rfl) (by kernel_rfl) (by k_extra "cap") (by k_extra "wk") (by intro _; rfl) (by omega) ?_ ?_ ?_
    · replace C := C.anew
      k_extra "e"
      exact itr_pairs hA.hd C.k (C.plain mA).isList C.pts hps
    · rintro j bs Ca s3 E' hj ⟨x, y, hxy, rfl⟩ C
      have hj' : j < aps.length := by omega
      obtain ⟨t, u, e1⟩ := hpg j hj'
      rw [e1] at hxy
      cases hxy
      change Cx s3 _ [("part", .int (aps.getD j (0, 0)).2 u), ("gap", .int (aps.getD j (0, 0)).1 t), ("k", .int (i : Int) ti), ("signs", .ref Ds)] _ s3 at C
      have hgj := hg j hj'
      generalize hgp : aps.getD j (0, 0) = gp at hgj C
      obtain ⟨g, pt⟩ := gp
      dsimp only at hgj C
      obtain ⟨gn, rfl⟩ := Int.eq_ofNat_of_zero_le hgj.1
      have hgn : gn < 5 := by omega
      obtain ⟨Dr, vr, er, mr, hr⟩ := hR.2 gn hgn
      refine wpAny_tests_nil ⟨rfl, C.k, fun _ => ?_⟩
      k_extra "e"
      refine st_list (C.plain mS).isList (by omega) (by omega) (v := .ref Dr) (by simpa using er) (by kernel_rfl) ?_
      k_extra "e"
      obtain ⟨tr, e2⟩ := IntsAre.at hr i (by rw [rowAt_len]; exact hi)
      refine st_list (C.list mr) (by omega) (by omega) (v := .int ((rowAt (gn : Int) 4).getD i 0) tr) (by simpa using e2) (by kernel_rfl) ?_
      have hrs := sign_small ⟨gn, hgn⟩ ⟨i, hi⟩
      refine o_mul (mulR hrs.1 hrs.2) ?_
      k_extra "k"
      exact ⟨C.k, _, by simp only [hgp]; rfl⟩
    · intro D6 y6 s6 k6 hD6 hP6 hl6 hy6
      replace C := C.step k6
      refine c_sum hA.hd hl6 hy6 ?_
      k_extra "k"
      rw [hlva]
      k_extra "set"
      refine wpAny_execs_cons (x_if ?_)
      k_extra "e"
      refine c_b1 (by kernel_rfl) ?_
      refine e_compI (B := Bi "c" 0) (names := ["c"]) 16 [("k", .int (i : Int) ti), ("waves", .ref Dv), ("counts", .ref Dc)] (countIs cn i) (sq wv) C (by kernel_rfl) (by kernel_rfl) (by k_extra "cap") (by k_extra "wk") (by intro _; rfl) (by decide) ?_ ?_ ?_
      · replace C := C.anew
        k_extra "e"
        refine c_t1 (by kernel_rfl) ?_
        k_extra "e"
        exact c_range1 fun r t u v s' k hr => itr_range 16 hA.hd (kTrans C.k k) hr (by decide) (by decide) (by decide)
      · rintro j bs Ca s3 E' hj ⟨tj, rfl⟩ C
        change Cx s3 _ [("c", .int (0 + (j : Int)) tj), ("k", .int (i : Int) ti), ("waves", .ref Dv), ("counts", .ref Dc)] _ s3 at C
        obtain ⟨t2, e2⟩ := IntsAre.at hv j (by omega)
        obtain ⟨t3, e4⟩ := IntsAre.at hc j (by omega)
        have e3 : vv[(0 + (j : Int)).toNat]? = some (.int (wv.getD j 0) t2) := by rw [← e2]; congr 1; omega
        have e5 : vc[(0 + (j : Int)).toNat]? = some (.int (cn.getD j 0) t3) := by rw [← e4]; congr 1; omega
        refine wpAny_tests_one ?_
        k_extra "e"
        refine st_list (C.plain mC).isList (by omega) (by omega) e5 (by kernel_rfl) ?_
        k_extra "e"
        refine ⟨rfl, C.k, fun _ => ?_⟩
        k_extra "e"
        refine st_list (C.plain mV).isList (by omega) (by omega) e3 (by kernel_rfl) ?_
        k_extra "e"
        refine st_list (C.plain mV).isList (by omega) (by omega) e3 (by kernel_rfl) ?_
        refine o_mul (mulL (hws j).1 (hws j).2) ?_
        k_extra "k"
        exact ⟨C.k, _, rfl⟩
      · intro D7 y7 s7 k7 hD7 hP7 hl7 hy7
        replace C := C.step k7
        refine c_sum hA.hd hl7 hy7 ?_
        k_extra "k"
        k_extra "e"
        refine ⟨fun e => ?_, fun e => ?_⟩
        · have := htold i hi
          unfold toldOf at this
          rw [this] at e
          simp at e
        · refine wpAny_execs_nil (wpAny_execs_nil ?_)
          exact ⟨_, _, ⟨rfl, rfl⟩, (F.grow C.k).weaken (by k_extra "wk")⟩
  · rintro l' os' s4 ⟨rfl, rfl⟩ F4
    refine wpAny_execs_nil ?_
    have F5 := ((F4.sub hsub).perm (List.perm_append_comm (l₁ := [(Dv, "plain", vv), (Dc, "plain", vc)]) (l₂ := [(Dwd, "plain", strValues ls), (Dw, "plain", vw)]))).weaken (l' := l17 Dv Dc Dwd Dw K tK) (by k_extra "wk")
    exact law17 hA F5 hw hz hc hv hcl hvl hK hK2 hcK hcK2 hws h
theorem law15 {K : Int} {tK : Tok} {Dc Dv Dwd Dw Da : Addr} {vc vv vw va : List Value} {ls : List (Str × Tok)} {cn wv wt : List Int} {aps : List (Int × Int)} {os : Objs} {Q : Flow → Shared → Prop} (hA : Aok 1 A)
    (F : FS s₀ s₁ (lEnv q cd L fa) (l15 Dv Dc Dwd Dw Da K tK) os s) (hsub : [(Dv, "plain", vv), (Dc, "plain", vc), (Dwd, "plain", strValues ls), (Dw, "plain", vw)].Sublist os)
    (mA : (Da, "plain", va) ∈ os) (hP : PairsI os va aps) (hg : ∀ i, i < aps.length → 0 ≤ (aps.getD i (0, 0)).1 ∧ (aps.getD i (0, 0)).1 ≤ 4) (hal : aps.length ≤ 1000) (hw : IntsAre vw wt)
    (hz : SzOk K (ls.map (·.1)) wt) (hc : IntsAre vc cn) (hv : IntsAre vv wv) (hcl : cn.length = 16) (hvl : wv.length = 16)
    (hK : 0 ≤ K) (hK2 : K < 16) (hcK : 0 ≤ cn.getD K.toNat 0) (hcK2 : cn.getD K.toNat 0 ≤ 4) (hws : Small wv)
    (htold : ∀ k, k < 5 → toldOf aps k = (sel (countIs cn k) (sq wv) 16).sum)
    (h : ∀ s', Keeps s₀ s' → Q (.ret (.bool (2 ^ (cn.getD K.toNat 0).toNat * (sel (inKept K) (sqOf K (ls.map (·.1)) wt) 16).sum == (sel (inKept K) (sq wv) 16).sum))) s') :
    wpAny (model prog w) A (execs (lawB 15) (lEnv q cd L fa)) Q NoE s := by
  have C := F.cx
  k_extra "asc"
  refine e_comp (n := 5) (B := Bi "unlike" 0) (names := ["unlike"]) [] (fun i ys news => RowsAt news ys i) C (by kernel_rfl) (by kernel_rfl) (by k_extra "cap") (by k_extra "wk") (by rw [sizeLine_eq]; decide) (by intro _; rfl) ?_ ?_ ⟨rfl, fun _ h => by omega⟩ ?_
  · replace C := C.anew
    k_extra "e"
    refine c_t1 (by kernel_rfl) ?_
    k_extra "e"
    exact c_range1 fun r t u v s' k hr => itr_range 5 hA.hd (kTrans C.k k) hr (by decide) (by decide) (by decide)
  · rintro j bs ys news Ca s3 E' hj ⟨tj, rfl⟩ hR C
    change Cx s3 _ [("unlike", .int (0 + (j : Int)) tj)] _ s3 at C
    refine wpAny_tests_nil ?_
    rw [if_pos rfl]
    k_extra "e"
    k_extra "fn"
    refine c_f1 C.base.fSigns (by kernel_rfl) ?_
    k_extra "e"
    k_extra "nf"
    refine signs_call C.base hA fun D vs s5 k5 hD hPD hvs => ?_
    have K1 := C.k
    refine ⟨kTrans K1 k5, [(D, "list", vs)], (fun p hp => by rw [List.mem_singleton.mp hp]; exact kNew K1 hD), by simp, hPD, hR.snoc ?_⟩
    rw [Int.zero_add] at hvs
    exact hvs
  · rintro D ys news s' k hPt hF hlen hR
    refine ⟨kTrans C.k k, fun s2 F2 kl2 => ?_⟩
    have F3 := F2.adds (fun p hp => F.notin (kNew C.k (hF.1 p hp))) hF.2 (hPt.kl kl2)
    refine law16 (Ds := D) (ysg := ys) hA F3 (hsub.trans ((List.sublist_append_right news os).cons _)) (.head _) (List.mem_append_right _ mA) (hR.more fun p hp => List.mem_cons_of_mem _ (List.mem_append_left _ hp)) (hP.more fun p hp => List.mem_append_right _ hp)
      hg hal hw hz hc hv hcl hvl hK hK2 hcK hcK2 hws htold h
end
end Mine

namespace Mine
/-! ### lines -/
set_option hygiene false in
local macro_rules | `(tactic| k_extra "k") => `(tactic| (intro t s' k; replace C := Cx.step C k; clear k))
set_option hygiene false in
local macro_rules | `(tactic| k_extra "ks") => `(tactic| (intro s' k; replace C := Cx.step C k; clear k))
local macro_rules | `(tactic| k_extra "lkm") => `(tactic| ((with_reducible show Lk _ _ (List.cons _ _)); first | with_reducible exact Lk.here | exact Lk.there (by k_extra "lkm")))
set_option hygiene false in
local macro_rules | `(tactic| k_extra "name") => `(tactic| first
  | with_reducible refine e_name C (lk_eq (by k_extra "lkm") (by kernel_rfl)) ?_ (by kernel_rfl)
  | with_reducible refine e_glob C (lk_eq (by k_extra "lkm") (by kernel_rfl)) (by kernel_rfl) (by kernel_rfl) (by kernel_rfl) ?_ (by kernel_rfl))
set_option hygiene false in
local macro_rules | `(tactic| k_extra "e1") => `(tactic| first
  | ((with_reducible show wpAny _ _ (eval (Expr.Name _ _) _) _ _ _); k_extra "name")
  | (with_reducible refine e_int ?_; k_extra "k")
  | (with_reducible refine e_str ?_; k_extra "k")
  | with_reducible refine wpAny_Constant_none ?_
  | with_reducible refine wpAny_Constant_bool ?_
  | with_reducible refine wpAny_BinOp ?_
  | with_reducible refine wpAny_UnaryOp ?_
  | with_reducible refine wpAny_Compare1 ?_
  | with_reducible refine wpAny_isTrue_Compare1 ?_
  | with_reducible refine wpAny_isTrue_Not ?_
  | with_reducible refine wpAny_isTrue_BoolOp ?_
  | with_reducible refine e_andC ?_
  | with_reducible refine e_orC ?_
  | with_reducible refine wpAny_allTrue_And_nil ?_
  | with_reducible refine wpAny_allTrue_Or_nil ?_
  | with_reducible refine wpAny_truthy_bool ?_
  | with_reducible refine t_int ?_
  | (with_reducible refine o_add ?_; k_extra "k")
  | (with_reducible refine o_sub ?_; k_extra "k")
  | (with_reducible refine o_and ?_; k_extra "k")
  | (with_reducible refine o_neg ?_; k_extra "k")
  | (with_reducible refine o_iadd ?_; k_extra "k")
  | (with_reducible refine o_isub ?_; k_extra "k")
  | (with_reducible refine o_ixor ?_; k_extra "k")
  | (with_reducible refine o_mod (by decide) ?_; k_extra "k")
  | (with_reducible refine o_div (by decide) (by decide) ?_; k_extra "k")
  | with_reducible refine o_strEq ?_
  | with_reducible refine PyProof.Rows.eq_int ?_
  | with_reducible refine PyProof.Rows.ne_int ?_
  | with_reducible refine PyProof.Rows.lt_int ?_
  | with_reducible refine PyProof.Rows.gt_int ?_
  | with_reducible refine wpAny_Call_NameR ?_
  | with_reducible refine Call_method0 (by kernel_rfl) (by kernel_rfl) ?_
  | with_reducible refine Call_method1 (by kernel_rfl) (by kernel_rfl) (by kernel_rfl) ?_
  | with_reducible refine Call_method2 (by kernel_rfl) (by kernel_rfl) (by kernel_rfl) ?_
  | with_reducible refine Subscript_Slice ?_ (fun _ _ => by kernel_rfl)
  | with_reducible refine wpAny_Slice ?_
  | with_reducible refine PyProof.Rows.Subscript_ ?_
  | with_reducible refine wpAny_items_cons ?_ (by kernel_rfl)
  | with_reducible refine wpAny_items_nil ?_
  | with_reducible refine evalPart_none_step ?_
  | with_reducible refine evalPart_some_step ?_
  | with_reducible refine wpAny_isTrue_value ?_ (by kernel_rfl))
local macro_rules | `(tactic| k_extra "e") => `(tactic| repeat k_extra "e1")
set_option hygiene false in
local macro_rules | `(tactic| k_extra "asl") => `(tactic| refine wpAny_execs_cons (x_assign F (.inl (by kernel_rfl)) ?_ (by kernel_rfl)))
set_option hygiene false in
local macro_rules | `(tactic| k_extra "asc") => `(tactic| refine wpAny_execs_cons (x_assign F (.inr ⟨by kernel_rfl, by kernel_rfl⟩) ?_ (by kernel_rfl)))
set_option hygiene false in
local macro_rules | `(tactic| k_extra "set") => `(tactic| (refine ⟨C.k, ?_⟩; intro s2 F2 kl2; clear kl2 C F; have F := F2; clear F2; have C := F.cx))
set_option hygiene false in
local macro_rules | `(tactic| k_extra "fn") => `(tactic| (have K0 := C.k; replace C := C.anew))
set_option hygiene false in
local macro_rules | `(tactic| k_extra "nf") => `(tactic| (refine ⟨C.k, ?_⟩; replace C := C.rebase K0; clear K0))
local macro_rules | `(tactic| k_extra "lkv") => `(tactic| ((with_reducible show Lk _ _ (List.cons _ _)); first | ((with_reducible refine Lk.same ?_); first | rfl | fail "lkv") | exact Lk.there (by k_extra "lkv")))
local macro_rules | `(tactic| k_extra "wk") => `(tactic| first | exact lk_nil | exact lk_cons (lk_eq (by k_extra "lkv") (by kernel_rfl)) (by k_extra "wk"))

local macro_rules | `(tactic| k_extra "cap") => `(tactic| first | exact trivial | exact ⟨⟨by kernel_rfl, by kernel_rfl, by kernel_rfl⟩, by k_extra "cap"⟩)
/-! ### law: the waves -/
def waveAt (cn sp wt : List Int) (c : Nat) (j : Nat) : Int := if ((cn.getD (Builtin.bitAnd (sp.getD j 0) (c : Int)).toNat 0).fmod 2 == 1) = true then -(wt.getD j 0) else wt.getD j 0
def waveOf (cn sp wt : List Int) (c : Nat) : Int := (sel (fun _ => true) (waveAt cn sp wt c) (min sp.length wt.length)).sum
abbrev l13 (Dc Dwd Dw Dsp Da : Addr) (K : Int) (tK : Tok) : List (Str × Value) := [("counts", .ref Dc), ("words", .ref Dwd), ("weights", .ref Dw), ("spots", .ref Dsp), ("apart", .ref Da), ("kept", .int K tK)]
abbrev l14 (Dv Dc Dwd Dw Dsp Da : Addr) (K : Int) (tK : Tok) : List (Str × Value) := [("waves", .ref Dv), ("counts", .ref Dc), ("words", .ref Dwd), ("weights", .ref Dw), ("spots", .ref Dsp), ("apart", .ref Da), ("kept", .int K tK)]
section
variable {prog : Program} {w : World} {A : Around} {s s1 s₀ s₁ : Shared} {q : Str} {cd : Value} {L fa : Addr}
theorem law13 {K : Int} {tK : Tok} {Dc Dwd Dw Dsp Da : Addr} {vc vw vsp va : List Value} {ls : List (Str × Tok)} {cn sp wt : List Int} {aps : List (Int × Int)} {os : Objs} {Q : Flow → Shared → Prop} (hA : Aok 1 A)
    (F : FS s₀ s₁ (lEnv q cd L fa) (l13 Dc Dwd Dw Dsp Da K tK) os s) (hsub : [(Dc, "plain", vc), (Dwd, "plain", strValues ls), (Dw, "plain", vw)].Sublist os)
    (mS : (Dsp, "plain", vsp) ∈ os) (hsp : IntsAre vsp sp) (hspb : ∀ j c : Nat, j < sp.length → c < 16 → 0 ≤ Builtin.bitAnd (sp.getD j 0) (c : Int) ∧ Builtin.bitAnd (sp.getD j 0) (c : Int) < 16)
    (mA : (Da, "plain", va) ∈ os) (hP : PairsI os va aps) (hg : ∀ i, i < aps.length → 0 ≤ (aps.getD i (0, 0)).1 ∧ (aps.getD i (0, 0)).1 ≤ 4) (hal : aps.length ≤ 1000) (hw : IntsAre vw wt)
    (hz : SzOk K (ls.map (·.1)) wt) (hc : IntsAre vc cn) (hcl : cn.length = 16)
    (hK : 0 ≤ K) (hK2 : K < 16) (hcK : 0 ≤ cn.getD K.toNat 0) (hcK2 : cn.getD K.toNat 0 ≤ 4) (hws : Small ((List.range 16).map (waveOf cn sp wt)))
    (htold : ∀ k, k < 5 → toldOf aps k = (sel (countIs cn k) (sq ((List.range 16).map (waveOf cn sp wt))) 16).sum)
    (h : ∀ s', Keeps s₀ s' → Q (.ret (.bool (2 ^ (cn.getD K.toNat 0).toNat * (sel (inKept K) (sqOf K (ls.map (·.1)) wt) 16).sum == (sel (inKept K) (sq ((List.range 16).map (waveOf cn sp wt))) 16).sum))) s') :
    wpAny (model prog w) A (execs (lawB 13) (lEnv q cd L fa)) Q NoE s := by
  have C := F.cx
  have mC : (Dc, "plain", vc) ∈ os := hsub.subset (by simp)
  have mW : (Dw, "plain", vw) ∈ os := hsub.subset (by simp)
  k_extra "asc"
  refine e_list ?_
  k_extra "e"
  refine ⟨by show 0 ≤ 1000; omega, fun Dv s2 k hD ho => ?_⟩
  have hn := (F.grow C.k).notin hD
  have hD0 := (F.grow C.k).new0 hD
  refine ⟨kTrans C.k k, fun s3 F3 kl3 => ?_⟩
  have F4 := F3.add (c := "plain") hn (kl3.seq ho rfl) rfl rfl (fun _ => ⟨rfl, rfl⟩)
  clear C F F3
  have F := F4
  clear F4
  have C := F.cx
  refine wpAny_execs_cons (x_forRange 16 (fun i l os' => ∃ vv, l = l14 Dv Dc Dwd Dw Dsp Da K tK ∧ os' = (Dv, "plain", vv) :: os ∧ IntsAre vv ((List.range i).map (waveOf cn sp wt))) hA.hd F (.inr ⟨by kernel_rfl, by kernel_rfl⟩) (fun _ => by kernel_rfl) ?_ (by decide) ⟨[], rfl, rfl, .nil⟩ ?_ ?_)
  · k_extra "e"
    refine c_t1 (by kernel_rfl) ?_
    k_extra "e"
    exact c_range1 fun r t u v s' k hr => ⟨r, t, u, v, rfl, kTrans C.k k, hr⟩
  · rintro i l' os' s4 ti hi ⟨vv, rfl, rfl, hvv⟩ F4
    clear C F
    have F := F4
    clear F4
    have C := F.cx
    have hvl : vv.length = i := by rw [hvv.length]; simp
    refine wpAny_execs_cons (x_compI (B := Bz "s" "w" vsp vw) (names := ["s", "w"]) (min vsp.length vw.length) [("choice", .int (i : Int) ti), ("counts", .ref Dc)] (fun _ => true) (waveAt cn sp wt i) F (by kernel_rfl) (by kernel_rfl) (by kernel_rfl) (by kernel_rfl) (by k_extra "cap") (by k_extra "wk") (by intro _; rfl) (by have := hz.len; rw [hw.length]; omega) ?_ ?_ ?_)
    · replace C := C.anew
      k_extra "e"
      refine c_t2 (by kernel_rfl) ?_
      k_extra "e"
      exact itr_zip hA.hd C.k (C.plain (.tail _ mS)).isList (C.plain (.tail _ mW)).isList
    · rintro j bs Ca s3 E' hj ⟨x, y, hx, hy, rfl⟩ C
      rw [hsp.length, hw.length] at hj
      obtain ⟨tx, e1⟩ := IntsAre.at hsp j (by omega)
      obtain ⟨ty, e2⟩ := IntsAre.at hw j (by omega)
      rw [e1] at hx; cases hx
      rw [e2] at hy; cases hy
      change Cx s3 _ [("w", .int (wt.getD j 0) ty), ("s", .int (sp.getD j 0) tx), ("choice", .int (i : Int) ti), ("counts", .ref Dc)] _ s3 at C
      have hb := hspb j i (by omega) hi
      obtain ⟨tc, e3⟩ := IntsAre.at hc (Builtin.bitAnd (sp.getD j 0) (i : Int)).toNat (by omega)
      refine wpAny_tests_nil ⟨rfl, C.k, fun _ => ?_⟩
      refine e_ifexp ?_
      k_extra "e"
      refine st_list (C.plain (.tail _ mC)).isList (by omega) (by omega) e3 (by kernel_rfl) ?_
      k_extra "e"
      unfold waveAt
      refine ⟨fun e => ?_, fun e => ?_⟩
      · k_extra "e"
        exact ⟨C.k, _, by rw [if_pos e]⟩
      · k_extra "e"
        exact ⟨C.k, _, by rw [if_neg (by rw [e]; decide)]⟩
    · intro Dg yg s5 F5 hDg hyg
      clear C F
      have F := F5
      clear F5
      have C := F.cx
      refine wpAny_execs_cons (x_append (i := 1) F (lk_eq (by k_extra "lkm") (by kernel_rfl)) rfl hD0 (by omega) (by kernel_rfl) (by kernel_rfl) (by kernel_rfl) (by kernel_rfl) (by kernel_rfl) (by kernel_rfl) ?_)
      k_extra "e"
      refine c_b1 (by kernel_rfl) ?_
      k_extra "e"
      refine c_sum hA.hd (C.plain (.head _)).isList hyg ?_
      k_extra "k"
      refine ⟨C.k, fun s6 F6 hk6 => wpAny_execs_nil ?_⟩
      refine ⟨_, _, ⟨_, rfl, rfl, ?_⟩, (F6.sub (.cons _ (List.Sublist.refl _))).weaken (by k_extra "wk")⟩
      rw [List.range_succ, List.map_append]
      have := IntsAre.snoc hvv (waveOf cn sp wt i) t
      unfold waveOf at this ⊢
      rw [hsp.length, hw.length]
      exact this
  · rintro l' os' s4 ⟨vv, rfl, rfl, hvv⟩ F4
    refine wpAny_execs_nil ?_
    have F5 := F4.weaken (l' := l15 Dv Dc Dwd Dw Da K tK) (by k_extra "wk")
    exact law15 hA F5 (hsub.cons_cons _) (.tail _ mA) (hP.more fun p hp => .tail _ hp) hg hal hw hz hc hvv hcl (by simp) hK hK2 hcK hcK2 hws htold h
end
end Mine

namespace Mine
/-! ### lines -/
set_option hygiene false in
local macro_rules | `(tactic| k_extra "k") => `(tactic| (intro t s' k; replace C := Cx.step C k; clear k))
set_option hygiene false in
local macro_rules | `(tactic| k_extra "ks") => `(tactic| (intro s' k; replace C := Cx.step C k; clear k))
local macro_rules | `(tactic| k_extra "lkm") => `(tactic| ((with_reducible show Lk _ _ (List.cons _ _)); first | with_reducible exact Lk.here | exact Lk.there (by k_extra "lkm")))
set_option hygiene false in
local macro_rules | `(tactic| k_extra "name") => `(tactic| first
  | with_reducible refine e_name C (lk_eq (by k_extra "lkm") (by kernel_rfl)) ?_ (by kernel_rfl)
  | with_reducible refine e_glob C (lk_eq (by k_extra "lkm") (by kernel_rfl)) (by kernel_rfl) (by kernel_rfl) (by kernel_rfl) ?_ (by kernel_rfl))
set_option hygiene false in
local macro_rules | `(tactic| k_extra "e1") => `(tactic| first
  | ((with_reducible show wpAny _ _ (eval (Expr.Name _ _) _) _ _ _); k_extra "name")
  | (with_reducible refine e_int ?_; k_extra "k")
  | (with_reducible refine e_str ?_; k_extra "k")
  | with_reducible refine wpAny_Constant_none ?_
  | with_reducible refine wpAny_Constant_bool ?_
  | with_reducible refine wpAny_BinOp ?_
  | with_reducible refine wpAny_UnaryOp ?_
  | with_reducible refine wpAny_Compare1 ?_
  | with_reducible refine wpAny_isTrue_Compare1 ?_
  | with_reducible refine wpAny_isTrue_Not ?_
  | with_reducible refine wpAny_isTrue_BoolOp ?_
  | with_reducible refine e_andC ?_
  | with_reducible refine e_orC ?_
  | with_reducible refine wpAny_allTrue_And_nil ?_
  | with_reducible refine wpAny_allTrue_Or_nil ?_
  | with_reducible refine wpAny_truthy_bool ?_
  | with_reducible refine t_int ?_
  | (with_reducible refine o_add ?_; k_extra "k")
  | (with_reducible refine o_sub ?_; k_extra "k")
  | (with_reducible refine o_and ?_; k_extra "k")
  | (with_reducible refine o_neg ?_; k_extra "k")
  | (with_reducible refine o_iadd ?_; k_extra "k")
  | (with_reducible refine o_isub ?_; k_extra "k")
  | (with_reducible refine o_ixor ?_; k_extra "k")
  | (with_reducible refine o_mod (by decide) ?_; k_extra "k")
  | (with_reducible refine o_div (by decide) (by decide) ?_; k_extra "k")
  | with_reducible refine o_strEq ?_
  | with_reducible refine PyProof.Rows.eq_int ?_
  | with_reducible refine PyProof.Rows.ne_int ?_
  | with_reducible refine PyProof.Rows.lt_int ?_
  | with_reducible refine PyProof.Rows.gt_int ?_
  | with_reducible refine wpAny_Call_NameR ?_
  | with_reducible refine Call_method0 (by kernel_rfl) (by kernel_rfl) ?_
  | with_reducible refine Call_method1 (by kernel_rfl) (by kernel_rfl) (by kernel_rfl) ?_
  | with_reducible refine Call_method2 (by kernel_rfl) (by kernel_rfl) (by kernel_rfl) ?_
  | with_reducible refine Subscript_Slice ?_ (fun _ _ => by kernel_rfl)
  | with_reducible refine wpAny_Slice ?_
  | with_reducible refine PyProof.Rows.Subscript_ ?_
  | with_reducible refine wpAny_items_cons ?_ (by kernel_rfl)
  | with_reducible refine wpAny_items_nil ?_
  | with_reducible refine evalPart_none_step ?_
  | with_reducible refine evalPart_some_step ?_
  | with_reducible refine wpAny_isTrue_value ?_ (by kernel_rfl))
local macro_rules | `(tactic| k_extra "e") => `(tactic| repeat k_extra "e1")
set_option hygiene false in
local macro_rules | `(tactic| k_extra "asl") => `(tactic| refine wpAny_execs_cons (x_assign F (.inl (by kernel_rfl)) ?_ (by kernel_rfl)))
set_option hygiene false in
local macro_rules | `(tactic| k_extra "asc") => `(tactic| refine wpAny_execs_cons (x_assign F (.inr ⟨by kernel_rfl, by kernel_rfl⟩) ?_ (by kernel_rfl)))
set_option hygiene false in
local macro_rules | `(tactic| k_extra "set") => `(tactic| (refine ⟨C.k, ?_⟩; intro s2 F2 kl2; clear kl2 C F; have F := F2; clear F2; have C := F.cx))
set_option hygiene false in
local macro_rules | `(tactic| k_extra "fn") => `(tactic| (have K0 := C.k; replace C := C.anew))
set_option hygiene false in
local macro_rules | `(tactic| k_extra "nf") => `(tactic| (refine ⟨C.k, ?_⟩; replace C := C.rebase K0; clear K0))
local macro_rules | `(tactic| k_extra "lkv") => `(tactic| ((with_reducible show Lk _ _ (List.cons _ _)); first | ((with_reducible refine Lk.same ?_); first | rfl | fail "lkv") | exact Lk.there (by k_extra "lkv")))
local macro_rules | `(tactic| k_extra "wk") => `(tactic| first | exact lk_nil | exact lk_cons (lk_eq (by k_extra "lkv") (by kernel_rfl)) (by k_extra "wk"))

local macro_rules | `(tactic| k_extra "cap") => `(tactic| first | exact trivial | exact ⟨⟨by kernel_rfl, by kernel_rfl, by kernel_rfl⟩, by k_extra "cap"⟩)
/-! ### law: the counts -/
structure PlainOk (K : Int) (ws : List Str) (sp wt cn : List Int) (aps : List (Int × Int)) : Prop where
  spb : ∀ j c : Nat, j < sp.length → c < 16 → 0 ≤ Builtin.bitAnd (sp.getD j 0) (c : Int) ∧ Builtin.bitAnd (sp.getD j 0) (c : Int) < 16
  g : ∀ i, i < aps.length → 0 ≤ (aps.getD i (0, 0)).1 ∧ (aps.getD i (0, 0)).1 ≤ 4
  al : aps.length ≤ 1000
  z : SzOk K ws wt
  cl : cn.length = 16
  K0 : 0 ≤ K
  K16 : K < 16
  c0 : 0 ≤ cn.getD K.toNat 0
  c4 : cn.getD K.toNat 0 ≤ 4
  sm : Small ((List.range 16).map (waveOf cn sp wt))
  told : ∀ k, k < 5 → toldOf aps k = (sel (countIs cn k) (sq ((List.range 16).map (waveOf cn sp wt))) 16).sum
  fin : 2 ^ (cn.getD K.toNat 0).toNat * (sel (inKept K) (sqOf K ws wt) 16).sum = (sel (inKept K) (sq ((List.range 16).map (waveOf cn sp wt))) 16).sum
def hasBit (c : Nat) (p : Nat) : Bool := Builtin.bitAnd ((c : Int).fdiv (2 ^ (0 + (p : Int)).toNat)) 1 != 0
def flagsOf (Lo S : Int) (c : Nat) : Int := (sel (hasBit c) (fun p => 2 ^ (Lo + S * (0 + (p : Int))).toNat) 4).sum
def countOf (f : Int) : Int := if (prettyText f == Str.ofString "0x0") = true then 0 else ((Txt.split (prettyText f) ", ").length : Int)
structure PfOk (f : Int) : Prop where
  join : JoinOk ", " (pfLoop 32 0 [] f) = true
  rest : ∀ g, pfRest 32 0 f = some g → (baseText "0x" 16 g).length ≤ 1000
  len : (prettyText f).length ≤ 1000
  parts : (Builtin.Str.partsBetween (prettyText f) (Builtin.Str.occurrences (prettyText f) ", " 0 (prettyText f).length ((prettyText f).length + 1)) (Str.ofString ", ").length).length ≤ 1000
  split : (Txt.split (prettyText f) ", ").length ≤ 1000
abbrev l11 (Dwd Dw Dsp Da : Addr) (Lo S K : Int) (tL tS tK : Tok) : List (Str × Value) := [("words", .ref Dwd), ("weights", .ref Dw), ("spots", .ref Dsp), ("apart", .ref Da), ("low", .int Lo tL), ("step", .int S tS), ("kept", .int K tK)]
abbrev l12 (Dc Dwd Dw Dsp Da : Addr) (Lo S K : Int) (tL tS tK : Tok) : List (Str × Value) := [("counts", .ref Dc), ("words", .ref Dwd), ("weights", .ref Dw), ("spots", .ref Dsp), ("apart", .ref Da), ("low", .int Lo tL), ("step", .int S tS), ("kept", .int K tK)]
section
variable {prog : Program} {w : World} {A : Around} {s s1 s₀ s₁ : Shared} {q : Str} {cd : Value} {L fa : Addr}
theorem law11 {Lo S K : Int} {tL tS tK : Tok} {Dwd Dw Dsp Da : Addr} {vw vsp va : List Value} {ls : List (Str × Tok)} {sp wt : List Int} {aps : List (Int × Int)} {os : Objs} {Q : Flow → Shared → Prop} (hA : Aok 1 A)
    (F : FS s₀ s₁ (lEnv q cd L fa) (l11 Dwd Dw Dsp Da Lo S K tL tS tK) os s) (hsub : [(Dwd, "plain", strValues ls), (Dw, "plain", vw)].Sublist os)
    (mS : (Dsp, "plain", vsp) ∈ os) (hsp : IntsAre vsp sp) (mA : (Da, "plain", va) ∈ os) (hP : PairsI os va aps) (hw : IntsAre vw wt)
    (hL0 : 0 ≤ Lo) (hL1 : Lo ≤ 4) (hS0 : 1 ≤ S) (hS1 : S ≤ 9) (hpf : ∀ c : Nat, c < 16 → PfOk (flagsOf Lo S c))
    (hok : PlainOk K (ls.map (·.1)) sp wt ((List.range 16).map fun c => countOf (flagsOf Lo S c)) aps)
    (h : ∀ s', Keeps s₀ s' → Q (.ret (.bool true)) s') :
    wpAny (model prog w) A (execs (lawB 11) (lEnv q cd L fa)) Q NoE s := by
  have C := F.cx
  k_extra "asc"
  refine e_list ?_
  k_extra "e"
  refine ⟨by show 0 ≤ 1000; omega, fun Dc s2 k hD ho => ?_⟩
  have hn := (F.grow C.k).notin hD
  have hD0 := (F.grow C.k).new0 hD
  refine ⟨kTrans C.k k, fun s3 F3 kl3 => ?_⟩
  have F4 := F3.add (c := "plain") hn (kl3.seq ho rfl) rfl rfl (fun _ => ⟨rfl, rfl⟩)
  clear C F F3
  have F := F4
  clear F4
  have C := F.cx
  refine wpAny_execs_cons (x_forRange 16 (fun i l os' => ∃ vc, l = l12 Dc Dwd Dw Dsp Da Lo S K tL tS tK ∧ os' = (Dc, "plain", vc) :: os ∧ IntsAre vc ((List.range i).map fun c => countOf (flagsOf Lo S c))) hA.hd F (.inr ⟨by kernel_rfl, by kernel_rfl⟩) (fun _ => by kernel_rfl) ?_ (by decide) ⟨[], rfl, rfl, .nil⟩ ?_ ?_)
  · k_extra "e"
    refine c_t1 (by kernel_rfl) ?_
    k_extra "e"
    exact c_range1 fun r t u v s' k hr => ⟨r, t, u, v, rfl, kTrans C.k k, hr⟩
  · rintro i l' os' s4 ti hi ⟨vc, rfl, rfl, hvc⟩ F4
    clear C F
    have F := F4
    clear F4
    have C := F.cx
    have hvl : vc.length = i := by rw [hvc.length]; simp
    -- flags
    k_extra "asl"
    k_extra "e"
    refine c_b1 (by kernel_rfl) ?_
    refine e_compI (B := Bi "p" 0) (names := ["p"]) 4 [("choice", .int (i : Int) ti), ("low", .int Lo tL), ("step", .int S tS)] (hasBit i) (fun p => 2 ^ (Lo + S * (0 + (p : Int))).toNat) C (by kernel_rfl) (by kernel_rfl) (by k_extra "cap") (by k_extra "wk") (by intro _; rfl) (by decide) ?_ ?_ ?_
    · replace C := C.anew
      k_extra "e"
      refine c_t1 (by kernel_rfl) ?_
      k_extra "e"
      exact c_range1 fun r t u v s' k hr => itr_range 4 hA.hd (kTrans C.k k) hr (by decide) (by decide) (by decide)
    · rintro j bs Ca s3 E' hj ⟨tj, rfl⟩ C
      change Cx s3 _ [("p", .int (0 + (j : Int)) tj), ("choice", .int (i : Int) ti), ("low", .int Lo tL), ("step", .int S tS)] _ s3 at C
      refine wpAny_tests_one ?_
      k_extra "e"
      refine o_shr (by omega) ?_
      k_extra "k"
      k_extra "e"
      refine ⟨rfl, C.k, fun _ => ?_⟩
      k_extra "e"
      refine o_mul (mulL (by omega) (by omega)) ?_
      k_extra "k"
      k_extra "e"
      have h1 : 0 ≤ S * (0 + (j : Int)) := Int.mul_nonneg (by omega) (by omega)
      have h2 : S * (0 + (j : Int)) ≤ 9 * 4 := Int.mul_le_mul hS1 (by omega) (by omega) (by omega)
      refine o_pow (by omega) (by omega) (by decide) ?_
      k_extra "k"
      exact ⟨C.k, _, rfl⟩
    · intro D6 y6 s6 k6 hD6 hP6 hl6 hy6
      replace C := C.step k6
      refine c_sum hA.hd hl6 hy6 ?_
      k_extra "k"
      rw [show (sel (hasBit i) (fun p => 2 ^ (Lo + S * (0 + (p : Int))).toNat) 4).sum = flagsOf Lo S i from rfl]
      k_extra "set"
      have hp := hpf i hi
      -- named
      k_extra "asl"
      k_extra "e"
      k_extra "fn"
      refine c_f1 C.base.fFlags (by kernel_rfl) ?_
      k_extra "e"
      k_extra "nf"
      refine pf_call C.base hA hp.join hp.rest ?_
      k_extra "k"
      k_extra "set"
      have fin : ∀ (n : Int) (t : Tok) (s9 : Shared), countOf (flagsOf Lo S i) = n → IntsAre (vc ++ [.int n t]) ((List.range (i + 1)).map fun c => countOf (flagsOf Lo S c)) := fun n t s9 e => by
        rw [List.range_succ, List.map_append, ← e]
        exact IntsAre.snoc hvc _ _
      refine wpAny_execs_cons (x_append (i := 0) F (lk_eq (by k_extra "lkm") (by kernel_rfl)) rfl hD0 (by omega) (by kernel_rfl) (by kernel_rfl) (by kernel_rfl) (by kernel_rfl) (by kernel_rfl) (by kernel_rfl) ?_)
      refine e_ifexp ?_
      k_extra "e"
      refine ⟨fun e => ?_, fun e => ?_⟩
      · k_extra "e"
        refine ⟨C.k, fun s7 F7 hk7 => wpAny_execs_nil ?_⟩
        exact ⟨_, _, ⟨_, rfl, rfl, fin _ _ s7 (by unfold countOf; rw [if_pos e])⟩, F7.weaken (by k_extra "wk")⟩
      · k_extra "e"
        refine c_b1 (by kernel_rfl) ?_
        k_extra "e"
        refine m_str1 PySem.F.slot_str_split PySem.F.type_str_split ?_
        k_extra "e"
        refine c_split (by decide +kernel) hp.len (Nat.le_trans hp.parts (by rw [sizeLine_eq]; omega)) ?_
        intro D8 l8 n8 s8 k8 hD8 ho8 hls8
        replace C := C.step k8
        have hl8 : l8.length = (Txt.split (prettyText (flagsOf Lo S i)) ", ").length := by rw [← hls8]; simp
        refine c_lenList (items := strValues l8) ⟨_, ho8, rfl, _, rfl⟩ (by have := hp.split; simp [strValues]; omega) ?_
        k_extra "k"
        refine ⟨C.k, fun s7 F7 hk7 => wpAny_execs_nil ?_⟩
        exact ⟨_, _, ⟨_, rfl, rfl, fin _ _ s7 (by unfold countOf; rw [if_neg (by rw [e]; decide), ← hl8]; simp [strValues])⟩, F7.weaken (by k_extra "wk")⟩
  · rintro l' os' s4 ⟨vc, rfl, rfl, hvc⟩ F4
    refine wpAny_execs_nil ?_
    have F5 := F4.weaken (l' := l13 Dc Dwd Dw Dsp Da K tK) (by k_extra "wk")
    refine law13 hA F5 (hsub.cons_cons _) (.tail _ mS) hsp hok.spb (.tail _ mA) (hP.more fun p hp => .tail _ hp) hok.g hok.al hw hok.z hvc hok.cl hok.K0 hok.K16 hok.c0 hok.c4 hok.sm hok.told fun s' k => ?_
    rw [hok.fin]
    have := h s' k
    simpa using this
end
end Mine

namespace Mine
/-! ### lines -/
set_option hygiene false in
local macro_rules | `(tactic| k_extra "k") => `(tactic| (intro t s' k; replace C := Cx.step C k; clear k))
set_option hygiene false in
local macro_rules | `(tactic| k_extra "ks") => `(tactic| (intro s' k; replace C := Cx.step C k; clear k))
local macro_rules | `(tactic| k_extra "lkm") => `(tactic| ((with_reducible show Lk _ _ (List.cons _ _)); first | with_reducible exact Lk.here | exact Lk.there (by k_extra "lkm")))
set_option hygiene false in
local macro_rules | `(tactic| k_extra "name") => `(tactic| first
  | with_reducible refine e_name C (lk_eq (by k_extra "lkm") (by kernel_rfl)) ?_ (by kernel_rfl)
  | with_reducible refine e_glob C (lk_eq (by k_extra "lkm") (by kernel_rfl)) (by kernel_rfl) (by kernel_rfl) (by kernel_rfl) ?_ (by kernel_rfl))
set_option hygiene false in
local macro_rules | `(tactic| k_extra "e1") => `(tactic| first
  | ((with_reducible show wpAny _ _ (eval (Expr.Name _ _) _) _ _ _); k_extra "name")
  | (with_reducible refine e_int ?_; k_extra "k")
  | (with_reducible refine e_str ?_; k_extra "k")
  | with_reducible refine wpAny_Constant_none ?_
  | with_reducible refine wpAny_Constant_bool ?_
  | with_reducible refine wpAny_BinOp ?_
  | with_reducible refine wpAny_UnaryOp ?_
  | with_reducible refine wpAny_Compare1 ?_
  | with_reducible refine wpAny_isTrue_Compare1 ?_
  | with_reducible refine wpAny_isTrue_Not ?_
  | with_reducible refine wpAny_isTrue_BoolOp ?_
  | with_reducible refine e_andC ?_
  | with_reducible refine e_orC ?_
  | with_reducible refine wpAny_allTrue_And_nil ?_
  | with_reducible refine wpAny_allTrue_Or_nil ?_
  | with_reducible refine wpAny_truthy_bool ?_
  | with_reducible refine t_int ?_
  | (with_reducible refine o_add ?_; k_extra "k")
  | (with_reducible refine o_sub ?_; k_extra "k")
  | (with_reducible refine o_and ?_; k_extra "k")
  | (with_reducible refine o_neg ?_; k_extra "k")
  | (with_reducible refine o_iadd ?_; k_extra "k")
  | (with_reducible refine o_isub ?_; k_extra "k")
  | (with_reducible refine o_ixor ?_; k_extra "k")
  | (with_reducible refine o_mod (by decide) ?_; k_extra "k")
  | (with_reducible refine o_div (by decide) (by decide) ?_; k_extra "k")
  | with_reducible refine o_strEq ?_
  | with_reducible refine PyProof.Rows.eq_int ?_
  | with_reducible refine PyProof.Rows.ne_int ?_
  | with_reducible refine PyProof.Rows.lt_int ?_
  | with_reducible refine PyProof.Rows.gt_int ?_
  | with_reducible refine wpAny_Call_NameR ?_
  | with_reducible refine Call_method0 (by kernel_rfl) (by kernel_rfl) ?_
  | with_reducible refine Call_method1 (by kernel_rfl) (by kernel_rfl) (by kernel_rfl) ?_
  | with_reducible refine Call_method2 (by kernel_rfl) (by kernel_rfl) (by kernel_rfl) ?_
  | with_reducible refine Subscript_Slice ?_ (fun _ _ => by kernel_rfl)
  | with_reducible refine wpAny_Slice ?_
  | with_reducible refine PyProof.Rows.Subscript_ ?_
  | with_reducible refine wpAny_items_cons ?_ (by kernel_rfl)
  | with_reducible refine wpAny_items_nil ?_
  | with_reducible refine evalPart_none_step ?_
  | with_reducible refine evalPart_some_step ?_
  | with_reducible refine wpAny_isTrue_value ?_ (by kernel_rfl))
local macro_rules | `(tactic| k_extra "e") => `(tactic| repeat k_extra "e1")
set_option hygiene false in
local macro_rules | `(tactic| k_extra "asl") => `(tactic| refine wpAny_execs_cons (x_assign F (.inl (by kernel_rfl)) ?_ (by kernel_rfl)))
set_option hygiene false in
local macro_rules | `(tactic| k_extra "asc") => `(tactic| refine wpAny_execs_cons (x_assign F (.inr ⟨by kernel_rfl, by kernel_rfl⟩) ?_ (by kernel_rfl)))
set_option hygiene false in
local macro_rules | `(tactic| k_extra "set") => `(tactic| (refine ⟨C.k, ?_⟩; intro s2 F2 kl2; clear kl2 C F; have F := F2; clear F2; have C := F.cx))
set_option hygiene false in
local macro_rules | `(tactic| k_extra "fn") => `(tactic| (have K0 := C.k; replace C := C.anew))
set_option hygiene false in
local macro_rules | `(tactic| k_extra "nf") => `(tactic| (refine ⟨C.k, ?_⟩; replace C := C.rebase K0; clear K0))
local macro_rules | `(tactic| k_extra "lkv") => `(tactic| ((with_reducible show Lk _ _ (List.cons _ _)); first | ((with_reducible refine Lk.same ?_); first | rfl | fail "lkv") | exact Lk.there (by k_extra "lkv")))
local macro_rules | `(tactic| k_extra "wk") => `(tactic| first | exact lk_nil | exact lk_cons (lk_eq (by k_extra "lkv") (by kernel_rfl)) (by k_extra "wk"))

local macro_rules | `(tactic| k_extra "cap") => `(tactic| first | exact trivial | exact ⟨⟨by kernel_rfl, by kernel_rfl, by kernel_rfl⟩, by k_extra "cap"⟩)
/-! ### law: the pairs -/
theorem PairsI.snoc {os : Objs} {vs : List Value} {aps : List (Int × Int)} {T : Addr} {g p : Int} {t u : Tok} (P : PairsI os vs aps) (hT : (T, "tuple", [Value.int g t, .int p u]) ∈ os) : PairsI os (vs ++ [.ref T]) (aps ++ [(g, p)]) := by
  obtain ⟨ps, a, b, c⟩ := P
  refine ⟨ps ++ [(.int g t, .int p u)], a.snoc hT, by simp [b], fun i hi => ?_⟩
  by_cases h : i < aps.length
  · obtain ⟨t', u', e⟩ := c i h
    refine ⟨t', u', ?_⟩
    rw [List.getElem?_append_left (by rw [b]; exact h), e]
    simp [List.getD_eq_getElem?_getD, List.getElem?_append_left h]
  · have : i = aps.length := by simp at hi; omega
    subst this
    refine ⟨t, u, ?_⟩
    rw [List.getElem?_append_right (by rw [b]; exact Nat.le_refl _), b]
    simp [List.getD_eq_getElem?_getD]
def farOf (ws : List Str) (M : Int) (i j : Nat) : Int := lev (ws.getD i Str.empty ++ Txt.mul "e" M) (ws.getD j Str.empty) (4 + 2 * M)
def aps0 (wt : List Int) (n : Nat) : List (Int × Int) := (List.range n).map fun j => (0, wt.getD j 0 * wt.getD j 0)
def crossI (ws : List Str) (wt : List Int) (M : Int) (j i : Nat) : List (Int × Int) := (List.range i).map fun i => (farOf ws M i j - 2 * M, 2 * wt.getD i 0 * wt.getD j 0)
def crossJ (ws : List Str) (wt : List Int) (M : Int) : Nat → List (Int × Int)
  | 0 => []
  | n + 1 => crossJ ws wt M n ++ crossI ws wt M n n
abbrev l10 (Da Dwd Dw Dsp : Addr) (M Lo S K : Int) (tM tL tS tK : Tok) : List (Str × Value) := [("apart", .ref Da), ("words", .ref Dwd), ("weights", .ref Dw), ("spots", .ref Dsp), ("more", .int M tM), ("low", .int Lo tL), ("step", .int S tS), ("kept", .int K tK)]
abbrev l9 (Dwd Dw Dsp : Addr) (M Lo S K : Int) (tM tL tS tK : Tok) : List (Str × Value) := [("words", .ref Dwd), ("weights", .ref Dw), ("spots", .ref Dsp), ("more", .int M tM), ("low", .int Lo tL), ("step", .int S tS), ("kept", .int K tK)]
abbrev os9 (Dwd Dw Dsp : Addr) (ls : List (Str × Tok)) (vw vsp : List Value) : Objs := [(Dwd, "plain", strValues ls), (Dw, "plain", vw), (Dsp, "plain", vsp)]
structure FarOk (ws : List Str) (wt : List Int) (M : Int) : Prop where
  M0 : 0 ≤ M
  M1 : M ≤ 1
  far : ∀ i j, i < ws.length → j < ws.length → 0 ≤ farOf ws M i j - 2 * M ∧ farOf ws M i j - 2 * M ≤ 4
  len : ∀ i, (ws.getD i Str.empty).length ≤ 4
  wl : wt.length = ws.length
  wn : ws.length ≤ 6
  ws : Small wt
  w2 : ∀ i, -(2 ^ 64) < 2 * wt.getD i 0 ∧ 2 * wt.getD i 0 < 2 ^ 64
theorem mul_e {M : Int} (h0 : 0 ≤ M) (h1 : M ≤ 1) : MulOk "e" M ∧ (Txt.mul "e" M).length ≤ 1 := by
  have : M = 0 ∨ M = 1 := by omega
  rcases this with rfl | rfl
  · exact ⟨⟨by decide, fun h => absurd (by decide) h, fun h => absurd (by decide) h⟩, by decide +kernel⟩
  · exact ⟨⟨by decide, fun _ h => by simp at h, fun _ h => by simp at h⟩, by decide +kernel⟩
def inBody : List Stmt := match (fBody (topSt 15)).drop 10 with | .For _ _ [.For _ _ body _ _] _ _ :: _ => body | _ => []
section
variable {prog : Program} {w : World} {A : Around} {s s1 s₀ s₁ : Shared} {q : Str} {cd : Value} {L fa : Addr}
theorem in_turn {M Lo S K : Int} {tM tL tS tK ti tj : Tok} {Da Dwd Dw Dsp : Addr} {vw vsp va : List Value} {ls : List (Str × Tok)} {wt : List Int} {aps : List (Int × Int)} {tups : Objs} {i j : Nat} {Q : Flow → Shared → Prop} (hA : Aok 2 A)
    (F : FS s₀ s₁ (lEnv q cd L fa) (("i", .int (i : Int) ti) :: ("j", .int (j : Int) tj) :: l10 Da Dwd Dw Dsp M Lo S K tM tL tS tK) ((Da, "plain", va) :: (tups ++ os9 Dwd Dw Dsp ls vw vsp)) s) (hw : IntsAre vw wt)
    (hf : FarOk (ls.map (·.1)) wt M) (hi : i < ls.length) (hj : j < ls.length) (hD0 : s₀.heap.get? Da = none) (hP : PairsI tups va aps) (hl : va.length ≤ 100)
    (h : ∀ T t u s', FS s₀ s₁ (lEnv q cd L fa) (("j", .int (j : Int) tj) :: l10 Da Dwd Dw Dsp M Lo S K tM tL tS tK) ((Da, "plain", va ++ [.ref T]) :: (((T, "tuple", [Value.int (farOf (ls.map (·.1)) M i j - 2 * M) t, .int (2 * wt.getD i 0 * wt.getD j 0) u]) :: tups) ++ os9 Dwd Dw Dsp ls vw vsp)) s' → Q .next s') :
    wpAny (model prog w) A (execs inBody (lEnv q cd L fa)) Q NoE s := by
  have C := F.cx
  have wordAt : ∀ k : Nat, k < ls.length → ∃ t, (strValues ls)[((k : Nat) : Int).toNat]? = some (.str ((ls.map (·.1)).getD k Str.empty) t) := fun k hk => by
    refine ⟨ls[k].2, ?_⟩
    simp [strValues, hk]
  have mWd : ∀ {x : Objs}, (Dwd, "plain", strValues ls) ∈ x ++ os9 Dwd Dw Dsp ls vw vsp := fun {x} => List.mem_append_right _ (by simp)
  have mW : ∀ {x : Objs}, (Dw, "plain", vw) ∈ x ++ os9 Dwd Dw Dsp ls vw vsp := fun {x} => List.mem_append_right _ (by simp)
  obtain ⟨t1, e1⟩ := wordAt i hi
  obtain ⟨t2, e2⟩ := wordAt j hj
  have hwl : wt.length = ls.length := by rw [hf.wl]; simp
  obtain ⟨t3, e3⟩ := IntsAre.at hw i (by omega)
  obtain ⟨t4, e4⟩ := IntsAre.at hw j (by omega)
  have hm := mul_e hf.M0 hf.M1
  have h0 := hf.M0
  have h1 := hf.M1
  have hwn : ls.length ≤ 6 := by have := hf.wn; simpa using this
  have li := hf.len i
  have lj := hf.len j
  -- far
  k_extra "asl"
  k_extra "e"
  k_extra "fn"
  refine c_f3 C.base.fLev (by kernel_rfl) ?_
  k_extra "e"
  refine st_list (C.plain (.tail _ mWd)).isList (by omega) (by omega) e1 (by kernel_rfl) ?_
  k_extra "e"
  refine o_strMul hm.1 ?_
  k_extra "k"
  refine o_strAdd (by omega) ?_
  k_extra "k"
  k_extra "e"
  refine st_list (C.plain (.tail _ mWd)).isList (by omega) (by omega) e2 (by kernel_rfl) ?_
  k_extra "e"
  refine o_mul (mulL (by decide) (by decide)) ?_
  k_extra "k"
  k_extra "e"
  k_extra "nf"
  refine lev_call C.base hA (by rw [PySem.strLen_append]; omega) (by omega) ?_
  k_extra "k"
  rw [show lev ((ls.map (·.1)).getD i Str.empty ++ Txt.mul "e" M) ((ls.map (·.1)).getD j Str.empty) (4 + 2 * M) = farOf (ls.map (·.1)) M i j from rfl]
  k_extra "set"
  have hfar := hf.far i j (by simpa using hi) (by simpa using hj)
  -- the test
  refine wpAny_execs_cons (x_if ?_)
  k_extra "e"
  refine c_b2 (by kernel_rfl) ?_
  k_extra "e"
  refine c_isBool ?_
  k_extra "ks"
  k_extra "e"
  refine ⟨fun e => (by cases e), fun _ => ?_⟩
  k_extra "e"
  refine o_mul (mulL (by decide) (by decide)) ?_
  k_extra "k"
  k_extra "e"
  refine e_list ?_
  k_extra "e"
  refine ⟨by show 5 ≤ 1000; omega, fun D5 s5 k5 hD5 ho5 => ?_⟩
  replace C := C.step k5
  refine o_notIn ⟨_, ho5, rfl, _, rfl⟩ (.cons _ _ (.cons _ _ (.cons _ _ (.cons _ _ (.cons _ _ .nil))))) ?_
  k_extra "e"
  have hin : (!([0, 1, 2, 3, 4] : List Int).contains (farOf (ls.map (·.1)) M i j - 2 * M)) = false := by
    generalize farOf (ls.map (·.1)) M i j - 2 * M = x at hfar
    have : x = 0 ∨ x = 1 ∨ x = 2 ∨ x = 3 ∨ x = 4 := by omega
    rcases this with rfl | rfl | rfl | rfl | rfl <;> rfl
  rw [hin]
  refine ⟨fun e => (by cases e), fun _ => ?_⟩
  k_extra "e"
  refine ⟨fun e => (by cases e), fun _ => ?_⟩
  refine wpAny_execs_nil ?_
  replace F := F.grow C.k
  replace C := F.cx
  refine wpAny_execs_cons (x_append (i := 0) F (lk_eq (by k_extra "lkm") (by kernel_rfl)) rfl hD0 (by omega) (by kernel_rfl) (by kernel_rfl) (by kernel_rfl) (by kernel_rfl) (by kernel_rfl) (by kernel_rfl) ?_)
  refine e_tuple ?_
  k_extra "e"
  refine o_mul (mulL (by decide) (by decide)) ?_
  k_extra "k"
  k_extra "e"
  refine st_list (C.plain (.tail _ mW)).isList (by omega) (by omega) (by simpa using e3) (by kernel_rfl) ?_
  refine o_mul (mulL (by decide) (by decide)) ?_
  k_extra "k"
  k_extra "e"
  refine st_list (C.plain (.tail _ mW)).isList (by omega) (by omega) (by simpa using e4) (by kernel_rfl) ?_
  refine o_mul (mulL (hf.w2 i).1 (hf.w2 i).2) ?_
  k_extra "k"
  k_extra "e"
  refine ⟨by show 2 ≤ 1000; omega, fun T s6 k6 hT ho6 => ⟨kTrans C.k k6, fun s7 F7 hk7 => wpAny_execs_nil ?_⟩⟩
  have hTn := (F.grow C.k).notin hT
  have hTD : T ≠ Da := fun e => hTn (by simp [e])
  have F8 := F7.add (a := T) (c := "tuple") (by simpa using hTn) (hk7 T _ hTD ho6) rfl rfl tupPlain
  exact h T _ _ _ ((F8.perm (List.Perm.swap ..)).weaken (by k_extra "wk"))
end
end Mine

namespace Mine
/-! ### lines -/
set_option hygiene false in
local macro_rules | `(tactic| k_extra "k") => `(tactic| (intro t s' k; replace C := Cx.step C k; clear k))
set_option hygiene false in
local macro_rules | `(tactic| k_extra "ks") => `(tactic| (intro s' k; replace C := Cx.step C k; clear k))
local macro_rules | `(tactic| k_extra "lkm") => `(tactic| ((with_reducible show Lk _ _ (List.cons _ _)); first | with_reducible exact Lk.here | exact Lk.there (by k_extra "lkm")))
set_option hygiene false in
local macro_rules | `(tactic| k_extra "name") => `(tactic| first
  | with_reducible refine e_name C (lk_eq (by k_extra "lkm") (by kernel_rfl)) ?_ (by kernel_rfl)
  | with_reducible refine e_glob C (lk_eq (by k_extra "lkm") (by kernel_rfl)) (by kernel_rfl) (by kernel_rfl) (by kernel_rfl) ?_ (by kernel_rfl))
set_option hygiene false in
local macro_rules | `(tactic| k_extra "e1") => `(tactic| first
  | ((with_reducible show wpAny _ _ (eval (Expr.Name _ _) _) _ _ _); k_extra "name")
  | (with_reducible refine e_int ?_; k_extra "k")
  | (with_reducible refine e_str ?_; k_extra "k")
  | with_reducible refine wpAny_Constant_none ?_
  | with_reducible refine wpAny_Constant_bool ?_
  | with_reducible refine wpAny_BinOp ?_
  | with_reducible refine wpAny_UnaryOp ?_
  | with_reducible refine wpAny_Compare1 ?_
  | with_reducible refine wpAny_isTrue_Compare1 ?_
  | with_reducible refine wpAny_isTrue_Not ?_
  | with_reducible refine wpAny_isTrue_BoolOp ?_
  | with_reducible refine e_andC ?_
  | with_reducible refine e_orC ?_
  | with_reducible refine wpAny_allTrue_And_nil ?_
  | with_reducible refine wpAny_allTrue_Or_nil ?_
  | with_reducible refine wpAny_truthy_bool ?_
  | with_reducible refine t_int ?_
  | (with_reducible refine o_add ?_; k_extra "k")
  | (with_reducible refine o_sub ?_; k_extra "k")
  | (with_reducible refine o_and ?_; k_extra "k")
  | (with_reducible refine o_neg ?_; k_extra "k")
  | (with_reducible refine o_iadd ?_; k_extra "k")
  | (with_reducible refine o_isub ?_; k_extra "k")
  | (with_reducible refine o_ixor ?_; k_extra "k")
  | (with_reducible refine o_mod (by decide) ?_; k_extra "k")
  | (with_reducible refine o_div (by decide) (by decide) ?_; k_extra "k")
  | with_reducible refine o_strEq ?_
  | with_reducible refine PyProof.Rows.eq_int ?_
  | with_reducible refine PyProof.Rows.ne_int ?_
  | with_reducible refine PyProof.Rows.lt_int ?_
  | with_reducible refine PyProof.Rows.gt_int ?_
  | with_reducible refine wpAny_Call_NameR ?_
  | with_reducible refine Call_method0 (by kernel_rfl) (by kernel_rfl) ?_
  | with_reducible refine Call_method1 (by kernel_rfl) (by kernel_rfl) (by kernel_rfl) ?_
  | with_reducible refine Call_method2 (by kernel_rfl) (by kernel_rfl) (by kernel_rfl) ?_
  | with_reducible refine Subscript_Slice ?_ (fun _ _ => by kernel_rfl)
  | with_reducible refine wpAny_Slice ?_
  | with_reducible refine PyProof.Rows.Subscript_ ?_
  | with_reducible refine wpAny_items_cons ?_ (by kernel_rfl)
  | with_reducible refine wpAny_items_nil ?_
  | with_reducible refine evalPart_none_step ?_
  | with_reducible refine evalPart_some_step ?_
  | with_reducible refine wpAny_isTrue_value ?_ (by kernel_rfl))
local macro_rules | `(tactic| k_extra "e") => `(tactic| repeat k_extra "e1")
set_option hygiene false in
local macro_rules | `(tactic| k_extra "asl") => `(tactic| refine wpAny_execs_cons (x_assign F (.inl (by kernel_rfl)) ?_ (by kernel_rfl)))
set_option hygiene false in
local macro_rules | `(tactic| k_extra "asc") => `(tactic| refine wpAny_execs_cons (x_assign F (.inr ⟨by kernel_rfl, by kernel_rfl⟩) ?_ (by kernel_rfl)))
set_option hygiene false in
local macro_rules | `(tactic| k_extra "set") => `(tactic| (refine ⟨C.k, ?_⟩; intro s2 F2 kl2; clear kl2 C F; have F := F2; clear F2; have C := F.cx))
set_option hygiene false in
local macro_rules | `(tactic| k_extra "fn") => `(tactic| (have K0 := C.k; replace C := C.anew))
set_option hygiene false in
local macro_rules | `(tactic| k_extra "nf") => `(tactic| (refine ⟨C.k, ?_⟩; replace C := C.rebase K0; clear K0))
local macro_rules | `(tactic| k_extra "lkv") => `(tactic| ((with_reducible show Lk _ _ (List.cons _ _)); first | ((with_reducible refine Lk.same ?_); first | rfl | fail "lkv") | exact Lk.there (by k_extra "lkv")))
local macro_rules | `(tactic| k_extra "wk") => `(tactic| first | exact lk_nil | exact lk_cons (lk_eq (by k_extra "lkv") (by kernel_rfl)) (by k_extra "wk"))

local macro_rules | `(tactic| k_extra "cap") => `(tactic| first | exact trivial | exact ⟨⟨by kernel_rfl, by kernel_rfl, by kernel_rfl⟩, by k_extra "cap"⟩)
theorem PairsI.len {os : Objs} {vs : List Value} {aps : List (Int × Int)} (P : PairsI os vs aps) : vs.length = aps.length := by
  obtain ⟨ps, a, b, _⟩ := P
  rw [a.len, b]
theorem crossI_len (ws : List Str) (wt : List Int) (M : Int) (j i : Nat) : (crossI ws wt M j i).length = i := by simp [crossI]
theorem crossJ_len (ws : List Str) (wt : List Int) (M : Int) : ∀ n, (crossJ ws wt M n).length ≤ n * n
  | 0 => by simp [crossJ]
  | n + 1 => by
    have := crossJ_len ws wt M n
    simp only [crossJ, List.length_append, crossI_len]
    have : (n + 1) * (n + 1) = n * n + n + n + 1 := by rw [Nat.mul_add, Nat.add_mul]; omega
    omega
theorem crossI_succ (ws : List Str) (wt : List Int) (M : Int) (j i : Nat) : crossI ws wt M j (i + 1) = crossI ws wt M j i ++ [(farOf ws M i j - 2 * M, 2 * wt.getD i 0 * wt.getD j 0)] := by
  unfold crossI
  rw [List.range_succ, List.map_append]; rfl
theorem aps0_succ (wt : List Int) (n : Nat) : aps0 wt (n + 1) = aps0 wt n ++ [(0, wt.getD n 0 * wt.getD n 0)] := by
  unfold aps0
  rw [List.range_succ, List.map_append]; rfl
abbrev l10j (j : Nat) (tj : Tok) (Da Dwd Dw Dsp : Addr) (M Lo S K : Int) (tM tL tS tK : Tok) : List (Str × Value) := ("j", .int (j : Int) tj) :: l10 Da Dwd Dw Dsp M Lo S K tM tL tS tK
section
variable {prog : Program} {w : World} {A : Around} {s s1 s₀ s₁ : Shared} {q : Str} {cd : Value} {L fa : Addr}
theorem law10 {M Lo S K : Int} {tM tL tS tK : Tok} {Da Dwd Dw Dsp : Addr} {vw vsp va : List Value} {ls : List (Str × Tok)} {sp wt : List Int} {tups : Objs} {Q : Flow → Shared → Prop} (hA : Aok 2 A)
    (F : FS s₀ s₁ (lEnv q cd L fa) (l10 Da Dwd Dw Dsp M Lo S K tM tL tS tK) ((Da, "plain", va) :: (tups ++ os9 Dwd Dw Dsp ls vw vsp)) s) (hw : IntsAre vw wt) (hsp : IntsAre vsp sp)
    (hf : FarOk (ls.map (·.1)) wt M) (hD0 : s₀.heap.get? Da = none) (hP : PairsI tups va (aps0 wt wt.length))
    (hL0 : 0 ≤ Lo) (hL1 : Lo ≤ 4) (hS0 : 1 ≤ S) (hS1 : S ≤ 9) (hpf : ∀ c : Nat, c < 16 → PfOk (flagsOf Lo S c))
    (hok : PlainOk K (ls.map (·.1)) sp wt ((List.range 16).map fun c => countOf (flagsOf Lo S c)) (aps0 wt wt.length ++ crossJ (ls.map (·.1)) wt M ls.length))
    (h : ∀ s', Keeps s₀ s' → Q (.ret (.bool true)) s') :
    wpAny (model prog w) A (execs (lawB 10) (lEnv q cd L fa)) Q NoE s := by
  have C := F.cx
  have hwn : ls.length ≤ 6 := by have := hf.wn; simpa using this
  have hwl : wt.length = ls.length := by rw [hf.wl]; simp
  have hl0 : (aps0 wt wt.length).length = wt.length := by simp [aps0]
  refine wpAny_execs_cons (x_forRange ls.length (fun j l os' => ∃ va tups, l = l10 Da Dwd Dw Dsp M Lo S K tM tL tS tK ∧ os' = (Da, "plain", va) :: (tups ++ os9 Dwd Dw Dsp ls vw vsp) ∧ PairsI tups va (aps0 wt wt.length ++ crossJ (ls.map (·.1)) wt M j)) hA.hd F (.inl (by kernel_rfl)) (fun _ => by kernel_rfl) ?_ (by omega) ⟨va, tups, rfl, rfl, by simpa [crossJ] using hP⟩ ?_ ?_)
  · k_extra "e"
    refine c_t1 (by kernel_rfl) ?_
    k_extra "e"
    refine c_b1 (by kernel_rfl) ?_
    k_extra "e"
    have hsl : (strValues ls).length = ls.length := by simp [strValues]
    refine c_lenList (C.plain (.tail _ (List.mem_append_right _ (.head _)))).isList (by omega) ?_
    k_extra "k"
    rw [hsl]
    exact c_range1 fun r t u v s' k hr => ⟨r, t, u, v, rfl, kTrans C.k k, hr⟩
  · rintro j l' os' s4 tj hj ⟨va, tups, rfl, rfl, hP⟩ F4
    clear C F
    have F := F4
    clear F4
    have C := F.cx
    have hcj := crossJ_len (ls.map (·.1)) wt M j
    have hjj : j * j ≤ 36 := Nat.mul_le_mul (by omega : j ≤ 6) (by omega : j ≤ 6)
    refine wpAny_execs_cons (x_forRange j (fun i l os' => ∃ va tups, l = l10j j tj Da Dwd Dw Dsp M Lo S K tM tL tS tK ∧ os' = (Da, "plain", va) :: (tups ++ os9 Dwd Dw Dsp ls vw vsp) ∧ PairsI tups va (aps0 wt wt.length ++ crossJ (ls.map (·.1)) wt M j ++ crossI (ls.map (·.1)) wt M j i)) hA.hd F (.inl (by kernel_rfl)) (fun _ => by kernel_rfl) ?_ (by omega) ⟨va, tups, rfl, rfl, by simpa [crossI] using hP⟩ ?_ ?_)
    · k_extra "e"
      refine c_t1 (by kernel_rfl) ?_
      k_extra "e"
      exact c_range1 fun r t u v s' k hr => ⟨r, t, u, v, rfl, kTrans C.k k, hr⟩
    · rintro i l' os' s5 ti hi ⟨va, tups, rfl, rfl, hP⟩ F5
      have hlen := hP.len
      simp only [List.length_append, crossI_len, hl0] at hlen
      refine in_turn hA F5 hw hf (by omega) hj hD0 hP (by omega) fun T t u s6 F6 => ?_
      refine ⟨_, _, ⟨_, _, rfl, rfl, ?_⟩, F6⟩
      rw [crossI_succ, ← List.append_assoc]
      exact (hP.more fun p hp => List.mem_cons_of_mem _ hp).snoc (.head _)
    · rintro l' os' s5 ⟨va, tups, rfl, rfl, hP⟩ F5
      refine wpAny_execs_nil (wpAny_execs_nil ?_)
      exact ⟨l10 Da Dwd Dw Dsp M Lo S K tM tL tS tK, _, ⟨va, tups, rfl, rfl, by rw [List.append_assoc] at hP; exact hP⟩, F5.weaken (by k_extra "wk")⟩
  · rintro l' os' s4 ⟨va, tups, rfl, rfl, hP⟩ F4
    refine wpAny_execs_nil ?_
    have F5 := F4.weaken (l' := l11 Dwd Dw Dsp Da Lo S K tL tS tK) (by k_extra "wk")
    refine law11 (vsp := vsp) (sp := sp) (vw := vw) (ls := ls) (wt := wt) ⟨hA.hd, by have := hA.dp; omega⟩ F5 (((List.Sublist.refl [(Dwd, "plain", strValues ls), (Dw, "plain", vw)]).trans (List.sublist_append_left _ [(Dsp, "plain", vsp)]) |>.trans (List.sublist_append_right tups _)).cons _) (.tail _ (List.mem_append_right _ (by simp))) hsp (.head _) (hP.more fun p hp => .tail _ (List.mem_append_left _ hp)) hw hL0 hL1 hS0 hS1 hpf hok h
theorem law9 {M Lo S K : Int} {tM tL tS tK : Tok} {Dwd Dw Dsp : Addr} {vw vsp : List Value} {ls : List (Str × Tok)} {sp wt : List Int} {Q : Flow → Shared → Prop} (hA : Aok 2 A)
    (F : FS s₀ s₁ (lEnv q cd L fa) (l9 Dwd Dw Dsp M Lo S K tM tL tS tK) (os9 Dwd Dw Dsp ls vw vsp) s) (hw : IntsAre vw wt) (hsp : IntsAre vsp sp)
    (hf : FarOk (ls.map (·.1)) wt M)
    (hL0 : 0 ≤ Lo) (hL1 : Lo ≤ 4) (hS0 : 1 ≤ S) (hS1 : S ≤ 9) (hpf : ∀ c : Nat, c < 16 → PfOk (flagsOf Lo S c))
    (hok : PlainOk K (ls.map (·.1)) sp wt ((List.range 16).map fun c => countOf (flagsOf Lo S c)) (aps0 wt wt.length ++ crossJ (ls.map (·.1)) wt M ls.length))
    (h : ∀ s', Keeps s₀ s' → Q (.ret (.bool true)) s') :
    wpAny (model prog w) A (execs (lawB 9) (lEnv q cd L fa)) Q NoE s := by
  have C := F.cx
  have hwn : ls.length ≤ 6 := by have := hf.wn; simpa using this
  have hwl : wt.length = ls.length := by rw [hf.wl]; simp
  refine wpAny_execs_cons (x_comp (n := vw.length) (B := Bv "w" vw) (names := ["w"]) [] (fun i ys news => PairsI news ys (aps0 wt i)) F (by kernel_rfl) (by kernel_rfl) (by kernel_rfl) (by kernel_rfl) (by k_extra "cap") (by k_extra "wk") (by rw [sizeLine_eq, hw.length]; omega) (by intro _; rfl) ?_ ?_ ⟨[], trivial, rfl, fun i hi => by simp [aps0] at hi⟩ ?_)
  · k_extra "e"
    exact itr_list hA.hd C.k (C.plain (.tail _ (.head _))).isList
  · rintro j bs ys news Ca s3 E' hj ⟨v, hv, rfl⟩ hP C
    rw [hw.length] at hj
    obtain ⟨tv, e1⟩ := IntsAre.at hw j hj
    rw [e1] at hv; cases hv
    change Cx s3 _ [("w", .int (wt.getD j 0) tv)] _ s3 at C
    refine wpAny_tests_nil ?_
    rw [if_pos rfl]
    refine e_tuple ?_
    k_extra "e"
    refine o_mul (mulL (hf.ws j).1 (hf.ws j).2) ?_
    k_extra "k"
    k_extra "e"
    refine ⟨by show 2 ≤ 1000; omega, fun T s6 k6 hT ho6 => ?_⟩
    refine ⟨kTrans C.k k6, [(T, "tuple", [.int 0 _, .int (wt.getD j 0 * wt.getD j 0) _])], (fun p hp => by rw [List.mem_singleton.mp hp]; exact kNew C.k hT), by simp, (fun p hp => by rw [List.mem_singleton.mp hp]; exact ⟨_, _, ho6, rfl, rfl, tupPlain⟩), ?_⟩
    show PairsI _ _ (aps0 wt (j + 1))
    rw [aps0_succ]
    exact (hP.more fun p hp => List.mem_cons_of_mem _ hp).snoc (.head _)
  · rintro Da ys news s' F' hN hlen hP
    rw [hw.length] at hP
    exact law10 hA F' hw hsp hf (hN _ (.head _)) hP hL0 hL1 hS0 hS1 hpf hok h
end
end Mine

namespace Mine
/-! ### lines -/
set_option hygiene false in
local macro_rules | `(tactic| k_extra "k") => `(tactic| (intro t s' k; replace C := Cx.step C k; clear k))
set_option hygiene false in
local macro_rules | `(tactic| k_extra "ks") => `(tactic| (intro s' k; replace C := Cx.step C k; clear k))
local macro_rules | `(tactic| k_extra "lkm") => `(tactic| ((with_reducible show Lk _ _ (List.cons _ _)); first | with_reducible exact Lk.here | exact Lk.there (by k_extra "lkm")))
set_option hygiene false in
local macro_rules | `(tactic| k_extra "name") => `(tactic| first
  | with_reducible refine e_name C (lk_eq (by k_extra "lkm") (by kernel_rfl)) ?_ (by kernel_rfl)
  | with_reducible refine e_glob C (lk_eq (by k_extra "lkm") (by kernel_rfl)) (by kernel_rfl) (by kernel_rfl) (by kernel_rfl) ?_ (by kernel_rfl))
set_option hygiene false in
local macro_rules | `(tactic| k_extra "e1") => `(tactic| first
  | ((with_reducible show wpAny _ _ (eval (Expr.Name _ _) _) _ _ _); k_extra "name")
  | (with_reducible refine e_int ?_; k_extra "k")
  | (with_reducible refine e_str ?_; k_extra "k")
  | with_reducible refine wpAny_Constant_none ?_
  | with_reducible refine wpAny_Constant_bool ?_
  | with_reducible refine wpAny_BinOp ?_
  | with_reducible refine wpAny_UnaryOp ?_
  | with_reducible refine wpAny_Compare1 ?_
  | with_reducible refine wpAny_isTrue_Compare1 ?_
  | with_reducible refine wpAny_isTrue_Not ?_
  | with_reducible refine wpAny_isTrue_BoolOp ?_
  | with_reducible refine e_andC ?_
  | with_reducible refine e_orC ?_
  | with_reducible refine wpAny_allTrue_And_nil ?_
  | with_reducible refine wpAny_allTrue_Or_nil ?_
  | with_reducible refine wpAny_truthy_bool ?_
  | with_reducible refine t_int ?_
  | (with_reducible refine o_add ?_; k_extra "k")
  | (with_reducible refine o_sub ?_; k_extra "k")
  | (with_reducible refine o_and ?_; k_extra "k")
  | (with_reducible refine o_neg ?_; k_extra "k")
  | (with_reducible refine o_iadd ?_; k_extra "k")
  | (with_reducible refine o_isub ?_; k_extra "k")
  | (with_reducible refine o_ixor ?_; k_extra "k")
  | (with_reducible refine o_mod (by decide) ?_; k_extra "k")
  | (with_reducible refine o_div (by decide) (by decide) ?_; k_extra "k")
  | with_reducible refine o_strEq ?_
  | with_reducible refine PyProof.Rows.eq_int ?_
  | with_reducible refine PyProof.Rows.ne_int ?_
  | with_reducible refine PyProof.Rows.lt_int ?_
  | with_reducible refine PyProof.Rows.gt_int ?_
  | with_reducible refine wpAny_Call_NameR ?_
  | with_reducible refine Call_method0 (by kernel_rfl) (by kernel_rfl) ?_
  | with_reducible refine Call_method1 (by kernel_rfl) (by kernel_rfl) (by kernel_rfl) ?_
  | with_reducible refine Call_method2 (by kernel_rfl) (by kernel_rfl) (by kernel_rfl) ?_
  | with_reducible refine Subscript_Slice ?_ (fun _ _ => by kernel_rfl)
  | with_reducible refine wpAny_Slice ?_
  | with_reducible refine PyProof.Rows.Subscript_ ?_
  | with_reducible refine wpAny_items_cons ?_ (by kernel_rfl)
  | with_reducible refine wpAny_items_nil ?_
  | with_reducible refine evalPart_none_step ?_
  | with_reducible refine evalPart_some_step ?_
  | with_reducible refine wpAny_isTrue_value ?_ (by kernel_rfl))
local macro_rules | `(tactic| k_extra "e") => `(tactic| repeat k_extra "e1")
set_option hygiene false in
local macro_rules | `(tactic| k_extra "asl") => `(tactic| refine wpAny_execs_cons (x_assign F (.inl (by kernel_rfl)) ?_ (by kernel_rfl)))
set_option hygiene false in
local macro_rules | `(tactic| k_extra "asc") => `(tactic| refine wpAny_execs_cons (x_assign F (.inr ⟨by kernel_rfl, by kernel_rfl⟩) ?_ (by kernel_rfl)))
set_option hygiene false in
local macro_rules | `(tactic| k_extra "set") => `(tactic| (refine ⟨C.k, ?_⟩; intro s2 F2 kl2; clear kl2 C F; have F := F2; clear F2; have C := F.cx))
set_option hygiene false in
local macro_rules | `(tactic| k_extra "fn") => `(tactic| (have K0 := C.k; replace C := C.anew))
set_option hygiene false in
local macro_rules | `(tactic| k_extra "nf") => `(tactic| (refine ⟨C.k, ?_⟩; replace C := C.rebase K0; clear K0))
local macro_rules | `(tactic| k_extra "lkv") => `(tactic| ((with_reducible show Lk _ _ (List.cons _ _)); first | ((with_reducible refine Lk.same ?_); first | rfl | fail "lkv") | exact Lk.there (by k_extra "lkv")))
local macro_rules | `(tactic| k_extra "wk") => `(tactic| first | exact lk_nil | exact lk_cons (lk_eq (by k_extra "lkv") (by kernel_rfl)) (by k_extra "wk"))

local macro_rules | `(tactic| k_extra "cap") => `(tactic| first | exact trivial | exact ⟨⟨by kernel_rfl, by kernel_rfl, by kernel_rfl⟩, by k_extra "cap"⟩)
/-! ### law: the head, and the whole call -/
theorem sel_true (f : Nat → Int) (n : Nat) : sel (fun _ => true) f n = (List.range n).map f := by unfold sel; rw [List.filter_eq_self.mpr (fun _ _ => rfl)]
def totalOf (ns : List Int) : Int := (ns.take 60).sum.fmod 720
def keptOf (T : Int) : Int := (T + 4).fmod 15 + 1
def stepOf (T : Int) : Int := (T.fdiv 16).fmod 9 + 1
def lowOf (T : Int) : Int := T.fdiv 144
def moreOf (T : Int) : Int := T.fmod 2
def drawnOf (ns : List Int) : List Int := [69, 55, 138] ++ ns.take 3
def wtOf (x : Int) : Int := (1 - (x.fdiv 16).fmod 2 * 2) * ((x.fdiv 32).fmod (10 ^ (6 : Int).toNat) + 1)
def spots (dr : List Int) : List Int := sel (fun _ => true) (fun j => (dr.getD j 0).fmod 16) dr.length
def weights (dr : List Int) : List Int := sel (fun _ => true) (fun j => wtOf (dr.getD j 0)) dr.length
def wordsOf (sp : List Int) : List Str := (List.range sp.length).map fun j => wordOf (sp.getD j 0)
structure LawOk (ns : List Int) : Prop where
  far : FarOk (wordsOf (spots (drawnOf ns))) (weights (drawnOf ns)) (moreOf (totalOf ns))
  L0 : 0 ≤ lowOf (totalOf ns)
  L1 : lowOf (totalOf ns) ≤ 4
  S0 : 1 ≤ stepOf (totalOf ns)
  S1 : stepOf (totalOf ns) ≤ 9
  pf : ∀ c : Nat, c < 16 → PfOk (flagsOf (lowOf (totalOf ns)) (stepOf (totalOf ns)) c)
  plain : PlainOk (keptOf (totalOf ns)) (wordsOf (spots (drawnOf ns))) (spots (drawnOf ns)) (weights (drawnOf ns)) ((List.range 16).map fun c => countOf (flagsOf (lowOf (totalOf ns)) (stepOf (totalOf ns)) c))
    (aps0 (weights (drawnOf ns)) (weights (drawnOf ns)).length ++ crossJ (wordsOf (spots (drawnOf ns))) (weights (drawnOf ns)) (moreOf (totalOf ns)) (wordsOf (spots (drawnOf ns))).length)
section
variable {prog : Program} {w : World} {A : Around} {s s1 s₀ s₁ : Shared}
theorem sign_bd (x : Int) : -(2 ^ 64) < 1 - (x.fdiv 16).fmod 2 * 2 ∧ 1 - (x.fdiv 16).fmod 2 * 2 < 2 ^ 64 := by
  have h1 : 0 ≤ (x.fdiv 16).fmod 2 := Int.fmod_nonneg_of_pos _ (by decide)
  have h2 : (x.fdiv 16).fmod 2 < 2 := Int.fmod_lt_of_pos _ (by decide)
  omega
theorem law_call {ns : List Int} {vs : List Value} {sc fa : Addr} {Q : Value → Shared → Prop} {E : Value → Shared → Prop} (B : Base s.heap) (hfn : FnAt s.heap fa (topSt 15)) (hA : Aok 3 A) (hl : s.heap.IsList sc vs.toArray) (hi : IntsAre vs ns) (hz : vs.length ≤ sizeLine) (hok : LawOk ns)
    (h : ∀ s', Keeps s s' → Q (.bool true) s') : wpAny (model prog w) A (call (.ref fa) [.ref sc]) Q E s := by
  refine call_fn B hfn hA.room (binds := [("script", .ref sc)]) (by intros; kernel_rfl) (fun n => fm_cons (.inl (by kernel_rfl)) fm_nil) (by kernel_rfl) (by kernel_rfl) (by kernel_rfl) ?_
  intro q cd L s₁ F
  change FS _ _ _ [("script", .ref sc)] _ _ at F
  have hA1 := hA.deeper (fenv (topSt 15) q cd L fa)
  generalize hAe : A.deeper (fenv (topSt 15) q cd L fa) = A1 at hA1 ⊢
  have C := F.cx
  have lst : ∀ {s'}, Keeps s s' → s'.heap.IsList sc vs.toArray := fun k => hl.at fun o e => kKeep k _ o e
  -- total
  k_extra "asl"
  refine wpAny_BinOp ?_
  k_extra "e"
  refine c_b1 (by kernel_rfl) ?_
  refine s_upto ?_ (fun _ _ => by kernel_rfl)
  k_extra "e"
  refine ⟨sc, vs, ns, 60, _, rfl, rfl, by decide, lst (kTrans F.keep C.k), hz, hi, fun D ws s2 k2 hD ho hws => ?_⟩
  replace C := C.step k2
  refine c_sum hA1.hd ⟨_, ho, rfl, _, rfl⟩ hws ?_
  k_extra "k"
  k_extra "e"
  rw [show ((ns.take (60 : Int).toNat).sum.fmod 720) = totalOf ns from rfl]
  k_extra "set"
  -- kept, step, low, more
  k_extra "asc"
  k_extra "e"
  k_extra "set"
  k_extra "asc"
  k_extra "e"
  k_extra "set"
  k_extra "asc"
  k_extra "e"
  k_extra "set"
  k_extra "asl"
  k_extra "e"
  k_extra "set"
  -- drawn
  k_extra "asl"
  refine wpAny_BinOp ?_
  refine e_list ?_
  k_extra "e"
  refine ⟨by show 3 ≤ 1000; omega, fun D1 s3 k3 hD1 ho1 => ?_⟩
  replace C := C.step k3
  replace C := C.more (c := "list") ho1 rfl rfl notPlain
  refine s_upto ?_ (fun _ _ => by kernel_rfl)
  k_extra "e"
  refine ⟨sc, vs, ns, 3, _, rfl, rfl, by decide, lst (kTrans F.keep C.k), hz, hi, fun D2 ws2 s4 k4 hD2 ho2 hws2 => ?_⟩
  replace C := C.step k4
  have hwl : ws2.length ≤ 3 := by rw [hws2.length, List.length_take]; exact Nat.min_le_left ..
  refine a_list (C.list (.head _)) ⟨_, ho2, rfl, _, rfl⟩ (by show 3 + ws2.length ≤ 1000; omega) fun Dd s5 k5 hDd ho5 => ?_
  have hDn := (F.grow C.k).notin hDd
  replace C := C.step k5
  refine ⟨C.k, fun s6 F6 kl6 => ?_⟩
  have F7 := F6.add (c := "list") hDn (kl6.seq ho5 rfl) rfl rfl notPlain
  clear C F F6
  obtain ⟨vd, F, hd⟩ : ∃ vd, FS _ _ _ _ [(Dd, "list", vd)] _ ∧ IntsAre vd (drawnOf ns) := ⟨_, F7, .cons _ _ (.cons _ _ (.cons _ _ hws2))⟩
  clear F7
  have C := F.cx
  generalize hdr : drawnOf ns = dr at hd
  have hdl : dr.length ≤ 6 := by
    rw [← hdr]
    simp only [drawnOf, List.length_append, List.length_take, List.length_cons, List.length_nil]
    omega
  have hvd := hd.length
  -- spots
  refine wpAny_execs_cons (x_compI (B := Bv "x" vd) (names := ["x"]) vd.length [] (fun _ => true) (fun j => (dr.getD j 0).fmod 16) F (by kernel_rfl) (by kernel_rfl) (by kernel_rfl) (by kernel_rfl) (by k_extra "cap") (by k_extra "wk") (by intro _; rfl) (by rw [hvd]; omega) ?_ ?_ ?_)
  · k_extra "e"
    exact itr_list hA1.hd C.k (C.list (.head _))
  · rintro j bs Ca s3 E' hj ⟨v, hv, rfl⟩ C
    rw [hvd] at hj
    obtain ⟨tv, e1⟩ := IntsAre.at hd j hj
    rw [e1] at hv; cases hv
    change Cx s3 _ [("x", .int (dr.getD j 0) tv)] _ s3 at C
    refine wpAny_tests_nil ⟨rfl, C.k, fun _ => ?_⟩
    k_extra "e"
    exact ⟨C.k, _, rfl⟩
  intro Dsp vsp s8 F8 hDsp hsp
  rw [hvd] at hsp
  change IntsAre vsp (spots dr) at hsp
  clear C F
  have F := F8
  clear F8
  have C := F.cx
  -- weights
  refine wpAny_execs_cons (x_compI (B := Bv "x" vd) (names := ["x"]) vd.length [] (fun _ => true) (fun j => wtOf (dr.getD j 0)) F (by kernel_rfl) (by kernel_rfl) (by kernel_rfl) (by kernel_rfl) (by k_extra "cap") (by k_extra "wk") (by intro _; rfl) (by rw [hvd]; omega) ?_ ?_ ?_)
  · k_extra "e"
    exact itr_list hA1.hd C.k (C.list (.tail _ (.head _)))
  · rintro j bs Ca s3 E' hj ⟨v, hv, rfl⟩ C
    rw [hvd] at hj
    obtain ⟨tv, e1⟩ := IntsAre.at hd j hj
    rw [e1] at hv; cases hv
    change Cx s3 _ [("x", .int (dr.getD j 0) tv)] _ s3 at C
    refine wpAny_tests_nil ⟨rfl, C.k, fun _ => ?_⟩
    k_extra "e"
    refine o_mul (mulR (by decide) (by decide)) ?_
    k_extra "k"
    k_extra "e"
    refine o_pow (by decide) (by decide) (by decide) ?_
    k_extra "k"
    k_extra "e"
    refine o_mul (mulL (sign_bd _).1 (sign_bd _).2) ?_
    k_extra "k"
    exact ⟨C.k, _, rfl⟩
  intro Dw vw s9 F9 hDw hw
  rw [hvd] at hw
  change IntsAre vw (weights dr) at hw
  clear C F
  have F := F9
  clear F9
  have C := F.cx
  have hspl : (spots dr).length = dr.length := by unfold spots; rw [sel_true]; simp
  have hvsp := hsp.length
  -- words
  refine wpAny_execs_cons (x_compS (B := Bv "spot" vsp) (names := ["spot"]) vsp.length [] (fun j => wordOf ((spots dr).getD j 0)) F (by kernel_rfl) (by kernel_rfl) (by kernel_rfl) (by kernel_rfl) (by k_extra "cap") (by k_extra "wk") (by intro _; rfl) (by omega) ?_ ?_ ?_)
  · k_extra "e"
    exact itr_list hA1.hd C.k (C.plain (.tail _ (.head _))).isList
  · rintro j bs Ca s3 E' hj ⟨v, hv, rfl⟩ C
    rw [hvsp] at hj
    obtain ⟨tv, e1⟩ := IntsAre.at hsp j hj
    rw [e1] at hv; cases hv
    change Cx s3 _ [("spot", .int ((spots dr).getD j 0) tv)] _ s3 at C
    k_extra "e"
    k_extra "fn"
    refine c_f1 C.base.fWord (by kernel_rfl) ?_
    k_extra "e"
    k_extra "nf"
    refine word_call C.base ⟨hA1.hd, by have := hA1.dp; omega⟩ ?_
    k_extra "k"
    exact ⟨C.k, _, rfl⟩
  intro Dwd ls s10 F10 hDwd hls
  rw [hvsp] at hls
  change ls.map (·.1) = wordsOf (spots dr) at hls
  have F11 := (F10.sub (os' := os9 Dwd Dw Dsp ls vw vsp) (.cons_cons _ (.cons_cons _ (.cons_cons _ (.cons _ (List.Sublist.refl _)))))).weaken (l' := l9 Dwd Dw Dsp (moreOf (totalOf ns)) (lowOf (totalOf ns)) (stepOf (totalOf ns)) (keptOf (totalOf ns)) _ _ _ _) (by k_extra "wk")
  have hll : ls.length = (wordsOf (spots dr)).length := by rw [← hls]; simp
  subst hdr
  refine law9 hA1 F11 hw hsp (hls ▸ hok.far) hok.L0 hok.L1 hok.S0 hok.S1 hok.pf ?_ fun s' k => h s' k
  rw [hll, hls]
  exact hok.plain
end
end Mine

namespace Mine
/-! ### finite facts -/
def popL : List Int := [0, 1, 1, 2, 1, 2, 2, 3, 1, 2, 2, 3, 2, 3, 3, 4]
def ham (a b : Nat) : Int := popL.getD (a ^^^ b) 0
def X (a c : Nat) : Int := if ((popL.getD (Builtin.bitAnd (a : Int) (c : Int)).toNat 0).fmod 2 == 1) = true then -1 else 1
def Ind (K : Nat) (z a : Nat) : Int := if (Builtin.bitAnd (a : Int) (K : Int) == (z : Int)) = true then 1 else 0
theorem fBits : ∀ a : Fin 16, ∀ c : Fin 16, 0 ≤ Builtin.bitAnd (a.val : Int) (c.val : Int) ∧ Builtin.bitAnd (a.val : Int) (c.val : Int) < 16 := by decide +kernel
def krAll (k : Nat) : Bool := (List.range 16).all fun a => (List.range 16).all fun b => (sel (countIs popL k) (fun c => X a c * X b c) 16).sum == (rowAt (ham a b) 4).getD k 0
theorem fKrx0 : krAll 0 = true := by kernel_rfl
theorem fKrx1 : krAll 1 = true := by kernel_rfl
theorem fKrx2 : krAll 2 = true := by kernel_rfl
theorem fKrx3 : krAll 3 = true := by kernel_rfl
theorem fKrx4 : krAll 4 = true := by kernel_rfl
theorem fKrAll (K : Nat) (h : K < 5) : krAll K = true := by
  match K, h with
  | 0, _ => exact fKrx0
  | 1, _ => exact fKrx1
  | 2, _ => exact fKrx2
  | 3, _ => exact fKrx3
  | 4, _ => exact fKrx4
  | m + 5, h => exact absurd h (by omega)
theorem fKr (k : _root_.Fin 5) (a : _root_.Fin 16) (b : _root_.Fin 16) : (sel (countIs popL k.val) (fun c => X a.val c * X b.val c) 16).sum = (rowAt (ham a.val b.val) 4).getD k.val 0 := by
  have h1 := List.all_eq_true.mp (fKrAll k.val k.isLt) a.val (List.mem_range.mpr a.isLt)
  have h2 := List.all_eq_true.mp h1 b.val (List.mem_range.mpr b.isLt)
  exact eq_of_beq h2
def parAll (K : Nat) : Bool := (List.range 16).all fun a => (List.range 16).all fun b => 2 ^ (popL.getD K 0).toNat * (sel (inKept (K : Int)) (fun z => Ind K z a * Ind K z b) 16).sum == (sel (inKept (K : Int)) (fun c => X a c * X b c) 16).sum
theorem fParx0 : parAll 0 = true := by kernel_rfl
theorem fParx1 : parAll 1 = true := by kernel_rfl
theorem fParx2 : parAll 2 = true := by kernel_rfl
theorem fParx3 : parAll 3 = true := by kernel_rfl
theorem fParx4 : parAll 4 = true := by kernel_rfl
theorem fParx5 : parAll 5 = true := by kernel_rfl
theorem fParx6 : parAll 6 = true := by kernel_rfl
theorem fParx7 : parAll 7 = true := by kernel_rfl
theorem fParx8 : parAll 8 = true := by kernel_rfl
theorem fParx9 : parAll 9 = true := by kernel_rfl
theorem fParx10 : parAll 10 = true := by kernel_rfl
theorem fParx11 : parAll 11 = true := by kernel_rfl
theorem fParx12 : parAll 12 = true := by kernel_rfl
theorem fParx13 : parAll 13 = true := by kernel_rfl
theorem fParx14 : parAll 14 = true := by kernel_rfl
theorem fParx15 : parAll 15 = true := by kernel_rfl
theorem fParAll (K : Nat) (h : K < 16) : parAll K = true := by
  match K, h with
  | 0, _ => exact fParx0
  | 1, _ => exact fParx1
  | 2, _ => exact fParx2
  | 3, _ => exact fParx3
  | 4, _ => exact fParx4
  | 5, _ => exact fParx5
  | 6, _ => exact fParx6
  | 7, _ => exact fParx7
  | 8, _ => exact fParx8
  | 9, _ => exact fParx9
  | 10, _ => exact fParx10
  | 11, _ => exact fParx11
  | 12, _ => exact fParx12
  | 13, _ => exact fParx13
  | 14, _ => exact fParx14
  | 15, _ => exact fParx15
  | m + 16, h => exact absurd h (by omega)
theorem fPar (K : _root_.Fin 16) (a : _root_.Fin 16) (b : _root_.Fin 16) : 2 ^ (popL.getD K.val 0).toNat * (sel (inKept (K.val : Int)) (fun z => Ind K.val z a.val * Ind K.val z b.val) 16).sum = (sel (inKept (K.val : Int)) (fun c => X a.val c * X b.val c) 16).sum := by
  have h1 := List.all_eq_true.mp (fParAll K.val K.isLt) a.val (List.mem_range.mpr a.isLt)
  have h2 := List.all_eq_true.mp h1 b.val (List.mem_range.mpr b.isLt)
  exact eq_of_beq h2
theorem fHam : ∀ a : Fin 16, ∀ b : Fin 16, ham a.val b.val = ham b.val a.val ∧ 0 ≤ ham a.val b.val ∧ ham a.val b.val ≤ 4 := by decide +kernel
def pfB (f : Int) : Bool := JoinOk ", " (pfLoop 32 0 [] f) && (match pfRest 32 0 f with | some g => decide ((baseText "0x" 16 g).length ≤ 1000) | none => true) && decide ((prettyText f).length ≤ 1000)
  && decide ((Builtin.Str.partsBetween (prettyText f) (Builtin.Str.occurrences (prettyText f) ", " 0 (prettyText f).length ((prettyText f).length + 1)) (Str.ofString ", ").length).length ≤ 1000)
  && decide ((Txt.split (prettyText f) ", ").length ≤ 1000)
theorem pfB_ok {f : Int} (h : pfB f = true) : PfOk f := by
  simp only [pfB, Bool.and_eq_true, decide_eq_true_eq] at h
  obtain ⟨⟨⟨⟨a, b⟩, c⟩, d⟩, e⟩ := h
  refine ⟨a, fun g hg => ?_, c, d, e⟩
  rw [hg] at b
  simpa using b
end Mine

namespace Mine
def pfAll (Lo S : Nat) : Bool := (List.range 16).all fun c => pfB (flagsOf (Lo : Int) ((S : Int) + 1) c) && (countOf (flagsOf (Lo : Int) ((S : Int) + 1) c) == popL.getD c 0)
theorem fPf00 : pfAll 0 0 = true := by kernel_rfl
theorem fPf01 : pfAll 0 1 = true := by kernel_rfl
theorem fPf02 : pfAll 0 2 = true := by kernel_rfl
theorem fPf03 : pfAll 0 3 = true := by kernel_rfl
theorem fPf04 : pfAll 0 4 = true := by kernel_rfl
theorem fPf05 : pfAll 0 5 = true := by kernel_rfl
theorem fPf06 : pfAll 0 6 = true := by kernel_rfl
theorem fPf07 : pfAll 0 7 = true := by kernel_rfl
theorem fPf08 : pfAll 0 8 = true := by kernel_rfl
theorem fPf10 : pfAll 1 0 = true := by kernel_rfl
theorem fPf11 : pfAll 1 1 = true := by kernel_rfl
theorem fPf12 : pfAll 1 2 = true := by kernel_rfl
theorem fPf13 : pfAll 1 3 = true := by kernel_rfl
theorem fPf14 : pfAll 1 4 = true := by kernel_rfl
theorem fPf15 : pfAll 1 5 = true := by kernel_rfl
theorem fPf16 : pfAll 1 6 = true := by kernel_rfl
theorem fPf17 : pfAll 1 7 = true := by kernel_rfl
theorem fPf18 : pfAll 1 8 = true := by kernel_rfl
theorem fPf20 : pfAll 2 0 = true := by kernel_rfl
theorem fPf21 : pfAll 2 1 = true := by kernel_rfl
theorem fPf22 : pfAll 2 2 = true := by kernel_rfl
theorem fPf23 : pfAll 2 3 = true := by kernel_rfl
theorem fPf24 : pfAll 2 4 = true := by kernel_rfl
theorem fPf25 : pfAll 2 5 = true := by kernel_rfl
theorem fPf26 : pfAll 2 6 = true := by kernel_rfl
theorem fPf27 : pfAll 2 7 = true := by kernel_rfl
theorem fPf28 : pfAll 2 8 = true := by kernel_rfl
theorem fPf30 : pfAll 3 0 = true := by kernel_rfl
theorem fPf31 : pfAll 3 1 = true := by kernel_rfl
theorem fPf32 : pfAll 3 2 = true := by kernel_rfl
theorem fPf33 : pfAll 3 3 = true := by kernel_rfl
theorem fPf34 : pfAll 3 4 = true := by kernel_rfl
theorem fPf35 : pfAll 3 5 = true := by kernel_rfl
theorem fPf36 : pfAll 3 6 = true := by kernel_rfl
theorem fPf37 : pfAll 3 7 = true := by kernel_rfl
theorem fPf38 : pfAll 3 8 = true := by kernel_rfl
theorem fPf40 : pfAll 4 0 = true := by kernel_rfl
theorem fPf41 : pfAll 4 1 = true := by kernel_rfl
theorem fPf42 : pfAll 4 2 = true := by kernel_rfl
theorem fPf43 : pfAll 4 3 = true := by kernel_rfl
theorem fPf44 : pfAll 4 4 = true := by kernel_rfl
theorem fPf45 : pfAll 4 5 = true := by kernel_rfl
theorem fPf46 : pfAll 4 6 = true := by kernel_rfl
theorem fPf47 : pfAll 4 7 = true := by kernel_rfl
theorem fPf48 : pfAll 4 8 = true := by kernel_rfl
theorem fPf (Lo S : Nat) (hL : Lo < 5) (hS : S < 9) : pfAll Lo S = true := by
  match Lo, S, hL, hS with
  | 0, 0, _, _ => exact fPf00
  | 0, 1, _, _ => exact fPf01
  | 0, 2, _, _ => exact fPf02
  | 0, 3, _, _ => exact fPf03
  | 0, 4, _, _ => exact fPf04
  | 0, 5, _, _ => exact fPf05
  | 0, 6, _, _ => exact fPf06
  | 0, 7, _, _ => exact fPf07
  | 0, 8, _, _ => exact fPf08
  | 1, 0, _, _ => exact fPf10
  | 1, 1, _, _ => exact fPf11
  | 1, 2, _, _ => exact fPf12
  | 1, 3, _, _ => exact fPf13
  | 1, 4, _, _ => exact fPf14
  | 1, 5, _, _ => exact fPf15
  | 1, 6, _, _ => exact fPf16
  | 1, 7, _, _ => exact fPf17
  | 1, 8, _, _ => exact fPf18
  | 2, 0, _, _ => exact fPf20
  | 2, 1, _, _ => exact fPf21
  | 2, 2, _, _ => exact fPf22
  | 2, 3, _, _ => exact fPf23
  | 2, 4, _, _ => exact fPf24
  | 2, 5, _, _ => exact fPf25
  | 2, 6, _, _ => exact fPf26
  | 2, 7, _, _ => exact fPf27
  | 2, 8, _, _ => exact fPf28
  | 3, 0, _, _ => exact fPf30
  | 3, 1, _, _ => exact fPf31
  | 3, 2, _, _ => exact fPf32
  | 3, 3, _, _ => exact fPf33
  | 3, 4, _, _ => exact fPf34
  | 3, 5, _, _ => exact fPf35
  | 3, 6, _, _ => exact fPf36
  | 3, 7, _, _ => exact fPf37
  | 3, 8, _, _ => exact fPf38
  | 4, 0, _, _ => exact fPf40
  | 4, 1, _, _ => exact fPf41
  | 4, 2, _, _ => exact fPf42
  | 4, 3, _, _ => exact fPf43
  | 4, 4, _, _ => exact fPf44
  | 4, 5, _, _ => exact fPf45
  | 4, 6, _, _ => exact fPf46
  | 4, 7, _, _ => exact fPf47
  | 4, 8, _, _ => exact fPf48
end Mine

namespace Mine
def farAll (M a : Nat) : Bool := (List.range 16).all fun b => lev (wordOf (a : Int) ++ Txt.mul "e" (M : Int)) (wordOf (b : Int)) (4 + 2 * (M : Int)) - 2 * (M : Int) == ham a b
theorem fFar0x0 : farAll 0 0 = true := by kernel_rfl
theorem fFar0x1 : farAll 0 1 = true := by kernel_rfl
theorem fFar0x2 : farAll 0 2 = true := by kernel_rfl
theorem fFar0x3 : farAll 0 3 = true := by kernel_rfl
theorem fFar0x4 : farAll 0 4 = true := by kernel_rfl
theorem fFar0x5 : farAll 0 5 = true := by kernel_rfl
theorem fFar0x6 : farAll 0 6 = true := by kernel_rfl
theorem fFar0x7 : farAll 0 7 = true := by kernel_rfl
theorem fFar0x8 : farAll 0 8 = true := by kernel_rfl
theorem fFar0x9 : farAll 0 9 = true := by kernel_rfl
theorem fFar0x10 : farAll 0 10 = true := by kernel_rfl
theorem fFar0x11 : farAll 0 11 = true := by kernel_rfl
theorem fFar0x12 : farAll 0 12 = true := by kernel_rfl
theorem fFar0x13 : farAll 0 13 = true := by kernel_rfl
theorem fFar0x14 : farAll 0 14 = true := by kernel_rfl
theorem fFar0x15 : farAll 0 15 = true := by kernel_rfl
theorem fFar1x0 : farAll 1 0 = true := by kernel_rfl
theorem fFar1x1 : farAll 1 1 = true := by kernel_rfl
theorem fFar1x2 : farAll 1 2 = true := by kernel_rfl
theorem fFar1x3 : farAll 1 3 = true := by kernel_rfl
theorem fFar1x4 : farAll 1 4 = true := by kernel_rfl
theorem fFar1x5 : farAll 1 5 = true := by kernel_rfl
theorem fFar1x6 : farAll 1 6 = true := by kernel_rfl
theorem fFar1x7 : farAll 1 7 = true := by kernel_rfl
theorem fFar1x8 : farAll 1 8 = true := by kernel_rfl
theorem fFar1x9 : farAll 1 9 = true := by kernel_rfl
theorem fFar1x10 : farAll 1 10 = true := by kernel_rfl
theorem fFar1x11 : farAll 1 11 = true := by kernel_rfl
theorem fFar1x12 : farAll 1 12 = true := by kernel_rfl
theorem fFar1x13 : farAll 1 13 = true := by kernel_rfl
theorem fFar1x14 : farAll 1 14 = true := by kernel_rfl
theorem fFar1x15 : farAll 1 15 = true := by kernel_rfl
theorem fFarAll (M a : Nat) (hM : M < 2) (ha : a < 16) : farAll M a = true := by
  match M, a, hM, ha with
  | 0, 0, _, _ => exact fFar0x0
  | 0, 1, _, _ => exact fFar0x1
  | 0, 2, _, _ => exact fFar0x2
  | 0, 3, _, _ => exact fFar0x3
  | 0, 4, _, _ => exact fFar0x4
  | 0, 5, _, _ => exact fFar0x5
  | 0, 6, _, _ => exact fFar0x6
  | 0, 7, _, _ => exact fFar0x7
  | 0, 8, _, _ => exact fFar0x8
  | 0, 9, _, _ => exact fFar0x9
  | 0, 10, _, _ => exact fFar0x10
  | 0, 11, _, _ => exact fFar0x11
  | 0, 12, _, _ => exact fFar0x12
  | 0, 13, _, _ => exact fFar0x13
  | 0, 14, _, _ => exact fFar0x14
  | 0, 15, _, _ => exact fFar0x15
  | 1, 0, _, _ => exact fFar1x0
  | 1, 1, _, _ => exact fFar1x1
  | 1, 2, _, _ => exact fFar1x2
  | 1, 3, _, _ => exact fFar1x3
  | 1, 4, _, _ => exact fFar1x4
  | 1, 5, _, _ => exact fFar1x5
  | 1, 6, _, _ => exact fFar1x6
  | 1, 7, _, _ => exact fFar1x7
  | 1, 8, _, _ => exact fFar1x8
  | 1, 9, _, _ => exact fFar1x9
  | 1, 10, _, _ => exact fFar1x10
  | 1, 11, _, _ => exact fFar1x11
  | 1, 12, _, _ => exact fFar1x12
  | 1, 13, _, _ => exact fFar1x13
  | 1, 14, _, _ => exact fFar1x14
  | 1, 15, _, _ => exact fFar1x15
  | 0, n + 16, _, h => exact absurd h (by omega)
  | 1, n + 16, _, h => exact absurd h (by omega)
theorem fFar (M : _root_.Fin 2) (a : _root_.Fin 16) (b : _root_.Fin 16) : lev (wordOf (a.val : Int) ++ Txt.mul "e" (M.val : Int)) (wordOf (b.val : Int)) (4 + 2 * (M.val : Int)) - 2 * (M.val : Int) = ham a.val b.val := by
  have := List.all_eq_true.mp (fFarAll M.val a.val M.isLt a.isLt) b.val (List.mem_range.mpr b.isLt)
  simpa using this
end Mine

namespace Mine
def wantB (want : Str) : Bool := decide (want.length ≤ 100) && (!(Txt.contains want "...") || (decide (2 ≤ (Txt.split want "...").length) && decide ((Txt.split want "...").length ≤ 100) && (Txt.split want "...").all (fun x => decide (x.length ≤ 100)) &&
      decide ((Builtin.Str.partsBetween want (Builtin.Str.occurrences want "..." 0 want.length (want.length + 1)) (Str.ofString "...").length).length ≤ 1000)))
theorem wantB_ok {want : Str} (h : wantB want = true) : WantOk want := by
  simp only [wantB, Bool.and_eq_true, decide_eq_true_eq, Bool.or_eq_true, Bool.not_eq_true', List.all_eq_true] at h
  refine ⟨h.1, fun hc => ?_⟩
  rcases h.2 with h2 | ⟨⟨⟨a, b⟩, c⟩, d⟩
  · rw [hc] at h2; cases h2
  · exact ⟨a, b, c, d⟩
def wAll (K : Nat) : Bool := (List.range 16).all fun z => !(inKept (K : Int) z) || K == 0 || (wantB (wantOf (K : Int) (z : Int)) && JoinOk "" ((List.range 4).map (pieceAt (K : Int) (z : Int))))
def eAll (K : Nat) : Bool := (List.range 16).all fun z => !(inKept (K : Int) z) || K == 0 || (List.range 16).all (fun a => ellB (wantOf (K : Int) (z : Int)) (wordOf (a : Int)) == (Builtin.bitAnd (a : Int) (K : Int) == (z : Int)))
theorem fWantx0 : wAll 0 = true := by kernel_rfl
theorem fWantx1 : wAll 1 = true := by kernel_rfl
theorem fWantx2 : wAll 2 = true := by kernel_rfl
theorem fWantx3 : wAll 3 = true := by kernel_rfl
theorem fWantx4 : wAll 4 = true := by kernel_rfl
theorem fWantx5 : wAll 5 = true := by kernel_rfl
theorem fWantx6 : wAll 6 = true := by kernel_rfl
theorem fWantx7 : wAll 7 = true := by kernel_rfl
theorem fWantx8 : wAll 8 = true := by kernel_rfl
theorem fWantx9 : wAll 9 = true := by kernel_rfl
theorem fWantx10 : wAll 10 = true := by kernel_rfl
theorem fWantx11 : wAll 11 = true := by kernel_rfl
theorem fWantx12 : wAll 12 = true := by kernel_rfl
theorem fWantx13 : wAll 13 = true := by kernel_rfl
theorem fWantx14 : wAll 14 = true := by kernel_rfl
theorem fWantx15 : wAll 15 = true := by kernel_rfl
theorem fWantAll (K : Nat) (h : K < 16) : wAll K = true := by
  match K, h with
  | 0, _ => exact fWantx0
  | 1, _ => exact fWantx1
  | 2, _ => exact fWantx2
  | 3, _ => exact fWantx3
  | 4, _ => exact fWantx4
  | 5, _ => exact fWantx5
  | 6, _ => exact fWantx6
  | 7, _ => exact fWantx7
  | 8, _ => exact fWantx8
  | 9, _ => exact fWantx9
  | 10, _ => exact fWantx10
  | 11, _ => exact fWantx11
  | 12, _ => exact fWantx12
  | 13, _ => exact fWantx13
  | 14, _ => exact fWantx14
  | 15, _ => exact fWantx15
  | m + 16, h => exact absurd h (by omega)
theorem fEllx0 : eAll 0 = true := by kernel_rfl
theorem fEllx1 : eAll 1 = true := by kernel_rfl
theorem fEllx2 : eAll 2 = true := by kernel_rfl
theorem fEllx3 : eAll 3 = true := by kernel_rfl
theorem fEllx4 : eAll 4 = true := by kernel_rfl
theorem fEllx5 : eAll 5 = true := by kernel_rfl
theorem fEllx6 : eAll 6 = true := by kernel_rfl
theorem fEllx7 : eAll 7 = true := by kernel_rfl
theorem fEllx8 : eAll 8 = true := by kernel_rfl
theorem fEllx9 : eAll 9 = true := by kernel_rfl
theorem fEllx10 : eAll 10 = true := by kernel_rfl
theorem fEllx11 : eAll 11 = true := by kernel_rfl
theorem fEllx12 : eAll 12 = true := by kernel_rfl
theorem fEllx13 : eAll 13 = true := by kernel_rfl
theorem fEllx14 : eAll 14 = true := by kernel_rfl
theorem fEllx15 : eAll 15 = true := by kernel_rfl
theorem fEllAll (K : Nat) (h : K < 16) : eAll K = true := by
  match K, h with
  | 0, _ => exact fEllx0
  | 1, _ => exact fEllx1
  | 2, _ => exact fEllx2
  | 3, _ => exact fEllx3
  | 4, _ => exact fEllx4
  | 5, _ => exact fEllx5
  | 6, _ => exact fEllx6
  | 7, _ => exact fEllx7
  | 8, _ => exact fEllx8
  | 9, _ => exact fEllx9
  | 10, _ => exact fEllx10
  | 11, _ => exact fEllx11
  | 12, _ => exact fEllx12
  | 13, _ => exact fEllx13
  | 14, _ => exact fEllx14
  | 15, _ => exact fEllx15
  | m + 16, h => exact absurd h (by omega)
theorem fWant (K : _root_.Fin 16) (z : _root_.Fin 16) : (!(inKept (K.val : Int) z.val) || K.val == 0 || (wantB (wantOf (K.val : Int) (z.val : Int)) && JoinOk "" ((List.range 4).map (pieceAt (K.val : Int) (z.val : Int))))) = true :=
  List.all_eq_true.mp (fWantAll K.val K.isLt) z.val (List.mem_range.mpr z.isLt)
theorem fEll (K : _root_.Fin 16) (z : _root_.Fin 16) : (!(inKept (K.val : Int) z.val) || K.val == 0 || (List.range 16).all (fun a => ellB (wantOf (K.val : Int) (z.val : Int)) (wordOf (a : Int)) == (Builtin.bitAnd (a : Int) (K.val : Int) == (z.val : Int)))) = true :=
  List.all_eq_true.mp (fEllAll K.val K.isLt) z.val (List.mem_range.mpr z.isLt)
end Mine

namespace Mine
/-! ### sums -/
def Sm : Nat → (Nat → Int) → Int
  | 0, _ => 0
  | n + 1, f => Sm n f + f n
theorem Sm_congr {n : Nat} {f g : Nat → Int} (h : ∀ i, i < n → f i = g i) : Sm n f = Sm n g := by
  induction n with
  | zero => rfl
  | succ n ih => simp only [Sm]; rw [ih fun i hi => h i (by omega), h n (by omega)]
theorem Sm_add (n : Nat) (f g : Nat → Int) : Sm n (fun i => f i + g i) = Sm n f + Sm n g := by
  induction n with
  | zero => rfl
  | succ n ih => simp only [Sm]; rw [ih]; omega
theorem Sm_mul (n : Nat) (a : Int) (f : Nat → Int) : a * Sm n f = Sm n (fun i => a * f i) := by
  induction n with
  | zero => simp [Sm]
  | succ n ih => simp only [Sm]; rw [Int.mul_add, ih]
theorem Sm_zero (n : Nat) : Sm n (fun _ => 0) = 0 := by
  induction n with
  | zero => rfl
  | succ n ih => simp only [Sm]; rw [ih]; rfl
theorem Sm_swap (m n : Nat) (f : Nat → Nat → Int) : Sm m (fun i => Sm n (fun j => f i j)) = Sm n (fun j => Sm m (fun i => f i j)) := by
  induction m with
  | zero => simp only [Sm]; rw [Sm_zero]
  | succ m ih => simp only [Sm]; rw [ih, ← Sm_add]
theorem Sm_sq (n : Nat) (f : Nat → Int) : Sm n f * Sm n f = Sm n (fun i => Sm n (fun j => f i * f j)) := by
  rw [Int.mul_comm, Sm_mul]
  refine Sm_congr fun i _ => ?_
  rw [Int.mul_comm, Sm_mul]
theorem sum_sel (p : Nat → Bool) (f : Nat → Int) (n : Nat) : (sel p f n).sum = Sm n (fun j => if p j = true then f j else 0) := by
  induction n with
  | zero => rfl
  | succ n ih =>
    rw [sel_succ, List.sum_append, ih]
    simp only [Sm]
    split <;> simp
theorem sum_range (f : Nat → Int) (n : Nat) : ((List.range n).map f).sum = Sm n f := by
  induction n with
  | zero => rfl
  | succ n ih => rw [List.range_succ, List.map_append, List.sum_append, ih]; simp [Sm]
theorem map_getD {α : Type} (F : α → Int) (d : α) (l : List α) : (List.range l.length).map (fun i => F (l.getD i d)) = l.map F := by
  apply List.ext_getElem
  · simp
  · intro i h1 h2
    simp at h1
    simp [h1]
/-- the whole square, by its half -/
theorem Sm_sym (n : Nat) (g : Nat → Nat → Int) (h : ∀ i j, i < n → j < n → g i j = g j i) : Sm n (fun i => Sm n (fun j => g i j)) = Sm n (fun j => g j j) + Sm n (fun j => Sm j (fun i => 2 * g i j)) := by
  induction n with
  | zero => rfl
  | succ n ih =>
    simp only [Sm]
    rw [Sm_add, ih fun i j hi hj => h i j (by omega) (by omega)]
    have e : Sm n (fun j => g n j) = Sm n (fun j => g j n) := Sm_congr fun j hj => h n j (by omega) (by omega)
    rw [e, ← Sm_mul]
    omega
/-- sums of squares of linear forms -/
theorem Sm_forms (m n : Nat) (p : Nat → Bool) (x : Nat → Nat → Int) (v : Nat → Int) :
    Sm m (fun c => if p c = true then Sm n (fun j => x c j * v j) * Sm n (fun j => x c j * v j) else 0) = Sm n (fun i => Sm n (fun j => v i * v j * Sm m (fun c => if p c = true then x c i * x c j else 0))) := by
  have e1 : ∀ c, (if p c = true then Sm n (fun j => x c j * v j) * Sm n (fun j => x c j * v j) else 0) = Sm n (fun i => Sm n (fun j => v i * v j * (if p c = true then x c i * x c j else 0))) := fun c => by
    split
    · rw [Sm_sq]
      refine Sm_congr fun i _ => Sm_congr fun j _ => ?_
      rw [Int.mul_assoc, Int.mul_left_comm (v i), ← Int.mul_assoc (x c i), Int.mul_comm (v i * v j)]
    · simp only [Int.mul_zero, Sm_zero]
  rw [Sm_congr fun c _ => e1 c, Sm_swap]
  refine Sm_congr fun i _ => ?_
  rw [Sm_swap]
  refine Sm_congr fun j _ => ?_
  rw [Sm_mul]
theorem Sm_bound (n : Nat) (f : Nat → Int) (b : Int) (h : ∀ i, i < n → -b ≤ f i ∧ f i ≤ b) : -(n * b) ≤ Sm n f ∧ Sm n f ≤ n * b := by
  induction n with
  | zero => simp [Sm]
  | succ n ih =>
    have h1 := ih fun i hi => h i (by omega)
    have h2 := h n (by omega)
    have e : ((n + 1 : Nat) : Int) * b = n * b + b := by rw [Int.natCast_add, Int.add_mul]; simp
    simp only [Sm]
    rw [e]
    omega
end Mine

namespace Mine
/-! ### the plain law -/
section
variable (dr : List Int)
def av (j : Nat) : Nat := ((dr.getD j 0).fmod 16).toNat
def wv (j : Nat) : Int := wtOf (dr.getD j 0)
theorem fmod_bd (x b : Int) (hb : 0 < b) : 0 ≤ x.fmod b ∧ x.fmod b < b := ⟨Int.fmod_nonneg_of_pos _ hb, Int.fmod_lt_of_pos _ hb⟩
theorem av_lt (j : Nat) : av dr j < 16 := by unfold av; have := fmod_bd (dr.getD j 0) 16 (by decide); omega
theorem av_eq (j : Nat) : (dr.getD j 0).fmod 16 = (av dr j : Int) := by unfold av; have := fmod_bd (dr.getD j 0) 16 (by decide); omega
theorem range_getD {α : Type} (f : Nat → α) (d : α) {n j : Nat} (h : j < n) : ((List.range n).map f).getD j d = f j := by simp [List.getD_eq_getElem?_getD, h]
theorem spots_len : (spots dr).length = dr.length := by unfold spots; rw [sel_true]; simp
theorem weights_len : (weights dr).length = dr.length := by unfold weights; rw [sel_true]; simp
theorem words_len : (wordsOf (spots dr)).length = dr.length := by unfold wordsOf; simp [spots_len]
theorem spots_get {j : Nat} (h : j < dr.length) : (spots dr).getD j 0 = (av dr j : Int) := by
  unfold spots; rw [sel_true, range_getD _ _ h, av_eq]
theorem weights_get {j : Nat} (h : j < dr.length) : (weights dr).getD j 0 = wv dr j := by
  unfold weights; rw [sel_true, range_getD _ _ h]; rfl
theorem words_get {j : Nat} (h : j < dr.length) : (wordsOf (spots dr)).getD j Str.empty = wordOf (av dr j : Int) := by
  unfold wordsOf; rw [range_getD _ _ (by rw [spots_len]; exact h), spots_get dr h]
theorem wv_bd (j : Nat) : -1000000 ≤ wv dr j ∧ wv dr j ≤ 1000000 := by
  unfold wv wtOf
  have h1 := fmod_bd ((dr.getD j 0).fdiv 16) 2 (by decide)
  have h2 := fmod_bd ((dr.getD j 0).fdiv 32) (10 ^ (6 : Int).toNat) (by decide)
  have h3 : (10 : Int) ^ (6 : Int).toNat = 1000000 := by decide
  rw [h3] at h2 ⊢
  generalize ((dr.getD j 0).fdiv 16).fmod 2 = u at h1 ⊢
  generalize ((dr.getD j 0).fdiv 32).fmod 1000000 = v at h2 ⊢
  have : u = 0 ∨ u = 1 := by omega
  rcases this with rfl | rfl <;> omega
theorem weights_bd (i : Nat) : -1000000 ≤ (weights dr).getD i 0 ∧ (weights dr).getD i 0 ≤ 1000000 := by
  by_cases h : i < dr.length
  · rw [weights_get dr h]; exact wv_bd dr i
  · have : (weights dr).getD i 0 = 0 := by simp [List.getD_eq_getElem?_getD, List.getElem?_eq_none (show (weights dr).length ≤ i by rw [weights_len]; omega)]
    rw [this]; decide
theorem far_eq {M : Int} (h0 : 0 ≤ M) (h1 : M ≤ 1) {i j : Nat} (hi : i < dr.length) (hj : j < dr.length) : farOf (wordsOf (spots dr)) M i j - 2 * M = ham (av dr i) (av dr j) := by
  unfold farOf
  rw [words_get dr hi, words_get dr hj]
  obtain ⟨m, rfl⟩ := Int.eq_ofNat_of_zero_le h0
  have := fFar ⟨m, by omega⟩ ⟨av dr i, av_lt dr i⟩ ⟨av dr j, av_lt dr j⟩
  exact this
theorem ham_bd (i j : Nat) : 0 ≤ ham (av dr i) (av dr j) ∧ ham (av dr i) (av dr j) ≤ 4 := (fHam ⟨_, av_lt dr i⟩ ⟨_, av_lt dr j⟩).2
theorem farOk (hn : dr.length ≤ 6) {M : Int} (h0 : 0 ≤ M) (h1 : M ≤ 1) : FarOk (wordsOf (spots dr)) (weights dr) M where
  M0 := h0
  M1 := h1
  far := fun i j hi hj => by
    rw [words_len] at hi hj
    rw [far_eq dr h0 h1 hi hj]
    exact ham_bd dr i j
  len := fun i => by
    by_cases h : i < dr.length
    · rw [words_get dr h, word_len]; decide
    · have : (wordsOf (spots dr)).getD i Str.empty = Str.empty := by simp [List.getD_eq_getElem?_getD, List.getElem?_eq_none (show (wordsOf (spots dr)).length ≤ i by rw [words_len]; omega)]
      rw [this]; decide
  wl := by rw [weights_len, words_len]
  wn := by rw [words_len]; exact hn
  ws := fun i => by have := weights_bd dr i; omega
  w2 := fun i => by have := weights_bd dr i; omega
theorem wave_eq (c : Nat) : waveOf popL (spots dr) (weights dr) c = Sm dr.length (fun j => X (av dr j) c * wv dr j) := by
  unfold waveOf
  rw [sel_true, sum_range, spots_len, weights_len, Nat.min_self]
  refine Sm_congr fun j hj => ?_
  unfold waveAt X
  rw [spots_get dr hj, weights_get dr hj]
  split <;> omega
theorem X_sq (a c : Nat) : X a c = 1 ∨ X a c = -1 := by unfold X; split <;> simp
theorem wave_bd (hn : dr.length ≤ 6) (c : Nat) : -6000000 ≤ waveOf popL (spots dr) (weights dr) c ∧ waveOf popL (spots dr) (weights dr) c ≤ 6000000 := by
  rw [wave_eq]
  have h := Sm_bound dr.length (fun j => X (av dr j) c * wv dr j) 1000000 fun j _ => by
    have := wv_bd dr j
    rcases X_sq (av dr j) c with e | e <;> simp only [e] <;> omega
  omega
theorem sq_wave {c : Nat} (h : c < 16) : sq ((List.range 16).map (waveOf popL (spots dr) (weights dr))) c = Sm dr.length (fun j => X (av dr j) c * wv dr j) * Sm dr.length (fun j => X (av dr j) c * wv dr j) := by
  unfold sq
  rw [range_getD _ _ h, wave_eq]
theorem waves_form (p : Nat → Bool) : (sel p (sq ((List.range 16).map (waveOf popL (spots dr) (weights dr)))) 16).sum = Sm dr.length (fun i => Sm dr.length (fun j => wv dr i * wv dr j * (sel p (fun c => X (av dr i) c * X (av dr j) c) 16).sum)) := by
  rw [sum_sel]
  rw [Sm_congr (g := fun c => if p c = true then Sm dr.length (fun j => X (av dr j) c * wv dr j) * Sm dr.length (fun j => X (av dr j) c * wv dr j) else 0) fun c hc => by rw [sq_wave dr hc]]
  rw [Sm_forms 16 dr.length p (fun c j => X (av dr j) c) (wv dr)]
  refine Sm_congr fun i _ => Sm_congr fun j _ => ?_
  rw [sum_sel]
theorem told_eq {M : Int} (h0 : 0 ≤ M) (h1 : M ≤ 1) (k : Nat) (hk : k < 5) : toldOf (aps0 (weights dr) (weights dr).length ++ crossJ (wordsOf (spots dr)) (weights dr) M (wordsOf (spots dr)).length) k = (sel (countIs popL k) (sq ((List.range 16).map (waveOf popL (spots dr) (weights dr)))) 16).sum := by
  rw [waves_form]
  have hR : ∀ i j, (sel (countIs popL k) (fun c => X (av dr i) c * X (av dr j) c) 16).sum = (rowAt (ham (av dr i) (av dr j)) 4).getD k 0 := fun i j => fKr ⟨k, hk⟩ ⟨_, av_lt dr i⟩ ⟨_, av_lt dr j⟩
  have e0 : Sm dr.length (fun i => Sm dr.length (fun j => wv dr i * wv dr j * (sel (countIs popL k) (fun c => X (av dr i) c * X (av dr j) c) 16).sum)) = Sm dr.length (fun i => Sm dr.length (fun j => wv dr i * wv dr j * (rowAt (ham (av dr i) (av dr j)) 4).getD k 0)) :=
    Sm_congr fun i _ => Sm_congr fun j _ => by rw [hR]
  rw [e0, Sm_sym dr.length (fun i j => wv dr i * wv dr j * (rowAt (ham (av dr i) (av dr j)) 4).getD k 0) fun i j _ _ => by
    show wv dr i * wv dr j * _ = wv dr j * wv dr i * _
    rw [Int.mul_comm (wv dr i), (fHam ⟨_, av_lt dr i⟩ ⟨_, av_lt dr j⟩).1]]
  unfold toldOf
  rw [sel_true, map_getD (fun p : Int × Int => p.2 * (rowAt p.1 4).getD k 0) (0, 0), List.map_append, List.sum_append, weights_len, words_len]
  congr 1
  · unfold aps0
    rw [List.map_map, sum_range]
    refine Sm_congr fun j hj => ?_
    show (weights dr).getD j 0 * (weights dr).getD j 0 * (rowAt 0 4).getD k 0 = _
    rw [weights_get dr hj]
    have : ham (av dr j) (av dr j) = 0 := by unfold ham; rw [Nat.xor_self]; rfl
    simp only [this]
  · have gen : ∀ n, n ≤ dr.length → ((crossJ (wordsOf (spots dr)) (weights dr) M n).map (fun p : Int × Int => p.2 * (rowAt p.1 4).getD k 0)).sum = Sm n (fun j => Sm j (fun i => 2 * (wv dr i * wv dr j * (rowAt (ham (av dr i) (av dr j)) 4).getD k 0))) := fun n => by
      induction n with
      | zero => intro _; rfl
      | succ n ih =>
        intro hn
        simp only [crossJ, List.map_append, List.sum_append, Sm]
        rw [ih (by omega)]
        congr 1
        unfold crossI
        rw [List.map_map, sum_range]
        refine Sm_congr fun i hi => ?_
        show 2 * (weights dr).getD i 0 * (weights dr).getD n 0 * (rowAt (farOf (wordsOf (spots dr)) M i n - 2 * M) 4).getD k 0 = _
        rw [far_eq dr h0 h1 (by omega) (by omega), weights_get dr (by omega), weights_get dr (by omega)]
        simp only [Int.mul_assoc]
    exact gen _ (Nat.le_refl _)
end
end Mine

namespace Mine
section
variable (dr : List Int)
theorem takes_eq {K z j : Nat} (hK : K < 16) (hK0 : 0 < K) (hz : z < 16) (hin : inKept (K : Int) z = true) (hj : j < dr.length) : takes (K : Int) (z : Int) (wordsOf (spots dr)) j = (Builtin.bitAnd (av dr j : Int) (K : Int) == (z : Int)) := by
  unfold takes
  rw [words_get dr hj]
  have h := fEll ⟨K, hK⟩ ⟨z, hz⟩
  simp only [hin, Bool.not_true, Bool.false_or, Bool.or_eq_true, beq_iff_eq] at h
  rcases h with h | h
  · omega
  · have := List.all_eq_true.mp h (av dr j) (List.mem_range.mpr (av_lt dr j))
    simpa using this
theorem taken_eq {K z : Nat} (hK : K < 16) (hK0 : 0 < K) (hz : z < 16) (hin : inKept (K : Int) z = true) : takenOf (K : Int) (z : Int) (wordsOf (spots dr)) (weights dr) = Sm dr.length (fun j => Ind K z (av dr j) * wv dr j) := by
  unfold takenOf
  rw [sum_sel, words_len, weights_len, Nat.min_self]
  refine Sm_congr fun j hj => ?_
  rw [takes_eq dr hK hK0 hz hin hj, weights_get dr hj]
  unfold Ind
  split <;> simp
theorem taken_bd (hn : dr.length ≤ 6) (K z : Int) : -(2 ^ 64) < takenOf K z (wordsOf (spots dr)) (weights dr) ∧ takenOf K z (wordsOf (spots dr)) (weights dr) < 2 ^ 64 := by
  unfold takenOf
  rw [sum_sel, words_len, weights_len, Nat.min_self]
  have h := Sm_bound dr.length (fun j => if takes K z (wordsOf (spots dr)) j = true then (weights dr).getD j 0 else 0) 1000000 fun j _ => by
    have := weights_bd dr j
    split <;> omega
  omega
theorem szOk (hn : dr.length ≤ 6) {K : Nat} (hK : K < 16) (hK0 : 0 < K) : SzOk (K : Int) (wordsOf (spots dr)) (weights dr) where
  want := fun z hz hin => by
    have h := fWant ⟨K, hK⟩ ⟨z, hz⟩
    simp only [hin, Bool.not_true, Bool.false_or, Bool.or_eq_true, beq_iff_eq, Bool.and_eq_true] at h
    rcases h with h | h
    · omega
    · exact ⟨wantB_ok h.1, h.2⟩
  small := fun z => taken_bd dr hn _ _
  words := fun x hx => by
    unfold wordsOf at hx
    obtain ⟨j, _, rfl⟩ := List.mem_map.mp hx
    rw [word_len]; decide
  len := by rw [weights_len]; omega
theorem fin_eq {K : Nat} (hK : K < 16) (hK0 : 0 < K) : 2 ^ (popL.getD K 0).toNat * (sel (inKept (K : Int)) (sqOf (K : Int) (wordsOf (spots dr)) (weights dr)) 16).sum = (sel (inKept (K : Int)) (sq ((List.range 16).map (waveOf popL (spots dr) (weights dr)))) 16).sum := by
  rw [waves_form, sum_sel]
  rw [Sm_congr (g := fun z => if inKept (K : Int) z = true then Sm dr.length (fun j => Ind K z (av dr j) * wv dr j) * Sm dr.length (fun j => Ind K z (av dr j) * wv dr j) else 0) fun z hz => by
    split
    · rename_i hin
      unfold sqOf
      rw [taken_eq dr hK hK0 hz hin]
    · rfl]
  rw [Sm_forms 16 dr.length (inKept (K : Int)) (fun z j => Ind K z (av dr j)) (wv dr), Sm_mul]
  refine Sm_congr fun i _ => ?_
  rw [Sm_mul]
  refine Sm_congr fun j _ => ?_
  have := fPar ⟨K, hK⟩ ⟨_, av_lt dr i⟩ ⟨_, av_lt dr j⟩
  dsimp only at this
  rw [← this, sum_sel, Int.mul_left_comm]
theorem aps_gap {M : Int} (h0 : 0 ≤ M) (h1 : M ≤ 1) : ∀ n, n ≤ dr.length → ∀ p ∈ crossJ (wordsOf (spots dr)) (weights dr) M n, 0 ≤ p.1 ∧ p.1 ≤ 4
  | 0, _, p, hp => by cases hp
  | n + 1, hn, p, hp => by
    rcases List.mem_append.mp hp with hp | hp
    · exact aps_gap h0 h1 n (by omega) p hp
    · unfold crossI at hp
      obtain ⟨i, hi, rfl⟩ := List.mem_map.mp hp
      rw [List.mem_range] at hi
      dsimp only
      rw [far_eq dr h0 h1 (by omega) (by omega)]
      exact ham_bd dr i n
theorem plainOk (hn : dr.length ≤ 6) {K : Nat} (hK : K < 16) (hK0 : 0 < K) {M : Int} (h0 : 0 ≤ M) (h1 : M ≤ 1) : PlainOk (K : Int) (wordsOf (spots dr)) (spots dr) (weights dr) popL (aps0 (weights dr) (weights dr).length ++ crossJ (wordsOf (spots dr)) (weights dr) M (wordsOf (spots dr)).length) where
  spb := fun j c hj hc => by
    rw [spots_len] at hj
    rw [spots_get dr hj]
    exact fBits ⟨_, av_lt dr j⟩ ⟨c, hc⟩
  g := fun i hi => by
    generalize hap : aps0 (weights dr) (weights dr).length ++ crossJ (wordsOf (spots dr)) (weights dr) M (wordsOf (spots dr)).length = aps at hi
    have hm : aps.getD i (0, 0) ∈ aps := by
      rw [List.getD_eq_getElem?_getD, List.getElem?_eq_getElem hi]
      exact List.getElem_mem hi
    generalize aps.getD i (0, 0) = p at hm
    rw [← hap] at hm
    rcases List.mem_append.mp hm with hm | hm
    · unfold aps0 at hm
      obtain ⟨j, _, rfl⟩ := List.mem_map.mp hm
      exact ⟨Int.le_refl 0, (by decide : (0 : Int) ≤ 4)⟩
    · rw [words_len] at hm
      exact aps_gap dr h0 h1 _ (Nat.le_refl _) p hm
  al := by
    have h1 := crossJ_len (wordsOf (spots dr)) (weights dr) M (wordsOf (spots dr)).length
    rw [words_len] at h1 ⊢
    have h2 : dr.length * dr.length ≤ 36 := Nat.mul_le_mul hn hn
    simp only [List.length_append, aps0, List.length_map, List.length_range, weights_len]
    omega
  z := szOk dr hn hK hK0
  cl := rfl
  K0 := by omega
  K16 := by omega
  c0 := by
    have : ∀ K : _root_.Fin 16, 0 ≤ popL.getD (K.val : Int).toNat 0 := by decide +kernel
    exact this ⟨K, hK⟩
  c4 := by
    have : ∀ K : _root_.Fin 16, popL.getD (K.val : Int).toNat 0 ≤ 4 := by decide +kernel
    exact this ⟨K, hK⟩
  sm := fun i => by
    by_cases h : i < 16
    · rw [range_getD _ _ h]
      have := wave_bd dr hn i
      omega
    · have : ((List.range 16).map (waveOf popL (spots dr) (weights dr))).getD i 0 = 0 := by simp [List.getD_eq_getElem?_getD, List.getElem?_eq_none (show ((List.range 16).map (waveOf popL (spots dr) (weights dr))).length ≤ i by simp; omega)]
      rw [this]; decide
  told := fun k hk => told_eq dr h0 h1 k hk
  fin := by rw [show ((K : Int).toNat) = K by simp]; exact fin_eq dr hK hK0
end
theorem lawOk (ns : List Int) : LawOk ns := by
  have hT := fmod_bd (ns.take 60).sum 720 (by decide)
  have hT' : totalOf ns = (ns.take 60).sum.fmod 720 := rfl
  rw [← hT'] at hT
  have hL : 0 ≤ lowOf (totalOf ns) ∧ lowOf (totalOf ns) ≤ 4 := by
    unfold lowOf
    rw [Int.fdiv_eq_ediv_of_nonneg _ (by decide)]
    omega
  have hS := fmod_bd ((totalOf ns).fdiv 16) 9 (by decide)
  have hK := fmod_bd (totalOf ns + 4) 15 (by decide)
  have hM := fmod_bd (totalOf ns) 2 (by decide)
  have hdl : (drawnOf ns).length ≤ 6 := by
    simp only [drawnOf, List.length_append, List.length_take, List.length_cons, List.length_nil]
    omega
  obtain ⟨lo, hlo⟩ := Int.eq_ofNat_of_zero_le hL.1
  obtain ⟨sn, hsn⟩ := Int.eq_ofNat_of_zero_le hS.1
  have hs1 : stepOf (totalOf ns) = (sn : Int) + 1 := by unfold stepOf; rw [hsn]
  obtain ⟨K, hKe⟩ := Int.eq_ofNat_of_zero_le (show 0 ≤ keptOf (totalOf ns) by unfold keptOf; omega)
  have hK2 : (K : Int) ≤ 15 ∧ 1 ≤ (K : Int) := by rw [← hKe]; unfold keptOf; omega
  have hall := fPf lo sn (by omega) (by omega)
  have hc : ∀ c, c < 16 → pfB (flagsOf (lo : Int) ((sn : Int) + 1) c) = true ∧ countOf (flagsOf (lo : Int) ((sn : Int) + 1) c) = popL.getD c 0 := fun c hc => by
    have := List.all_eq_true.mp hall c (List.mem_range.mpr hc)
    simpa using this
  refine ⟨farOk _ hdl hM.1 (by unfold moreOf; omega), hL.1, hL.2, by rw [hs1]; omega, by rw [hs1]; omega, fun c h => ?_, ?_⟩
  · rw [hlo, hs1]
    exact pfB_ok (hc c h).1
  · have e : ((List.range 16).map fun c => countOf (flagsOf (lowOf (totalOf ns)) (stepOf (totalOf ns)) c)) = popL := by
      rw [hlo, hs1]
      have : ((List.range 16).map fun c => countOf (flagsOf (lo : Int) ((sn : Int) + 1) c)) = (List.range 16).map fun c => popL.getD c 0 := List.map_congr_left fun c h => (hc c (List.mem_range.mp h)).2
      rw [this]
      rfl
    rw [e, hKe]
    exact plainOk _ hdl (by omega) (by omega) hM.1 (by unfold moreOf; omega)
end Mine

namespace Mine
set_option maxRecDepth 100000 in
set_option maxHeartbeats 8000000 in
open_top hd for PySem.Challenge.rw_rl0047_01
end Mine

namespace Mine
/-! ### the start -/
def objAt (K : Frag) (a : Addr) : Obj := (K.lookup a).getD { cls := .none, data := .plain }
def fdIn (K : Frag) (a : Addr) (st : Stmt) : FuncData := match (objAt K a).data with | .func fd => fd | _ => fdOf "" "" st .none .none none .none .none
def cdA (v : Value) : Addr := match v with | .ref c => c | _ => 0
def flds (d : Data) : Array Value := match d with | .fields vs => vs | _ => #[]
def tokOf (v : Option Value) : Tok := match v with | some (.str _ t) => t | _ => 0
theorem fnAt_of {K : Frag} {h : Heap} {a : Addr} {st : Stmt} (KX : K.In h) (e1 : K.lookup a = some (objAt K a))
    (e2 : (objAt K a).data = .func (fdOf (fdIn K a st).1 (fdIn K a st).2 st (fdIn K a st).10 (fdIn K a st).11 (fdIn K a st).12 (fdIn K a st).13 (fdIn K a st).14))
    (e3 : (fdIn K a st).13 = .ref (cdA (fdIn K a st).13)) (e4 : K.lookup (cdA (fdIn K a st).13) = some (objAt K (cdA (fdIn K a st).13)))
    (e5 : (objAt K (cdA (fdIn K a st).13)).data = .fields (flds (objAt K (cdA (fdIn K a st).13)).data))
    (e6 : (flds (objAt K (cdA (fdIn K a st).13)).data)[1]? = some (.str (fdIn K a st).2 (tokOf (flds (objAt K (cdA (fdIn K a st).13)).data)[1]?))) : FnAt h a st :=
  ⟨_, _, _, _, _, _, _, _, KX _ _ e1, e2, _, _, _, _, e3, KX _ _ e4, e5, e6⟩
theorem base_of {p : Program} {loose : List Str} {mean : ExcName → Option Value} {mg mb : Str → Option Value} {h : Heap} {P : Params} (T : Top p loose mean mg mb h) (KX : (hd.heap_39 P).In h) : Base h where
  ns := ⟨mg, mb, T.g, T.b, fun x v e => by
    have all : ∀ q ∈ glob, mg q.1 = some q.2 ∨ (mg q.1 = none ∧ mb q.1 = some q.2) := by
      unfold glob
      iterate 10 (refine fm_cons (.inr ⟨mg_none_of KX T.g (by kernel_rfl), (T.builtins _ (by decide)).trans (by kernel_rfl)⟩) ?_)
      iterate 11 (refine fm_cons (.inl (mg_of KX T.g (by kernel_rfl))) ?_)
      exact fm_nil
    exact all (x, v) (mem_of_lookup e)⟩
  lim := T.nolimit
  fSub := fnAt_of KX (by kernel_rfl) (by kernel_rfl) (by kernel_rfl) (by kernel_rfl) (by kernel_rfl) (by kernel_rfl)
  fLev := fnAt_of KX (by kernel_rfl) (by kernel_rfl) (by kernel_rfl) (by kernel_rfl) (by kernel_rfl) (by kernel_rfl)
  fFlags := fnAt_of KX (by kernel_rfl) (by kernel_rfl) (by kernel_rfl) (by kernel_rfl) (by kernel_rfl) (by kernel_rfl)
  fEll := fnAt_of KX (by kernel_rfl) (by kernel_rfl) (by kernel_rfl) (by kernel_rfl) (by kernel_rfl) (by kernel_rfl)
  fWord := fnAt_of KX (by kernel_rfl) (by kernel_rfl) (by kernel_rfl) (by kernel_rfl) (by kernel_rfl) (by kernel_rfl)
  fSigns := fnAt_of KX (by kernel_rfl) (by kernel_rfl) (by kernel_rfl) (by kernel_rfl) (by kernel_rfl) (by kernel_rfl)
  tab := KX _ _ (by kernel_rfl)
theorem law_at {h : Heap} {P : Params} (KX : (hd.heap_39 P).In h) : FnAt h 58 (topSt 15) := fnAt_of KX (by kernel_rfl) (by kernel_rfl) (by kernel_rfl) (by kernel_rfl) (by kernel_rfl) (by kernel_rfl)
end Mine

set_option maxRecDepth 100000 in
set_option maxHeartbeats 8000000 in
theorem PySem.Challenge.cw_rl0047_01_holds : PySem.Challenge.rw_rl0047_01.Holds := by
  refine Mine.hd ?_
  intro w s₀ s₁ mg mb G Y fa o pm cd doc dV kV ho hd hcd hD hmg hg args vals as hpre hlay hrd hwl hlo
  have KX := kIn_of Y
  refine Ground.open G ?_
  intro T B D TE TW
  try (refine guard_noD D (by decide +kernel) ?_; clear D)
  have e58 : mg (Str.ofString "law") = some (.ref 58) := mg_of KX T.g (by kernel_rfl)
  have hfa : fa = 58 := by
    have h1 : mg (Str.ofString "law") = some (.ref fa) := hmg
    rw [e58] at h1
    cases h1
    rfl
  subst hfa
  clear hd ho hcd hD hmg
  wrow_args hpre hlay hrd hwl hlo
  rename_i ns hs hlay0 hLay hr0 hl2 as1 as2 sc vs as3 hl ra w1 r0 hI hr hc1 hc2
  show wpAny _ _ (call (.ref 58) [.ref sc]) _ _ _
  refine Mine.law_call (Mine.base_of T KX) (Mine.law_at KX) ⟨rfl, by decide +kernel⟩ hl hI (by rw [sizeLine_eq, hI.length]; omega) (Mine.lawOk ns) fun s' k => ?_
  obtain ⟨h', tk, rfl, hk⟩ := k
  refine GoodW.toG ⟨.inl ⟨_, .bool true, [], rfl, fun _ => rfl, .bool true, ?_, unshared_nil⟩, hk, rfl, hg⟩
  wrow_post
