import PyProof.Rows.All
import Wide.All
import OpenK.AllK
import Wide.FinOn
import PySem.Challenge.RW_mq0062_01
open PySem PySem.W PyProof.Rows
set_option Elab.async false
set_option maxRecDepth 100000
namespace RL

def stmtAt (i : Nat) : Stmt := match PySem.Challenge.pw_mq0062_01.main.body[i]? with
  | some s => s
  | none => .Pass default
def paramsOf (i : Nat) : Arguments := match stmtAt i with
  | .FunctionDef _ a _ _ _ _ _ _ _ _ => a
  | _ => { posonlyargs := [], args := [], vararg := none, kwonlyargs := [], kw_defaults := [], kwarg := none, defaults := [] }
def bodyOf (i : Nat) : List Stmt := match stmtAt i with
  | .FunctionDef _ _ b _ _ _ _ _ _ _ => b
  | _ => []
def scopeOf (i : Nat) : Scope := match stmtAt i with
  | .FunctionDef _ _ _ _ _ _ s _ _ _ => s
  | _ => { kind := .function, names := [], isGenerator := false, isCoroutine := false, more := [] }

abbrev Keep (h h' : Heap) : Prop := ∀ b o, h.get? b = some o → h'.get? b = some o

def FnAt (h : Heap) (name : Str) (i : Nat) (dV : Value) (a : Addr) : Prop :=
  ∃ o kV doc pm an cdv ct, h.get? a = some o ∧ o.data = .func (fnOf name name (paramsOf i) (bodyOf i) (scopeOf i) dV kV doc pm an cdv ct) ∧ h.CodeRec cdv name
theorem FnAt.keeps {h h' : Heap} {name i dV a} (x : FnAt h name i dV a) (k : Keep h h') : FnAt h' name i dV a :=
  let ⟨o, kV, doc, pm, an, cdv, ct, h1, h2, h3⟩ := x; ⟨o, kV, doc, pm, an, cdv, ct, k _ _ h1, h2, h3.keeps k⟩

def fnList : List (Str × Nat) := [("ISTERMINAL", 6), ("ISNONTERMINAL", 7), ("ISEOF", 8), ("_law_row", 10), ("_law_to_the_end", 11), ("_law_step", 12), ("_law_join", 13), ("_law_word", 14), ("_law_begin", 15), ("_law_tree", 16)]
def usedNames : List Str := ["iter", "next", "StopIteration", "TypeError", "list", "range", "len", "str"]

structure Wd (mg mb : Str → Option Value) (h : Heap) : Prop where
  g : h.Ns mainGlobals mg
  b : h.Ns builtinsNs mb
  bi : ∀ x : Str, x ≠ "__name__" → mb x = bootBuiltins x
  nolim : h.NoLimit
  free : ∀ x ∈ usedNames, mg x = none
  endm : ∃ t, mg "ENDMARKER" = some (.int 0 t)
  nto : ∃ t, mg "NT_OFFSET" = some (.int 256 t)
  fns : ∀ p ∈ fnList, ∃ a, mg p.1 = some (.ref a) ∧ FnAt h p.1 p.2 .none a
  red : ∃ a T im om, mg "reduce" = some (.ref a) ∧ FnAt h "reduce" 2 (.ref T) a ∧ h.IsTuple T #[.ref im] ∧ mg "_initial_missing" = some (.ref im) ∧ h.get? im = some om ∧ om.cls = .type "object"

theorem Wd.keeps {mg mb h h'} (W : Wd mg mb h) (k : Keep h h') : Wd mg mb h' where
  g := W.g.keeps k
  b := W.b.keeps k
  bi := W.bi
  nolim := W.nolim.keeps k
  free := W.free
  endm := W.endm
  nto := W.nto
  fns := fun p hp => let ⟨a, h1, h2⟩ := W.fns p hp; ⟨a, h1, h2.keeps k⟩
  red := let ⟨a, T, im, om, h1, h2, ⟨o, h3, h3'⟩, h4, h5, h6⟩ := W.red; ⟨a, T, im, om, h1, h2.keeps k, ⟨o, k _ _ h3, h3'⟩, h4, k _ _ h5, h6⟩

theorem Wd.fn {mg mb h} (W : Wd mg mb h) {name : Str} {i : Nat} {a : Addr} (e : mg name = some (.ref a)) (hp : (name, i) ∈ fnList := by decide) : FnAt h name i .none a := by
  obtain ⟨a', h1, h2⟩ := W.fns _ hp
  rw [show mg name = _ from h1] at e
  cases e; exact h2

section
variable {prog : Program} {w : World} {A : Around} {E : Value → Shared → Prop} {s : Shared} {mg mb : Str → Option Value} {Q : Value → Shared → Prop}

theorem ldl {m} {name : Str} {scope : Scope} {L a : Addr} {cd : Value} {x : Str} {pos : Pos} {v : Value} (F : s.heap.Ns L m) (hv : m x = some v) (h : Q v s)
    (hk : scope.kind = .function := by rfl) (hl : (envOf name scope L a cd).kindOf x = some .local := by rfl)
    (hd : (x == ("__debug__" : Str)) = false := by decide) :
    wpAny (model prog w) A (eval (.Name x pos) (envOf name scope L a cd)) Q E s := wpAny_Name (wpAny_loadName_local hk hl F hv h) hd
theorem stl {m} {name : Str} {scope : Scope} {L a : Addr} {cd : Value} {x : Str} {v : Value} {Q : Unit → Shared → Prop} (F : s.heap.Ns L m)
    (h : ∀ h', h'.Ns L (fun y => if y = x then some v else m y) → Heap.SameBut L s.heap h' → Q () { s with heap := h', toks := s.toks + 1 })
    (hk : scope.kind = .function := by rfl) (hl : (envOf name scope L a cd).kindOf x = some .local := by rfl) :
    wpAny (model prog w) A (storeName (envOf name scope L a cd) x v) Q E s :=
  wpAny_storeName_local hl F h (by show (scope.kind == .class || (scope.kind == .module && L != mainGlobals)) = false; rw [hk]; rfl)
theorem ldg {name : Str} {scope : Scope} {L a : Addr} {cd : Value} {x : Str} {pos : Pos} {v : Value} (W : Wd mg mb s.heap) (hv : mg x = some v) (h : Q v s)
    (hk : scope.kind = .function := by rfl) (hl : (envOf name scope L a cd).kindOf x = some .globalImplicit := by rfl)
    (hd : (x == ("__debug__" : Str)) = false := by decide) :
    wpAny (model prog w) A (eval (.Name x pos) (envOf name scope L a cd)) Q E s :=
  Calls.Name_function_global hk hl (Calls.loadGlobal_global (env := envOf name scope L a cd) W.g hv h) hd
theorem ldb {name : Str} {scope : Scope} {L a : Addr} {cd : Value} {x : Str} {pos : Pos} {v : Value} (W : Wd mg mb s.heap) (hv : bootBuiltins x = some v) (h : Q v s)
    (hx : x ∈ usedNames := by decide) (hn : x ≠ "__name__" := by decide)
    (hk : scope.kind = .function := by rfl) (hl : (envOf name scope L a cd).kindOf x = some .globalImplicit := by rfl)
    (hd : (x == ("__debug__" : Str)) = false := by decide) :
    wpAny (model prog w) A (eval (.Name x pos) (envOf name scope L a cd)) Q E s :=
  Calls.Name_function_global hk hl (Calls.loadGlobal_builtin (env := envOf name scope L a cd) W.g (W.free x hx) W.b ((W.bi x hn).trans hv) h) hd

theorem callF {name : Str} {i : Nat} {a : Addr} {args : List Value} {binds : List (Str × Value)} {dV : Value} (hroom : A.depth < recursionLimit) (hlim : s.heap.NoLimit) (fn : FnAt s.heap name i dV a)
    (hbind : ∀ kV doc pm an cdv ct, BindsTo s (fnOf name name (paramsOf i) (bodyOf i) (scopeOf i) dV kV doc pm an cdv ct) ⟨args, []⟩ binds)
    (hcell : ∀ x ∈ (scopeOf i).names, x.2 ≠ .cell) (hloc : (binds.all fun x => decide ((scopeOf i).names.lookup x.1 = some .local)) = true)
    (h : ∀ cd h₀, h₀.Ns s.heap.objs.size (fun x => binds.reverse.lookup x) → Keep s.heap h₀ →
      wpAny (model prog w) (A.deeper (envOf name (scopeOf i) s.heap.objs.size a cd)) (execs (bodyOf i) (envOf name (scopeOf i) s.heap.objs.size a cd)) (fun f s' => Q (match f with | .ret v => v | _ => .none) s')
        (fun e s' => wpAny (model prog w) (A.deeper (envOf name (scopeOf i) s.heap.objs.size a cd)) (leaving (envOf name (scopeOf i) s.heap.objs.size a cd) e) (fun _ s'' => E e s'') E s')
        { s with heap := h₀, toks := s.toks + binds.length })
    (hco : (scopeOf i).isCoroutine = false := by rfl) (hgen : (scopeOf i).isGenerator = false := by rfl) (hk : (scopeOf i).kind = .function := by rfl) :
    wpAny (model prog w) A (call (.ref a) args) Q E s := by
  obtain ⟨o, kV, doc, pm, an, cdv, ct, h1, h2, h3⟩ := fn
  exact wpAny_call (codeAny_call_def (fd := fnOf name name (paramsOf i) (bodyOf i) (scopeOf i) dV kV doc pm an cdv ct) hroom h1 h2 hlim h3 rfl (hbind _ _ _ _ _ _) hcell (locs hloc) (fun h₀ n k => h cdv h₀ n k) hco hgen hk)

theorem callN {name : Str} {i : Nat} {a : Addr} {args : List Value} {binds : List (Str × Value)} {dV : Value} (hroom : A.depth < recursionLimit) (hlim : s.heap.NoLimit) (fn : FnAt s.heap name i dV a)
    (hbind : ∀ kV doc pm an cdv ct, BindsTo s (fnOf name name (paramsOf i) (bodyOf i) (scopeOf i) dV kV doc pm an cdv ct) ⟨args, []⟩ binds)
    (hcell : ∀ x ∈ (scopeOf i).names, x.2 ≠ .cell) (hloc : (binds.all fun x => decide ((scopeOf i).names.lookup x.1 = some .local)) = true)
    (h : ∀ cd h₀, h₀.Ns s.heap.objs.size (fun x => binds.reverse.lookup x) → Keep s.heap h₀ →
      wpAny (model prog w) (A.deeper (envOf name (scopeOf i) s.heap.objs.size a cd)) (execs (bodyOf i) (envOf name (scopeOf i) s.heap.objs.size a cd)) (fun f s' => Q (match f with | .ret v => v | _ => .none) s')
        (fun _ _ => False)
        { s with heap := h₀, toks := s.toks + binds.length })
    (hco : (scopeOf i).isCoroutine = false := by rfl) (hgen : (scopeOf i).isGenerator = false := by rfl) (hk : (scopeOf i).kind = .function := by rfl) :
    wpAny (model prog w) A (call (.ref a) args) Q E s :=
  callF hroom hlim fn hbind hcell hloc (fun cd h₀ n k => wpAny_mono (h cd h₀ n k) (fun _ _ x => x) fun _ _ x => x.elim) hco hgen hk
end

section
variable {prog : Program} {w : World} {A : Around} {E : Value → Shared → Prop} {s : Shared} {mg mb : Str → Option Value} {Q : Value → Shared → Prop}

theorem iseof_call {a : Addr} {i : Int} {t : Tok} (W : Wd mg mb s.heap) (hroom : A.depth < recursionLimit) (fn : mg "ISEOF" = some (.ref a))
    (h : ∀ h' tk, Keep s.heap h' → Q (.bool (i == 0)) { s with heap := h', toks := tk }) :
    wpAny (model prog w) A (call (.ref a) [.int i t]) Q E s := by
  refine callN (binds := [("x", .int i t)]) hroom W.nolim (W.fn (i := 8) fn) (fun _ _ _ _ _ _ => BindsTo.of_eq rfl) (by decide) rfl (fun cd h₀ n k => ?_)
  have W₀ := W.keeps k
  obtain ⟨te, he⟩ := W.endm
  refine wpAny_execs_cons (wpAny_Return_some (wpAny_Compare1 ?_))
  refine ldl n rfl ?_
  refine ldg W₀ he ?_
  refine eq_int ?_
  exact h _ _ k
end

structure Fm (g : Heap) (L : Addr) (h : Heap) (m : Str → Option Value) : Prop where
  ns : h.Ns L m
  keep : Keep g h
  off : g.get? L = none

theorem Keep.rfl {h : Heap} : Keep h h := fun _ _ e => e
theorem Keep.trans {h h' h'' : Heap} (x : Keep h h') (y : Keep h' h'') : Keep h h'' := fun b o e => y b o (x b o e)
theorem Keep.push (h : Heap) (o : Obj) : Keep h (h.push o) := fun _ _ e => Heap.get?_push_of_some _ e

theorem Fm.start {s : Shared} {h₀ : Heap} {m} (n : h₀.Ns s.heap.objs.size m) (k : Keep s.heap h₀) : Fm s.heap s.heap.objs.size h₀ m := ⟨n, k, Heap.get?_none_of_le (Nat.le_refl _)⟩
theorem Fm.ne {g h : Heap} {L : Addr} {m} (F : Fm g L h m) {b o} (e : g.get? b = some o) : b ≠ L := fun q => by rw [q, F.off] at e; cases e
theorem Fm.st {g h h' : Heap} {L : Addr} {m m'} (F : Fm g L h m) (n : h'.Ns L m') (hs : Heap.SameBut L h h') : Fm g L h' m' := ⟨n, fun b o e => hs.extBut b o (F.ne e) (F.keep b o e), F.off⟩
theorem Fm.push {g h : Heap} {L : Addr} {m} (F : Fm g L h m) (o : Obj) : Fm g L (h.push o) m := ⟨F.ns.push o, fun b x e => Heap.get?_push_of_some _ (F.keep b x e), F.off⟩
theorem Fm.keeps {g h h' : Heap} {L : Addr} {m} (F : Fm g L h m) (k : Keep h h') : Fm g L h' m := ⟨F.ns.keeps k, fun b o e => k b o (F.keep b o e), F.off⟩
theorem Fm.ext {g h h' : Heap} {L b : Addr} {m} (F : Fm g L h m) (k : Heap.ExtBut b h h') (hb : g.get? b = none) (hL : b ≠ L) : Fm g L h' m :=
  ⟨F.ns.extBut k (Ne.symm hL), fun c o e => k c o (fun q => by rw [q, hb] at e; cases e) (F.keep c o e), F.off⟩
/-- all that stands now, but the frame, goes into the base -/
theorem Fm.rebase {g h : Heap} {L : Addr} {m} (F : Fm g L h m) : Fm (h.hide L) L h m ∧ Keep g (h.hide L) :=
  ⟨⟨F.ns, fun _ _ e => Heap.of_hide e, Heap.hide_self h L⟩, fun b o e => (Heap.hide_ne h (F.ne e)).trans (F.keep b o e)⟩
theorem Fm.fresh {g h : Heap} {L : Addr} {m} (F : Fm g L h m) : g.get? h.objs.size = none ∧ h.objs.size ≠ L := by
  refine ⟨?_, Nat.ne_of_gt F.ns.lt⟩
  cases q : g.get? h.objs.size with
  | none => rfl
  | some o => exact absurd (Heap.lt_size (F.keep _ _ q)) (Nat.lt_irrefl _)
/-- a new object into the base -/
theorem Fm.new {g h : Heap} {L : Addr} {m} (F : Fm g L h m) (o : Obj) (hf : o.isFreed = false := by rfl) : ∃ g', Keep g g' ∧ Fm g' L (h.push o) m ∧ g'.get? h.objs.size = some o :=
  have R := (F.push o).rebase
  ⟨_, R.2, R.1, (Heap.hide_ne _ F.fresh.2).trans (Heap.get?_push_size _ hf)⟩
abbrev KeepS (h h' : Heap) : Prop := ∀ b o vs n, h.get? b = some o → o.data = .seq vs n → h'.get? b = some o
/-- a call's end: lists and tuples are in the new base -/
theorem Fm.back {g h h' : Heap} {L : Addr} {m} (F : Fm g L h m) (k : Keep h h') : ∃ g', Keep g g' ∧ Fm g' L h' m ∧ KeepS h' g' := by
  have R := (F.keeps k).rebase
  refine ⟨_, R.2, R.1, fun b o vs n e hd => (Heap.hide_ne _ fun q => ?_).trans e⟩
  obtain ⟨o', es, ep, h1, h2, _⟩ := F.ns
  rw [q, k _ _ h1] at e
  rw [← Option.some.inj e, h2] at hd
  cases hd
/-- the same with a record X kept out of the base -/
theorem Fm.backX {g h h' : Heap} {L X : Addr} {m} {oX : Obj} {vX : Array Value} (F : Fm g L h m) (k : Keep h h') (hX : g.get? X = none) (hL : X ≠ L) (h1 : h'.get? X = some oX) (h2 : oX.data = .fields vX) :
    ∃ g', Keep g g' ∧ Fm g' L h' m ∧ KeepS h' g' ∧ g'.get? X = none := by
  have F' := F.keeps k
  have R := F'.rebase
  refine ⟨(h'.hide L).hide X, fun b o e => (Heap.hide_ne _ fun q => ?_).trans (R.2 b o e), ⟨F'.ns, fun _ _ e => Heap.of_hide (Heap.of_hide e), ?_⟩, fun b o vs n e hd => (Heap.hide_ne _ fun q => ?_).trans ((Heap.hide_ne _ fun q => ?_).trans e), Heap.hide_self _ _⟩
  · rw [q, hX] at e; cases e
  · rw [Heap.hide_ne _ (Ne.symm hL)]; exact Heap.hide_self _ _
  · rw [q, h1] at e; rw [← Option.some.inj e, h2] at hd; cases hd
  · obtain ⟨o', es, ep, h1, h2, _⟩ := F'.ns
    rw [q, h1] at e
    rw [← Option.some.inj e, h2] at hd
    cases hd

/-- a record goes out of the base again -/
theorem Fm.drop {g h : Heap} {L X : Addr} {m} {oX : Obj} {vX : Array Value} (F : Fm g L h m) (h1 : h.get? X = some oX) (h2 : oX.data = .fields vX) : Fm (g.hide X) L h m ∧ KeepS g (g.hide X) ∧ (g.hide X).get? X = none := by
  refine ⟨⟨F.ns, fun b o e => F.keep b o (Heap.of_hide e), ?_⟩, fun b o vs n e hd => (Heap.hide_ne _ fun q => ?_).trans e, Heap.hide_self _ _⟩
  · cases q : (g.hide X).get? L with
    | none => rfl
    | some o => have := Heap.of_hide q; rw [F.off] at this; cases this
  · rw [q] at e
    have := F.keep _ _ e
    rw [h1] at this
    rw [← Option.some.inj this, h2] at hd; cases hd
theorem Keep.drop {g g' : Heap} {X : Addr} (k : Keep g g') (hX : g.get? X = none) : Keep g (g'.hide X) := fun b o e => (Heap.hide_ne _ fun q => by rw [q, hX] at e; cases e).trans (k b o e)

abbrev St (s₀ : Shared) (h : Heap) (tk : Nat) : Shared := { s₀ with heap := h, toks := tk }
abbrev upd (m : Str → Option Value) (x : Str) (v : Value) : Str → Option Value := fun y => if y = x then some v else m y

/-- ints in a list -/
def Ints (h : Heap) (P : Addr) (ns : List Int) : Prop := ∃ vs, h.IsList P vs.toArray ∧ IntsAre vs ns
theorem Ints.keeps {h h' : Heap} {P ns} (x : Ints h P ns) (k : Keep h h') : Ints h' P ns := let ⟨vs, ⟨o, h1, h2⟩, h3⟩ := x; ⟨vs, ⟨o, k _ _ h1, h2⟩, h3⟩
theorem ints_at : ∀ {vs : List Value} {ns : List Int}, IntsAre vs ns → ∀ {k : Nat} {n : Int}, ns[k]? = some n → ∃ t, vs[k]? = some (.int n t)
  | _, _, .nil, k, n, e => by simp at e
  | _, _, .cons n t r, 0, m, e => by simp at e; subst e; exact ⟨t, rfl⟩
  | _, _, .cons _ _ r, k + 1, m, e => by simpa using ints_at r (by simpa using e)

section
variable {prog : Program} {w : World} {A : Around} {E : Value → Shared → Prop} {s₀ : Shared} {h : Heap} {tk : Nat} {mg mb : Str → Option Value} {Q : Value → Shared → Prop} {g : Heap} {L : Addr} {m : Str → Option Value} {env : Env}

theorem c_int {i k pos} (hq : ∀ t tk', Q (.int i t) (St s₀ h tk')) : wpAny (model prog w) A (eval (.Constant (.int i) k pos) env) Q E (St s₀ h tk) := wpAny_Constant_int (hq _ _)
theorem c_str {x k pos} (hq : ∀ t tk', Q (.str x t) (St s₀ h tk')) : wpAny (model prog w) A (eval (.Constant (.str x) k pos) env) Q E (St s₀ h tk) := Calls.Constant_str (hq _ _)
theorem b_add {a b : Int} {t u : Tok} (hq : ∀ t tk', Q (.int (a + b) t) (St s₀ h tk')) : wpAny (model prog w) A (binaryOp .Add (.int a t) (.int b u)) Q E (St s₀ h tk) := wpAny_add_int (hq _ _)
theorem b_iadd {a b : Int} {t u : Tok} (hq : ∀ t tk', Q (.int (a + b) t) (St s₀ h tk')) : wpAny (model prog w) A (inplaceOp .Add (.int a t) (.int b u)) Q E (St s₀ h tk) := wpAny_iadd_int (hq _ _)
theorem b_sub {a b : Int} {t u : Tok} (hq : ∀ t tk', Q (.int (a - b) t) (St s₀ h tk')) : wpAny (model prog w) A (binaryOp .Sub (.int a t) (.int b u)) Q E (St s₀ h tk) := sub_int' (hq _ _)
theorem b_mod {a b : Int} {t u : Tok} (hb : 0 < b) (hq : ∀ t tk', Q (.int (a % b) t) (St s₀ h tk')) : wpAny (model prog w) A (binaryOp .Mod (.int a t) (.int b u)) Q E (St s₀ h tk) :=
  mod_int' (by omega) (by rw [Int.fmod_eq_emod_of_nonneg _ (by omega)]; exact hq _ _)
theorem b_neg {a : Int} {t : Tok} (hq : ∀ t tk', Q (.int (-a) t) (St s₀ h tk')) : wpAny (model prog w) A (unaryOp .USub (.int a t)) Q E (St s₀ h tk) := neg_int (hq _ _)

theorem ld {name : Str} {scope : Scope} {a : Addr} {cd : Value} {x : Str} {pos : Pos} {v : Value} (F : Fm g L h m) (hv : m x = some v) (hq : Q v (St s₀ h tk))
    (hk : scope.kind = .function := by rfl) (hl : (envOf name scope L a cd).kindOf x = some .local := by rfl)
    (hd : (x == ("__debug__" : Str)) = false := by decide) :
    wpAny (model prog w) A (eval (.Name x pos) (envOf name scope L a cd)) Q E (St s₀ h tk) := wpAny_Name (wpAny_loadName_local hk hl F.ns hv hq) hd
theorem ldn {name : Str} {scope : Scope} {a : Addr} {cd : Value} {x : Str} {v : Value} (F : Fm g L h m) (hv : m x = some v) (hq : Q v (St s₀ h tk))
    (hk : scope.kind = .function := by rfl) (hl : (envOf name scope L a cd).kindOf x = some .local := by rfl) :
    wpAny (model prog w) A (loadName (envOf name scope L a cd) x) Q E (St s₀ h tk) := wpAny_loadName_local hk hl F.ns hv hq
theorem st {name : Str} {scope : Scope} {a : Addr} {cd : Value} {x : Str} {v : Value} {Q : Unit → Shared → Prop} (F : Fm g L h m)
    (hq : ∀ h' tk', Fm g L h' (upd m x v) → Heap.SameBut L h h' → Q () (St s₀ h' tk'))
    (hk : scope.kind = .function := by rfl) (hl : (envOf name scope L a cd).kindOf x = some .local := by rfl) :
    wpAny (model prog w) A (storeName (envOf name scope L a cd) x v) Q E (St s₀ h tk) :=
  wpAny_storeName_local hl F.ns (fun h' n sb => hq h' _ (F.st n sb) sb) (by show (scope.kind == .class || (scope.kind == .module && L != mainGlobals)) = false; rw [hk]; rfl)
theorem gl {name : Str} {scope : Scope} {a : Addr} {cd : Value} {x : Str} {pos : Pos} {v : Value} (W : Wd mg mb g) (F : Fm g L h m) (hv : mg x = some v) (hq : Q v (St s₀ h tk))
    (hk : scope.kind = .function := by rfl) (hl : (envOf name scope L a cd).kindOf x = some .globalImplicit := by rfl)
    (hd : (x == ("__debug__" : Str)) = false := by decide) :
    wpAny (model prog w) A (eval (.Name x pos) (envOf name scope L a cd)) Q E (St s₀ h tk) := ldg (s := St s₀ h tk) (W.keeps F.keep) hv hq hk hl hd
theorem bl {name : Str} {scope : Scope} {a : Addr} {cd : Value} {x : Str} {pos : Pos} {v : Value} (W : Wd mg mb g) (F : Fm g L h m) (hv : bootBuiltins x = some v) (hq : Q v (St s₀ h tk))
    (hx : x ∈ usedNames := by decide) (hn : x ≠ "__name__" := by decide)
    (hk : scope.kind = .function := by rfl) (hl : (envOf name scope L a cd).kindOf x = some .globalImplicit := by rfl)
    (hd : (x == ("__debug__" : Str)) = false := by decide) :
    wpAny (model prog w) A (eval (.Name x pos) (envOf name scope L a cd)) Q E (St s₀ h tk) := ldb (s := St s₀ h tk) (W.keeps F.keep) hv hq hx hn hk hl hd

theorem item_ints {value slice : PySem.Expr} {P : Addr} {ns : List Int} {k : Int} {u : Tok} {n : Int} (hl : Ints h P ns) (h0 : 0 ≤ k) (hhi : k < 2 ^ 63) (hx : ns[k.toNat]? = some n) (hq : ∀ t, Q (.int n t) (St s₀ h tk))
    (hs : subscripted slice false (.ref P) (.int k u) = operate [.ref P, .int k u] (getItem (.ref P) (.int k u)) := by with_unfolding_all rfl) :
    wpAny (model prog w) A (subscriptTail value slice (.ref P) (.int k u)) Q E (St s₀ h tk) := by
  obtain ⟨vs, h1, h2⟩ := hl
  obtain ⟨t, ht⟩ := ints_at h2 hx
  exact item_litK h1 h0 hhi ht (hq t) hs

/-- range(k, -1, -1), laid and asked for its walk -/
theorem rangeSize_down (k : Nat) : Builtin.Range.rangeSize k (-1) (-1) = k + 1 := by
  unfold Builtin.Range.rangeSize
  simp
  omega
theorem small_down {k : Nat} (hk : k < 2 ^ 62) : Builtin.Range.small k (-1) (-1) = true := by
  unfold Builtin.Range.small
  rw [rangeSize_down, if_neg (by decide)]
  simp only [Builtin.Range.rangeFitsLong, Bool.and_eq_true, Bool.or_eq_true, decide_eq_true_eq, beq_iff_eq]
  omega
theorem range_down {k : Nat} {t u v : Tok} (hk : k < 2 ^ 62) (hq : ∀ h' a, Keep h h' → IsRange h' a k (-1) (-1) t u v → Q (.ref a) (St s₀ h' tk)) :
    wpAny (model prog w) A (call (.type "range") [.int k t, .int (-1) u, .int (-1) v]) Q E (St s₀ h tk) :=
  call_range_3 (by decide) (hq _ _ (Keep.push _ _) (IsRange.new ..)) (Or.inl (PyProof.noPylong_small (by omega)))
theorem iter_down {k : Nat} {t u v : Tok} {r : Addr} (hk : k < 2 ^ 62) (hr : IsRange h r k (-1) (-1) t u v) (hq : ∀ h' a, Keep h h' → h.get? a = none → IsRangeIter h' a k ((k + 1 : Nat) : Int) (-1) → Q (.ref a) (St s₀ h' tk)) :
    wpAny (model prog w) A (pyIter (.ref r)) Q E (St s₀ h tk) :=
  wpAny_pyIter_range hr (small_down hk) (by rw [rangeSize_down]; exact hq _ _ (Keep.push _ _) (Heap.get?_none_of_le (Nat.le_refl _)) (Heap.get?_push_size _ rfl))
end

local macro_rules | `(tactic| walk_at "e") => `(tactic| first
  | ((with_reducible show wpAny _ _ (eval (Expr.Constant (Const.int _) _ _) _) _ _ _); refine c_int ?_; intro _ _)
  | ((with_reducible show wpAny _ _ (eval (Expr.Constant Const.none _ _) _) _ _ _); refine Constant_none ?_)
  | ((with_reducible show wpAny _ _ (eval (Expr.Constant (Const.bool _) _ _) _) _ _ _); refine Constant_bool ?_)
  | ((with_reducible show wpAny _ _ (eval (Expr.Name _ _) _) _ _ _); refine ld (by assumption) (by first | with_unfolding_all rfl | with_unfolding_all assumption) ?_)
  | ((with_reducible show wpAny _ _ (eval (Expr.BinOp _ _ _ _) _) _ _ _); refine wpAny_BinOp ?_)
  | ((with_reducible show wpAny _ _ (eval (Expr.Compare _ _ _ _) _) _ _ _); refine wpAny_Compare1 ?_)
  | ((with_reducible show wpAny _ _ (eval (Expr.IfExp _ _ _ _) _) _ _ _); refine IfExp_ ?_)
  | ((with_reducible show wpAny _ _ (eval (Expr.UnaryOp _ _ _) _) _ _ _); refine UnaryOp_ ?_)
  | ((with_reducible show wpAny _ _ (eval (Expr.Subscript _ _ _) _) _ _ _); refine Subscript_ ?_)
  | ((with_reducible show wpAny _ _ (eval (Expr.Call _ _ _ _) _) _ _ _); refine Call_ ?_)
  | ((with_reducible show wpAny _ _ (eval (Expr.Tuple _ _ _) _) _ _ _); refine Tuple_ ?_)
  | ((with_reducible show wpAny _ _ (eval (Expr.List _ _) _) _ _ _); refine List_ ?_)
  | ((with_reducible show wpAny _ _ (exec (Stmt.Assign _ _ _) _) _ _ _); refine wpAny_Assign_Name ?_)
  | ((with_reducible show wpAny _ _ (exec (Stmt.AugAssign _ _ _ _) _) _ _ _); refine wpAny_AugAssign_Name ?_)
  | ((with_reducible show wpAny _ _ (exec (Stmt.Return (some _) _) _) _ _ _); refine wpAny_Return_some ?_)
  | ((with_reducible show wpAny _ _ (exec (Stmt.If _ _ _ _) _) _ _ _); refine wpAny_If ?_)
  | ((with_reducible show wpAny _ _ (exec (Stmt.For _ _ _ _ _) _) _ _ _); refine wpAny_For ?_)
  | ((with_reducible show wpAny _ _ (exec (Stmt.While _ _ _ _) _) _ _ _); refine wpAny_While ?_)
  | ((with_reducible show wpAny _ _ (execs _ _) _ _ _); refine wpAny_execs_cons ?_)
  | ((with_reducible show wpAny _ _ (isTrue (Expr.Compare _ _ _ _) _ _) _ _ _); refine wpAny_isTrue_Compare1 ?_)
  | ((with_reducible show wpAny _ _ (truthy (Value.bool _)) _ _ _); refine wpAny_truthy_bool ?_)
  | ((with_reducible show wpAny _ _ (spliced (backTo _ (starEach (_ :: _) _))) _ _ _); refine args_cons ?_)
  | ((with_reducible show wpAny _ _ (spliced (backTo _ (starEach [] _))) _ _ _); refine args_nil ?_)
  | ((with_reducible show wpAny _ _ (loadName _ _) _ _ _); refine ldn (by assumption) (by first | with_unfolding_all rfl | with_unfolding_all assumption) ?_)
  | ((with_reducible show wpAny _ _ (binaryOp Operator.Add (Value.int _ _) (Value.int _ _)) _ _ _); refine b_add ?_; intro _ _)
  | ((with_reducible show wpAny _ _ (binaryOp Operator.Sub (Value.int _ _) (Value.int _ _)) _ _ _); refine b_sub ?_; intro _ _)
  | ((with_reducible show wpAny _ _ (binaryOp Operator.Mod (Value.int _ _) (Value.int _ _)) _ _ _); refine b_mod (by decide) ?_; intro _ _)
  | ((with_reducible show wpAny _ _ (inplaceOp Operator.Add (Value.int _ _) (Value.int _ _)) _ _ _); refine b_iadd ?_; intro _ _)
  | ((with_reducible show wpAny _ _ (unaryOp UnaryOp.USub (Value.int _ _)) _ _ _); refine b_neg ?_; intro _ _)
  | ((with_reducible show wpAny _ _ (compareOp CmpOp.Lt (Value.int _ _) (Value.int _ _)) _ _ _); refine lt_int ?_)
  | ((with_reducible show wpAny _ _ (compareOp CmpOp.GtE (Value.int _ _) (Value.int _ _)) _ _ _); refine ge_int ?_)
  | ((with_reducible show wpAny _ _ (compareOp CmpOp.Eq (Value.int _ _) (Value.int _ _)) _ _ _); refine eq_int ?_))

/-- what a symbol takes off -/
def takes (x : Int) : Nat := if x < 256 then 0 else ((x + 2) % 4).toNat
def wt (x : Int) : Int := if x < 256 then 1 else 1 - (x + 2) % 4
theorem wt_eq (x : Int) : wt x = 1 - (takes x : Int) := by unfold wt takes; split <;> omega

/-- the nearest place from which on the weights down from 'k' make one -/
def scanB (ns : List Int) : Nat → Int → Option Nat
  | 0, t => if t + wt (ns.getD 0 0) = 1 then some 0 else none
  | k + 1, t => if t + wt (ns.getD (k + 1) 0) = 1 then some (k + 1) else scanB ns k (t + wt (ns.getD (k + 1) 0))
def beginF (ns : List Int) (k : Nat) : Option Nat := scanB ns k 0

def OptV (r : Option Nat) (v : Value) : Prop := match r with
  | none => v = .none
  | some p => ∃ t, v = .int p t

section
variable {prog : Program} {w : World} {A : Around} {E : Value → Shared → Prop} {s : Shared} {mg mb : Str → Option Value} {Q : Value → Shared → Prop}

theorem begin_call {a P : Addr} {ns : List Int} {k : Nat} {t : Tok} (W : Wd mg mb s.heap) (hh : A.handled = none) (hroom : A.depth < recursionLimit) (fn : mg "_law_begin" = some (.ref a))
    (hP : Ints s.heap P ns) (hk : k < ns.length) (hk63 : k < 2 ^ 62)
    (hq : ∀ v h' tk, Keep s.heap h' → OptV (beginF ns k) v → Q v (St s h' tk)) :
    wpAny (model prog w) A (call (.ref a) [.ref P, .int k t]) Q E s := by
  refine callN (binds := [("part", .ref P), ("last", .int k t)]) hroom W.nolim (W.fn (i := 15) fn) (fun _ _ _ _ _ _ => BindsTo.of_eq rfl) (by decide) rfl (fun cd h₀ n kp => ?_)
  have F := Fm.start n kp
  generalize s.heap.objs.size = L at F ⊢
  generalize s.toks + _ = tk
  iterate 3 walk_at "e"
  refine st F (fun h₁ tk₁ F₁ _ => ?_)
  iterate 3 walk_at "e"
  refine bl W F₁ rfl ?_
  refine PyProof.Rows.callWith_type1 ?_
  repeat walk_at "e"
  refine range_down hk63 (fun h₂ r k₂ hr => ?_)
  refine iter_down hk63 hr (fun h₃ it k₃ hn hit => ?_)
  have F₃ := F₁.keeps (k₂.trans k₃)
  have hgit : s.heap.get? it = none := by
    cases q : s.heap.get? it with
    | none => rfl
    | some o => rw [(F₁.keeps k₂).keep _ _ q] at hn; cases hn
  have hitL : it ≠ L := fun q => by
    obtain ⟨o, _, _, h1, _⟩ := (F₁.keeps k₂).ns
    rw [← q, hn] at h1; cases h1
  clear F F₁ hn k₂ k₃ hr n kp
  refine codeAny_forLoop_any (fun n s' => ∃ (h' : Heap) (tk' : Nat) (m' : Str → Option Value) (T : Int) (tt : Tok), s' = St s h' tk' ∧ Fm s.heap L h' m' ∧ IsRangeIter h' it ((n : Int) - 2) ((n : Int) - 1) (-1) ∧ m' "total" = some (.int T tt) ∧ m' "part" = some (.ref P) ∧
    n ≤ k + 2 ∧ (n = 1 → beginF ns k = none) ∧ 0 < n ∧ ∀ q, n = q + 2 → beginF ns k = scanB ns q T) ?_ (k + 2) ⟨h₃, _, _, 0, _, rfl, F₃, by rw [show ((k + 2 : Nat) : Int) - 2 = k by omega, show ((k + 2 : Nat) : Int) - 1 = (k + 1 : Nat) by omega]; exact hit, rfl, rfl, by omega, by omega, by omega, fun q e => by
      have : q = k := by omega
      subst this; rfl⟩
  rintro n s' ⟨h₄, tk₄, m₄, T, tt, rfl, F₄, hit₄, hT, hPt, hn1, hn2, hn3, hn4⟩
  by_cases hlast : n = 1
  · subst hlast
    refine wpAny_pyNext_range_end hh hit₄ (by decide) (fun h₅ e₅ => ?_)
    refine wpAny_execs_nil ?_
    have F₅ := F₄.ext e₅ hgit hitL
    repeat walk_at "e"
    exact hq _ _ _ F₅.keep (by rw [hn2 rfl]; rfl)
  · obtain ⟨q, rfl⟩ : ∃ q, n = q + 2 := ⟨n - 2, by omega⟩
    refine wpAny_pyNext_range_item hit₄ (by omega) (fun h₅ hit₅ e₅ => ?_)
    have F₅ := F₄.ext e₅.extBut hgit hitL
    refine wpAny_of_eq (a := ()) rfl ?_
    refine wpAny_assign_Name ?_
    have e1 : ((q + 2 : Nat) : Int) - 2 = q := by omega
    rw [e1]
    obtain ⟨x, hx⟩ : ∃ x, ns[q]? = some x := ⟨ns[q]'(by omega), List.getElem?_eq_getElem _⟩
    have hxd : ns.getD q 0 = x := by rw [List.getD_eq_getElem?_getD, hx]; rfl
    refine st F₅ (fun h₆ tk₆ F₆ sb₆ => ?_)
    have hit₆ : IsRangeIter h₆ it (↑(q + 2) - 2 + -1) (↑(q + 2) - 1 - 1) (-1) := sb₆.extBut _ _ hitL hit₅
    -- the end of a turn, whatever the weight's way
    have fin : ∀ (tk : Nat) (h₇ : Heap) (t : Tok) (tq : Tok), Fm s.heap L h₇ (upd (upd m₄ "place" (.int q tq)) "total" (.int (T + wt x) t)) → IsRangeIter h₇ it (↑(q + 2) - 2 + -1) (↑(q + 2) - 1 - 1) (-1) →
        T + wt x ≠ 1 → ∃ m, m < q + 2 ∧ ∃ (h' : Heap) (tk' : Nat) (m' : Str → Option Value) (T : Int) (tt : Tok), St s h₇ tk = St s h' tk' ∧ Fm s.heap L h' m' ∧ IsRangeIter h' it ((m : Int) - 2) ((m : Int) - 1) (-1) ∧ m' "total" = some (.int T tt) ∧ m' "part" = some (.ref P) ∧
    m ≤ k + 2 ∧ (m = 1 → beginF ns k = none) ∧ 0 < m ∧ ∀ q, m = q + 2 → beginF ns k = scanB ns q T := fun tk h₇ t tq F₇ hit₇ hne => by
      refine ⟨q + 1, by omega, h₇, tk, _, T + wt x, t, rfl, F₇, ?_, rfl, hPt, by omega, fun e => ?_, by omega, fun r e => ?_⟩
      · have e1 : ((q + 2 : Nat) : Int) - 2 + -1 = ((q + 1 : Nat) : Int) - 2 := by omega
        have e2 : ((q + 2 : Nat) : Int) - 1 - 1 = ((q + 1 : Nat) : Int) - 1 := by omega
        rw [e1, e2] at hit₇; exact hit₇
      · obtain rfl : q = 0 := by omega
        rw [hn4 0 rfl, scanB, hxd, if_neg hne]
      · obtain rfl : q = r + 1 := by omega
        rw [hn4 (r + 1) rfl, scanB, hxd, if_neg hne]
    repeat walk_at "e"
    refine item_ints (hP.keeps F₆.keep) (by omega) (by omega) (by simpa using hx) (fun _ => ?_)
    repeat walk_at "e"
    by_cases hx2 : x < 256
    · rw [if_pos (by simpa using hx2)]
      repeat walk_at "e"
      rw [show T + 1 = T + wt x by rw [wt, if_pos hx2]]
      refine st F₆ (fun h₇ tk₇ F₇ sb₇ => ?_)
      have fin' := fun tk => fin tk _ _ _ F₇ (sb₇.extBut _ _ hitL hit₆)
      dsimp only
      repeat walk_at "e"
      by_cases h1 : T + wt x = 1
      · rw [if_pos (by simpa using h1)]
        repeat walk_at "e"
        exact hq _ _ _ F₇.keep (by cases q with
          | zero => rw [hn4 0 rfl, scanB, hxd, if_pos h1]; exact ⟨_, rfl⟩
          | succ r => rw [hn4 (r + 1) rfl, scanB, hxd, if_pos h1]; exact ⟨_, rfl⟩)
      · rw [if_neg (by simpa using h1)]
        exact wpAny_execs_nil (wpAny_execs_nil (fin' _ h1))
    · rw [if_neg (by simpa using hx2)]
      repeat walk_at "e"
      refine item_ints (hP.keeps F₆.keep) (by omega) (by omega) (by simpa using hx) (fun _ => ?_)
      repeat walk_at "e"
      rw [show T + (1 - (x + 2) % 4) = T + wt x by rw [wt, if_neg hx2]]
      refine st F₆ (fun h₇ tk₇ F₇ sb₇ => ?_)
      have fin' := fun tk => fin tk _ _ _ F₇ (sb₇.extBut _ _ hitL hit₆)
      dsimp only
      repeat walk_at "e"
      by_cases h1 : T + wt x = 1
      · rw [if_pos (by simpa using h1)]
        repeat walk_at "e"
        exact hq _ _ _ F₇.keep (by cases q with
          | zero => rw [hn4 0 rfl, scanB, hxd, if_pos h1]; exact ⟨_, rfl⟩
          | succ r => rw [hn4 (r + 1) rfl, scanB, hxd, if_pos h1]; exact ⟨_, rfl⟩)
      · rw [if_neg (by simpa using h1)]
        exact wpAny_execs_nil (wpAny_execs_nil (fin' _ h1))
end

/-- all objects but the frame's, as a ledger -/
def snap (h : Heap) (L : Addr) : List (Addr × Obj) := (List.range h.objs.size).filterMap fun a => if a = L then none else (h.get? a).map fun o => (a, o)
theorem mem_snap {h : Heap} {L b : Addr} {o : Obj} : (b, o) ∈ snap h L ↔ b ≠ L ∧ h.get? b = some o := by
  unfold snap
  rw [List.mem_filterMap]
  constructor
  · rintro ⟨a, _, e⟩
    split at e
    · cases e
    · rename_i ne
      cases q : h.get? a with
      | none => rw [q] at e; cases e
      | some o' => rw [q] at e; cases e; exact ⟨ne, q⟩
  · rintro ⟨ne, e⟩
    exact ⟨b, List.mem_range.mpr (Heap.lt_size e), by rw [if_neg ne, e]; rfl⟩
theorem get_nil (b : Addr) : ({} : Heap).get? b = none := rfl
theorem Fm.fr {g h : Heap} {L : Addr} {m} (F : Fm g L h m) : Fr {} L h m ∧ News {} L h (snap h L) :=
  ⟨⟨F.ns, fun b o e => (nomatch e : False).elim, Nat.zero_le _⟩, fun p hp => ⟨(mem_snap.mp hp).2, (mem_snap.mp hp).1, rfl⟩⟩
theorem Fm.ofFr {g h h' : Heap} {L : Addr} {m m'} {l : List (Addr × Obj)} (F : Fm g L h m) (F' : Fr {} L h' m') (N' : News {} L h' l) (hl : ∀ p ∈ snap h L, p ∈ l) :
    ∃ g', Keep g g' ∧ Fm g' L h' m' ∧ ∀ p ∈ l, g'.get? p.1 = some p.2 := by
  refine ⟨h'.hide L, fun b o e => ?_, ⟨F'.ns, fun _ _ e => Heap.of_hide e, Heap.hide_self _ _⟩, fun p hp => (Heap.hide_ne _ (N' p hp).2.1).trans (N' p hp).1⟩
  have q := N' (b, o) (hl _ (mem_snap.mpr ⟨F.ne e, F.keep _ _ e⟩))
  exact (Heap.hide_ne _ q.2.1).trans q.1

/-- nothing is gone -/
def Old (h h' : Heap) : Prop := ∀ b, h'.get? b = none → h.get? b = none
theorem Old.rfl {h : Heap} : Old h h := fun _ e => e
theorem Old.trans {h h' h'' : Heap} (x : Old h h') (y : Old h' h'') : Old h h'' := fun b e => x b (y b e)
theorem Old.keep {h h' : Heap} (k : Keep h h') : Old h h' := fun b e => by
  cases q : h.get? b with
  | none => exact Eq.refl _
  | some o => rw [k _ _ q] at e; cases e
theorem Old.ext {h h' : Heap} {a : Addr} {o : Obj} (k : Heap.ExtBut a h h') (ha : h'.get? a = some o) : Old h h' := fun b e => by
  cases q : h.get? b with
  | none => exact Eq.refl _
  | some o => rw [k b o (fun z => by rw [z, ha] at e; cases e) q] at e; cases e
theorem Old.st {h h' : Heap} {L : Addr} {m} (k : Heap.SameBut L h h') (n : h'.Ns L m) : Old h h' := let ⟨_, _, _, e, _⟩ := n; .ext k.extBut e
/-- a value that was not there -/
def Fresh (h : Heap) (v : Value) : Prop := ∃ z, v = .ref z ∧ h.get? z = none
theorem Fresh.old {h h' : Heap} {v : Value} (x : Fresh h' v) (k : Old h h') : Fresh h v := let ⟨z, e, n⟩ := x; ⟨z, e, k _ n⟩

def Rd (h : Heap) (v : Value) (d : PyData) : Prop := ∃ as, Reads h v d as
def RdAll (h : Heap) (vs : List Value) (ds : List PyData) : Prop := ∃ as, ReadsAll h vs ds as
theorem Rd.int {h : Heap} (i : Int) (t : Tok) : Rd h (.int i t) (.int i) := ⟨_, .int i t⟩
theorem Rd.none {h : Heap} : Rd h .none .none := ⟨_, .none⟩
theorem RdAll.nil {h : Heap} : RdAll h [] [] := ⟨_, .nil⟩
theorem RdAll.cons {h : Heap} {v vs d ds} (x : Rd h v d) (y : RdAll h vs ds) : RdAll h (v :: vs) (d :: ds) := let ⟨_, a⟩ := x; let ⟨_, b⟩ := y; ⟨_, .cons a b⟩
theorem RdAll.inv {h : Heap} {v vs d ds} (x : RdAll h (v :: vs) (d :: ds)) : Rd h v d ∧ RdAll h vs ds := by
  obtain ⟨_, x⟩ := x; cases x with | cons a b => exact ⟨⟨_, a⟩, ⟨_, b⟩⟩
theorem RdAll.append {h : Heap} : ∀ {vs ds ws es}, RdAll h vs ds → RdAll h ws es → RdAll h (vs ++ ws) (ds ++ es)
  | [], [], _, _, _, y => y
  | [], _ :: _, _, _, ⟨_, x⟩, _ => nomatch x
  | _ :: _, [], _, _, ⟨_, x⟩, _ => nomatch x
  | _ :: _, _ :: _, _, _, x, y => .cons x.inv.1 (RdAll.append x.inv.2 y)
theorem RdAll.length {h : Heap} : ∀ {vs ds}, RdAll h vs ds → vs.length = ds.length
  | [], [], _ => rfl
  | [], _ :: _, ⟨_, x⟩ => nomatch x
  | _ :: _, [], ⟨_, x⟩ => nomatch x
  | _ :: _, _ :: _, x => congrArg (· + 1) (RdAll.length x.inv.2)
theorem Rd.tuple {h : Heap} {a : Addr} {vs : List Value} {ds} (x : h.IsTuple a vs.toArray) (y : RdAll h vs ds) : Rd h (.ref a) (.tuple ds) := by
  obtain ⟨o, h1, h2, n, h3⟩ := x; obtain ⟨as, y⟩ := y; exact ⟨_, .tuple h1 h2 h3 y⟩
theorem Rd.list {h : Heap} {a : Addr} {vs : List Value} {ds} (x : h.IsList a vs.toArray) (y : RdAll h vs ds) : Rd h (.ref a) (.list ds) := by
  obtain ⟨o, h1, h2, n, h3⟩ := x; obtain ⟨as, y⟩ := y; exact ⟨_, .list h1 h2 h3 y⟩
theorem Rd.tuple_inv {h : Heap} {v : Value} {ds} (x : Rd h v (.tuple ds)) : ∃ a vs, v = .ref a ∧ h.IsTuple a (List.toArray vs) ∧ RdAll h vs ds := by
  obtain ⟨_, x⟩ := x
  cases x with | tuple h1 h2 h3 h4 => exact ⟨_, _, rfl, ⟨_, h1, h2, _, h3⟩, ⟨_, h4⟩⟩
theorem Rd.list_inv {h : Heap} {v : Value} {ds} (x : Rd h v (.list ds)) : ∃ a vs, v = .ref a ∧ h.IsList a (List.toArray vs) ∧ RdAll h vs ds := by
  obtain ⟨_, x⟩ := x
  cases x with | list h1 h2 h3 h4 => exact ⟨_, _, rfl, ⟨_, h1, h2, _, h3⟩, ⟨_, h4⟩⟩
theorem Rd.int_inv {h : Heap} {v : Value} {i} (x : Rd h v (.int i)) : ∃ t, v = .int i t := by
  obtain ⟨_, x⟩ := x; cases x; exact ⟨_, rfl⟩

mutual
theorem reads_to {h h' : Heap} (k : KeepS h h') : ∀ {d : PyData} {v as}, d.canLay0 = true → Reads h v d as → Reads h' v d as
  | .none, _, _, _, .none => .none
  | .bool _, _, _, _, .bool b => .bool b
  | .int _, _, _, _, .int i t => .int i t
  | .str _, _, _, _, .str x t => .str x t
  | .list xs, _, _, c, .list h1 h2 h3 h4 => .list (k _ _ _ _ h1 h3) h2 h3 (readsAll_to k (by simpa [PyData.canLay0] using c) h4)
  | .tuple xs, _, _, c, .tuple h1 h2 h3 h4 => .tuple (k _ _ _ _ h1 h3) h2 h3 (readsAll_to k (by simpa [PyData.canLay0] using c) h4)
  | .dict _, _, _, c, _ => by simp [PyData.canLay0] at c
theorem readsAll_to {h h' : Heap} (k : KeepS h h') : ∀ {ds : List PyData} {vs as}, PyData.canLayAll0 ds = true → ReadsAll h vs ds as → ReadsAll h' vs ds as
  | [], _, _, _, .nil => .nil
  | d :: ds, _, _, c, .cons a b =>
    have c' : d.canLay0 = true ∧ PyData.canLayAll0 ds = true := by simpa [PyData.canLayAll0] using c
    .cons (reads_to k c'.1 a) (readsAll_to k c'.2 b)
end
theorem Rd.to {h h' : Heap} {v d} (x : Rd h v d) (c : d.canLay0 = true) (k : KeepS h h') : Rd h' v d := let ⟨_, x⟩ := x; ⟨_, reads_to k c x⟩
theorem RdAll.to {h h' : Heap} {vs ds} (x : RdAll h vs ds) (c : PyData.canLayAll0 ds = true) (k : KeepS h h') : RdAll h' vs ds := let ⟨_, x⟩ := x; ⟨_, readsAll_to k c x⟩
theorem Rd.keeps {h h' : Heap} {v d} (x : Rd h v d) (c : d.canLay0 = true) (k : Keep h h') : Rd h' v d := x.to c fun b o _ _ e _ => k b o e
theorem RdAll.keeps {h h' : Heap} {vs ds} (x : RdAll h vs ds) (c : PyData.canLayAll0 ds = true) (k : Keep h h') : RdAll h' vs ds := x.to c fun b o _ _ e _ => k b o e
theorem isTup_keeps {h h' : Heap} {a its} (x : h.IsTuple a its) (k : Keep h h') : h'.IsTuple a its := let ⟨o, h1, h2⟩ := x; ⟨o, k _ _ h1, h2⟩
theorem isList_keeps {h h' : Heap} {a its} (x : h.IsList a its) (k : Keep h h') : h'.IsList a its := let ⟨o, h1, h2⟩ := x; ⟨o, k _ _ h1, h2⟩

section
variable {prog : Program} {w : World} {A : Around} {E : Value → Shared → Prop} {s₀ : Shared} {h : Heap} {tk : Nat} {mg mb : Str → Option Value} {Q : Value → Shared → Prop} {g : Heap} {L : Addr} {m : Str → Option Value} {env : Env}

theorem t_new {vs : List Value} (F : Fm g L h m) (hsz : vs.length ≤ sizeLine) (hq : ∀ g' h' z, Keep g g' → Fm g' L h' m → g'.IsTuple z vs.toArray → Q (.ref z) (St s₀ h' tk)) :
    wpAny (model prog w) A (newTuple vs) Q E (St s₀ h tk) := by
  obtain ⟨g', k, F', e⟩ := F.new { cls := .type "tuple", data := .seq vs.toArray }
  exact wpAny_newObj_type (hq g' _ _ k F' ⟨_, e, rfl, _, rfl⟩) (by show vs.toArray.size ≤ sizeLine; rw [List.size_toArray]; exact hsz)
theorem l_new {vs : List Value} (F : Fm g L h m) (hsz : vs.length ≤ sizeLine) (hq : ∀ g' h' z, Keep g g' → Fm g' L h' m → g'.IsList z vs.toArray → h.get? z = none → Keep h h' → Q (.ref z) (St s₀ h' tk)) :
    wpAny (model prog w) A (newList vs) Q E (St s₀ h tk) := by
  obtain ⟨g', k, F', e⟩ := F.new { cls := .type "list", data := .seq vs.toArray }
  exact wpAny_newObj_type (hq g' _ _ k F' ⟨_, e, rfl, _, rfl⟩ (Heap.get?_none_of_le (Nat.le_refl _)) (Keep.push _ _)) (by show vs.toArray.size ≤ sizeLine; rw [List.size_toArray]; exact hsz)
theorem t_add {x y : Addr} {vs ws : List Value} (F : Fm g L h m) (hx : g.IsTuple x vs.toArray) (hy : g.IsTuple y ws.toArray) (hsz : vs.length + ws.length ≤ sizeLine)
    (hq : ∀ g' h' z, Keep g g' → Fm g' L h' m → g'.IsTuple z (vs ++ ws).toArray → Q (.ref z) (St s₀ h' tk)) :
    wpAny (model prog w) A (binaryOp .Add (.ref x) (.ref y)) Q E (St s₀ h tk) := by
  obtain ⟨R, N⟩ := F.fr
  refine add_tuples (s := St s₀ h tk) R N (isTup_keeps hx F.keep) (isTup_keeps hy F.keep) (fun e => ?_) (fun _ e => ?_) (fun _ _ h' R' N' => ?_) hsz
  · subst e; exact hq g h y Keep.rfl F hy
  · subst e; exact hq g h x Keep.rfl F (by rw [List.append_nil]; exact hx)
  · obtain ⟨g', k, F', e⟩ := F.ofFr R' N' fun p hp => .tail _ hp
    exact hq g' h' _ k F' ⟨_, e _ (.head _), rfl, _, rfl⟩
theorem cw_def {name : Str} {i : Nat} {dV : Value} {a : Addr} {pos : Pos} {e : Expr} {rest : List Expr} {s : Shared} (fn : FnAt g name i dV a)
    (hq : wpAny (model prog w) A (spliced (backTo pos (starEach (e :: rest) env))) (fun vs s₁ => Keep g s₁.heap ∧ wpAny (model prog w) A (call (.ref a) vs) Q E s₁) E s)
    (he : starEach (e :: rest) env = (false, eval e env) :: starEach rest env := by rfl) :
    wpAny (model prog w) A (callWith pos (.ref a) [] (backTo pos (starEach (e :: rest) env)) []) Q E s := by
  obtain ⟨o, kV, doc, pm, an, cdv, ct, h1, h2, h3⟩ := fn
  exact callWith_def h2 (wpAny_mono hq (fun vs s₁ x => ⟨x.1 _ _ h1, x.2⟩) fun _ _ x => x) he
end

/-- the trees that a stretch of symbols makes -/
inductive Segs (ns : List Int) : Nat → Nat → List PyData → Prop
  | nil (b : Nat) : Segs ns b b []
  | snoc {b m e : Nat} {ts ks : List PyData} {x : Int} : Segs ns b m ts → Segs ns m e ks → ns[e]? = some x → takes x = ks.length → Segs ns b (e + 1) (ts ++ [.tuple (.int x :: ks)])
theorem Segs.le {ns : List Int} {b e ts} (x : Segs ns b e ts) : b ≤ e := by
  induction x with
  | nil => omega
  | snoc _ _ _ _ i1 i2 => omega
theorem Segs.len {ns : List Int} {b e ts} (x : Segs ns b e ts) : ts.length ≤ e - b := by
  induction x with
  | nil => simp
  | snoc x y _ _ i1 i2 => have := x.le; have := y.le; simp only [List.length_append, List.length_cons, List.length_nil]; omega
theorem canLayAll_append : ∀ {a b : List PyData}, PyData.canLayAll0 (a ++ b) = (PyData.canLayAll0 a && PyData.canLayAll0 b)
  | [], _ => by simp [PyData.canLayAll0]
  | x :: a, b => by simp [PyData.canLayAll0, canLayAll_append, Bool.and_assoc]
theorem Segs.lay {ns : List Int} {b e ts} (x : Segs ns b e ts) : PyData.canLayAll0 ts = true := by
  induction x with
  | nil => rfl
  | snoc _ _ _ _ i1 i2 => simp [canLayAll_append, i1, PyData.canLayAll0, PyData.canLay0, i2]

theorem getD_of {ns : List Int} {e : Nat} {x : Int} (h : ns[e]? = some x) : ns.getD e 0 = x := by rw [List.getD_eq_getElem?_getD, h]; rfl
/-- scanning down through whole trees -/
theorem scan_through {ns : List Int} {b e ts} (x : Segs ns b e ts) : ∀ T : Int, T + ts.length ≤ 0 → 0 < e → scanB ns (e - 1) T = if b = 0 then none else scanB ns (b - 1) (T + ts.length) := by
  induction x with
  | nil b => intro T hT he; rw [if_neg (by omega)]; simp
  | @snoc b m e ts ks x h1 h2 hx hk i1 i2 =>
    intro T hT he
    have l1 := h1.le
    have l2 := h2.le
    simp only [List.length_append, List.length_cons, List.length_nil] at hT ⊢
    have hw : wt x = 1 - (ks.length : Int) := by rw [wt_eq, hk]
    have hne : ¬ T + wt x = 1 := by rw [hw]; omega
    have one : scanB ns e T = if e = 0 then none else scanB ns (e - 1) (T + wt x) := by
      cases e with
      | zero => rw [scanB, getD_of hx, if_neg hne, if_pos rfl]
      | succ e => rw [scanB, getD_of hx, if_neg hne, if_neg (by omega)]; rfl
    rw [Nat.add_sub_cancel, one]
    by_cases e0 : e = 0
    · subst e0
      obtain rfl : m = 0 := by omega
      obtain rfl : b = 0 := by omega
      simp
    · rw [if_neg e0, i2 _ (by rw [hw]; omega) (by omega)]
      by_cases m0 : m = 0
      · subst m0
        obtain rfl : b = 0 := by omega
        simp
      · rw [if_neg m0, i1 _ (by rw [hw]; omega) (by omega), hw]
        congr 2
        omega
theorem Segs.nil_inv {ns : List Int} {b e} (x : Segs ns b e []) : b = e := by
  generalize q : ([] : List PyData) = l at x
  cases x with
  | nil => rfl
  | snoc => simp at q
theorem scan_hits {ns : List Int} {b e ts} (x : Segs ns b e ts) : ∀ T : Int, T + ts.length = 1 → ts ≠ [] → scanB ns (e - 1) T = some b := by
  induction x with
  | nil b => intro T hT he; exact absurd rfl he
  | @snoc b m e ts ks x h1 h2 hx hk i1 i2 =>
    intro T hT _
    have l1 := h1.le
    have l2 := h2.le
    simp only [List.length_append, List.length_cons, List.length_nil] at hT
    have hw : wt x = 1 - (ks.length : Int) := by rw [wt_eq, hk]
    rw [Nat.add_sub_cancel]
    have one : ¬ T + wt x = 1 → e ≠ 0 → scanB ns e T = scanB ns (e - 1) (T + wt x) := fun hne e0 => by
      cases e with
      | zero => exact absurd rfl e0
      | succ e => rw [scanB, getD_of hx, if_neg hne]; rfl
    have hit : T + wt x = 1 → scanB ns e T = some e := fun h => by
      cases e with
      | zero => rw [scanB, getD_of hx, if_pos h]
      | succ e => rw [scanB, getD_of hx, if_pos h]
    by_cases hks : ks = []
    · subst hks
      obtain rfl := h2.nil_inv
      by_cases hts : ts = []
      · subst hts
        obtain rfl := h1.nil_inv
        refine hit ?_
        simp only [List.length_nil] at hT hw
        omega
      · have : 0 < ts.length := List.length_pos_iff.mpr hts
        have := h1.len
        simp only [List.length_nil] at hw
        rw [one (by omega) (by omega)]
        exact i1 _ (by omega) hts
    · have kp : 0 < ks.length := List.length_pos_iff.mpr hks
      have := h2.len
      by_cases hts : ts = []
      · subst hts
        obtain rfl := h1.nil_inv
        simp only [List.length_nil] at hT
        rw [one (by omega) (by omega)]
        exact i2 _ (by omega) hks
      · have tp : 0 < ts.length := List.length_pos_iff.mpr hts
        have := h1.len
        rw [one (by omega) (by omega), scan_through h2 _ (by omega) (by omega), if_neg (by omega)]
        exact i1 _ (by omega) hts
theorem begin_tree {ns : List Int} {m e ks} {x : Int} (h : Segs ns m e ks) (hx : ns[e]? = some x) (hk : takes x = ks.length) : beginF ns e = some m := by
  have := scan_hits (Segs.snoc (Segs.nil m) h hx hk) 0 (by simp) (by simp)
  simpa [beginF] using this
theorem begin_short {ns : List Int} {e ts} {x : Int} (h : Segs ns 0 e ts) (hx : ns[e]? = some x) (hk : ts.length < takes x) : beginF ns e = none := by
  have hw : wt x = 1 - (takes x : Int) := wt_eq x
  have hne : ¬ 0 + wt x = 1 := by rw [hw]; omega
  unfold beginF
  cases e with
  | zero => rw [scanB, getD_of hx, if_neg hne]
  | succ e =>
    rw [scanB, getD_of hx, if_neg hne]
    have := scan_through h (0 + wt x) (by rw [hw]; omega) (by omega)
    simpa using this

section
variable {prog : Program} {w : World} {mg mb : Str → Option Value}

theorem Segs.snoc_inv {ns : List Int} {b p ts} (x : Segs ns b p ts) (h : b < p) : ∃ m e ts' ks y, p = e + 1 ∧ ts = ts' ++ [.tuple (.int y :: ks)] ∧ Segs ns b m ts' ∧ Segs ns m e ks ∧ ns[e]? = some y ∧ takes y = ks.length := by
  cases x with
  | nil => omega
  | snoc h1 h2 h3 h4 => exact ⟨_, _, _, _, _, rfl, rfl, h1, h2, h3, h4⟩

theorem tree_call : ∀ (n : Nat) {A : Around} {E : Value → Shared → Prop} {Q : Value → Shared → Prop} {s : Shared} {a P : Addr} {ns : List Int} {b e : Nat} {x : Int} {ts : List PyData} {t u : Tok},
    e - b ≤ n → Segs ns b e ts → ns[e]? = some x → Wd mg mb s.heap → A.handled = none → A.depth + n + 2 < recursionLimit → mg "_law_tree" = some (.ref a) → Ints s.heap P ns → ns.length < 2 ^ 20 →
    (∀ v h' tk, Keep s.heap h' → Rd h' v (.tuple (.int x :: ts)) → Q v (St s h' tk)) →
    wpAny (model prog w) A (call (.ref a) [.ref P, .int e t, .int b u]) Q E s := by
  intro n
  induction n using Nat.strongRecOn with
  | ind n ih =>
  intro A E Q s a P ns b e x ts t u hn sg hx W hh hroom fn hP hlen hq
  obtain ⟨ab, hab⟩ : ∃ ab, mg "_law_begin" = some (.ref ab) := let ⟨ab, h1, _⟩ := W.fns ("_law_begin", 15) (by decide); ⟨ab, h1⟩
  have hble := sg.le
  have he : e < ns.length := (List.getElem?_eq_some_iff.mp hx).1
  refine callN (binds := [("part", .ref P), ("last", .int e t), ("begin", .int b u)]) (by omega) W.nolim (W.fn (i := 16) fn) (fun _ _ _ _ _ _ => BindsTo.of_eq rfl) (by decide) rfl (fun cd h₀ nn kp => ?_)
  have F := Fm.start nn kp
  generalize s.heap.objs.size = L at F ⊢
  generalize s.toks + _ = tk
  repeat walk_at "e"
  refine t_new F (by decide) (fun g₁ h₁ z₁ k₁ F₁ hz₁ => ?_)
  refine st F₁ (fun h₂ tk₂ F₂ _ => ?_)
  repeat walk_at "e"
  refine st F₂ (fun h₃ tk₃ F₃ _ => ?_)
  dsimp only
  repeat walk_at "e"
  refine codeAny_whileLoop (fun k s' => ∃ (g' h' : Heap) (tk' : Nat) (m' : Str → Option Value) (p : Nat) (td tr : List PyData) (z : Addr) (tz : Tok), s' = St s h' tk' ∧ Keep s.heap g' ∧ Fm g' L h' m' ∧ m' "part" = some (.ref P) ∧ m' "last" = some (.int e t) ∧ m' "begin" = some (.int b u) ∧
    m' "place" = some (.int ((p : Int) - 1) tz) ∧ m' "trees" = some (.ref z) ∧ Rd g' (.ref z) (.tuple td) ∧ Segs ns b p tr ∧ ts = tr ++ td ∧ PyData.canLayAll0 td = true ∧ p ≤ e ∧ k = p - b) ?_ (e - b)
    ⟨g₁, h₃, tk₃, _, e, [], ts, z₁, _, rfl, k₁, F₃, rfl, rfl, rfl, rfl, rfl, Rd.tuple hz₁ RdAll.nil, sg, by simp, rfl, Nat.le_refl _, rfl⟩
  rintro k s' ⟨g', h', tk', m', p, td, tr, z, tz, rfl, kg, F', m1, m2, m3, m4, m5, hz, sr, hts, hlay, hpe, rfl⟩
  have lr := sr.le
  have hllen : ts.length ≤ e - b := sg.len
  have hdl : td.length ≤ e := by have := congrArg List.length hts; simp only [List.length_append] at this; omega
  have hszl : (2 : Nat) ^ 20 + 2 ≤ sizeLine := by decide
  have W' := W.keeps kg
  repeat walk_at "e"
  by_cases hbp : b < p
  · rw [if_pos (by rw [decide_eq_true_eq]; omega)]
    obtain ⟨mm, e', tr', ks, y, rfl, rfl, s1, s2, hy, hk⟩ := sr.snoc_inv hbp
    have l1 := s1.le
    have l2 := s2.le
    rw [show ((e' + 1 : Nat) : Int) - 1 = e' by omega] at m4
    repeat walk_at "e"
    refine gl W' F' hab ?_
    refine cw_def (W'.fn (i := 15) hab) ?_
    repeat walk_at "e"
    refine ⟨F'.keep, ?_⟩
    refine begin_call (s := St s h' tk') (W'.keeps F'.keep) hh (by show A.depth + 1 < _; omega) hab (hP.keeps (kg.trans F'.keep)) (by omega) (by omega) (fun v h₄ tk₄ k₄ hv => ?_)
    rw [begin_tree s2 hy hk] at hv
    obtain ⟨tv, rfl⟩ := hv
    have F₄ := F'.keeps k₄
    refine st F₄ (fun h₅ tk₅ F₅ _ => ?_)
    dsimp only
    repeat walk_at "e"
    refine gl W' F₅ fn ?_
    refine cw_def (W'.fn (i := 16) fn) ?_
    repeat walk_at "e"
    refine ⟨F₅.keep, ?_⟩
    refine ih (e' - mm) (by omega) (s := St s h₅ tk₅) (Nat.le_refl _) s2 hy (W'.keeps F₅.keep) hh (by show A.depth + 1 + _ + 2 < _; omega) fn (hP.keeps (kg.trans F₅.keep)) hlen (fun v h₆ tk₆ k₆ hv => ?_)
    obtain ⟨g₆, kg₆, F₆, to₆⟩ := F₅.back k₆
    have hv₆ := hv.to (by simp [PyData.canLay0, PyData.canLayAll0, s2.lay]) to₆
    repeat walk_at "e"
    refine t_new F₆ (by simp; omega) (fun g₇ h₇ z₇ k₇ F₇ hz₇ => ?_)
    repeat walk_at "e"
    obtain ⟨z', vz, hz', hzt, hzr⟩ := hz.tuple_inv
    cases hz'
    have kk := kg₆.trans k₇
    refine t_add F₇ hz₇ (isTup_keeps hzt kk) (by have := hzr.length; simp; omega) (fun g₈ h₈ z₈ k₈ F₈ hz₈ => ?_)
    refine st F₈ (fun h₉ tk₉ F₉ _ => ?_)
    dsimp only
    repeat walk_at "e"
    refine st F₉ (fun h₁₀ tk₁₀ F₁₀ _ => ?_)
    refine wpAny_execs_nil ?_
    have c1 : PyData.canLay0 (.tuple (.int y :: ks)) = true := by simp [PyData.canLay0, PyData.canLayAll0, s2.lay]
    refine ⟨mm - b, by omega, g₈, h₁₀, tk₁₀, _, mm, .tuple (.int y :: ks) :: td, tr', z₈, _, rfl, (kg.trans kk).trans k₈, F₁₀, m1, m2, m3, rfl, rfl, ?_, s1, ?_, ?_, by omega, rfl⟩
    · exact Rd.tuple hz₈ (RdAll.cons (hv₆.keeps c1 (k₇.trans k₈)) (hzr.keeps hlay (kk.trans k₈)))
    · rw [hts]; simp
    · rw [PyData.canLayAll0, c1, hlay]; rfl
  · rw [if_neg (by rw [decide_eq_true_eq]; omega)]
    obtain rfl : p = b := by omega
    refine wpAny_execs_nil ?_
    have htr : tr = [] := by have := sr.len; exact List.length_eq_zero_iff.mp (by omega)
    subst htr
    rw [List.nil_append] at hts
    subst hts
    dsimp only
    repeat walk_at "e"
    refine item_ints (hP.keeps (kg.trans F'.keep)) (by omega) (by omega) (by simpa using hx) (fun tx => ?_)
    repeat walk_at "e"
    refine t_new F' (by show 1 ≤ sizeLine; decide) (fun g₇ h₇ z₇ k₇ F₇ hz₇ => ?_)
    repeat walk_at "e"
    obtain ⟨z', vz, hz', hzt, hzr⟩ := hz.tuple_inv
    cases hz'
    refine t_add F₇ hz₇ (isTup_keeps hzt k₇) (by have := hzr.length; simp; omega) (fun g₈ h₈ z₈ k₈ F₈ hz₈ => ?_)
    exact hq _ _ _ ((kg.trans (k₇.trans k₈)).trans F₈.keep) ((Rd.tuple hz₈ (RdAll.cons (Rd.int _ _) (hzr.keeps hlay (k₇.trans k₈)))).keeps (by simp [PyData.canLay0, PyData.canLayAll0, hlay]) F₈.keep)
end

theorem sizeBig : (2 : Nat) ^ 22 ≤ sizeLine := by decide

section
variable {prog : Program} {w : World} {A : Around} {E : Value → Shared → Prop} {s₀ : Shared} {h : Heap} {tk : Nat} {mg mb : Str → Option Value} {Q : Value → Shared → Prop} {g : Heap} {L : Addr} {m : Str → Option Value} {env : Env}

theorem l_add {x y : Addr} {vs ws : List Value} (F : Fm g L h m) (hx : g.IsList x vs.toArray) (hy : g.IsList y ws.toArray) (hsz : vs.length + ws.length ≤ sizeLine)
    (hq : ∀ g' h' z, Keep g g' → Fm g' L h' m → g'.IsList z (vs ++ ws).toArray → h.get? z = none → Q (.ref z) (St s₀ h' tk)) :
    wpAny (model prog w) A (binaryOp .Add (.ref x) (.ref y)) Q E (St s₀ h tk) := by
  obtain ⟨R, N⟩ := F.fr
  refine add_arrays (s := St s₀ h tk) R N (isList_keeps hx F.keep) (isList_keeps hy F.keep) (fun h' R' N' => ?_) (by simpa using hsz)
  obtain ⟨g', k, F', e⟩ := F.ofFr R' N' fun p hp => .tail _ hp
  exact hq g' h' _ k F' ⟨_, e _ (.head _), rfl, _, rfl⟩ (Heap.get?_none_of_le (Nat.le_refl _))

theorem b_iter {s : Shared} {x : Value} (hq : wpAny (model prog w) A.in1 (pyIter x) Q E s) : wpAny (model prog w) A (call (.builtin "iter") [x]) Q E s := by
  refine Calls.call_function_entry (by decide +kernel) (by decide +kernel) kdk_entry_iter (kdk_args_iter _) ?_
  unfold Builtin.«iter»
  refine wpAny_bind (m := someArgs "iter" 1 2 _) (wpAny_of_eq (a := [x]) (by first | rfl | kernel_rfl!) ?_)
  show wpAny _ _ (pyIter x >>= _) _ _ _
  exact wpAny_bind (wpAny_mono hq (fun v s' hv => wpAny_pure ⟨_, rfl, hv⟩) fun _ _ e => e)

theorem iter_list {S : Addr} {its : Array Value} (F : Fm g L h m) (hS : g.IsList S its)
    (hq : ∀ h' I, Keep h h' → Fm g L h' m → h'.IsListIter I S 0 → g.get? I = none → I ≠ L → h.get? I = none → Q (.ref I) (St s₀ h' tk)) : wpAny (model prog w) A (pyIter (.ref S)) Q E (St s₀ h tk) :=
  wpAny_pyIter_list (isList_keeps hS F.keep) (hq _ _ (Keep.push _ _) (F.push _) ⟨_, Heap.get?_push_size _ rfl, rfl, rfl⟩ F.fresh.1 F.fresh.2 (Heap.get?_none_of_le (Nat.le_refl _)))

theorem next_item {I S : Addr} {i : Nat} {its : Array Value} {v : Value} {Q : Option Value → Shared → Prop} (F : Fm g L h m) (hI : h.IsListIter I S i) (hg : g.get? I = none) (hL : I ≠ L) (hS : g.IsList S its) (hv : its[i]? = some v)
    (hq : ∀ h', Fm g L h' m → h'.IsListIter I S (i + 1) → Heap.SameBut I h h' → Q (some v) (St s₀ h' tk)) : wpAny (model prog w) A (pyNext (.ref I)) Q E (St s₀ h tk) :=
  wpAny_pyNext_list_item hI (isList_keeps hS F.keep) hv fun h' hI' sb => hq h' (F.ext sb.extBut hg hL) hI' sb
theorem next_end {I S : Addr} {i : Nat} {its : Array Value} {Q : Option Value → Shared → Prop} (F : Fm g L h m) (hh : A.handled = none) (hI : h.IsListIter I S i) (hg : g.get? I = none) (hL : I ≠ L) (hS : g.IsList S its) (hv : its[i]? = none)
    (hq : ∀ h', Fm g L h' m → Heap.ExtBut I h h' → Q none (St s₀ h' tk)) : wpAny (model prog w) A (pyNext (.ref I)) Q E (St s₀ h tk) :=
  wpAny_pyNext_list_end hh hI (isList_keeps hS F.keep) hv fun h' sb => hq h' (F.ext sb hg hL) sb

/-- next(it), an item -/
theorem call_next_item {s : Shared} {I S : Addr} {i : Nat} {its : Array Value} {x : Value} (hit : s.heap.IsListIter I S i) (hl : s.heap.IsList S its) (hx : its[i]? = some x)
    (hQ : ∀ h', h'.IsListIter I S (i + 1) → Heap.SameBut I s.heap h' → Q x { s with heap := h' }) : wpAny (model prog w) A (call (.builtin "next") [.ref I]) Q E s := by
  obtain ⟨o, ho, hc, hd⟩ := id hit
  obtain ⟨ol, hol, _, nl, hdl⟩ := hl
  refine Calls.call_function_entry (by decide +kernel) (by decide +kernel) kdk_entry_next (kdk_args_next _) ?_
  unfold Builtin.«next»
  refine wpAny_bind (m := someArgs "next" 1 2 _) (wpAny_of_eq (a := [Value.ref I]) (by first | rfl | kernel_rfl!) ?_)
  dsimp only
  refine wpAny_bind (wpAny_specialOf (name := Str.ofString "__next__") hit.typeIs slot_listiter_next.lookup ?_)
  refine wpAny_ite_split (fun hab => absurd hab (by decide)) (fun _ => ?_)
  refine wpAny_bind (wpAny_callSpecial?_slot (name := Str.ofString "__next__") hit.typeIs slot_listiter_next
    (wpAny_call_entry slot_listiter_next hit.typeIs entry_listiter_next ?_ (args_listiter_next _)))
  show wpAny _ _ (field (.ref I) 0 >>= _) _ _ s
  refine wpAny_bind (wpAny_field ho hd (x := .ref S) rfl ?_)
  show wpAny _ _ (if (Value.ref S == Value.none) = true then _ else _) _ _ s
  rw [if_neg (show ¬ ((Value.ref S == Value.none) = true) from Bool.false_ne_true)]
  show wpAny _ _ (field (.ref I) 1 >>= _) _ _ s
  refine wpAny_bind (wpAny_field ho hd (x := .int i 0) rfl ?_)
  show wpAny _ _ (seqItems? (.ref S) >>= _) _ _ s
  refine wpAny_bind (wpAny_seqItems hol hdl ?_)
  simp only [Int.toNat_natCast, hx]
  refine wpAny_bind (wpAny_setField ho hd (by simp) (wpAny_pure ⟨x, rfl, wpAny_pure ⟨_, rfl, hQ _ ?_ (Heap.SameBut.update ..)⟩⟩))
  exact ⟨_, Heap.get?_update_self _ ho (Obj.isFreed_of_fields (Obj.data_mapFields hd _)), (Obj.cls_mapFields ..).trans hc, by
    rw [Obj.data_mapFields hd]; simp [rawInt]⟩
end

section
variable {prog : Program} {w : World} {A : Around} {E : Value → Shared → Prop} {s : Shared} {mg mb : Str → Option Value} {Q : Value → Shared → Prop}

theorem join_call {a : Addr} {x y : Value} {ds es : List PyData} (W : Wd mg mb s.heap) (hroom : A.depth < recursionLimit) (ha : mg "_law_join" = some (.ref a))
    (hx : Rd s.heap x (.list ds)) (hy : Rd s.heap y (.list es)) (cx : PyData.canLayAll0 ds = true) (cy : PyData.canLayAll0 es = true) (hsz : ds.length + es.length ≤ sizeLine)
    (hq : ∀ v h' tk, Keep s.heap h' → Rd h' v (.list (ds ++ es)) → Fresh s.heap v → Q v (St s h' tk)) :
    wpAny (model prog w) A (call (.ref a) [x, y]) Q E s := by
  refine callN (binds := [("left", x), ("right", y)]) hroom W.nolim (W.fn (i := 13) ha) (fun _ _ _ _ _ _ => BindsTo.of_eq rfl) (by decide) rfl (fun cd h₀ n kp => ?_)
  have F := Fm.start n kp
  generalize s.heap.objs.size = L at F ⊢
  generalize s.toks + _ = tk
  obtain ⟨ax, vx, rfl, hx1, hx2⟩ := hx.list_inv
  obtain ⟨ay, vy, rfl, hy1, hy2⟩ := hy.list_inv
  repeat walk_at "e"
  refine l_add F hx1 hy1 (by rw [hx2.length, hy2.length]; exact hsz) (fun g' h' z k' F' hz hf => ?_)
  exact hq _ _ _ (k'.trans F'.keep) ((Rd.list hz ((hx2.keeps cx k').append (hy2.keeps cy k'))).keeps (by simp [PyData.canLay0, canLayAll_append, cx, cy]) F'.keep) ⟨z, rfl, Old.keep F.keep _ hf⟩
end

/-- flat lists -/
def flat : List (List PyData) → List PyData
  | [] => []
  | x :: r => x ++ flat r
def listsOf (l : List (List PyData)) : List PyData := l.map .list
theorem lay_lists : ∀ {l : List (List PyData)}, PyData.canLayAll0 (listsOf l) = true ↔ ∀ x ∈ l, PyData.canLayAll0 x = true
  | [] => by simp [listsOf, PyData.canLayAll0]
  | x :: r => by
    have := lay_lists (l := r)
    simp only [listsOf] at this
    simp [listsOf, PyData.canLayAll0, PyData.canLay0, this]
theorem RdAll.at {h : Heap} : ∀ {vs ds} {i : Nat} {d}, RdAll h vs ds → ds[i]? = some d → ∃ v, vs[i]? = some v ∧ Rd h v d
  | [], [], i, d, _, e => by simp at e
  | [], _ :: _, _, _, ⟨_, x⟩, _ => nomatch x
  | _ :: _, [], _, _, ⟨_, x⟩, _ => nomatch x
  | _ :: _, _ :: _, 0, d, x, e => by simp at e; subst e; exact ⟨_, rfl, x.inv.1⟩
  | _ :: _, _ :: _, i + 1, d, x, e => by simpa using RdAll.at x.inv.2 (by simpa using e)

theorem lay_flat : ∀ {l : List (List PyData)}, (∀ x ∈ l, PyData.canLayAll0 x = true) → PyData.canLayAll0 (flat l) = true
  | [], _ => rfl
  | x :: r, h => by rw [flat, canLayAll_append, h x (.head _), lay_flat fun y hy => h y (.tail _ hy)]; rfl

section
variable {prog : Program} {w : World} {A : Around} {mg mb : Str → Option Value}

/-- the loop of reduce, with _law_join, over a list of lists; then its return -/
theorem reduce_tail {s₀ : Shared} {h : Heap} {tk : Nat} {g : Heap} {L : Addr} {m : Str → Option Value} {cd : Value} {f fj S I : Addr} {vs : List Value} {Q : Flow → Shared → Prop} {l : List (List PyData)} {i : Nat} {v : Value} {ds : List PyData}
    (W : Wd mg mb g) (hh : A.handled = none) (hroom : A.depth + 1 < recursionLimit) (hj : mg "_law_join" = some (.ref fj)) (F : Fm g L h m) (m1 : m "function" = some (.ref fj)) (m2 : m "it" = some (.ref I)) (m3 : m "value" = some v)
    (hI : h.IsListIter I S i) (hg : g.get? I = none) (hL : I ≠ L) (hS : g.IsList S vs.toArray) (hvs : RdAll g vs (listsOf l)) (hl : ∀ x ∈ l, PyData.canLayAll0 x = true) (hv : Rd g v (.list ds)) (hd : PyData.canLayAll0 ds = true) (hi : i ≤ l.length)
    (hsz : ds.length + (flat (l.drop i)).length ≤ sizeLine)
    (hq : ∀ v' g' h' tk, Keep g g' → Keep g' h' → Rd g' v' (.list (ds ++ flat (l.drop i))) → v' = v ∨ Fresh h v' → Q (.ret v') (St s₀ h' tk)) :
    wpAny (model prog w) A (execs ((bodyOf 2).drop 2) (envOf "reduce" (scopeOf 2) L f cd)) Q (fun _ _ => False) (St s₀ h tk) := by
  repeat walk_at "e"
  refine wpAny_pyIter_listiter hI ?_
  have hlen := hvs.length
  simp only [listsOf, List.length_map] at hlen
  refine codeAny_forLoop (fun n s' => ∃ (g' h' : Heap) (tk' : Nat) (m' : Str → Option Value) (j : Nat) (v' : Value) (ds' : List PyData), s' = St s₀ h' tk' ∧ Keep g g' ∧ Fm g' L h' m' ∧ m' "function" = some (.ref fj) ∧ m' "value" = some v' ∧
    h'.IsListIter I S j ∧ g'.get? I = none ∧ Rd g' v' (.list ds') ∧ PyData.canLayAll0 ds' = true ∧ j ≤ l.length ∧ ds ++ flat (l.drop i) = ds' ++ flat (l.drop j) ∧ (v' = v ∨ Fresh h v') ∧ Old h h' ∧ n = l.length + 1 - j) ?_ (l.length + 1 - i)
    ⟨g, h, _, m, i, v, ds, rfl, Keep.rfl, F, m1, m3, hI, hg, hv, hd, hi, rfl, .inl rfl, Old.rfl, rfl⟩
  rintro n s' ⟨g', h', tk', m', j, v', ds', rfl, kg, F', n1, n3, hI', hg', hv', hd', hj', hfl, hfr, hold, rfl⟩
  have hS' := isList_keeps hS kg
  have hvs' := hvs.keeps (lay_lists.mpr hl) kg
  cases hx : l[j]? with
  | none =>
    have hjl : j = l.length := by have := List.getElem?_eq_none_iff.mp hx; omega
    refine next_end F' hh hI' hg' hL hS' (by simpa [hlen] using Nat.le_of_eq hjl.symm) (fun h₁ F₁ _ => ?_)
    refine wpAny_execs_nil ?_
    dsimp only
    repeat walk_at "e"
    rw [hjl, List.drop_length, flat, List.append_nil] at hfl
    exact hq _ _ _ _ kg F₁.keep (by rw [hfl]; exact hv') hfr
  | some x =>
    have hjl : j < l.length := (List.getElem?_eq_some_iff.mp hx).1
    obtain ⟨e, he, hre⟩ := hvs'.at (i := j) (d := .list x) (by simp [listsOf, hx])
    have hdrop : l.drop j = x :: l.drop (j + 1) := by
      rw [List.drop_eq_getElem_cons hjl]
      congr 1
      exact (List.getElem?_eq_some_iff.mp hx).2
    have hxm : PyData.canLayAll0 x = true := hl x (List.mem_of_getElem? hx)
    refine next_item F' hI' hg' hL hS' (by simpa using he) (fun h₁ F₁ hI₁ sb₁ => ?_)
    refine wpAny_assign_Name ?_
    refine st F₁ (fun h₂ tk₂ F₂ sb₂ => ?_)
    have old₂ : Old h h₂ := hold.trans ((Old.ext sb₁.extBut hI₁.choose_spec.1).trans (Old.st sb₂ F₂.ns))
    have hI₂ : h₂.IsListIter I S (j + 1) := hI₁.extBut sb₂.extBut hL
    repeat walk_at "e"
    refine cw_def ((W.keeps kg).fn (i := 13) hj) ?_
    repeat walk_at "e"
    refine ⟨F₂.keep, ?_⟩
    refine join_call (s := St s₀ h₂ tk₂) ((W.keeps kg).keeps F₂.keep) (by omega) hj (hv'.keeps (by simpa [PyData.canLay0] using hd') F₂.keep) (hre.keeps (by simpa [PyData.canLay0] using hxm) F₂.keep) hd' hxm ?_ (fun v₃ h₃ tk₃ k₃ hv₃ fr₃ => ?_)
    · rw [hdrop, flat] at hfl
      have := congrArg List.length hfl
      simp only [List.length_append] at this hsz ⊢
      omega
    · obtain ⟨oI, hI3, hI4, hI5⟩ := hI₂
      obtain ⟨g₃, kg₃, F₃, to₃, off₃⟩ := F₂.backX k₃ hg' hL (k₃ _ _ hI3) hI5
      have cl : PyData.canLayAll0 (ds' ++ x) = true := by rw [canLayAll_append, hd', hxm]; rfl
      refine st F₃ (fun h₄ tk₄ F₄ sb₄ => wpAny_execs_nil ?_)
      refine ⟨l.length + 1 - (j + 1), by omega, g₃, h₄, tk₄, _, j + 1, v₃, ds' ++ x, rfl, kg.trans kg₃, F₄, n1, rfl, ⟨oI, sb₄.extBut _ _ hL (k₃ _ _ hI3), hI4, hI5⟩, off₃, hv₃.to (by simpa [PyData.canLay0] using cl) to₃, cl, hjl, ?_, .inr (fr₃.old old₂), (old₂.trans (Old.keep k₃)).trans (Old.st sb₄ F₄.ns), rfl⟩
      rw [hfl, hdrop, flat, List.append_assoc]

/-- reduce(_law_join, a list of lists, a list) -/
theorem reduce_join {E : Value → Shared → Prop} {Q : Value → Shared → Prop} {s : Shared} {a fj S : Addr} {l : List (List PyData)} {v : Value} {ds : List PyData}
    (W : Wd mg mb s.heap) (hh : A.handled = none) (hroom : A.depth + 2 < recursionLimit) (ha : mg "reduce" = some (.ref a)) (hj : mg "_law_join" = some (.ref fj)) (hS : Rd s.heap (.ref S) (.list (listsOf l))) (hl : ∀ x ∈ l, PyData.canLayAll0 x = true)
    (hv : Rd s.heap v (.list ds)) (hd : PyData.canLayAll0 ds = true) (hsz : ds.length + (flat l).length ≤ sizeLine)
    (hq : ∀ v' h' tk, Keep s.heap h' → Rd h' v' (.list (ds ++ flat l)) → v' = v ∨ Fresh s.heap v' → Q v' (St s h' tk)) :
    wpAny (model prog w) A (call (.ref a) [.ref fj, .ref S, v]) Q E s := by
  obtain ⟨a', T, im, om, r1, r2, r3, r4, r5, r6⟩ := W.red
  obtain rfl : a' = a := by rw [r1] at ha; cases ha; rfl
  obtain ⟨oT, hT1, hT2, nT, hT3⟩ := r3
  refine callN (binds := [("function", .ref fj), ("sequence", .ref S), ("initial", v)]) (by omega) W.nolim r2 (fun _ _ _ _ _ _ => BindsTo.of_defaults rfl hT1 hT3 rfl rfl) (by decide) rfl (fun cd h₀ n kp => ?_)
  have F := Fm.start n kp
  generalize s.heap.objs.size = L at F ⊢
  generalize s.toks + _ = tk
  obtain ⟨S', vs, e, hS1, hS2⟩ := hS.list_inv
  cases e
  obtain ⟨v0, vv, rfl, hv1, hv2⟩ := hv.list_inv
  repeat walk_at "e"
  refine bl W F boot_iter ?_
  refine PyProof.Rows.callWith_builtin1 ?_
  repeat walk_at "e"
  refine b_iter ?_
  refine iter_list F hS1 (fun h₁ I k₁ F₁ hI hgI hIL _ => ?_)
  refine st F₁ (fun h₂ tk₂ F₂ sb₂ => ?_)
  have hI₂ := hI.extBut sb₂.extBut hIL
  dsimp only
  repeat walk_at "e"
  refine gl W F₂ r4 ?_
  obtain ⟨ov, hov1, hov2, _⟩ := hv1
  refine wpAny_is_ref_other (fun q => ?_) (F₂.keep _ _ hov1) (F₂.keep _ _ r5) (by rw [hov2]; decide) ?_
  · rw [q, r5] at hov1; rw [← Option.some.inj hov1, r6] at hov2; exact absurd hov2 (by decide)
  refine wpAny_truthy_bool ?_
  rw [if_neg (by decide)]
  repeat walk_at "e"
  refine st F₂ (fun h₃ tk₃ F₃ sb₃ => wpAny_execs_nil ?_)
  dsimp only
  refine reduce_tail (l := l) (i := 0) W hh (by show A.depth + 1 + 1 < _; omega) hj F₃ rfl rfl rfl (hI₂.extBut sb₃.extBut hIL) hgI hIL hS1 hS2 hl hv hd (by omega) (by simpa using hsz) (fun v g' h' tk' kg kh hr hf => ?_)
  refine hq _ _ _ (kg.trans kh) ((hr.keeps ?_ kh)) (hf.imp id fun x => x.old (Old.keep F₃.keep))
  simp only [PyData.canLay0, canLayAll_append, hd, Bool.true_and]
  exact lay_flat hl
end

section
variable {prog : Program} {w : World} {A : Around} {E : Value → Shared → Prop} {s₀ : Shared} {h : Heap} {tk : Nat} {mg mb : Str → Option Value} {Q : Value → Shared → Prop} {g : Heap} {L : Addr} {m : Str → Option Value} {env : Env}

theorem slice_ops {p : Pos} {lo up : Option Expr} {t sl : Addr} : subscripted (.Slice lo up none p) false (.ref t) (.ref sl) = operate [.ref sl, .ref t] (getItem (.ref t) (.ref sl)) := by with_unfolding_all rfl

theorem t_from {value : Expr} {lo up : Option Expr} {p : Pos} {t : Addr} {vs : List Value} {a : Nat} {u : Tok} (F : Fm g L h m) (ht : g.IsTuple t vs.toArray) (h1 : 1 ≤ a) (ha : a ≤ vs.length) (hsz : vs.length ≤ sizeLine)
    (hq : ∀ g' h' z, Keep g g' → Fm g' L h' m → g'.IsTuple z (vs.drop a).toArray → Q (.ref z) (St s₀ h' tk)) :
    wpAny (model prog w) A (subscriptTail value (.Slice lo up none p) (.ref t) (.ref h.objs.size)) Q E (St s₀ (h.push { cls := .type "slice", data := .fields #[.int a u, .none, .none] }) tk) := by
  have F₁ := F.push { cls := .type "slice", data := .fields #[.int a u, .none, .none] }
  have ht' := isTup_keeps ht F₁.keep
  refine tail_any (s := St s₀ (h.push { cls := .type "slice", data := .fields #[.int a u, .none, .none] }) tk) (T := "tuple") (let ⟨o, h1, h2, _⟩ := ht'; ⟨o, h1, h2⟩) slot_tuple_getitem.lookup (getItem_tuple_from ht' (Heap.IsSliceOf.new ..) h1 (by simpa using ha) ?_ (by simpa using hsz)) slice_ops
  obtain ⟨g', k, F', e⟩ := F₁.new { cls := .type "tuple", data := .seq (vs.drop a).toArray }
  exact hq g' _ _ k F' ⟨_, e, rfl, _, rfl⟩

theorem l_slice {value : Expr} {lo up : Option Expr} {p : Pos} {t : Addr} {vs ws : List Value} {vl vu : Value} {l u : Option Int} (F : Fm g L h m) (ht : g.IsList t vs.toArray) (pl : IsPart vl l) (pu : IsPart vu u) (hsz : vs.length ≤ sizeLine)
    (hw : slicePick vs.toArray l u none = ws.toArray)
    (hq : ∀ g' h' z, Keep g g' → Fm g' L h' m → g'.IsList z ws.toArray → Q (.ref z) (St s₀ h' tk)) :
    wpAny (model prog w) A (subscriptTail value (.Slice lo up none p) (.ref t) (.ref h.objs.size)) Q E (St s₀ (h.push { cls := .type "slice", data := .fields #[vl, vu, .none] }) tk) := by
  have F₁ := F.push { cls := .type "slice", data := .fields #[vl, vu, .none] }
  have ht' := isList_keeps ht F₁.keep
  refine tail_any (s := St s₀ (h.push { cls := .type "slice", data := .fields #[vl, vu, .none] }) tk) (T := "list") (let ⟨o, h1, h2, _⟩ := ht'; ⟨o, h1, h2⟩) slot_list_getitem.lookup (wpAny_getItem_list_slice ht' (Heap.IsSliceOf.new ..) pl pu .none (by simp) ?_ (by simpa using hsz)) slice_ops
  rw [hw]
  obtain ⟨g', k, F', e⟩ := F₁.new { cls := .type "list", data := .seq ws.toArray }
  exact hq g' _ _ k F' ⟨_, e, rfl, _, rfl⟩

theorem iter_tuple {S : Addr} {its : Array Value} (F : Fm g L h m) (hS : g.IsTuple S its)
    (hq : ∀ h' I, Keep h h' → Fm g L h' m → h'.IsTupleIter I S 0 → g.get? I = none → I ≠ L → h.get? I = none → Q (.ref I) (St s₀ h' tk)) : wpAny (model prog w) A (pyIter (.ref S)) Q E (St s₀ h tk) :=
  wpAny_pyIter_tuple (isTup_keeps hS F.keep) (hq _ _ (Keep.push _ _) (F.push _) ⟨_, Heap.get?_push_size _ rfl, rfl, rfl⟩ F.fresh.1 F.fresh.2 (Heap.get?_none_of_le (Nat.le_refl _)))
end

local macro_rules | `(tactic| walk_at "e") => `(tactic| first
  | ((with_reducible show wpAny _ _ (eval (Expr.Slice _ _ _ _) _) _ _ _); refine wpAny_Slice ?_)
  | ((with_reducible show wpAny _ _ (evalPart (some _) _) _ _ _); show wpAny _ _ (eval _ _) _ _ _)
  | ((with_reducible show wpAny _ _ (evalPart none _) _ _ _); refine wpAny_pure ?_)
  | ((with_reducible show wpAny _ _ (isTrue (Expr.Call _ _ _ _) _ _) _ _ _); refine isTrue_plain ?_))

section
variable {prog : Program} {w : World} {A : Around} {E : Value → Shared → Prop} {s : Shared} {mg mb : Str → Option Value} {Q : Value → Shared → Prop}

theorem ister_call {a : Addr} {i : Int} {t : Tok} (W : Wd mg mb s.heap) (hroom : A.depth < recursionLimit) (ha : mg "ISTERMINAL" = some (.ref a))
    (hq : ∀ h' tk, Keep s.heap h' → Q (.bool (decide (i < 256))) (St s h' tk)) : wpAny (model prog w) A (call (.ref a) [.int i t]) Q E s := by
  refine callN (binds := [("x", .int i t)]) hroom W.nolim (W.fn (i := 6) ha) (fun _ _ _ _ _ _ => BindsTo.of_eq rfl) (by decide) rfl (fun cd h₀ n k => ?_)
  have F := Fm.start n k
  generalize s.heap.objs.size = L at F ⊢
  generalize s.toks + _ = tk
  obtain ⟨te, he⟩ := W.nto
  repeat walk_at "e"
  refine gl W F he ?_
  repeat walk_at "e"
  exact hq _ _ F.keep
theorem isnon_call {a : Addr} {i : Int} {t : Tok} (W : Wd mg mb s.heap) (hroom : A.depth < recursionLimit) (ha : mg "ISNONTERMINAL" = some (.ref a))
    (hq : ∀ h' tk, Keep s.heap h' → Q (.bool (decide (256 ≤ i))) (St s h' tk)) : wpAny (model prog w) A (call (.ref a) [.int i t]) Q E s := by
  refine callN (binds := [("x", .int i t)]) hroom W.nolim (W.fn (i := 7) ha) (fun _ _ _ _ _ _ => BindsTo.of_eq rfl) (by decide) rfl (fun cd h₀ n k => ?_)
  have F := Fm.start n k
  generalize s.heap.objs.size = L at F ⊢
  generalize s.toks + _ = tk
  obtain ⟨te, he⟩ := W.nto
  repeat walk_at "e"
  refine gl W F he ?_
  repeat walk_at "e"
  exact hq _ _ F.keep
end

def wordD (ws : List Int) : PyData := .list (ws.map .int)

mutual
/-- the word of a tree, and how deep it may be -/
inductive TreeW : Nat → PyData → List Int → Prop
  | leaf {n : Nat} {x : Int} {ks : List PyData} : x < 256 → TreeW n (.tuple (.int x :: ks)) [x]
  | node {n : Nat} {x : Int} {ks : List PyData} {wss : List (List Int)} : ¬ x < 256 → ks.length ≤ 2 ^ 20 → wss.flatten.length ≤ 2 ^ 20 → TreesW n ks wss → TreeW (n + 1) (.tuple (.int x :: ks)) wss.flatten
inductive TreesW : Nat → List PyData → List (List Int) → Prop
  | nil {n : Nat} : TreesW n [] []
  | cons {n : Nat} {t : PyData} {ws : List Int} {ts wss} : TreeW n t ws → TreesW n ts wss → TreesW n (t :: ts) (ws :: wss)
end
theorem TreesW.length : ∀ {n ts wss}, TreesW n ts wss → ts.length = wss.length
  | _, _, _, .nil => rfl
  | _, _, _, .cons _ r => congrArg (· + 1) r.length
theorem TreesW.at : ∀ {n ts wss} {i : Nat} {t}, TreesW n ts wss → ts[i]? = some t → ∃ ws, wss[i]? = some ws ∧ TreeW n t ws
  | _, _, _, _, _, .nil, e => by simp at e
  | _, _, _, 0, _, .cons a _, e => by simp at e; subst e; exact ⟨_, rfl, a⟩
  | _, _, _, i + 1, _, .cons _ r, e => by simpa using r.at (by simpa using e)
theorem lay_at : ∀ {ds : List PyData} {i : Nat} {d}, PyData.canLayAll0 ds = true → ds[i]? = some d → d.canLay0 = true
  | [], _, _, _, e => by simp at e
  | x :: r, i, d, c, e => by
    have c' : x.canLay0 = true ∧ PyData.canLayAll0 r = true := by simpa [PyData.canLayAll0] using c
    cases i with
    | zero => simp at e; subst e; exact c'.1
    | succ i => exact lay_at c'.2 (by simpa using e)
theorem lay_ints : ∀ ws : List Int, PyData.canLayAll0 (ws.map .int) = true
  | [] => rfl
  | _ :: r => by simp [PyData.canLayAll0, PyData.canLay0, lay_ints r]
theorem RdAll.ints {h h' : Heap} : ∀ {vs : List Value} {ws : List Int}, RdAll h vs (ws.map .int) → RdAll h' vs (ws.map .int)
  | [], [], _ => .nil
  | [], _ :: _, ⟨_, x⟩ => nomatch x
  | _ :: _, [], ⟨_, x⟩ => nomatch x
  | _ :: _, i :: _, x => by
    obtain ⟨t, rfl⟩ := Rd.int_inv x.inv.1
    exact .cons (.int i t) (RdAll.ints x.inv.2)
theorem rdAll_of {h : Heap} : ∀ {vs : List Value} {ds : List PyData}, vs.length = ds.length → (∀ (i : Nat) d, ds[i]? = some d → ∃ v, vs[i]? = some v ∧ Rd h v d) → RdAll h vs ds
  | [], [], _, _ => .nil
  | [], _ :: _, e, _ => by simp at e
  | _ :: _, [], e, _ => by simp at e
  | v :: vs, d :: ds, e, k => by
    obtain ⟨v', h1, h2⟩ := k 0 d rfl
    simp at h1; subst h1
    exact .cons h2 (rdAll_of (by simpa using e) fun i d' h' => by simpa using k (i + 1) d' (by simpa using h'))

section
variable {prog : Program} {w : World} {A : Around} {E : Value → Shared → Prop} {s₀ : Shared} {h : Heap} {tk : Nat} {mg mb : Str → Option Value} {Q : Value → Shared → Prop} {g : Heap} {L : Addr} {m : Str → Option Value} {env : Env}

theorem ldE {x : Str} {pos : Pos} {v : Value} (n : h.Ns env.locals m) (hv : m x = some v) (hq : Q v (St s₀ h tk)) (hk : env.scope.kind = .function) (hl : env.kindOf x = some .local) (hd : (x == ("__debug__" : Str)) = false) :
    wpAny (model prog w) A (eval (.Name x pos) env) Q E (St s₀ h tk) := wpAny_Name (wpAny_loadName_local hk hl n hv hq) hd
theorem glE {x : Str} {pos : Pos} {v : Value} (W : Wd mg mb h) (hgl : env.globals = mainGlobals) (hv : mg x = some v) (hq : Q v (St s₀ h tk)) (hk : env.scope.kind = .function) (hl : env.kindOf x = some .globalImplicit) (hd : (x == ("__debug__" : Str)) = false) :
    wpAny (model prog w) A (eval (.Name x pos) env) Q E (St s₀ h tk) := Calls.Name_function_global hk hl (Calls.loadGlobal_global (env := env) (by rw [hgl]; exact W.g) hv hq) hd
theorem stE {x : Str} {v : Value} {Q : Unit → Shared → Prop} (n : h.Ns env.locals m)
    (hq : ∀ h' tk', h'.Ns env.locals (upd m x v) → Heap.SameBut env.locals h h' → Q () (St s₀ h' tk')) (hk : env.scope.kind = .function) (hl : env.kindOf x = some .local) :
    wpAny (model prog w) A (storeName env x v) Q E (St s₀ h tk) :=
  wpAny_storeName_local hl n (fun h' n sb => hq h' _ n sb) (by rw [hk]; rfl)

/-- [_law_word(x) for x in a tuple of trees], from its walk on -/
theorem comp_wordG {aw T : Addr} {x : Str} {p1 p2 p3 px pos : Pos} {iter : Expr} {sc sc' : Scope} {n : Nat} {vs : List Value} {ts : List PyData} {wss : List (List Int)} {RR : Value → Env → Result → Shared → Prop}
    (hk0 : sc.kind = .function) (hk : sc'.kind = .function) (hx : sc'.names.lookup x = some .local) (hwk : sc'.names.lookup ("_law_word" : Str) = some .globalImplicit) (hcell : ∀ y ∈ sc.names, y.2 ≠ .cell) (hgl : env.globals = mainGlobals) (hxd : (x == ("__debug__" : Str)) = false)
    (hh : A.handled = none) (W : Wd mg mb g) (haw : mg "_law_word" = some (.ref aw)) (F : Fm g L h m) (hT : g.IsTuple T vs.toArray) (hvs : RdAll g vs ts) (hts : TreesW n ts wss) (hlay : PyData.canLayAll0 ts = true) (hlen : ts.length ≤ 2 ^ 20)
    (hw : ∀ (s : Shared) (v : Value) (t : PyData) (ws : List Int) (Q : Value → Shared → Prop) (E : Value → Shared → Prop), Wd mg mb s.heap → TreeW n t ws → t.canLay0 = true → Rd s.heap v t →
      (∀ v' h' tk, Keep s.heap h' → Rd h' v' (wordD ws) → Fresh s.heap v' → Q v' (St s h' tk)) → wpAny (model prog w) A (call (.ref aw) [v]) Q E s)
    (hRR : ∀ acc (cenv : Env) h' tk' mC, h'.Ns cenv.locals mC → h.get? cenv.locals = none → Keep h h' → Rd h' (.ref acc) (.list (wss.map wordD)) → RR (.ref acc) cenv (.ok .next) (St s₀ h' tk')) :
    wpAny (model prog w) A (pyIter (.ref T)) (fun it s₂ => wpAny (model prog w) A (newList []) (fun acc s₃ =>
      wpAny (model prog w) A (newFunctionEnv sc env.globals [] [] env.qual none .none (some env)) (fun cenv s₄ =>
        codeAny (model prog w) A (.compStart (.ListComp (.Call (.Name "_law_word" p1) [.Name x p2] [] p3) [⟨.Name x px, iter, [], 0⟩] sc pos) 0 it acc { cenv with scope := sc' }) (RR acc cenv) s₄) E s₃) E s₂) E (St s₀ h tk) := by
  refine iter_tuple F hT (fun h₁ I k₁ F₁ hI hgI hIL hnI => ?_)
  refine l_new F₁ (by simp) (fun g₂ h₂ acc kg₂ F₂ hacc hnacc k₂ => ?_)
  have hacc₂ := isList_keeps hacc F₂.keep
  obtain ⟨oI, hI1, hI2, hI3⟩ := hI
  have hIacc : I ≠ acc := fun q => by rw [← q, hI1] at hnacc; cases hnacc
  refine wpAny_newFunctionEnv hcell (fun y hy => nomatch hy) (fun h₃ n₃ sb₃ => ?_) hk0
  dsimp only [newEnv, St] at n₃ sb₃ ⊢
  have hnC : h₂.get? h₂.objs.size = none := Heap.get?_none_of_le (Nat.le_refl _)
  have k₃ : Keep h₂ h₃ := fun b o e => sb₃.extBut b o (Nat.ne_of_lt (Heap.lt_size e)) (Heap.get?_push_of_some _ e)
  generalize h₂.objs.size = C at n₃ sb₃ hnC ⊢
  have hIC : I ≠ C := fun q => by rw [← q, k₂ _ _ hI1] at hnC; cases hnC
  have haC : acc ≠ C := fun q => by obtain ⟨o, e, _⟩ := hacc₂; rw [← q, e] at hnC; cases hnC
  generalize hcenv : ({ scope := sc', locals := C, globals := env.globals, cells := [], qual := env.qual, func := none, code := env.code, frame := env.frame, builtins := env.builtins } : Env) = cenv
  have ek : cenv.scope.kind = .function := by rw [← hcenv]; exact hk
  have ex : cenv.kindOf x = some .local := by rw [← hcenv]; exact hx
  have ewk : cenv.kindOf "_law_word" = some .globalImplicit := by rw [← hcenv]; exact hwk
  have eg : cenv.globals = mainGlobals := by rw [← hcenv]; exact hgl
  have el : cenv.locals = C := by rw [← hcenv]
  have hvl := hvs.length
  have htl := hts.length
  -- the loop
  have loop : codeAny (model prog w) A (.compLoop (.ListComp (.Call (.Name "_law_word" p1) [.Name x p2] [] p3) [⟨.Name x px, iter, [], 0⟩] sc pos) 0 (.ref I) (.ref acc) cenv)
      (RR (.ref acc) { scope := sc, locals := C, globals := env.globals, cells := [], qual := env.qual, func := none, code := env.code, frame := env.frame, builtins := env.builtins }) (St s₀ h₃ tk) := by
    refine codeAny_compLoop_list (fun k s' => ∃ (h' : Heap) (tk' : Nat) (mC : Str → Option Value) (i : Nat) (items : List Value), s' = St s₀ h' tk' ∧ Keep h h' ∧ h'.Ns C mC ∧ h'.IsTupleIter I T i ∧ h'.IsList acc items.toArray ∧ items.length = i ∧
      (∀ (j : Nat) ws, j < i → wss[j]? = some ws → ∃ z, items[j]? = some (.ref z) ∧ z ≠ acc ∧ Rd h' (.ref z) (wordD ws)) ∧ i ≤ ts.length ∧ k = ts.length + 1 - i) ?_ (ts.length + 1)
      ⟨h₃, _, _, 0, [], rfl, (k₁.trans k₂).trans k₃, n₃, ⟨oI, k₃ _ _ (k₂ _ _ hI1), hI2, hI3⟩, isList_keeps hacc₂ k₃, rfl, fun j ws hj => by omega, by omega, rfl⟩
    rintro k s' ⟨h', tk', mC, i, items, rfl, kh, nC, hI', hacc', hil, hws, hi, rfl⟩
    have Fg : Keep g h' := F.keep.trans kh
    cases ht : ts[i]? with
    | none =>
      have hie : i = ts.length := by have := List.getElem?_eq_none_iff.mp ht; omega
      refine wpAny_pyNext_tuple_end hh hI' (isTup_keeps hT Fg) (by simpa [hvl] using Nat.le_of_eq hie.symm) (fun h₄ e₄ => ?_)
      have hCn : h.get? C = none := by
        cases q : h.get? C with
        | none => rfl
        | some o => have := k₂ _ _ (k₁ _ _ q); rw [hnC] at this; cases this
      have kh₄ : Keep h h₄ := fun b o e => e₄ b o (fun q => by rw [q, hnI] at e; cases e) (kh b o e)
      have s4 : KeepS h' h₄ := fun b o vs n e hd => e₄ b o (fun q => by
          obtain ⟨o', q1, _, q2⟩ := hI'
          rw [q] at e; have e' := q1.symm.trans e; rw [← Option.some.inj e', q2] at hd; cases hd) e
      obtain ⟨oa, ha1, ha2, na, ha3⟩ := hacc'
      refine hRR acc _ h₄ _ mC (nC.extBut e₄ (Ne.symm hIC)) hCn kh₄ ?_
      refine Rd.list (vs := items) ⟨oa, s4 _ _ _ _ ha1 ha3, ha2, na, ha3⟩ (rdAll_of (by simp [hil, hie, htl]) fun j d hd => ?_)
      have hjl : j < wss.length := by
        have := (List.getElem?_eq_some_iff.mp hd).1
        simpa using this
      obtain ⟨ws, hws'⟩ : ∃ ws, wss[j]? = some ws := ⟨wss[j], List.getElem?_eq_getElem _⟩
      obtain ⟨z, hz1, hz2, hz3⟩ := hws j ws (by omega) hws'
      simp only [List.getElem?_map, hws', Option.map_some, Option.some.injEq] at hd
      subst hd
      exact ⟨_, hz1, hz3.to (by simp [wordD, PyData.canLay0, lay_ints]) s4⟩
    | some t =>
      have hit : i < ts.length := (List.getElem?_eq_some_iff.mp ht).1
      obtain ⟨v, hv, hrv⟩ := hvs.at ht
      obtain ⟨ws, hws1, htw⟩ := hts.at ht
      refine wpAny_pyNext_tuple_item hI' (isTup_keeps hT Fg) (by simpa using hv) (fun h₄ hI₄ sb₄ => ?_)
      have nC₄ := nC.sameBut sb₄ (Ne.symm hIC)
      refine wpAny_assign_Name ?_
      refine stE (by rw [el]; exact nC₄) (fun h₅ tk₅ n₅ sb₅ => ?_) ek ex
      rw [el] at n₅ sb₅
      have kh₅ : Keep h h₅ := fun b o e => sb₅.extBut b o (fun q => by rw [q] at e; exact absurd (k₂ _ _ (k₁ _ _ e)) (by rw [hnC]; simp)) (sb₄.extBut b o (fun q => by rw [q, hnI] at e; cases e) (kh b o e))
      have s5 : KeepS h' h₅ := fun b o vs n e hd => sb₅.extBut b o (fun q => by
          obtain ⟨o', es, ep, q1, q2, _⟩ := nC
          rw [q, q1] at e; rw [← Option.some.inj e, q2] at hd; cases hd) (sb₄.extBut b o (fun q => by
          obtain ⟨o', q1, _, q2⟩ := hI'
          rw [q] at e; have e' := q1.symm.trans e; rw [← Option.some.inj e', q2] at hd; cases hd) e)
      have W₅ := W.keeps (F.keep.trans kh₅)
      refine Call_ ?_
      refine glE W₅ eg haw ?_ ek ewk (by decide)
      refine cw_def (W₅.fn (i := 14) haw) ?_
      refine args_cons ?_
      refine ldE (by rw [el]; exact n₅) (by simp [upd]; rfl) ?_ ek ex hxd
      refine args_nil ?_
      refine ⟨Keep.rfl, ?_⟩
      refine hw (St s₀ h₅ tk₅) v t ws _ _ W₅ htw (lay_at hlay ht) (hrv.keeps (lay_at hlay ht) (F.keep.trans kh₅)) (fun y h₆ tk₆ k₆ hy fy => ?_)
      obtain ⟨zy, rfl, hzn⟩ := fy
      obtain ⟨oa, ha1, ha2, na, ha3⟩ := hacc'
      have ha5 := s5 _ _ _ _ ha1 ha3
      have ha6 := k₆ _ _ ha5
      refine wpAny_list_append (items := items.toArray) ⟨oa, ha6, ha2, na, ha3⟩ (fun h₇ hacc₇ sb₇ => ?_) (by have := sizeBig; simp; omega)
      have hza : zy ≠ acc := fun q => by rw [q] at hzn; rw [show (St s₀ h₅ tk₅).heap.get? acc = _ from ha5] at hzn; cases hzn
      have to₇ : ∀ {z ws}, z ≠ acc → Rd h₆ (.ref z) (wordD ws) → Rd h₇ (.ref z) (wordD ws) := fun {z ws} hz hr => by
        obtain ⟨a', vs', e', h1', h2'⟩ := hr.list_inv
        cases e'
        refine Rd.list (h1'.extBut sb₇.extBut hz) ?_
        exact h2'.ints
      have kh₇ : Keep h h₇ := fun b o e => sb₇.extBut b o (fun q => by rw [q] at e; exact absurd (k₁ _ _ e) (by rw [show h₁.get? acc = none from hnacc]; simp)) (k₆ b o (kh₅ b o e))
      refine ⟨ts.length + 1 - (i + 1), by omega, h₇, tk₆, _, i + 1, items ++ [.ref zy], rfl, kh₇, (n₅.keeps k₆).sameBut sb₇ (Ne.symm haC), ?_, ?_, by simp [hil], fun j ws' hj hws' => ?_, hit, rfl⟩
      · obtain ⟨o4, q1, q2, q3⟩ := hI₄
        exact ⟨o4, sb₇.extBut _ _ hIacc (k₆ _ _ (sb₅.extBut _ _ hIC q1)), q2, q3⟩
      · simpa using hacc₇
      · by_cases hji : j < i
        · obtain ⟨z, hz1, hz2, hz3⟩ := hws j ws' hji hws'
          exact ⟨z, by rw [List.getElem?_append_left (by omega)]; exact hz1, hz2, to₇ hz2 ((hz3.to (by simp [wordD, PyData.canLay0, lay_ints]) s5).keeps (by simp [wordD, PyData.canLay0, lay_ints]) k₆)⟩
        · obtain rfl : j = i := by omega
          rw [hws1] at hws'; cases hws'
          exact ⟨zy, by rw [List.getElem?_append_right (by omega)]; simp [hil], hza, to₇ hza hy⟩
  exact codeAny_compStart_list loop (wpAny_pyIter_tupleiter ⟨oI, k₃ _ _ (k₂ _ _ hI1), hI2, hI3⟩ loop)

theorem comp_word {aw T : Addr} {x : Str} {p1 p2 p3 px pos : Pos} {iter : Expr} {sc : Scope} {n : Nat} {vs : List Value} {ts : List PyData} {wss : List (List Int)}
    (hk : sc.kind = .function) (hx : sc.names.lookup x = some .local) (hwk : sc.names.lookup ("_law_word" : Str) = some .globalImplicit) (hcell : ∀ y ∈ sc.names, y.2 ≠ .cell) (hgl : env.globals = mainGlobals) (hxd : (x == ("__debug__" : Str)) = false)
    (hh : A.handled = none) (W : Wd mg mb g) (haw : mg "_law_word" = some (.ref aw)) (F : Fm g L h m) (hT : g.IsTuple T vs.toArray) (hvs : RdAll g vs ts) (hts : TreesW n ts wss) (hlay : PyData.canLayAll0 ts = true) (hlen : ts.length ≤ 2 ^ 20)
    (hw : ∀ (s : Shared) (v : Value) (t : PyData) (ws : List Int) (Q : Value → Shared → Prop) (E : Value → Shared → Prop), Wd mg mb s.heap → TreeW n t ws → t.canLay0 = true → Rd s.heap v t →
      (∀ v' h' tk, Keep s.heap h' → Rd h' v' (wordD ws) → Fresh s.heap v' → Q v' (St s h' tk)) → wpAny (model prog w) A (call (.ref aw) [v]) Q E s)
    (hq : ∀ g' h' tk' z, Keep g g' → Fm g' L h' m → Rd g' (.ref z) (.list (wss.map wordD)) → Q (.ref z) (St s₀ h' tk')) :
    wpAny (model prog w) A (pyIter (.ref T)) (fun it s₂ => wpAny (model prog w) A (newList []) (fun acc s₃ =>
      wpAny (model prog w) A (newFunctionEnv sc env.globals [] [] env.qual none .none (some env)) (fun cenv s₄ =>
        codeAny (model prog w) A (.compStart (.ListComp (.Call (.Name "_law_word" p1) [.Name x p2] [] p3) [⟨.Name x px, iter, [], 0⟩] sc pos) 0 it acc { cenv with scope := sc })
          (fun r s' => ∃ m, s'.heap.Ns cenv.locals m ∧ ∀ h', Heap.SameBut cenv.locals s'.heap h' →
            match r with | .ok _ => Q acc { s' with heap := h' } | .error x => wpAny (model prog w) A (passOn "comprehension.variables-let-go" x { cenv with scope := sc }) Q E { s' with heap := h' }) s₄) E s₃) E s₂) E (St s₀ h tk) := by
  have lay : PyData.canLay0 (.list (wss.map wordD)) = true := by
    show PyData.canLayAll0 _ = true
    have : wss.map wordD = listsOf (wss.map fun ws => ws.map PyData.int) := by simp [listsOf, wordD]
    rw [this]
    exact lay_lists.mpr fun y hy => by obtain ⟨ws, _, rfl⟩ := List.mem_map.mp hy; exact lay_ints ws
  refine comp_wordG (RR := fun acc cenv r s' => ∃ m, s'.heap.Ns cenv.locals m ∧ ∀ h', Heap.SameBut cenv.locals s'.heap h' →
            match r with | .ok _ => Q acc { s' with heap := h' } | .error x => wpAny (model prog w) A (passOn "comprehension.variables-let-go" x { cenv with scope := sc }) Q E { s' with heap := h' }) hk hk hx hwk hcell hgl hxd hh W haw F hT hvs hts hlay hlen hw (fun acc cenv h' tk' mC nC hn kh hr => ?_)
  refine ⟨mC, nC, fun h₅ sb₅ => ?_⟩
  have kh₅ : Keep h h₅ := fun b o e => sb₅.extBut b o (fun q => by rw [q, hn] at e; cases e) (kh b o e)
  obtain ⟨g₅, kg₅, F₅, to₅⟩ := F.back kh₅
  refine hq g₅ h₅ _ acc kg₅ F₅ ?_
  refine (hr.to lay fun b o vs n e hd => sb₅.extBut b o (fun q => ?_) e).to lay to₅
  obtain ⟨o', es, ep, q1, q2, _⟩ := nC
  rw [q, show h'.get? cenv.locals = _ from q1] at e; rw [← Option.some.inj e, q2] at hd; cases hd
end

section
variable {prog : Program} {w : World} {mg mb : Str → Option Value}

theorem flat_lists : ∀ (wss : List (List Int)), flat (wss.map fun ws => ws.map PyData.int) = wss.flatten.map .int
  | [] => rfl
  | x :: r => by simp [flat, flat_lists r]

theorem item0 {A : Around} {E : Value → Shared → Prop} {Q : Value → Shared → Prop} {s₀ : Shared} {h : Heap} {tk : Nat} {g : Heap} {L : Addr} {m : Str → Option Value} {value slice : Expr} {z : Addr} {v0 : Value} {vs : List Value} {u : Tok} (F : Fm g L h m) (hz : g.IsTuple z (v0 :: vs).toArray) (hq : Q v0 (St s₀ h tk))
    (hs : subscripted slice false (.ref z) (.int 0 u) = operate [.ref z, .int 0 u] (getItem (.ref z) (.int 0 u)) := by with_unfolding_all rfl) :
    wpAny (model prog w) A (subscriptTail value slice (.ref z) (.int 0 u)) Q E (St s₀ h tk) :=
  item_tupleT (isTup_keeps hz F.keep) (by decide) (by decide) (j := 0) (by simp [seqIndex?]) rfl hq hs

theorem word_call : ∀ (n : Nat) {A : Around} {E : Value → Shared → Prop} {Q : Value → Shared → Prop} {s : Shared} {a : Addr} {v : Value} {t : PyData} {ws : List Int}, TreeW n t ws → t.canLay0 = true → Rd s.heap v t → Wd mg mb s.heap → A.handled = none → A.depth + n + 4 < recursionLimit → mg "_law_word" = some (.ref a) →
    (∀ v' h' tk, Keep s.heap h' → Rd h' v' (wordD ws) → Fresh s.heap v' → Q v' (St s h' tk)) →
    wpAny (model prog w) A (call (.ref a) [v]) Q E s := by
  intro n
  induction n using Nat.strongRecOn with
  | ind n ih =>
    intro A E Q s a v t ws hw hlay hrd W hh hroom ha hq
    obtain ⟨ai, hai⟩ : ∃ ab, mg "ISTERMINAL" = some (.ref ab) := let ⟨ab, h1, _⟩ := W.fns ("ISTERMINAL", 6) (by decide); ⟨ab, h1⟩
    obtain ⟨aj, haj⟩ : ∃ ab, mg "_law_join" = some (.ref ab) := let ⟨ab, h1, _⟩ := W.fns ("_law_join", 13) (by decide); ⟨ab, h1⟩
    obtain ⟨x, ks, rfl⟩ : ∃ x ks, t = .tuple (.int x :: ks) := by cases hw <;> exact ⟨_, _, rfl⟩
    have hlk : PyData.canLayAll0 ks = true := by simpa [PyData.canLay0, PyData.canLayAll0] using hlay
    obtain ⟨z, vs, rfl, hz, hvs⟩ := hrd.tuple_inv
    obtain ⟨v0, vs, rfl⟩ : ∃ v0 vs', vs = v0 :: vs' := by cases vs with
      | nil => exact absurd hvs.length (by simp)
      | cons a b => exact ⟨a, b, rfl⟩
    obtain ⟨tx, rfl⟩ := hvs.inv.1.int_inv
    refine callN (binds := [("tree", .ref z)]) (by omega) W.nolim (W.fn (i := 14) ha) (fun _ _ _ _ _ _ => BindsTo.of_eq rfl) (by decide) rfl (fun cd h₀ nn kp => ?_)
    have F := Fm.start nn kp
    generalize s.heap.objs.size = L at F ⊢
    generalize s.toks + _ = tk
    repeat walk_at "e"
    refine gl W F hai ?_
    refine cw_def (W.fn (i := 6) hai) ?_
    repeat walk_at "e"
    refine item0 F hz ?_
    repeat walk_at "e"
    refine ⟨F.keep, ?_⟩
    refine ister_call (s := St s h₀ _) (W.keeps F.keep) (by show A.depth + 1 < _; omega) hai (fun h₁ tk₁ k₁ => ?_)
    have F₁ := F.keeps k₁
    repeat walk_at "e"
    cases hw with
    | leaf hx =>
      rw [if_pos (by simpa using hx)]
      repeat walk_at "e"
      refine item0 F₁ hz ?_
      repeat walk_at "e"
      refine l_new F₁ (by show 1 ≤ sizeLine; decide) (fun g₂ h₂ z₂ kg₂ F₂ hz₂ hn₂ k₂ => ?_)
      exact hq _ _ _ (kg₂.trans F₂.keep) (Rd.list (isList_keeps hz₂ F₂.keep) (.cons (.int x tx) .nil)) ⟨_, rfl, Old.keep F₁.keep _ hn₂⟩
    | @node n _ _ wss hx hkl hwl hts =>
      rw [if_neg (by simpa using hx)]
      refine wpAny_execs_nil ?_
      dsimp only
      repeat walk_at "e"
      obtain ⟨a', T, im, om, r1, r2, r3, r4, r5, r6⟩ := W.red
      refine gl W F₁ r1 ?_
      refine cw_def r2 ?_
      repeat walk_at "e"
      refine gl W F₁ haj ?_
      repeat walk_at "e"
      refine wpAny_ListComp (by decide) rfl (by decide) ?_
      repeat walk_at "e"
      refine t_from F₁ hz (a := 1) (by decide) (by simp) (by have h1 := hvs.inv.2.length; have := sizeBig; rw [List.length_cons, h1]; omega) (fun g₂ h₂ z₂ kg₂ F₂ hz₂ => ?_)
      refine comp_word rfl rfl rfl (by decide) rfl (by decide) hh (W.keeps kg₂) ha F₂ hz₂ (hvs.inv.2.keeps hlk kg₂) hts hlk hkl (fun s' v' t' ws' Q' E' W' htw hlt hrt hq' => ?_) (fun g₃ h₃ tk₃ z₃ kg₃ F₃ hz₃ => ?_)
      · exact ih n (by omega) htw hlt hrt W' hh (by show A.depth + 1 + n + 4 < _; omega) ha hq'
      repeat walk_at "e"
      refine l_new F₃ (by simp) (fun g₄ h₄ z₄ kg₄ F₄ hz₄ hn₄ k₄ => ?_)
      repeat walk_at "e"
      have kk := (kg₂.trans kg₃).trans kg₄
      refine ⟨kk.trans F₄.keep, ?_⟩
      have hls : (wss.map wordD) = listsOf (wss.map fun ws => ws.map PyData.int) := by simp [listsOf, wordD]
      have hl : ∀ y ∈ (wss.map fun ws => ws.map PyData.int), PyData.canLayAll0 y = true := fun y hy => by
        obtain ⟨ws, _, rfl⟩ := List.mem_map.mp hy; exact lay_ints ws
      refine reduce_join (s := St s h₄ _) (l := wss.map fun ws => ws.map PyData.int) (ds := []) (W.keeps (kk.trans F₄.keep)) hh (by show A.depth + 1 + 2 < _; omega) r1 haj ?_ hl (Rd.list (isList_keeps hz₄ F₄.keep) .nil) rfl ?_ (fun v₅ h₅ tk₅ k₅ hv₅ hf₅ => ?_)
      · rw [← hls]
        exact hz₃.keeps (by rw [hls]; simpa [PyData.canLay0] using lay_lists.mpr hl) (kg₄.trans F₄.keep)
      · rw [flat_lists, List.length_map, List.length_nil]; have := sizeBig; omega
      · refine hq _ _ _ ((kk.trans F₄.keep).trans k₅) (by rw [flat_lists, List.nil_append] at hv₅; exact hv₅) ?_
        have o4 : Old s.heap h₄ := Old.keep (kk.trans F₄.keep)
        rcases hf₅ with rfl | hf₅
        · exact ⟨_, rfl, (Old.keep ((kg₂.trans kg₃).trans F₃.keep)) _ hn₄⟩
        · exact hf₅.old o4
end

section
open PySem.Calls PyProof.V PySem.Spec

/-- StopIteration(x), made -/
structure MadeStop (h h' : Heap) (e : Addr) (x : Value) : Prop where
  keeps : Keep h h'
  new : h.get? e = none
  there : ∃ t, h'.get? e = some { cls := .type "StopIteration", data := .fields #[.ref t, .none, .none, .none, .bool false, x] } ∧ h.get? t = none ∧ h'.get? t = some { cls := .type "tuple", data := .seq #[x] }

section
variable {prog : Program} {w : World} {A : Around} {cls own newId initId : String}

theorem stop_new (F : OwsiFacts cls own newId initId) {x : Value} {R : Result → Shared → Prop} {hp : Heap} {g : Array GenState} {d : Drawn} {tk : Nat} {os : OsState}
    (h : R (.ok (.ret (.ref (hp.objs.size + 1)))) ⟨(hp.push { cls := .type "tuple", data := .seq [x].toArray }).push
      { cls := .type cls, data := .fields #[.ref hp.objs.size, .none, .none, .none, .bool false, .none] }, g, d, tk, os⟩) :
    codeAny (model prog w) A (.builtin newId ⟨[.type cls, x], []⟩) R ⟨hp, g, d, tk, os⟩ := by
  have hends := F.ends
  have howner := F.owner
  have hentry := F.entry
  have hsub := F.subOwn
  have hna := F.notAttr
  have hnn := F.notName
  have hmade := F.made
  refine codeAny_builtinAt hentry ?_
  unfold Builtin.«BaseException.__new__»
  refine PySem.wpAt_bind ?_
  show PySem.wpAt _ _ _ (stack >>= _) _ _ _
  refine PySem.wpAt_bind (PySem.wpAt_stack fun p below => PySem.wpAt_of_wpAny ?_)
  wp_walk
  refine PySem.wpAt_of_wpAny ?_
  rw [howner]
  wp_walk
  show R _ _
  rw [Heap.size_push]
  exact h

theorem stop_base {E : Value → Shared → Prop} {s : Shared} {e t0 : Addr} {ob : Obj} {x : Value} {vs : Array Value} {Q : Fin → Shared → Prop} (he : s.heap.get? e = some ob) (hd : ob.data = .fields vs) (h0 : vs[0]? = some (.ref t0))
    (h : Q (.done (.ret .none)) { s with heap := (s.heap.push { cls := .type "tuple", data := .seq [x].toArray }).update e (Obj.mapFields (·.setIfInBounds 0 (.ref s.heap.objs.size))) }) :
    wpAny (model prog w) A (Builtin.«BaseException.__init__» ⟨[.ref e, x], []⟩) Q E s := by
  unfold Builtin.«BaseException.__init__»
  dsimp only
  rw [if_neg (by simp)]
  unfold newTuple Builtin.BaseException.bexcPut
  have hsz : 0 < vs.size := (Array.getElem?_eq_some_iff.mp h0).1
  have he₁ := Heap.get?_push_of_some (h := s.heap) { cls := .type "tuple", data := .seq [x].toArray } he
  refine wpAny_bind (wpAny_newObj_type (wpAny_bind (wpAny_bind (wpAny_field he₁ hd h0 (wpAny_bind (wpAny_setField he₁ hd hsz ?_))))) (by size_fits))
  exact wpAny_letGo (wpAny_pure h)

theorem stop_init (F : OwsiFacts cls own newId initId) {E : Value → Shared → Prop} {s : Shared} {e t0 : Addr} {x : Value} {Q : Value → Shared → Prop}
    (he : s.heap.get? e = some { cls := .type cls, data := .fields #[.ref t0, .none, .none, .none, .bool false, .none] })
    (h : ∀ h', h'.get? e = some { cls := .type cls, data := .fields #[.ref s.heap.objs.size, .none, .none, .none, .bool false, x] } →
      h'.get? s.heap.objs.size = some { cls := .type "tuple", data := .seq #[x] } → (∀ b o, b ≠ e → s.heap.get? b = some o → h'.get? b = some o) → Q .none { s with heap := h' }) :
    wpAny (model prog w) A (call (.builtin initId) [.ref e, x]) Q E s := by
  have hlt := Heap.lt_size he
  have hT : s.TypeIs (.ref e) cls := (show ∃ o, s.heap.get? e = some o ∧ o.cls = .type cls from ⟨_, he, rfl⟩)
  obtain ⟨hp, g, d, tk, os⟩ := s
  refine wpAny_call (codeAny_call_builtin F.init.plain F.initEntry (owsi_check F hT ?_))
  unfold Builtin.«StopIteration.__init__»
  dsimp only
  refine wpAny_bind (wpAny_runValue (codeAny_builtin F.baseEntry (stop_base (x := x) he rfl rfl ?_)))
  have e1 : (((hp.push { cls := .type "tuple", data := .seq [x].toArray }).update e (Obj.mapFields (·.setIfInBounds 0 (.ref hp.objs.size))))).get? e = some { cls := .type cls, data := .fields #[.ref hp.objs.size, .none, .none, .none, .bool false, .none] } := by
    rw [Heap.get?_update_self _ (Heap.get?_push_of_some _ he) rfl]
    rfl
  unfold Builtin.Exceptions.excPut
  refine wpAny_bind (wpAny_bind (wpAny_field e1 rfl rfl (wpAny_bind (wpAny_setField e1 rfl (by show 5 < 6; decide) ?_))))
  (try dsimp only)
  refine wpAny_pure ?_
  have e2 : ((((hp.push { cls := .type "tuple", data := .seq [x].toArray }).update e (Obj.mapFields (·.setIfInBounds 0 (.ref hp.objs.size)))).update e (Obj.mapFields (·.setIfInBounds 5 .none)))).get? e = some { cls := .type cls, data := .fields #[.ref hp.objs.size, .none, .none, .none, .bool false, .none] } := by
    rw [Heap.get?_update_self _ e1 rfl]
    rfl
  refine wpAny_bind (wpAny_setField e2 rfl (by show 5 < 6; decide) ?_)
  refine wpAny_pure ?_
  refine h _ ?_ ?_ ?_
  · rw [Heap.get?_update_self _ e2 rfl]
    rfl
  · rw [Heap.get?_update_other _ _ (Nat.ne_of_lt hlt), Heap.get?_update_other _ _ (Nat.ne_of_lt hlt), Heap.get?_update_other _ _ (Nat.ne_of_lt hlt)]
    exact Heap.get?_push_size _ rfl
  · intro b o hb ho
    rw [Heap.get?_update_other _ _ (Ne.symm hb), Heap.get?_update_other _ _ (Ne.symm hb), Heap.get?_update_other _ _ (Ne.symm hb)]
    exact Heap.get?_push_of_some _ ho

theorem stop_type_call {E : Value → Shared → Prop} {x : Value} {Q : Fin → Shared → Prop}
    {hp : Heap} {g : Array GenState} {d : Drawn} {tk : Nat} {os : OsState}
    (h : ∀ h' e, MadeStop hp h' e x → Q (.done (.ret (.ref e))) ⟨h', g, d, tk, os⟩) :
    wpAny (model prog w) A (Builtin.«type.__call__» ⟨[.type "StopIteration", x], []⟩) Q E ⟨hp, g, d, tk, os⟩ := by
  have F := owsi_facts
  have hnt := F.notType
  have hcan := F.canMake
  have hchk := F.noVector ⟨[x], []⟩
  obtain ⟨m, hmro, hne⟩ := F.mro
  have hmade := F.madeBy
  wp_walk
  refine codeAny_call_builtin_code (Code.quiet_builtin _ F.quiet) (wpAny_of_eq (F.newOk [x]) ?_)
  refine stop_new F ?_
  show wpAny _ _ _ _ _ _
  have hget : ((hp.push { cls := .type "tuple", data := .seq [x].toArray }).push
      { cls := .type "StopIteration", data := .fields #[.ref hp.objs.size, .none, .none, .none, .bool false, .none] }).get? (hp.objs.size + 1) = some
      { cls := .type "StopIteration", data := .fields #[.ref hp.objs.size, .none, .none, .none, .bool false, .none] } := by heap_get
  refine wpAny_bind (wpAny_isInstance ⟨_, hget, rfl⟩ F.sub ?_)
  wp_step
  refine wpAny_bind (wpAny_holding (wpAny_callSpecial?_slot ⟨_, hget, rfl⟩ F.init (stop_init F hget fun h' e1 e2 e3 => ?_)))
  wp_walk
  refine h _ _ ⟨fun b o hb => ?_, Heap.get?_none_of_le (Nat.le_succ _), hp.objs.size + 2, ?_, Heap.get?_none_of_le (by omega), ?_⟩
  · exact e3 b o (Nat.ne_of_lt (Nat.lt_succ_of_lt (Heap.lt_size hb))) (Heap.get?_push_of_some _ (Heap.get?_push_of_some _ hb))
  · simpa [Heap.size_push] using e1
  · simpa [Heap.size_push] using e2

theorem stop_call {E : Value → Shared → Prop} {s : Shared} {x : Value} {Q : Value → Shared → Prop} (h : ∀ h' e, MadeStop s.heap h' e x → Q (.ref e) { s with heap := h' }) :
    wpAny (model prog w) A (call (.type "StopIteration") [x]) Q E s := by
  obtain ⟨hp, g, d, tk, os⟩ := s
  refine wpAny_call (codeAny_of_tree ?_)
  show wpAny _ _ (callAny (.type "StopIteration") ⟨[x], []⟩) _ _ _
  simp only [callAny]
  refine wpAny_pure ⟨Code.quiet_builtin _ (by decide +kernel), codeAny_builtin entry_type_call (stop_type_call fun h' e hm => ?_)⟩
  exact h h' e hm

theorem stop_raise {env : Env} {E : Value → Shared → Prop} {s : Shared} {x : Expr} {pos : Pos} {Q : Flow → Shared → Prop} (hh : A.handled = none)
    (h : wpAny (model prog w) A (eval x env) (fun v s₁ => ∃ e t y, v = .ref e ∧ s₁.heap.get? e = some { cls := .type "StopIteration", data := .fields #[.ref t, .none, .none, .none, .bool false, y] } ∧ E (.ref e) s₁) E s) :
    wpAny (model prog w) A (exec (.Raise (some x) none pos) env) Q E s := by
  have key : wpAny (model prog w) A (raiseStmt env (some (do let v ← eval x env; standAt pos; pure v)) none) Q E s := by
    unfold raiseStmt
    refine wpAny_bind (wpAny_bind (wpAny_mono h (fun v s₁ h₁ => wpAny_bind (wpAny_standAt (wpAny_pure ?_))) fun _ _ x => x))
    obtain ⟨e, t, y, rfl, he, hE⟩ := h₁
    obtain ⟨hp, g, d, tk, os⟩ := s₁
    have hsub := owsi_raise.isExc
    have hmeta := owsi_raise.plainMeta
    repeat (first | refine wpAny_loadPart he ?_ | wp_step)
    unfold raiseNew
    refine wpAny_bind (wpAny_handled ?_)
    rw [hh]
    first
      | exact wpAny_throw hE
      | exact wpAny_bind (wpAny_pure (wpAny_throw hE))
  rw [arm_exec_Raise]
  first
    | exact wpAny_bind (wpAny_standAt key)
    | (simp only [evalOpt, Option.map]; exact wpAny_bind (wpAny_standAt key))
    | (show wpAny _ A (do standAt pos; raiseStmt env (some (do let v ← eval x env; standAt pos; pure v)) none) Q E s; exact wpAny_bind (wpAny_standAt key))
end
end

/-- an exception under way: its first argument's place, its context, whose flight it is -/
def TrX (h base : Heap) (e : Addr) (cls a0 a2 fl : Value) : Prop :=
  ∃ oe vs T oT ts, h.get? e = some oe ∧ oe.cls = cls ∧ oe.data = .fields vs ∧ vs[0]? = some a0 ∧ vs[2]? = some a2 ∧ vs[1]? = some (.ref T) ∧ base.get? T = none ∧ T ≠ e ∧ h.get? T = some oT ∧ oT.data = .fields ts ∧ ts[3]? = some fl
def FlyX (base : Heap) (l : List Env) (e : Addr) (cls a0 a2 fl : Value) (h : Heap) : Prop := base.StaysIn h ∧ base.get? e = none ∧ h.FunFrames base l ∧ TrX h base e cls a0 a2 fl
theorem FlyX.tail {base : Heap} {env : Env} {l : List Env} {e : Addr} {cls a0 a2 fl : Value} {h : Heap} (x : FlyX base (env :: l) e cls a0 a2 fl h) : FlyX base l e cls a0 a2 fl h := ⟨x.1, x.2.1, x.2.2.1.2.2, x.2.2.2⟩

section
variable {M : Model} {A : Around} {E : Value → Shared → Prop} {s : Shared} {base : Heap} {env : Env} {outer : List Env} {L e : Addr} {cls a0 a2 fl : Value} {Q : Unit → Shared → Prop}

theorem entryX {oe : Obj} {vs : Array Value} {head : Value} {hadNext : Bool}
    (hfr : A.frames = some (env :: outer)) (hl : s.heap.FunFrames base (env :: outer)) (hf : env.frame = some L)
    (he : s.heap.get? e = some oe) (hkb : base.StaysIn s.heap) (hen : base.get? e = none) (hd : oe.data = .fields vs) (hsz : 1 < vs.size) (h0 : vs[0]? = some a0) (h2 : vs[2]? = some a2)
    (h : ∀ h', FlyX base (env :: outer) e oe.cls a0 a2 (rawInt L) h' → s.heap.UpToSlots h' → Q () { s with heap := h' }) :
    wpAny M A (do let a ← frameOf env; let pl ← entryPlaceOf L hadNext; let b ← EntryCells.newEntry head a .none (rawInt L) .none pl; setField (.ref e) 1 b) Q E s := by
  have nrec : ∀ b o, s.heap.get? b = some o → (∀ ws, o.data ≠ .fields ws) → b ≠ e := fun b o hb hnf q => by
    rw [q, he] at hb; cases hb; exact hnf vs hd
  have hene : e ∉ (env :: outer).filterMap (·.frame) := fun hm => by
    obtain ⟨_, o, ho, hnf⟩ := hl.mem hm
    exact nrec e o ho hnf rfl
  refine wpAny_bind (wpAny_frameOf_fun hfr hl hf fun h₁ hs₁ => ?_)
  refine wpAny_bind (wpAny_entryPlaceOf fun pl hpl => ?_)
  unfold EntryCells.newEntry newFields
  refine wpAny_bind (wpAny_newObj_type ?_ (hpl.sizeOk5 _ _ _ _ _))
  have he₁ : h₁.get? e = some oe := (hs₁.2.1 e hene).trans he
  have kb₁ : base.StaysIn h₁ := fun b o hbo => (hs₁.2.1 b fun hm => by rw [(hl.mem hm).1] at hbo; cases hbo).trans (hkb b o hbo)
  have hTe : h₁.objs.size ≠ e := Nat.ne_of_gt (Heap.lt_size he₁)
  generalize hto : ({ cls := .type "traceback", dict := none, data := .fields ([head, .ref L, .none, rawInt L, .none] ++ (if pl.isEmpty then List.replicate 6 Value.none else pl)).toArray } : Obj) = to
  have hto1 : to.isFreed = false := by rw [← hto]; rfl
  have hto3 : ∃ ts, to.data = .fields ts ∧ ts[3]? = some (rawInt L) := by rw [← hto]; exact ⟨_, rfl, by simp⟩
  have he₂ := Heap.get?_push_of_some (h := h₁) to he₁
  refine wpAny_setField he₂ hd hsz ?_
  have hd₃ := Obj.data_mapFields hd (·.setIfInBounds 1 (Value.ref h₁.objs.size))
  have he₃ := Heap.get?_update_self (Obj.mapFields (·.setIfInBounds 1 (Value.ref h₁.objs.size))) he₂ (Obj.isFreed_of_fields hd₃)
  have keep : ∀ b o, b ≠ e → h₁.get? b = some o → ((h₁.push to).update e (Obj.mapFields (·.setIfInBounds 1 (Value.ref h₁.objs.size)))).get? b = some o := fun b o hbe hb =>
    (Heap.get?_update_other _ _ (Ne.symm hbe)).trans (Heap.get?_push_of_some _ hb)
  have hT₃ : ((h₁.push to).update e (Obj.mapFields (·.setIfInBounds 1 (Value.ref h₁.objs.size)))).get? h₁.objs.size = some to := (Heap.get?_update_other _ _ (Ne.symm hTe)).trans (Heap.get?_push_size h₁ hto1)
  obtain ⟨ts, hts, hts3⟩ := hto3
  refine h _ ⟨fun b o hbo => keep b o (fun q => by rw [q, hen] at hbo; cases hbo) (kb₁ b o hbo), hen, hl.of_keeps fun b o hb hnf => ?_, ?_⟩ fun b o hb hnf => ?_
  · obtain ⟨sl, hsl⟩ := hs₁.2.2 b o hb
    exact ⟨_, keep b _ (nrec b o hb hnf) hsl, rfl⟩
  · exact ⟨_, _, h₁.objs.size, to, ts, he₃, Obj.cls_mapFields _ _, hd₃, by rw [Array.getElem?_setIfInBounds_ne (by decide)]; exact h0, by rw [Array.getElem?_setIfInBounds_ne (by decide)]; exact h2, by simp [hsz], kb₁.fresh, hTe, hT₃, hts, hts3⟩
  · obtain ⟨sl, hsl⟩ := hs₁.2.2 b o hb
    exact ⟨sl, keep b _ (nrec b o hb hnf) hsl⟩

/-- noteFrame, an exception that no frame has seen -/
theorem note_new {oe : Obj} {vs : Array Value} (hfr : A.frames = some (env :: outer)) (hl : s.heap.FunFrames base (env :: outer)) (hf : env.frame = some L)
    (he : s.heap.get? e = some oe) (hkb : base.StaysIn s.heap) (hen : base.get? e = none) (hd : oe.data = .fields vs) (h0 : vs[0]? = some a0) (h1 : vs[1]? = some .none) (h2 : vs[2]? = some a2)
    (h : ∀ h', FlyX base (env :: outer) e oe.cls a0 a2 (rawInt L) h' → s.heap.UpToSlots h' → Q () { s with heap := h' }) : wpAny M A (noteFrame (.ref e) env) Q E s := by
  unfold noteFrame
  simp only [hf]
  refine wpAny_bind (wpAny_field he hd h1 ?_)
  rw [if_neg (by decide)]
  exact entryX hfr hl hf he hkb hen hd (Array.getElem?_eq_some_iff.mp h1).1 h0 h2 h

/-- noteFrame, an exception out of a callee -/
theorem note_on (hfr : A.frames = some (env :: outer)) (hf : env.frame = some L) (x : FlyX base (env :: outer) e cls a0 a2 .none s.heap)
    (h : ∀ h', FlyX base (env :: outer) e cls a0 a2 (rawInt L) h' → s.heap.UpToSlots h' → Q () { s with heap := h' }) : wpAny M A (noteFrame (.ref e) env) Q E s := by
  obtain ⟨hkb, hen, hl, oe, vs, T, oT, ts, he, rfl, hd, h0, h2, h1, hnT, hTe, hT, hdT, h3⟩ := x
  unfold noteFrame
  simp only [hf]
  refine wpAny_bind (wpAny_field he hd h1 ?_)
  rw [if_pos (show (Value.ref T != Value.none) = true from by simp)]
  refine wpAny_bind (wpAny_field hT hdT h3 ?_)
  rw [if_neg (show ¬ ((Value.none == rawInt L) = true) from by simp [rawInt])]
  refine wpAny_bind (wpAny_setField hT hdT (Array.getElem?_eq_some_iff.mp h3).1 ?_)
  have other : ∀ b, b ≠ T → (s.heap.update T (Obj.mapFields (·.setIfInBounds 3 Value.none))).get? b = s.heap.get? b := fun b hb => Heap.get?_update_other _ _ (Ne.symm hb)
  have nrec : ∀ b o, s.heap.get? b = some o → (∀ ws, o.data ≠ .fields ws) → b ≠ T := fun b o hb hnf q => by
    rw [q, hT] at hb; cases hb; exact hnf ts hdT
  refine entryX hfr (hl.of_keeps fun b o hb hnf => ⟨o, (other b (nrec b o hb hnf)).trans hb, rfl⟩) hf ((other e (Ne.symm hTe)).trans he)
    (fun b o hbo => (other b fun q => by rw [q, hnT] at hbo; cases hbo).trans (hkb b o hbo)) hen hd (Array.getElem?_eq_some_iff.mp h1).1 h0 h2 fun h' f u => ?_
  exact h h' f fun b o hb hnf => u b o ((other b (nrec b o hb hnf)).trans hb) hnf

/-- setFlight none -/
theorem land (x : FlyX base outer e cls a0 a2 fl s.heap) (h : ∀ h', FlyX base outer e cls a0 a2 .none h' → s.heap.UpToSlots h' → Q () { s with heap := h' }) : wpAny M A (setFlight (.ref e) none) Q E s := by
  obtain ⟨hkb, hen, hl, oe, vs, T, oT, ts, he, hc, hd, h0, h2, h1, hnT, hTe, hT, hdT, h3⟩ := x
  have hsz3 : 3 < ts.size := (Array.getElem?_eq_some_iff.mp h3).1
  have other : ∀ b, b ≠ T → (s.heap.update T (Obj.mapFields (·.setIfInBounds 3 ((none : Option Addr).elim Value.none fun f => rawInt f)))).get? b = s.heap.get? b := fun b hb => Heap.get?_update_other _ _ (Ne.symm hb)
  have nrec : ∀ b o, s.heap.get? b = some o → (∀ ws, o.data ≠ .fields ws) → b ≠ T := fun b o hb hnf q => by
    rw [q, hT] at hb; cases hb; exact hnf ts hdT
  unfold setFlight
  refine wpAny_bind (wpAny_field he hd h1 ?_)
  rw [if_pos (show (Value.ref T != Value.none) = true from by simp)]
  refine wpAny_setField hT hdT hsz3 (h _ ⟨fun b o hbo => (other b fun q => by rw [q, hnT] at hbo; cases hbo).trans (hkb b o hbo), hen,
    hl.of_keeps fun b o hb hnf => ⟨o, (other b (nrec b o hb hnf)).trans hb, rfl⟩, ?_⟩ fun b o hb hnf => ⟨o.slots, (other b (nrec b o hb hnf)).trans hb⟩)
  exact ⟨oe, vs, T, _, _, (other e (Ne.symm hTe)).trans he, hc, hd, h0, h2, h1, hnT, hTe, Heap.get?_update_self _ hT (Obj.isFreed_of_fields (Obj.data_mapFields hdT _)), Obj.data_mapFields hdT _, by simp [hsz3]⟩

theorem leave_new {oe : Obj} {vs : Array Value} (hfr : A.frames = some (env :: outer)) (hl : s.heap.FunFrames base (env :: outer)) (hf : env.frame = some L)
    (he : s.heap.get? e = some oe) (hkb : base.StaysIn s.heap) (hen : base.get? e = none) (hd : oe.data = .fields vs) (h0 : vs[0]? = some a0) (h1 : vs[1]? = some .none) (h2 : vs[2]? = some a2)
    (h : ∀ h', FlyX base outer e oe.cls a0 a2 .none h' → s.heap.UpToSlots h' → Q () { s with heap := h' }) : wpAny M A (leaving env (.ref e)) Q E s := by
  unfold leaving
  exact wpAny_bind (note_new hfr hl hf he hkb hen hd h0 h1 h2 fun h₁ f u => land f fun h₂ f₂ u₂ => h h₂ f₂.tail (u.trans u₂))
theorem leave_on (hfr : A.frames = some (env :: outer)) (hf : env.frame = some L) (x : FlyX base (env :: outer) e cls a0 a2 .none s.heap)
    (h : ∀ h', FlyX base outer e cls a0 a2 .none h' → s.heap.UpToSlots h' → Q () { s with heap := h' }) : wpAny M A (leaving env (.ref e)) Q E s := by
  unfold leaving
  exact wpAny_bind (note_on hfr hf x fun h₁ f u => land f fun h₂ f₂ u₂ => h h₂ f₂.tail (u.trans u₂))
end

/-- the stack of trees, the top first -/
def stk : List PyData → PyData
  | [] => .none
  | t :: r => .tuple [stk r, t]
def stepF (ts : List PyData) (x : Int) : Option (List PyData) :=
  if takes x ≤ ts.length then some (.tuple (.int x :: (ts.take (takes x)).reverse) :: ts.drop (takes x)) else none
theorem stk_lay : ∀ {ts : List PyData}, PyData.canLayAll0 ts = true → (stk ts).canLay0 = true
  | [], _ => rfl
  | t :: r, c => by
    have c' : t.canLay0 = true ∧ PyData.canLayAll0 r = true := by simpa [PyData.canLayAll0] using c
    simp [stk, PyData.canLay0, PyData.canLayAll0, stk_lay c'.2, c'.1]

section
variable {prog : Program} {w : World} {A : Around} {E : Value → Shared → Prop} {s₀ : Shared} {h : Heap} {tk : Nat} {mg mb : Str → Option Value} {Q : Value → Shared → Prop} {g : Heap} {L : Addr} {m : Str → Option Value} {env : Env}
theorem range_up {k : Nat} {t : Tok} (hq : ∀ h' tk' a u v, Keep h h' → IsRange h' a 0 k 1 u t v → Q (.ref a) (St s₀ h' tk')) :
    wpAny (model prog w) A (call (.type "range") [.int k t]) Q E (St s₀ h tk) :=
  call_range_1 (hq _ _ _ _ _ (Keep.push _ _) (IsRange.new ..))
theorem iter_up {k : Nat} {t u v : Tok} {r : Addr} (hk : k < 2 ^ 62) (hr : IsRange h r 0 k 1 t u v) (hq : ∀ h' a, Keep h h' → h.get? a = none → IsRangeIter h' a 0 (k : Int) 1 → Q (.ref a) (St s₀ h' tk)) :
    wpAny (model prog w) A (pyIter (.ref r)) Q E (St s₀ h tk) :=
  wpAny_pyIter_range hr (small_one (by omega) (by omega) (by omega) (by omega)) (by
    have e : Builtin.Range.rangeSize 0 k 1 = (k : Int) := by rw [rangeSize_one]; split <;> omega
    rw [e]; exact hq _ _ (Keep.push _ _) (Heap.get?_none_of_le (Nat.le_refl _)) (Heap.get?_push_size _ rfl))
end

theorem lay_iff : ∀ {ds : List PyData}, PyData.canLayAll0 ds = true ↔ ∀ d ∈ ds, d.canLay0 = true
  | [] => by simp [PyData.canLayAll0]
  | x :: r => by simp [PyData.canLayAll0, lay_iff (ds := r)]

theorem cutQ {α : Type} {M : Model} {A : Around} {X : Sem α} {Q : α → Shared → Prop} {E : Value → Shared → Prop} {s : Shared} (K : (α → Shared → Prop) → (Value → Shared → Prop) → Prop) (hk : K Q E) (hu : K Q E → wpAny M A X Q E s) : wpAny M A X Q E s := hu hk

/-- the frames of a call within a call -/
theorem frames_push {g h B : Heap} {L : Addr} {m : Str → Option Value} {env : Env} {outer : List Env} (n : h.Ns L m) (hf : env.frame = some L) (hk : env.scope.kind = .function) (hBL : B.get? L = none) (kg : Keep g h) (hFF : g.FunFrames B outer) : h.FunFrames B (env :: outer) :=
  Heap.FunFrames.cons (by rw [hk]; decide) hf n hBL (hFF.of_keeps fun b o e _ => ⟨o, kg b o e, rfl⟩)

section
variable {prog : Program} {w : World} {A : Around} {E : Value → Shared → Prop} {s : Shared} {mg mb : Str → Option Value} {Q : Value → Shared → Prop}

theorem step_call {a : Addr} {v : Value} {x : Int} {u : Tok} {ts : List PyData} {B : Heap} {outer : List Env} (W : Wd mg mb s.heap) (hh : A.handled = none) (hroom : A.depth + 1 < recursionLimit) (ha : mg "_law_step" = some (.ref a))
    (hv : Rd s.heap v (stk ts)) (hlay : PyData.canLayAll0 ts = true)
    (hfr : A.frames = some outer) (hB : B.StaysIn s.heap) (hFF : s.heap.FunFrames B outer)
    (hq : ∀ ts' v' h' tk, stepF ts x = some ts' → Keep s.heap h' → Rd h' v' (stk ts') → Q v' (St s h' tk))
    (he : ∀ e t h' tk, stepF ts x = none → FlyX B outer e (.type "StopIteration") (.ref t) .none .none h' → h'.TupAt t [.int x u] → B.get? t = none → s.heap.UpToSlots h' → E (.ref e) (St s h' tk)) :
    wpAny (model prog w) A (call (.ref a) [v, .int x u]) Q E s := by
  obtain ⟨ai, hai⟩ : ∃ ab, mg "ISNONTERMINAL" = some (.ref ab) := let ⟨ab, h1, _⟩ := W.fns ("ISNONTERMINAL", 7) (by decide); ⟨ab, h1⟩
  refine callF (binds := [("stack", v), ("symbol", .int x u)]) (by omega) W.nolim (W.fn (i := 12) ha) (fun _ _ _ _ _ _ => BindsTo.of_eq rfl) (by decide) rfl (fun cd h₀ nn kp => ?_)
  have F := Fm.start nn kp
  have hBL : B.get? s.heap.objs.size = none := hB.fresh
  generalize s.heap.objs.size = L at F hBL ⊢
  generalize s.toks + _ = tk
  repeat walk_at "e"
  refine st F (fun h₁ tk₁ F₁ _ => ?_)
  dsimp only
  repeat walk_at "e"
  refine t_new F₁ (by decide) (fun g₂ h₂ z₂ kg₂ F₂ hz₂ => ?_)
  refine st F₂ (fun h₃ tk₃ F₃ _ => ?_)
  generalize hm₃ : upd (upd _ _ _) _ _ = m₃ at F₃
  have e1 : m₃ "rest" = some v := by rw [← hm₃]; rfl
  have e2 : m₃ "trees" = some (.ref z₂) := by rw [← hm₃]; rfl
  have e3 : m₃ "symbol" = some (.int x u) := by rw [← hm₃]; rfl
  clear hm₃
  dsimp only
  repeat walk_at "e"
  have W₂ := W.keeps kg₂
  refine bl W₂ F₃ PyProof.Rows.Boot.«range» ?_
  refine PyProof.Rows.callWith_type1 ?_
  refine cutQ (fun Q E => ∀ h₄ tk₄ t, Fm g₂ L h₄ m₃ → Q [.int ((takes x : Nat) : Int) t] (St s h₄ tk₄)) ?_ (fun rest => ?_)
  rotate_left
  · repeat walk_at "e"
    refine gl W₂ F₃ hai ?_
    refine cw_def (W₂.fn (i := 7) hai) ?_
    repeat walk_at "e"
    refine ⟨F₃.keep, ?_⟩
    refine isnon_call (s := St s h₃ _) (W₂.keeps F₃.keep) hroom hai (fun h₄ tk₄ k₄ => ?_)
    have F₄ := F₃.keeps k₄
    repeat walk_at "e"
    by_cases hx : 256 ≤ x
    · rw [if_pos (by simpa using hx)]
      repeat walk_at "e"
      have e : ((takes x : Nat) : Int) = (x + 2) % 4 := by unfold takes; rw [if_neg (by omega)]; omega
      rw [← e]
      exact rest _ _ _ F₄
    · rw [if_neg (by simpa using hx)]
      repeat walk_at "e"
      have e : ((takes x : Nat) : Int) = 0 := by unfold takes; rw [if_pos (by omega)]; rfl
      rw [← e]
      exact rest _ _ _ F₄
  intro h₄ tk₄ t F₄
  have ht4 : takes x < 4 := by unfold takes; split <;> omega
  refine range_up (fun h₅ tk₅ r u5 v5 k₅ hr => ?_)
  refine iter_up (by omega) hr (fun h₆ it k₆ hn₆ hit => ?_)
  have F₆ := F₄.keeps (k₅.trans k₆)
  have hgit : g₂.get? it = none := Old.keep (F₄.keeps k₅).keep _ hn₆
  have hitL : it ≠ L := fun q => by
    obtain ⟨o, _, _, h1, _⟩ := (F₄.keeps k₅).ns
    rw [← q, hn₆] at h1; cases h1
  refine codeAny_forLoop (fun k s' => ∃ (g' h' : Heap) (tk' : Nat) (m' : Str → Option Value) (j : Nat) (z : Addr) (vr : Value), s' = St s h' tk' ∧ Keep s.heap g' ∧ Fm g' L h' m' ∧ IsRangeIter h' it (j : Int) ((takes x : Int) - j) 1 ∧ g'.get? it = none ∧ m' "rest" = some vr ∧ Rd g' vr (stk (ts.drop j)) ∧
    m' "trees" = some (.ref z) ∧ Rd g' (.ref z) (.tuple (ts.take j).reverse) ∧ m' "symbol" = some (.int x u) ∧ j ≤ takes x ∧ j ≤ ts.length ∧ k = takes x + 1 - j) ?_ (takes x + 1)
    ⟨g₂, h₆, tk₅, _, 0, z₂, v, rfl, kg₂, F₆, by simpa using hit, hgit, e1, hv.keeps (stk_lay hlay) kg₂, e2, Rd.tuple hz₂ .nil, e3, by omega, by omega, rfl⟩
  clear F F₁ F₂ F₃ F₄ F₆ hit hr hn₆ hgit
  rintro k s' ⟨g', h', tk', m', j, z, vr, rfl, kg, F', hit', hgit', m1, hr1, m2, hz, m3, hj1, hj2, rfl⟩
  have layd : PyData.canLayAll0 (ts.drop j) = true := lay_iff.mpr fun d hd => lay_iff.mp hlay d (List.mem_of_mem_drop hd)
  have layt : PyData.canLayAll0 (ts.take j).reverse = true := lay_iff.mpr fun d hd => lay_iff.mp hlay d (List.mem_of_mem_take (List.mem_reverse.mp hd))
  by_cases hjn : j = takes x
  · subst hjn
    refine wpAny_pyNext_range_end hh hit' (by omega) (fun h₇ e₇ => wpAny_execs_nil ?_)
    have F₇ := F'.ext e₇ hgit' hitL
    dsimp only
    repeat walk_at "e"
    refine t_new F₇ (by show 1 ≤ sizeLine; decide) (fun g₈ h₈ z₈ k₈ F₈ hz₈ => ?_)
    repeat walk_at "e"
    obtain ⟨z', vz, hz', hzt, hzr⟩ := hz.tuple_inv
    cases hz'
    refine t_add F₈ hz₈ (isTup_keeps hzt k₈) (by have := hzr.length; have := sizeBig; simp at *; omega) (fun g₉ h₉ z₉ k₉ F₉ hz₉ => ?_)
    repeat walk_at "e"
    refine t_new F₉ (by show 2 ≤ sizeLine; decide) (fun g₁ h₁' z₁ k₁ F₁ hz₁ => ?_)
    have kk := (k₈.trans k₉).trans k₁
    have ln : PyData.canLay0 (.tuple (.int x :: (ts.take (takes x)).reverse)) = true := by simp [PyData.canLay0, PyData.canLayAll0, layt]
    have rn : Rd g₁ (.ref z₉) (.tuple (.int x :: (ts.take (takes x)).reverse)) := Rd.tuple (isTup_keeps hz₉ k₁) (.cons (.int x u) (hzr.keeps layt kk))
    refine hq (.tuple (.int x :: (ts.take (takes x)).reverse) :: ts.drop (takes x)) _ _ _ (by unfold stepF; rw [if_pos hj2]) ((kg.trans kk).trans F₁.keep) ?_
    exact Rd.keeps (Rd.tuple hz₁ (.cons (hr1.keeps (stk_lay layd) kk) (.cons rn .nil))) (stk_lay (ts := .tuple (.int x :: (ts.take (takes x)).reverse) :: ts.drop (takes x)) (by rw [PyData.canLayAll0, ln, layd]; rfl)) F₁.keep
  · refine wpAny_pyNext_range_item hit' (by omega) (fun h₇ hit₇ e₇ => ?_)
    have F₇ := F'.ext e₇.extBut hgit' hitL
    refine wpAny_assign_Name ?_
    refine st F₇ (fun h₈ tk₈ F₈ sb₈ => ?_)
    have hit₈ : IsRangeIter h₈ it ((j : Int) + 1) ((takes x : Int) - j - 1) 1 := sb₈.extBut _ _ hitL hit₇
    refine wpAny_passesOwn PassesOwn.leaving ?_
    repeat walk_at "e"
    cases hdr : ts.drop j with
    | nil =>
      rw [hdr] at hr1
      obtain ⟨_, hr1⟩ := hr1
      cases hr1
      refine wpAny_is_self rfl ?_
      refine wpAny_truthy_bool ?_
      rw [if_pos rfl]
      refine wpAny_execs_cons ?_
      refine stop_raise hh ?_
      repeat walk_at "e"
      refine bl (W.keeps kg) F₈ PyProof.Rows.Boot.«StopIteration» ?_
      refine PyProof.Rows.callWith_type1 ?_
      repeat walk_at "e"
      refine stop_call (fun h₉ e ms => ?_)
      obtain ⟨t, q1, q2, q3⟩ := ms.there
      refine ⟨e, t, _, rfl, q1, ?_⟩
      have hjl : ts.length ≤ j := by have := congrArg List.length hdr; simp only [List.length_drop, List.length_nil] at this; omega
      have hBh : B.StaysIn h₈ := fun b o e => F₈.keep _ _ (kg _ _ (hB _ _ e))
      have oldB : ∀ b, h₈.get? b = none → B.get? b = none := Old.keep hBh
      refine leave_new (base := B) (outer := outer) (L := L) (a0 := .ref t) (a2 := .none) (Around.frames_deeper hfr) ?_ rfl q1 (fun b o e => ms.keeps _ _ (hBh b o e)) (oldB _ ms.new) rfl rfl rfl rfl (fun h₁₀ fl k4 => ?_)
      · exact frames_push (F₈.ns.keeps ms.keeps) rfl rfl hBL ((kg.trans F₈.keep).trans ms.keeps) hFF
      · refine he e t h₁₀ _ (by unfold stepF; rw [if_neg (by omega)]) fl ?_ (oldB _ q2) ?_
        · exact Heap.TupAt.of_slots ⟨_, _, q3, rfl, rfl⟩ k4
        · exact (Heap.UpToSlots.of_keeps ((kg.trans F₈.keep).trans ms.keeps)).trans k4
    | cons t r =>
      rw [hdr] at hr1 layd
      have lay2 : t.canLay0 = true ∧ PyData.canLayAll0 r = true := by simpa [PyData.canLayAll0] using layd
      obtain ⟨zr, vs, rfl, hzt, hzr⟩ := Rd.tuple_inv (show Rd g' vr (.tuple [stk r, t]) from hr1)
      obtain ⟨v1, v2, rfl⟩ : ∃ v1 v2, vs = [v1, v2] := by
        have := hzr.length
        match vs, this with
        | [a, b], _ => exact ⟨a, b, rfl⟩
      refine wpAny_is_other rfl (by simp) ?_
      refine wpAny_truthy_bool ?_
      rw [if_neg (by decide)]
      refine wpAny_execs_nil ?_
      dsimp only
      refine wpAny_execs_cons ?_
      refine Assign_Tuple ?_
      repeat walk_at "e"
      refine assign_Tuple_tuple (s := St s h₈ tk₈) hh (isTup_keeps hzt F₈.keep) rfl rfl (fun h₉ e₉ => ?_)
      have k₉ : Keep h₈ h₉ := fun b o e => e₉ b o (Nat.ne_of_lt (Heap.lt_size e)) e
      have F₉ := F₈.keeps k₉
      refine assignInOrder_cons (wpAny_assign_Name ?_)
      refine st F₉ (fun h₁₀ tk₁₀ F₁₀ sb₁₀ => ?_)
      refine assignInOrder_cons (wpAny_assign_Name ?_)
      refine st F₁₀ (fun h₁₁ tk₁₁ F₁₁ sb₁₁ => ?_)
      refine assignInOrder_nil ?_
      have hit₁₁ : IsRangeIter h₁₁ it ((j : Int) + 1) ((takes x : Int) - j - 1) 1 := sb₁₁.extBut _ _ hitL (sb₁₀.extBut _ _ hitL (k₉ _ _ hit₈))
      dsimp only
      repeat walk_at "e"
      have R := F₁₁.rebase
      have hitg : (h₁₁.hide L).get? it = some _ := (Heap.hide_ne _ hitL).trans hit₁₁
      refine t_new R.1 (by show 1 ≤ sizeLine; decide) (fun g₃ h₁₃ z₃ k₃ F₃ hz₃ => ?_)
      repeat walk_at "e"
      have kk := R.2.trans k₃
      obtain ⟨z', vz, hz', hzt', hzr'⟩ := hz.tuple_inv
      cases hz'
      refine t_add F₃ hz₃ (isTup_keeps hzt' kk) (by have := hzr'.length; have := sizeBig; simp at *; omega) (fun g₄ h₁₄ z₄ k₄ F₄ hz₄ => ?_)
      refine st F₄ (fun h₁₅ tk₁₅ F₅ _ => wpAny_execs_nil ?_)
      have hit₅ := F₅.keep _ _ (k₄ _ _ (k₃ _ _ hitg))
      obtain ⟨F₆, to₆, off₆⟩ := F₅.drop hit₅ rfl
      have hjl : j < ts.length := by have := congrArg List.length hdr; simp only [List.length_drop, List.length_cons] at this; omega
      have ed : ts.drop (j + 1) = r := by rw [← List.drop_drop, hdr]; rfl
      have et : ts.take (j + 1) = ts.take j ++ [t] := by
        rw [List.take_add_one]
        congr 1
        have : ts[j]? = some t := by
          have := congrArg List.head? hdr
          simpa [List.head?_drop] using this
        rw [this]; rfl
      have kg4 := kk.trans k₄
      refine ⟨takes x + 1 - (j + 1), by omega, g₄.hide it, h₁₅, tk₁₅, _, j + 1, z₄, v1, rfl, (kg.trans kg4).drop (Old.keep kg _ hgit'), F₆, ?_, off₆, rfl, ?_, rfl, ?_, m3, by omega, hjl, rfl⟩
      · have : ((takes x : Int) - (j + 1 : Nat)) = (takes x : Int) - j - 1 := by omega
        rw [this]; exact hit₅
      · rw [ed]
        exact ((hzr.inv.1.keeps (stk_lay lay2.2) kg4).to (stk_lay lay2.2) to₆)
      · rw [et, List.reverse_append]
        have lt : PyData.canLay0 (.tuple ([t].reverse ++ (ts.take j).reverse)) = true := by simp [PyData.canLay0, PyData.canLayAll0, lay2.1, layt]
        exact Rd.to (Rd.tuple hz₄ (.cons (hzr.inv.2.inv.1.keeps lay2.1 kg4) (hzr'.keeps layt kg4))) lt to₆
end

section
variable {M : Model} {A : Around} {R : GenEnd} {Y : Protocol} {n : Nat} {s₀ : Shared} {c : Code} {fs : List Frame} {s : Shared} {env : Env}
  {K : Flow → Sem PySem.Fin} {H : Value → Sem PySem.Fin} {gd : Bool → Bool} {lv : List Value → List Value}

theorem seg_For {target iter : Expr} {body orelse : List Stmt} {pos : Pos}
    (h : wpAny M (A.over c fs) (eval iter env) (fun x s₁ => wpAny M (A.over c fs) (pyIter x) (fun it s₂ => ∀ p, Seg M A R Y n s₀ (.forLoop target it body orelse env) (M.den (.forLoop target it body orelse env))
      (.ret (fun r => ((match r with | .ok f => (.pure f : Sem Flow) | .error e => .raise e).onRaise fun (x : Value) => do
        if (← field x 1) == Value.none then unsupported "frame.own-activation:exception-without-traceback"
        setFlight x env.frame).wrap K H gd lv) none (gd false) (lv []) c p [] :: fs) s₂) (fun _ _ => False) s₁) (fun _ _ => False) s)
    (hs : ∀ x, foldedSetIterable iter env x = pure x := by intro _; rfl) :
    Seg M A R Y n s₀ c ((exec (.For target iter body orelse pos) env).wrap K H gd lv) fs s := by
  rw [exec_For]
  refine seg_bind_wrap (wpAny_standAt ?_)
  refine seg_bind_wrap (wpAny_mono h (fun x s₁ h₁ => ?_) fun _ _ x => x.elim)
  refine seg_bind_wrap (wpAny_of_eq (hs x) ?_)
  refine seg_bind_wrap (wpAny_standAt ?_)
  refine seg_bind_wrap (wpAny_holding (wpAny_mono h₁ (fun it s₂ h₂ => ?_) fun _ _ x => x.elim))
  exact seg_call h₂

theorem seg_If {test : Expr} {body orelse : List Stmt} {pos : Pos}
    (h : wpAny M (A.over c fs) (isTrue test env (eval test env)) (fun b s₁ => if b then Seg M A R Y n s₀ c ((execs body env).wrap K H gd lv) fs s₁ else Seg M A R Y n s₀ c ((execs orelse env).wrap K H gd lv) fs s₁) (fun _ _ => False) s) :
    Seg M A R Y n s₀ c ((exec (.If test body orelse pos) env).wrap K H gd lv) fs s := by
  rw [exec_If]
  refine seg_bind_wrap (wpAny_standAt ?_)
  refine seg_bind_wrap (wpAny_mono h (fun b s₁ h₁ => ?_) fun _ _ x => x.elim)
  cases b <;> exact h₁

theorem seg_Return_none {pos : Pos} (h : Seg M A R Y n s₀ c (K (.ret .none)) fs s) : Seg M A R Y n s₀ c ((exec (.Return none pos) env).wrap K H gd lv) fs s := by
  rw [exec_Return_none]
  exact seg_bind_wrap (wpAny_standAt h)
end

section
variable {prog : Program} {w : World} {A : Around} {R : GenEnd} {Y : Protocol} {n : Nat} {s₀ : Shared} {fs : List Frame} {s : Shared} {env : Env}
theorem seg_forLoop {target : Expr} {it : Value} {body orelse : List Stmt}
    (h : wpAny (model prog w) (A.over (.forLoop target it body orelse env) fs) (pyNext it) (fun r s₁ => ∃ v, r = some v ∧
        wpAny (model prog w) (A.over (.forLoop target it body orelse env) fs) (assign target env v) (fun _ s₂ =>
          Seg (model prog w) A R Y n s₀ (.forLoop target it body orelse env) ((execs body env).wrap (fun f => match f with
            | .next | .cont => .pure (.again (.forLoop target it body orelse env))
            | .brk => .pure (.done .next)
            | .ret v => .pure (.done (.ret v))) (fun e => (do noteFrame e env; theTreesLotGoes e : Sem Unit).wrap (fun _ => .raise e) .raise id id) id id) fs s₂) (fun _ _ => False) s₁) (fun _ _ => False) s)
    (ht : ∀ v, letOwnedTupleGo target it v = pure () := by intro _; rfl) :
    Seg (model prog w) A R Y n s₀ (.forLoop target it body orelse env) ((model prog w).den (.forLoop target it body orelse env)) fs s := by
  show Seg _ A R Y n s₀ _ ((forTurn target it body orelse env).onRaise (fun x => do noteFrame x env; theTreesLotGoes x)) fs s
  unfold forTurn
  rw [Sem.onRaise_eq_wrap]
  refine seg_bind_wrap (wpAny_standAt ?_)
  refine seg_bind_wrap (wpAny_onRaise (wpAny_mono h (fun r s₁ h₁ => ?_) fun _ _ x => x.elim))
  obtain ⟨v, rfl, h₁⟩ := h₁
  refine seg_bind_wrap (wpAny_of_eq (ht v) ?_)
  refine seg_bind_wrap (wpAny_mono h₁ (fun _ s₂ h₂ => ?_) fun _ _ x => x.elim)
  rw [Sem.bind_eq_wrap', Sem.wrap_wrap]
  rw [Sem.wrap_congr (execs body env) _ _ (K' := fun f => match f with
            | .next | .cont => .pure (.again (.forLoop target it body orelse env))
            | .brk => .pure (.done .next)
            | .ret v => .pure (.done (.ret v))) (H' := (fun e => (do noteFrame e env; theTreesLotGoes e : Sem Unit).wrap (fun _ => .raise e) .raise id id))
        (fun f => by cases f <;> rfl)
        (fun e => by first | exact Sem.bind_eq_wrap _ _ | (show (do noteFrame e env; theTreesLotGoes e : Sem Unit).bind (fun _ => .raise e) = _; rw [Sem.bind_eq_wrap]))]
  exact h₂
end

/-- the rest of a stretch: all but the end marker at 'p' -/
structure Stretch (ns : List Int) (i p : Nat) : Prop where
  le : i ≤ p
  eof : ns[p]? = some 0
  sym : ∀ j x, i ≤ j → j < p → ns[j]? = some x → x ≠ 0

def KB (I L : Addr) (h h' : Heap) : Prop := ∀ b o, b ≠ I → b ≠ L → h.get? b = some o → h'.get? b = some o
theorem KB.refl {I L : Addr} {h : Heap} : KB I L h h := fun _ _ _ _ e => e
theorem KB.trans {I L : Addr} {h h' h'' : Heap} (x : KB I L h h') (y : KB I L h' h'') : KB I L h h'' := fun b o h1 h2 e => y b o h1 h2 (x b o h1 h2 e)
theorem KB.keep {I L : Addr} {h h' : Heap} (k : Keep h h') : KB I L h h' := fun b o _ _ e => k b o e
theorem KB.exI {I L : Addr} {h h' : Heap} (k : Heap.ExtBut I h h') : KB I L h h' := fun b o h1 _ e => k b o h1 e
theorem KB.exL {I L : Addr} {h h' : Heap} (k : Heap.ExtBut L h h') : KB I L h h' := fun b o _ h2 e => k b o h2 e

def Rdy (g0 : Heap) (Rw I Lg : Addr) (i : Nat) (h : Heap) : Prop := Keep g0 h ∧ h.IsListIter I Rw i ∧ ∃ m, h.Ns Lg m ∧ m "stream" = some (.ref I)
def gEnd (I Lg Rw : Addr) (p : Nat) : Nat → Shared → Shared → Prop := fun n s₀ s₁ => n = 0 ∧ ∃ h' tk, s₁ = St s₀ h' tk ∧ KB I Lg s₀.heap h' ∧ h'.IsListIter I Rw (p + 1)
def gYield (g0 : Heap) (ns : List Int) (I Lg Rw : Addr) (p : Nat) : Protocol := fun m s₀ v s kap =>
  (∃ x t, ns[p - 1 - m]? = some x ∧ v = .int x t) ∧ (∃ h' tk, s = St s₀ h' tk ∧ KB I Lg s₀.heap h' ∧ Rdy g0 Rw I Lg (p - m) h') ∧ ∀ s'' : Shared, Rdy g0 Rw I Lg (p - m) s''.heap → kap (.send .none) s''

section
variable {prog : Program} {w : World} {mg mb : Str → Option Value}

abbrev genEnv (Lg f : Addr) (cd : Value) : Env := envOf "_law_to_the_end" (scopeOf 11) Lg f cd

def forT (l : List Stmt) : Expr := match l with
  | .For t _ _ _ _ :: _ => t
  | _ => .Name "" default
def forB (l : List Stmt) : List Stmt := match l with
  | .For _ _ b _ _ :: _ => b
  | _ => []
abbrev genLoop (I Lg f : Addr) (cd : Value) : Code := .forLoop (forT (bodyOf 11)) (.ref I) (forB (bodyOf 11)) [] (genEnv Lg f cd)
abbrev genR (I Lg Rw : Addr) (p : Nat) : GenEnd := fun n s₀ r s₁ => r = .ok (.ret .none) ∧ gEnd I Lg Rw p n s₀ s₁

theorem over_depth {A : Around} {I Lg f : Addr} {cd : Value} {kk : Result → Sem PySem.Fin} {pp : Pos} : (A.over (genLoop I Lg f cd) [.ret kk none false [] (.func (bodyOf 11) (genEnv Lg f cd)) pp []]).depth = A.depth + 1 := by
  simp [Around.over, frameCount, Frame.where_, Code.weight, Code.frames, Code.isCreation, Code.isGuard, Code.isCaller, Code.isFrame]

theorem gen_loop {A : Around} {g0 : Heap} {ns : List Int} {I Lg Rw f : Addr} {cd : Value} {p : Nat} {kk : Result → Sem PySem.Fin} {pp : Pos} (W : Wd mg mb g0) (row : Ints g0 Rw ns) (offI : g0.get? I = none) (offL : g0.get? Lg = none) (hIL : I ≠ Lg)
    (hroom : A.depth + 2 < recursionLimit)
    (hk : ∀ n s₀ s, gEnd I Lg Rw p n s₀ s → Seg (model prog w) A (genR I Lg Rw p) (gYield g0 ns I Lg Rw p) n s₀ (.func (bodyOf 11) (genEnv Lg f cd)) (kk (.ok (.ret .none))) [] s) :
    ∀ (n i : Nat) (s₀ s : Shared), n = p - i → Stretch ns i p → Rdy g0 Rw I Lg i s.heap → (∃ h tk, s = St s₀ h tk ∧ KB I Lg s₀.heap h) →
      Seg (model prog w) A (genR I Lg Rw p) (gYield g0 ns I Lg Rw p) n s₀ (genLoop I Lg f cd) ((model prog w).den (genLoop I Lg f cd)) [.ret kk none false [] (.func (bodyOf 11) (genEnv Lg f cd)) pp []] s := by
  obtain ⟨ai, hai⟩ : ∃ ab, mg "ISEOF" = some (.ref ab) := let ⟨ab, h1, _⟩ := W.fns ("ISEOF", 8) (by decide); ⟨ab, h1⟩
  intro n
  induction n with
  | zero =>
    intro i s₀ s hn sg hr hs
    obtain ⟨kg, hI, m, nL, hms⟩ := hr
    obtain ⟨h, tk, rfl, kb⟩ := hs
    have F : Fm g0 Lg h m := ⟨nL, kg, offL⟩
    obtain ⟨vs, hl, hi⟩ := row
    have e0 : ns[i]? = some 0 := by
      have := sg.le
      obtain rfl : i = p := by omega
      exact sg.eof
    obtain ⟨tv, htv⟩ := ints_at hi e0
    refine seg_forLoop ?_
    refine next_item F hI offI hIL hl (by simpa using htv) (fun h₁ F₁ hI₁ sb₁ => ⟨_, rfl, ?_⟩)
    refine wpAny_assign_Name ?_
    refine st F₁ (fun h₂ tk₂ F₂ sb₂ => ?_)
    refine seg_execs_cons ?_
    refine seg_If ?_
    repeat walk_at "e"
    refine gl W F₂ hai ?_
    refine cw_def (W.fn (i := 8) hai) ?_
    repeat walk_at "e"
    refine ⟨F₂.keep, ?_⟩
    refine iseof_call (s := St s₀ h₂ tk₂) (W.keeps F₂.keep) (by rw [over_depth]; omega) hai (fun h₃ tk₃ k₃ => ?_)
    repeat walk_at "e"
    rw [if_pos (by decide)]
    refine seg_execs_cons (seg_Return_none ?_)
    refine seg_leaf (.ok (.ret .none)) ?_
    refine hk _ _ _ ⟨rfl, h₃, tk₃, rfl, ?_, ?_⟩
    · exact ((kb.trans (KB.exI sb₁.extBut)).trans (KB.exL sb₂.extBut)).trans (KB.keep k₃)
    · obtain rfl : i = p := by have := sg.le; omega
      obtain ⟨o, q1, q2⟩ := hI₁
      exact ⟨o, k₃ _ _ (sb₂.extBut _ _ hIL q1), q2⟩
  | succ n ih =>
    intro i s₀ s hn sg hr hs
    obtain ⟨kg, hI, m, nL, hms⟩ := hr
    obtain ⟨h, tk, rfl, kb⟩ := hs
    have F : Fm g0 Lg h m := ⟨nL, kg, offL⟩
    obtain ⟨vs, hl, hi⟩ := id row
    have hip : i < p := by omega
    have hpl : p < ns.length := (List.getElem?_eq_some_iff.mp sg.eof).1
    obtain ⟨x, hx⟩ : ∃ x, ns[i]? = some x := ⟨ns[i]'(by omega), List.getElem?_eq_getElem _⟩
    have hx0 := sg.sym i x (Nat.le_refl _) hip hx
    obtain ⟨tv, htv⟩ := ints_at hi hx
    refine seg_forLoop ?_
    refine next_item F hI offI hIL hl (by simpa using htv) (fun h₁ F₁ hI₁ sb₁ => ⟨_, rfl, ?_⟩)
    refine wpAny_assign_Name ?_
    refine st F₁ (fun h₂ tk₂ F₂ sb₂ => ?_)
    refine seg_execs_cons ?_
    refine seg_If ?_
    repeat walk_at "e"
    refine gl W F₂ hai ?_
    refine cw_def (W.fn (i := 8) hai) ?_
    repeat walk_at "e"
    refine ⟨F₂.keep, ?_⟩
    refine iseof_call (s := St s₀ h₂ tk₂) (W.keeps F₂.keep) (by rw [over_depth]; omega) hai (fun h₃ tk₃ k₃ => ?_)
    have F₃ := F₂.keeps k₃
    repeat walk_at "e"
    rw [if_neg (by simpa using hx0)]
    refine seg_execs_nil ?_
    refine seg_execs_cons ?_
    refine seg_Expr_Yield rfl rfl rfl ?_
    repeat walk_at "e"
    intro kap hkap
    have hI₃ : h₃.IsListIter I Rw (i + 1) := by
      obtain ⟨o, q1, q2⟩ := hI₁
      exact ⟨o, k₃ _ _ (sb₂.extBut _ _ hIL q1), q2⟩
    have e1 : p - 1 - n = i := by omega
    have e2 : p - n = i + 1 := by omega
    refine ⟨⟨x, tv, by rw [e1]; exact hx, rfl⟩, ⟨h₃, tk₃, rfl, ((kb.trans (KB.exI sb₁.extBut)).trans (KB.exL sb₂.extBut)).trans (KB.keep k₃), by rw [e2]; exact ⟨F₃.keep, hI₃, _, F₃.ns, hms⟩⟩, fun s'' hr'' => ?_⟩
    rw [e2] at hr''
    refine hkap .none s'' ?_
    refine seg_execs_nil ?_
    exact seg_again rfl (ih (i + 1) s'' s'' (by omega) ⟨hip, sg.eof, fun j y h1 h2 => sg.sym j y (by omega) h2⟩ hr'' ⟨s''.heap, s''.toks, rfl, KB.refl⟩)

/-- a fresh generator over the stream -/
theorem gen_start {A : Around} {g0 : Heap} {ns : List Int} {I Lg Rw f : Addr} {cd : Value} {p : Nat} (W : Wd mg mb g0) (row : Ints g0 Rw ns) (offI : g0.get? I = none) (offL : g0.get? Lg = none) (hIL : I ≠ Lg)
    (hroom : A.depth + 2 < recursionLimit) {i : Nat} {s : Shared} (sg : Stretch ns i p) (hr : Rdy g0 Rw I Lg i s.heap) :
    Seg (model prog w) A (genR I Lg Rw p) (gYield g0 ns I Lg Rw p) (p - i) s (.func (bodyOf 11) (genEnv Lg f cd)) ((model prog w).den (.func (bodyOf 11) (genEnv Lg f cd))) [] s := by
  obtain ⟨kg, hI, m, nL, hm⟩ := id hr
  refine seg_func ?_
  refine seg_execs_cons ?_
  refine seg_For ?_
  have F : Fm g0 Lg s.heap m := ⟨nL, kg, offL⟩
  refine ld (s₀ := s) (h := s.heap) (tk := s.toks) F hm ?_
  refine wpAny_pyIter_listiter hI ?_
  intro pp
  refine gen_loop W row offI offL hIL hroom (fun n s₀ s he => ?_) (p - i) i s s rfl sg hr ⟨s.heap, s.toks, rfl, KB.refl⟩
  exact seg_end (.ok (.ret .none)) ⟨rfl, he⟩
end

theorem entry_unchain : entryFor table "proto.unchain" = some Builtin.«proto.unchain» := entryFor_of_fast (by kernel_rfl)

/-- no exception is being handled, or one that has no context of its own -/
def HandOk (A : Around) (h : Heap) : Prop := A.handled = none ∨ ∃ eh oe vs, A.handled = some (.ref eh) ∧ h.get? eh = some oe ∧ oe.data = .fields vs ∧ vs[2]? = some .none

section
variable {prog : Program} {w : World} {A : Around} {E : Value → Shared → Prop}

/-- raising a new record: what stood stays -/
theorem raiseNew_ok {α : Type} {s : Shared} {e : Addr} {oe : Obj} {vs : Array Value} {Q : α → Shared → Prop} (ho : HandOk A s.heap) (hne : ∀ eh, A.handled = some (.ref eh) → eh ≠ e) (he : s.heap.get? e = some oe) (hd : oe.data = .fields vs) (hsz : 2 < vs.size)
    (h : ∀ h', Heap.SameBut e s.heap h' → (∃ vs', h'.get? e = some { oe with data := .fields vs' } ∧ (vs' = vs ∨ ∃ x, vs' = vs.setIfInBounds 2 x)) → E (.ref e) { s with heap := h' }) :
    wpAny (model prog w) A (raiseNew (.ref e) : Sem α) Q E s := by
  unfold raiseNew
  refine wpAny_bind (wpAny_handled ?_)
  rcases ho with hn | ⟨eh, ob, ws, hh, hb, hbd, hb2⟩
  · rw [hn]
    have e1 : E (.ref e) s := h s.heap (.refl _ _) ⟨vs, by rw [← hd]; exact he, .inl rfl⟩
    first
      | exact wpAny_throw e1
      | exact wpAny_bind (wpAny_pure (wpAny_throw e1))
  · rw [hh]
    dsimp only
    have hne' := hne eh hh
    rw [if_pos (show (Value.ref eh != Value.ref e) = true from by simpa using hne')]
    refine wpAny_bind (wpAny_holding (wpAny_runValue (codeAny_builtin entry_unchain ?_)))
    unfold Builtin.«proto.unchain»
    dsimp only
    refine wpAny_bind (wpAny_field hb hbd hb2 ?_)
    rw [if_pos (show (Value.none == Value.none) = true from rfl)]
    refine wpAny_pure ?_
    refine wpAny_bind ?_
    unfold updateField
    refine wpAny_bind (wpAny_load he ?_)
    rw [hd]
    dsimp only
    rw [if_pos hsz]
    refine wpAny_update he ?_
    have hd3 := Obj.data_mapFields hd (·.setIfInBounds 2 (Value.ref eh))
    have q := Heap.get?_update_self (Obj.mapFields (·.setIfInBounds 2 (Value.ref eh))) he (Obj.isFreed_of_fields hd3)
    refine wpAny_throw (h _ (Heap.SameBut.update ..) ⟨vs.setIfInBounds 2 (.ref eh), q.trans ?_, .inr ⟨_, rfl⟩⟩)
    obtain ⟨c, dd, dt, sl⟩ := oe
    simp only at hd
    subst hd
    rfl
end

section
variable {prog : Program} {w : World} {mg mb : Str → Option Value}

/-- next of the generator: an item, or the end -/
theorem next_gen {A : Around} {E : Value → Shared → Prop} {Q : Option Value → Shared → Prop} {s : Shared} {g0 : Heap} {ns : List Int} {I Lg Rw ga : Addr} {gn p i : Nat} {gs : GenState}
    (hl : s.heap.NoLimit) (hroom : A.depth + 2 < recursionLimit) (hg : s.heap.IsGen ga gn) (hgs : s.gens[gn]? = some gs) (sg : Stretch ns i p) (rdy : Rdy g0 Rw I Lg i s.heap)
    (hgo : ∀ s'' : Shared, Rdy g0 Rw I Lg i s''.heap → gs.Goes (model prog w) A.in1 (genR I Lg Rw p) (gYield g0 ns I Lg Rw p) (p - i) (.send .none) s'')
    (hand : ∀ h', KB I Lg s.heap h' → HandOk A h')
    (hY : i < p → ∀ x t h' tk gs', ns[i]? = some x → gs'.bare = true → KB I Lg s.heap h' → Rdy g0 Rw I Lg (i + 1) h' →
      (∀ s'' : Shared, Rdy g0 Rw I Lg (i + 1) s''.heap → gs'.Goes (model prog w) A.in1 (genR I Lg Rw p) (gYield g0 ns I Lg Rw p) (p - (i + 1)) (.send .none) s'') →
      Q (some (.int x t)) (St ((s.setGen gn .running).setGen gn gs') h' tk))
    (hE : i = p → ∀ h' tk, KB I Lg s.heap h' → h'.IsListIter I Rw (p + 1) → Q none (St ((s.setGen gn .running).setGen gn .finished) h' tk)) :
    wpAny (model prog w) A (pyNext (.ref ga)) Q E s := by
  have hgo' := hgo (s.setGen gn .running) rdy
  have hle := sg.le
  unfold pyNext
  refine wpAny_bind (wpAny_attempt (wpAny_callSpecial?_slot (name := Str.ofString "__next__") hg.typeIs slot_gen_next
    (wpAny_call_entry slot_gen_next hg.typeIs entry_gen_next ?_ (args_gen_next _))))
  show wpAny _ A.in1 (Builtin.Generator.genWake (.ref ga) (.send .none)) _ _ s
  unfold Builtin.Generator.genWake
  refine wpAny_bind (wpAny_holding (wpAny_genNumber hg (wpAny_bind (wpAny_genState hgs ?_))))
  cases gs with
  | running => exact hgo'.elim
  | finished => exact hgo'.elim
  | _ =>
    refine wpAny_bind (wpAny_roomToWake hl (by show A.depth < _; omega) ?_)
    show wpAny _ A.in1 (.resume gn (.send .none) [] _) _ _ s
    refine wpAny_resumeQ hgs hgo' (fun x s₁ hx => ?_) (fun v s₁ gs' hb hv => ?_)
    · obtain ⟨rfl, hn, h', tk, rfl, kb, hI⟩ := hx
      have hip : i = p := by omega
      show wpAny _ A.in1 (newExc (.type "StopIteration") [] >>= _) _ _ _
      refine wpAny_bind ?_
      simp only [newExc, newTuple]
      refine wpAny_bind (wpAny_newObj_type ?_ (by size_fits))
      refine wpAny_bind (m := firstArgMember _ _) (wpAny_of_eq (a := Value.none) (by first | rfl | (simp only [firstArgMember]; rfl)) ?_)
      refine wpAny_newObj_type ?_ (by size_fits)
      have hand' := hand h' kb
      refine wpAny_bind (raiseNew_ok (oe := { cls := .type "StopIteration", data := .fields #[.ref h'.objs.size, .none, .none, .none, .bool false, .none] }) ?_ (fun eh heh q => ?_) (Heap.get?_push_size _ rfl) rfl (by show 2 < 6; decide) (fun h₂ sb₂ hv₂ => ?_))
      · rcases hand' with q | ⟨eh, ob, ws, q1, q2, q3, q4⟩
        · exact .inl q
        · exact .inr ⟨eh, ob, ws, q1, Heap.get?_push_of_some _ (Heap.get?_push_of_some _ q2), q3, q4⟩
      · rcases hand' with q' | ⟨eh', ob, ws, q1, q2, q3, q4⟩
        · rw [show A.handled = none from q'] at heh; cases heh
        · rw [show A.handled = some (.ref eh) from heh] at q1
          cases q1
          have l := Heap.lt_size q2
          have q' : eh = (h'.push { cls := .type "tuple", data := .seq #[] }).objs.size := q
          rw [Heap.size_push] at q'
          rw [q'] at l
          exact absurd l (Nat.not_lt_of_le (Nat.le_succ _))
      · obtain ⟨vs', q1, _⟩ := hv₂
        refine wpAny_bind (wpAny_isInstance (T := "StopIteration") (b := true) ⟨_, q1, rfl⟩ isSubtype_stop ?_)
        refine wpAny_pure ?_
        have k2 : Keep h' h₂ := fun b o e => sb₂.extBut b o (Nat.ne_of_lt (Nat.lt_of_lt_of_le (Heap.lt_size e) (by show h'.objs.size ≤ (h'.push _).objs.size; rw [Heap.size_push]; omega))) (Heap.get?_push_of_some _ (Heap.get?_push_of_some _ e))
        obtain ⟨oI, i1, i2⟩ := hI
        exact hE hip h₂ tk (kb.trans (KB.keep k2)) ⟨oI, k2 _ _ i1, i2⟩
    · obtain ⟨⟨x, t, hx, rfl⟩, ⟨h', tk, rfl, kb, rd⟩, hkap⟩ := hv
      refine wpAny_pure ⟨_, rfl, wpAny_pure ?_⟩
      by_cases hip : i = p
      · subst hip
        have := hkap (St s h' tk) rd
        rw [Nat.sub_self] at this
        exact this.elim
      · have e1 : p - 1 - (p - i - 1) = i := by omega
        have e2 : p - (p - i - 1) = i + 1 := by omega
        rw [e1] at hx
        rw [e2] at rd hkap
        refine hY (by omega) x t h' tk gs' hx hb kb rd fun s'' hs'' => ?_
        have := hkap s'' hs''
        rw [show p - i = (p - (i + 1)) + 1 by omega] at this
        exact this
end

abbrev GS (s : Shared) (G : Array GenState) : Shared := { s with gens := G }
theorem bare_set {G : Array GenState} {gn : Nat} {x : GenState} (h : AllBare G) (hx : x.bare = true) : AllBare (G.setIfInBounds gn x) := fun y hy => by
  rcases Array.mem_or_eq_of_mem_setIfInBounds hy with q | q
  · exact h y q
  · rw [q]; exact hx
theorem set_self {G : Array GenState} {gn : Nat} {gs x y : GenState} (h : G[gn]? = some gs) : ((G.setIfInBounds gn x).setIfInBounds gn y)[gn]? = some y := by
  have hlt : gn < G.size := (Array.getElem?_eq_some_iff.mp h).1
  simp [hlt]

/-- the stack after the symbols from 'i' up to 'j' -/
inductive Steps (ns : List Int) (i : Nat) : Nat → List PyData → Prop
  | nil : Steps ns i i []
  | snoc {j : Nat} {ts ts' : List PyData} {x : Int} : Steps ns i j ts → ns[j]? = some x → stepF ts x = some ts' → Steps ns i (j + 1) ts'

theorem stepF_lay {ts ts' : List PyData} {x : Int} (h : stepF ts x = some ts') (c : PyData.canLayAll0 ts = true) : PyData.canLayAll0 ts' = true := by
  unfold stepF at h
  split at h
  · cases h
    have c1 : PyData.canLayAll0 (ts.take (takes x)).reverse = true := lay_iff.mpr fun d hd => lay_iff.mp c d (List.mem_of_mem_take (List.mem_reverse.mp hd))
    have c2 : PyData.canLayAll0 (ts.drop (takes x)) = true := lay_iff.mpr fun d hd => lay_iff.mp c d (List.mem_of_mem_drop hd)
    simp [PyData.canLayAll0, PyData.canLay0, c1, c2]
  · cases h

theorem KB.ns {I Lg L : Addr} {h h' : Heap} {m} (k : KB I Lg h h') (n : h.Ns L m) (h1 : L ≠ I) (h2 : L ≠ Lg) : h'.Ns L m := let ⟨o, es, ep, e, r⟩ := n; ⟨o, es, ep, k _ _ h1 h2 e, r⟩
theorem ns_ne_fields {h : Heap} {L X : Addr} {m} {o : Obj} {vs : Array Value} (n : h.Ns L m) (hX : h.get? X = some o) (hd : o.data = .fields vs) : L ≠ X := fun q => by
  obtain ⟨o', es, ep, e, d, _⟩ := n
  rw [q, hX] at e; cases e; rw [hd] at d; cases d
/-- a base without three records, tables -/
theorem Fm.back3 {g h h' : Heap} {L I Lg : Addr} {m mL} {oI : Obj} {vI : Array Value} (F : Fm g L h m) (k : Keep h h') (hI : g.get? I = none) (hLg : g.get? Lg = none) (h1 : h'.get? I = some oI) (h2 : oI.data = .fields vI) (h3 : h'.Ns Lg mL) :
    ∃ g', Keep g g' ∧ Fm g' L h' m ∧ KeepS h' g' ∧ g'.get? I = none ∧ g'.get? Lg = none := by
  have F' := F.keeps k
  have dict : ∀ {X : Addr} {mX}, h'.Ns X mX → ∀ b o vs n, h'.get? b = some o → o.data = .seq vs n → b ≠ X := fun nX b o vs n e hd q => by
    obtain ⟨o', es, ep, q1, q2, _⟩ := nX
    rw [q, q1] at e; rw [← Option.some.inj e, q2] at hd; cases hd
  have noI : ∀ b o vs n, h'.get? b = some o → o.data = .seq vs n → b ≠ I := fun b o vs n e hd q => by
    rw [q, h1] at e; rw [← Option.some.inj e, h2] at hd; cases hd
  refine ⟨((h'.hide L).hide I).hide Lg, fun b o e => ?_, ⟨F'.ns, fun _ _ e => Heap.of_hide (Heap.of_hide (Heap.of_hide e)), ?_⟩, fun b o vs n e hd => ?_, ?_, Heap.hide_self _ _⟩
  · rw [Heap.hide_ne _ (fun q => by rw [q, hLg] at e; cases e), Heap.hide_ne _ (fun q => by rw [q, hI] at e; cases e), Heap.hide_ne _ (F'.ne e)]
    exact F'.keep b o e
  · cases q : (((h'.hide L).hide I).hide Lg).get? L with
    | none => rfl
    | some o => have := Heap.of_hide (Heap.of_hide q); rw [Heap.hide_self] at this; cases this
  · rw [Heap.hide_ne _ (dict h3 b o vs n e hd), Heap.hide_ne _ (noI b o vs n e hd), Heap.hide_ne _ (dict F'.ns b o vs n e hd)]
    exact e
  · cases q : (((h'.hide L).hide I).hide Lg).get? I with
    | none => rfl
    | some o => have := Heap.of_hide q; rw [Heap.hide_self] at this; cases this

section
variable {prog : Program} {w : World} {mg mb : Str → Option Value}

theorem reduce_step {A : Around} {E : Value → Shared → Prop} {Q : Value → Shared → Prop} {s : Shared} {a fs ga I Lg Rw f L₁ : Addr} {gn p i : Nat} {g0 : Heap} {ns : List Int} {cd : Value} {env₁ : Env} {m₁ : Str → Option Value}
    (W : Wd mg mb g0) (hh : A.handled = none) (hroom : A.depth + 4 < recursionLimit) (ha : mg "reduce" = some (.ref a)) (hfs : mg "_law_step" = some (.ref fs))
    (row : Ints g0 Rw ns) (offI : g0.get? I = none) (offL : g0.get? Lg = none) (hIL : I ≠ Lg) (hg : g0.IsGen ga gn) (sg : Stretch ns i p) (rdy : Rdy g0 Rw I Lg i s.heap)
    (hgs : s.gens[gn]? = some (.fresh (.func (bodyOf 11) (genEnv Lg f cd)))) (bare : AllBare s.gens)
    (hfr : A.frames = some [env₁]) (hf₁ : env₁.frame = some L₁) (hk₁ : env₁.scope.kind = .function) (n₁ : s.heap.Ns L₁ m₁) (hL₁ : L₁ ≠ Lg)
    (hq : ∀ v ts h' tk G, Steps ns i p ts → Rd h' v (stk ts) → KB I Lg s.heap h' → h'.IsListIter I Rw (p + 1) → AllBare G → Q v (St (GS s G) h' tk))
    (he : ∀ e t u x q ts B h' tk G, Steps ns i q ts → ns[q]? = some x → q < p → stepF ts x = none → (∀ b o, b ≠ L₁ → b ≠ I → b ≠ Lg → s.heap.get? b = some o → B.get? b = some o) → B.IsListIter I Rw (q + 1) →
      FlyX B [env₁] e (.type "StopIteration") (.ref t) .none .none h' → h'.TupAt t [.int x u] → B.get? t = none → h'.Ns L₁ m₁ → AllBare G → E (.ref e) (St (GS s G) h' tk)) :
    wpAny (model prog w) A (call (.ref a) [.ref fs, .ref ga, .none]) Q E s := by
  obtain ⟨kg0, hI0, mLg, nLg, hmLg⟩ := id rdy
  have Ws := W.keeps kg0
  obtain ⟨a', T, im, om, r1, r2, r3, r4, r5, r6⟩ := Ws.red
  obtain rfl : a' = a := by rw [r1] at ha; cases ha; rfl
  obtain ⟨oT, hT1, hT2, nT, hT3⟩ := r3
  refine callF (binds := [("function", .ref fs), ("sequence", .ref ga), ("initial", .none)]) (by omega) Ws.nolim r2 (fun _ _ _ _ _ _ => BindsTo.of_defaults rfl hT1 hT3 rfl rfl) (by decide) rfl (fun cdr h₀ n kp => ?_)
  have Fs := Fm.start n kp
  have hfresh : s.heap.get? s.heap.objs.size = none := Heap.get?_none_of_le (Nat.le_refl _)
  generalize s.heap.objs.size = L at Fs hfresh ⊢
  generalize s.toks + _ = tk
  have old : ∀ {b o}, s.heap.get? b = some o → b ≠ L := fun {b o} e q => by rw [q, hfresh] at e; cases e
  -- the base of this frame: g0
  have F : Fm g0 L h₀ _ := ⟨Fs.ns, kg0.trans Fs.keep, Old.keep kg0 _ hfresh⟩
  have hLI : I ≠ L := let ⟨_, e, _⟩ := hI0; old e
  have hLLg : Lg ≠ L := let ⟨_, _, _, e, _⟩ := nLg; old e
  have hL1L : L₁ ≠ L := let ⟨_, _, _, e, _⟩ := n₁; old e
  have hL1I : L₁ ≠ I := let ⟨o, e, _, d⟩ := hI0; ns_ne_fields n₁ e d
  repeat walk_at "e"
  refine bl W F boot_iter ?_
  refine PyProof.Rows.callWith_builtin1 ?_
  repeat walk_at "e"
  refine b_iter ?_
  refine wpAny_pyIter_gen (hg.keeps F.keep) ?_
  refine st F (fun h₂ tk₂ F₂ sb₂ => ?_)
  dsimp only
  repeat walk_at "e"
  refine gl W F₂ r4 ?_
  refine wpAny_is_other rfl (by simp) ?_
  refine wpAny_truthy_bool ?_
  rw [if_neg (by decide)]
  repeat walk_at "e"
  refine st F₂ (fun h₃ tk₃ F₃ sb₃ => wpAny_execs_nil ?_)
  dsimp only
  repeat walk_at "e"
  refine wpAny_pyIter_gen (hg.keeps F₃.keep) ?_
  have kb₃ : KB I Lg s.heap h₃ := fun b o _ _ e => sb₃.extBut b o (old e) (sb₂.extBut b o (old e) (Fs.keep b o e))
  have rdy₃ : Rdy g0 Rw I Lg i h₃ := by
    obtain ⟨oI, q1, q2⟩ := hI0
    obtain ⟨oL, es, ep, q3, q4⟩ := nLg
    exact ⟨F₃.keep, ⟨oI, sb₃.extBut _ _ hLI (sb₂.extBut _ _ hLI (Fs.keep _ _ q1)), q2⟩, mLg, ⟨oL, es, ep, sb₃.extBut _ _ hLLg (sb₂.extBut _ _ hLLg (Fs.keep _ _ q3)), q4⟩, hmLg⟩
  have hle := sg.le
  refine codeAny_forLoop (fun k s' => ∃ (G : Array GenState) (gB h' : Heap) (tk' : Nat) (m' : Str → Option Value) (j : Nat) (ts : List PyData) (v : Value) (gs : GenState), s' = St (GS s G) h' tk' ∧ AllBare G ∧ Fm gB L h' m' ∧ gB.get? I = none ∧ gB.get? Lg = none ∧
    KB I Lg s.heap h' ∧ Rdy g0 Rw I Lg j h' ∧ G[gn]? = some gs ∧
    (∀ s'' : Shared, Rdy g0 Rw I Lg j s''.heap → gs.Goes (model prog w) (A.deeper (envOf "reduce" (scopeOf 2) L a' cdr)).in1 (genR I Lg Rw p) (gYield g0 ns I Lg Rw p) (p - j) (.send .none) s'') ∧
    m' "function" = some (.ref fs) ∧ m' "value" = some v ∧ Rd gB v (stk ts) ∧ PyData.canLayAll0 ts = true ∧ Steps ns i j ts ∧ i ≤ j ∧ j ≤ p ∧ k = p + 1 - j) ?_ (p + 1 - i)
    ⟨s.gens, g0, h₃, tk₃, _, i, [], .none, _, rfl, bare, F₃, offI, offL, kb₃, rdy₃, hgs, fun s'' hr => ⟨rfl, gen_start W row offI offL hIL (by show A.depth + 1 + 2 < _; omega) sg hr⟩, rfl, rfl, Rd.none, rfl, .nil, Nat.le_refl _, hle, rfl⟩
  clear kb₃ rdy₃ F₃ sb₃ F₂ sb₂ F
  rintro k s' ⟨G, gB, h', tk', m', j, ts, v, gs, rfl, hbare, F', oI', oL', kb', rdy', hgn, hgo, e1, e2, hv, hlay, hst, hij, hjp, rfl⟩
  refine next_gen (s := St (GS s G) h' tk') ((W.keeps rdy'.1).nolim) (by show A.depth + 1 + 2 < _; omega) (hg.keeps rdy'.1) hgn ⟨hjp, sg.eof, fun q y h1 h2 => sg.sym q y (by omega) h2⟩ rdy' hgo (fun _ _ => .inl hh) (fun hlt x t h₁ tk₁ gs' hx hb' kb₁ rdy₁ hgo₁ => ?_) (fun hje h₁ tk₁ kb₁ hI₁ => ?_)
  · -- a symbol
    change wpAny _ _ _ _ _ (St (GS s ((G.setIfInBounds gn .running).setIfInBounds gn gs')) h₁ tk₁)
    have hG' : AllBare ((G.setIfInBounds gn .running).setIfInBounds gn gs') := bare_set (bare_set hbare rfl) hb'
    have hgn' := set_self (x := .running) (y := gs') hgn
    generalize (G.setIfInBounds gn .running).setIfInBounds gn gs' = G' at hG' hgn' ⊢
    have F₁ : Fm gB L h₁ m' := ⟨kb₁.ns F'.ns (Ne.symm hLI) (Ne.symm hLLg), fun b o e => kb₁ b o (fun q => by rw [q, oI'] at e; cases e) (fun q => by rw [q, oL'] at e; cases e) (F'.keep b o e), F'.off⟩
    refine wpAny_assign_Name ?_
    refine st F₁ (fun h₂ tk₂ F₂ sb₂ => ?_)
    obtain ⟨kg₁, hI₁, mL₁, nL₁, hmL₁⟩ := rdy₁
    have kb₂ : KB I Lg s.heap h₂ := fun b o q1 q2 e => sb₂.extBut b o (old e) (kb₁ b o q1 q2 (kb' b o q1 q2 e))
    have kg₂ : Keep g0 h₂ := fun b o e => sb₂.extBut b o (fun q => by rw [q] at e; exact absurd (kg0 _ _ e) (by rw [hfresh]; simp)) (kg₁ b o e)
    have hI₂ : h₂.IsListIter I Rw (j + 1) := hI₁.extBut sb₂.extBut hLI
    have nL₂ : h₂.Ns Lg mL₁ := nL₁.sameBut sb₂ hLLg
    refine wpAny_passesOwn PassesOwn.leaving ?_
    repeat walk_at "e"
    refine cw_def (W.fn (i := 12) hfs) ?_
    repeat walk_at "e"
    refine ⟨kg₂, ?_⟩
    have n₁' : h₂.Ns L₁ m₁ := kb₂.ns n₁ hL1I hL₁
    refine step_call (s := St (GS s G') h₂ tk₂) (B := (h₂.hide L).hide L₁) (outer := [envOf "reduce" (scopeOf 2) L a' cdr, env₁]) (W.keeps kg₂) hh (by show A.depth + 1 + 1 < _; omega) hfs (hv.keeps (stk_lay hlay) F₂.keep) hlay
      (Around.frames_deeper hfr) (fun b o e => Heap.of_hide (Heap.of_hide e)) ?_ (fun ts' v' h₃ tk₃ hst' k₃ hv' => ?_) (fun e t h₃ tk₃ hst' fl htup hBt ups => ?_)
    · refine Heap.FunFrames.cons (by show (scopeOf 2).kind ≠ .module; decide) rfl F₂.ns ?_ (Heap.FunFrames.cons (by rw [hk₁]; decide) hf₁ n₁' (Heap.hide_self _ _) trivial)
      cases q : ((h₂.hide L).hide L₁).get? L with
      | none => rfl
      | some o => have := Heap.of_hide q; rw [Heap.hide_self] at this; cases this
    · obtain ⟨oI, i1, i2, i3⟩ := hI₂
      obtain ⟨g₃, kg₃, F₃, to₃, off₃, off₃'⟩ := F₂.back3 k₃ oI' oL' (k₃ _ _ i1) i3 (nL₂.keeps k₃)
      refine st F₃ (fun h₄ tk₄ F₄ sb₄ => wpAny_execs_nil ?_)
      refine ⟨p + 1 - (j + 1), by omega, G', g₃, h₄, tk₄, _, j + 1, ts', v', gs', rfl, hG', F₄, off₃, off₃', ?_, ?_, hgn', hgo₁, e1, rfl, hv'.to (stk_lay (stepF_lay hst' hlay)) to₃, stepF_lay hst' hlay, .snoc hst hx hst', by omega, hlt, rfl⟩
      · exact fun b o q1 q2 e => sb₄.extBut b o (old e) (k₃ b o (kb₂ b o q1 q2 e))
      · obtain ⟨oL, es, ep, q3, q4⟩ := nL₂
        exact ⟨fun b o e => sb₄.extBut b o (fun q => by rw [q] at e; exact absurd (kg0 _ _ e) (by rw [hfresh]; simp)) (k₃ b o (kg₂ b o e)), ⟨oI, sb₄.extBut _ _ hLI (k₃ _ _ i1), i2, i3⟩, mL₁, ⟨oL, es, ep, sb₄.extBut _ _ hLLg (k₃ _ _ q3), q4⟩, hmL₁⟩
    · refine leave_on (Around.frames_deeper hfr) rfl fl (fun h₄ fl₄ ups₄ => ?_)
      refine he e t _ x j ts ((h₂.hide L).hide L₁) h₄ _ G' hst hx hlt hst' (fun b o q1 q2 q3 e => ?_) ?_ fl₄ (htup.of_slots ups₄) hBt ?_ hG'
      · rw [Heap.hide_ne _ q1, Heap.hide_ne _ (old e)]; exact kb₂ b o q2 q3 e
      · obtain ⟨oI, i1, i2, i3⟩ := hI₂
        exact ⟨oI, by rw [Heap.hide_ne _ (Ne.symm hL1I), Heap.hide_ne _ hLI]; exact i1, i2, i3⟩
      · exact (ups.trans ups₄).ns n₁'
  · -- the end
    change wpAny _ _ _ _ _ (St (GS s ((G.setIfInBounds gn .running).setIfInBounds gn .finished)) h₁ tk₁)
    have hG' : AllBare ((G.setIfInBounds gn .running).setIfInBounds gn .finished) := bare_set (bare_set hbare rfl) rfl
    generalize (G.setIfInBounds gn .running).setIfInBounds gn .finished = G' at hG' ⊢
    subst hje
    have F₁ : Fm gB L h₁ m' := ⟨kb₁.ns F'.ns (Ne.symm hLI) (Ne.symm hLLg), fun b o e => kb₁ b o (fun q => by rw [q, oI'] at e; cases e) (fun q => by rw [q, oL'] at e; cases e) (F'.keep b o e), F'.off⟩
    refine wpAny_execs_nil ?_
    dsimp only
    repeat walk_at "e"
    exact hq _ ts _ _ G' hst (hv.keeps (stk_lay hlay) F₁.keep) (kb'.trans kb₁) hI₁ hG'
end

def pick (x : Int) : Int :=
  if x % 10 = 0 then 0 else if x % 10 = 1 then 1 else if x % 10 = 2 then 255 else if x % 10 = 3 then 256 else if x % 10 = 4 then 256 else if x % 10 = 5 then 257
  else if x % 10 = 6 then 258 else if x % 10 = 7 then 259 else x
def tailL : List Int := [2, 6, 9, 5, 1, 3, 7, 0, 1, 4, 2, 7, 0, 0, 1, 2]
def rowF (script : List Int) : List Int := (script.take 24 ++ tailL).map pick ++ [0]

theorem Fm.weaken {g g' h : Heap} {L : Addr} {m} (F' : Fm g' L h m) (k : Keep g g') (off : g.get? L = none) : Fm g L h m := ⟨F'.ns, fun b o e => F'.keep b o (k b o e), off⟩
theorem pick_at (x : Int) (t0 t1 t2 t3 t4 t5 t6 t7 t8 t9 : Tok) :
    ∃ t, ([.int 0 t0, .int 1 t1, .int 255 t2, .int 256 t3, .int 256 t4, .int 257 t5, .int 258 t6, .int 259 t7, .int x t8, .int x t9] : List Value)[(x % 10).toNat]? = some (.int (pick x) t) := by
  have h : x % 10 = 0 ∨ x % 10 = 1 ∨ x % 10 = 2 ∨ x % 10 = 3 ∨ x % 10 = 4 ∨ x % 10 = 5 ∨ x % 10 = 6 ∨ x % 10 = 7 ∨ x % 10 = 8 ∨ x % 10 = 9 := by omega
  unfold pick
  rcases h with h | h | h | h | h | h | h | h | h | h <;> rw [h] <;> exact ⟨_, rfl⟩
theorem seqIndex_mod (x : Int) : seqIndex? (x % 10) 10 = some (x % 10).toNat := by
  unfold seqIndex?
  simp
  omega
theorem intsAre_snoc : ∀ {vs : List Value} {ns : List Int} {n : Int} {t : Tok}, IntsAre vs ns → IntsAre (vs ++ [.int n t]) (ns ++ [n])
  | _, _, _, _, .nil => .cons _ _ .nil
  | _, _, _, _, .cons _ _ r => .cons _ _ (intsAre_snoc r)

section
variable {prog : Program} {w : World} {A : Around} {E : Value → Shared → Prop} {s₀ : Shared} {h : Heap} {tk : Nat} {Q : Value → Shared → Prop} {g : Heap} {L : Addr} {m : Str → Option Value}
theorem l_newP {vs : List Value} (F : Fm g L h m) (hsz : vs.length ≤ sizeLine) (hq : ∀ h' D, Keep h h' → Fm g L h' m → PlainL h' D vs.toArray → g.get? D = none → D ≠ L → h.get? D = none → Q (.ref D) (St s₀ h' tk)) :
    wpAny (model prog w) A (newList vs) Q E (St s₀ h tk) :=
  wpAny_newObj_type (hq _ _ (Keep.push _ _) (F.push _) ⟨_, _, Heap.get?_push_size _ rfl, rfl, rfl, rfl⟩ F.fresh.1 F.fresh.2 (Heap.get?_none_of_le (Nat.le_refl _))) (by show vs.toArray.size ≤ sizeLine; rw [List.size_toArray]; exact hsz)
theorem l_addD {x y : Addr} {vs ws : List Value} (F : Fm g L h m) (hx : g.IsList x vs.toArray) (hy : g.IsList y ws.toArray) (hsz : vs.length + ws.length ≤ sizeLine)
    (hq : ∀ g' h' z, Keep g g' → Fm g' L h' m → g'.IsList z (vs ++ ws).toArray → g'.NoDictAt (.ref z) → h.get? z = none → Q (.ref z) (St s₀ h' tk)) :
    wpAny (model prog w) A (binaryOp .Add (.ref x) (.ref y)) Q E (St s₀ h tk) := by
  obtain ⟨R, N⟩ := F.fr
  refine add_arrays (s := St s₀ h tk) R N (isList_keeps hx F.keep) (isList_keeps hy F.keep) (fun h' R' N' => ?_) (by simpa using hsz)
  obtain ⟨g', k, F', e⟩ := F.ofFr R' N' fun p hp => .tail _ hp
  exact hq g' h' _ k F' ⟨_, e _ (.head _), rfl, _, rfl⟩ ⟨_, e _ (.head _), rfl⟩ (Heap.get?_none_of_le (Nat.le_refl _))
theorem l_copy {S : Addr} {vs : List Value} (F : Fm g L h m) (hS : g.IsList S vs.toArray) (hsz : vs.length ≤ sizeLine) (hq : ∀ g' h' z, Keep g g' → Fm g' L h' m → g'.IsList z vs.toArray → Keep h h' → Q (.ref z) (St s₀ h' tk)) :
    wpAny (model prog w) A (call (.type "list") [.ref S]) Q E (St s₀ h tk) := by
  obtain ⟨o, h1, h2, n, h3⟩ := hS
  refine call_list_seq (s := St s₀ h tk) S (.inl rfl) (F.keep _ _ h1) h2 h3 (fun h' c' hk hD => ?_) (by simpa using hsz)
  have R := (F.keeps hk).rebase
  exact hq _ h' _ R.2 R.1 ⟨_, (Heap.hide_ne _ F.fresh.2).trans hD, rfl, _, rfl⟩ hk
end

section
variable {prog : Program} {w : World} {A : Around} {E : Value → Shared → Prop} {s : Shared} {mg mb : Str → Option Value} {Q : Value → Shared → Prop}

theorem row_call {a P : Addr} {script : List Int} (W : Wd mg mb s.heap) (hh : A.handled = none) (hroom : A.depth < recursionLimit) (ha : mg "_law_row" = some (.ref a)) (hP : Ints s.heap P script) (hlen : script.length ≤ 2 ^ 20)
    (hq : ∀ z h' tk, Keep s.heap h' → Ints h' z (rowF script) → h'.NoDictAt (.ref z) → s.heap.get? z = none → Q (.ref z) (St s h' tk)) :
    wpAny (model prog w) A (call (.ref a) [.ref P]) Q E s := by
  refine callN (binds := [("script", .ref P)]) hroom W.nolim (W.fn (i := 10) ha) (fun _ _ _ _ _ _ => BindsTo.of_eq rfl) (by decide) rfl (fun cd h₀ n kp => ?_)
  have F := Fm.start n kp
  generalize s.heap.objs.size = L at F ⊢
  generalize s.toks + _ = tk
  obtain ⟨vs, hl, hi⟩ := hP
  repeat walk_at "e"
  have hsb := sizeBig
  have hvl : vs.length = script.length := IntsAre.length hi
  refine l_newP F (by simp) (fun h₁ D k₁ F₁ hD hDg hDL hDn => ?_)
  refine st F₁ (fun h₂ tk₂ F₂ sb₂ => ?_)
  have hD₂ := hD.extBut sb₂.extBut hDL
  dsimp only
  repeat walk_at "e"
  refine bl W F₂ PyProof.Rows.boot_list ?_
  refine PyProof.Rows.callWith_type1 ?_
  repeat walk_at "e"
  have R := F₂.rebase
  have DR : PlainL (h₂.hide L) D _ := let ⟨o, n, e, r⟩ := hD₂; ⟨o, n, (Heap.hide_ne _ hDL).trans e, r⟩
  refine l_slice R.1 (isList_keeps hl R.2) .none (.int 24 _) (by omega) (slicePick_upto' _ 24) (fun g₃ h₃ z₃ k₃ F₃ hz₃ => ?_)
  repeat walk_at "e"
  refine l_copy F₃ hz₃ (by simp; omega) (fun g₄ h₄ z₄ k₄ F₄ hz₄ _ => ?_)
  repeat walk_at "e"
  refine l_new F₄ (by show 16 ≤ sizeLine; decide) (fun g₅ h₅ z₅ k₅ F₅ hz₅ _ _ => ?_)
  refine l_add F₅ (isList_keeps hz₄ k₅) hz₅ (by show _ + 16 ≤ _; simp; omega) (fun g₆ h₆ z₆ k₆ F₆ hz₆ hn₆ => ?_)
  have kR := ((k₃.trans k₄).trans k₅).trans k₆
  refine iter_list F₆ hz₆ (fun h₇ I k₇ F₇ hI hgI hIL hIn => ?_)
  generalize hws : vs.take 24 ++ _ = ws at hz₆
  have hxs : IntsAre ws (script.take 24 ++ tailL) := by
    rw [← hws]
    exact (IntsAre.take hi 24).append (by repeat constructor)
  clear hws
  generalize hxsd : script.take 24 ++ tailL = xs at hxs
  have hxl : xs.length ≤ 40 := by rw [← hxsd]; simp [tailL]; omega
  have hwl : ws.length = xs.length := IntsAre.length hxs
  have DR₅ : PlainL h₅ D _ := DR.keeps (((k₃.trans k₄).trans k₅).trans F₅.keep)
  have hz6D : z₆ ≠ D := fun q => by obtain ⟨o, n, e, _⟩ := DR₅; rw [q, e] at hn₆; cases hn₆
  have kgL : Keep s.heap (g₆.hide D) := (R.2.trans kR).drop hDg
  have FL : Fm (g₆.hide D) L h₇ _ := F₇.weaken (fun b o e => Heap.of_hide e) (by
    cases q : (g₆.hide D).get? L with
    | none => rfl
    | some o => have := Heap.of_hide q; rw [F₇.off] at this; cases this)
  have offD : (g₆.hide D).get? D = none := Heap.hide_self _ _
  have offI : (g₆.hide D).get? I = none := by
    cases q : (g₆.hide D).get? I with
    | none => rfl
    | some o => have := Heap.of_hide q; rw [hgI] at this; cases this
  have hS : (g₆.hide D).IsList z₆ ws.toArray := let ⟨o, e, r⟩ := hz₆; ⟨o, (Heap.hide_ne _ hz6D).trans e, r⟩
  have D₇ : PlainL h₇ D _ := DR.keeps (kR.trans F₇.keep)
  have hID : I ≠ D := fun q => by obtain ⟨o, n, e, _, _, d⟩ := D₇; obtain ⟨o', e', _, d'⟩ := hI; rw [q, e] at e'; cases e'; rw [d] at d'; cases d'
  generalize g₆.hide D = gL at kgL FL offD offI hS
  refine codeAny_forLoop (fun k s' => ∃ (h' : Heap) (tk' : Nat) (m' : Str → Option Value) (i : Nat) (items : List Value), s' = St s h' tk' ∧ Fm gL L h' m' ∧ h'.IsListIter I z₆ i ∧ PlainL h' D items.toArray ∧ IntsAre items ((xs.take i).map pick) ∧ m' "row" = some (.ref D) ∧ i ≤ xs.length ∧ k = xs.length + 1 - i) ?_ (xs.length + 1)
    ⟨h₇, _, _, 0, [], rfl, FL, hI, D₇, .nil, rfl, by omega, rfl⟩
  clear F₇ F₆ F₅ F₄ F₃ R FL D₇ DR DR₅ hI hz₆
  rintro k s' ⟨h', tk', m', i, items, rfl, F', hI', hD', hit, hm, hix, rfl⟩
  have hil : items.length = i := by have := IntsAre.length hit; simp at this; omega
  cases hx : xs[i]? with
  | none =>
    have hie : i = xs.length := by have := List.getElem?_eq_none_iff.mp hx; omega
    subst hie
    refine next_end F' hh hI' offI hIL hS (by simp [hwl]) (fun h₈ F₈ e₈ => wpAny_execs_nil ?_)
    have hD₈ := hD'.extBut e₈ (Ne.symm hID)
    dsimp only
    repeat walk_at "e"
    have R := F₈.rebase
    have DR : (h₈.hide L).IsList D items.toArray := let ⟨o, n, e, c, _, d⟩ := hD₈; ⟨o, (Heap.hide_ne _ hDL).trans e, c, n, d⟩
    refine l_new R.1 (by show 1 ≤ sizeLine; decide) (fun g₉ h₉ z₉ k₉ F₉ hz₉ _ _ => ?_)
    refine l_addD F₉ (isList_keeps DR k₉) hz₉ (by show _ + 1 ≤ _; omega) (fun g₁ h₁ z₁ k₁ F₁ hz₁ hd₁ hn₁ => ?_)
    refine hq z₁ h₁ _ ((((kgL.trans R.2).trans k₉).trans k₁).trans F₁.keep) ⟨_, isList_keeps hz₁ F₁.keep, ?_⟩ (hd₁.keeps F₁.keep) (Old.keep (((kgL.trans R.2).trans k₉).trans F₉.keep) _ hn₁)
    rw [List.take_length] at hit
    rw [rowF, hxsd]
    exact intsAre_snoc hit
  | some x =>
    have hix' : i < xs.length := (List.getElem?_eq_some_iff.mp hx).1
    obtain ⟨tx, htx⟩ := ints_at hxs hx
    refine next_item F' hI' offI hIL hS (by simpa using htx) (fun h₈ F₈ hI₈ sb₈ => ?_)
    refine wpAny_assign_Name ?_
    refine st F₈ (fun h₉ tk₉ F₉ sb₉ => ?_)
    have hD₉ := (hD'.extBut sb₈.extBut (Ne.symm hID)).extBut sb₉.extBut hDL
    have hI₉ := hI₈.extBut sb₉.extBut hIL
    refine wpAny_execs_cons ?_
    refine wpAny_Expr_any ?_
    refine wpAny_Call_append rfl rfl rfl rfl ?_
    repeat walk_at "e"
    refine ⟨D, _, rfl, hD₉, ?_⟩
    repeat walk_at "e"
    have R := F₉.rebase
    refine t_new R.1 (by show 10 ≤ sizeLine; decide) (fun g₁ h₁ z₁ k₁ F₁ hz₁ => ?_)
    repeat walk_at "e"
    obtain ⟨tp, hp⟩ := pick_at x _ _ _ _ _ _ _ _ _ _
    refine item_tupleT (isTup_keeps hz₁ F₁.keep) (by omega) (by omega) (seqIndex_mod x) hp ?_
    have D₁ : PlainL h₁ D items.toArray := let ⟨o, n, e, r⟩ := hD₉; ⟨o, n, F₁.keep _ _ (k₁ _ _ ((Heap.hide_ne _ hDL).trans e)), r⟩
    have I₁ : h₁.IsListIter I z₆ (i + 1) := let ⟨o, e, r⟩ := hI₉; ⟨o, F₁.keep _ _ (k₁ _ _ ((Heap.hide_ne _ hIL).trans e)), r⟩
    have F₂ : Fm gL L h₁ _ := F₁.weaken (R.2.trans k₁) F₉.off
    refine list_append_plainL D₁ (fun h₂ hD₂ sb₂ => wpAny_execs_nil ?_) (by simp; omega)
    have F₃ := F₂.ext sb₂.extBut offD hDL
    refine ⟨xs.length + 1 - (i + 1), by omega, h₂, _, _, i + 1, items ++ [.int (pick x) tp], rfl, F₃, I₁.extBut sb₂.extBut hID, by simpa using hD₂, ?_, hm, hix', rfl⟩
    rw [List.take_add_one, hx, List.map_append]
    exact intsAre_snoc hit
end

section
variable {prog : Program} {w : World} {A : Around} {E : Value → Shared → Prop} {s : Shared}

/-- next(it), the end -/
theorem call_next_end {I S : Addr} {i : Nat} {its : Array Value} {Q : Value → Shared → Prop} (hh : A.handled = none) (hit : s.heap.IsListIter I S i) (hl : s.heap.IsList S its) (hx : its[i]? = none)
    (hE : ∀ h' e t, Heap.ExtBut I s.heap h' → s.heap.get? e = none → h'.get? e = some { cls := .type "StopIteration", data := .fields #[.ref t, .none, .none, .none, .bool false, .none] } → E (.ref e) { s with heap := h' }) :
    wpAny (model prog w) A (call (.builtin "next") [.ref I]) Q E s := by
  obtain ⟨o, ho, hc, hd⟩ := id hit
  obtain ⟨ol, hol, _, nl, hdl⟩ := hl
  refine Calls.call_function_entry (by decide +kernel) (by decide +kernel) kdk_entry_next (kdk_args_next _) ?_
  unfold Builtin.«next»
  refine wpAny_bind (m := someArgs "next" 1 2 _) (wpAny_of_eq (a := [Value.ref I]) (by first | rfl | kernel_rfl!) ?_)
  dsimp only
  refine wpAny_bind (wpAny_specialOf (name := Str.ofString "__next__") hit.typeIs slot_listiter_next.lookup ?_)
  refine wpAny_ite_split (fun hab => absurd hab (by decide)) (fun _ => ?_)
  refine wpAny_bind (wpAny_callSpecial?_slot (name := Str.ofString "__next__") hit.typeIs slot_listiter_next
    (wpAny_call_entry slot_listiter_next hit.typeIs entry_listiter_next ?_ (args_listiter_next _)))
  show wpAny _ _ (field (.ref I) 0 >>= _) _ _ s
  refine wpAny_bind (wpAny_field ho hd (x := .ref S) rfl ?_)
  show wpAny _ _ (if (Value.ref S == Value.none) = true then _ else _) _ _ s
  rw [if_neg (show ¬ ((Value.ref S == Value.none) = true) from Bool.false_ne_true)]
  show wpAny _ _ (field (.ref I) 1 >>= _) _ _ s
  refine wpAny_bind (wpAny_field ho hd (x := .int i 0) rfl ?_)
  show wpAny _ _ (seqItems? (.ref S) >>= _) _ _ s
  refine wpAny_bind (wpAny_seqItems hol hdl ?_)
  simp only [Int.toNat_natCast, hx]
  refine wpAny_bind (wpAny_rule (wpAny_bind (wpAny_setField ho hd (by simp) ?_)))
  show wpAny _ _ (newExc (.type "StopIteration") [] >>= _) _ _ _
  refine wpAny_bind ?_
  simp only [newExc, newTuple]
  refine wpAny_bind (wpAny_newObj_type ?_ (by size_fits))
  refine wpAny_bind (m := firstArgMember _ _) (wpAny_of_eq (a := Value.none) (by first | rfl | (simp only [firstArgMember]; rfl)) ?_)
  refine wpAny_newObj_type ?_ (by size_fits)
  simp only [raiseNew]
  refine wpAny_bind (wpAny_handled ?_)
  rw [show A.in1.in1.handled = none from hh]
  refine wpAny_bind (wpAny_pure (wpAny_throw ?_))
  refine hE _ _ _ (((Heap.SameBut.update ..).extBut.push _).push _) ?_ (Heap.get?_push_size _ rfl)
  refine Heap.get?_none_of_le ?_
  have e1 : ∀ (h : Heap) a f, (h.update a f).objs.size = h.objs.size := fun h a f => (Heap.SameBut.update h a f).1
  simp only [Heap.size_push, e1]
  omega

/-- raise TypeError(x) from None, while another is being handled -/
theorem raise_from_none {env : Env} {x : Expr} {k : Nat} {cp pos : Pos} {Q : Flow → Shared → Prop}
    (h : wpAny (model prog w) A (eval x env) (fun v s₁ => ∃ e t, v = .ref e ∧ s₁.heap.get? e = some { cls := .type "TypeError", data := .fields #[.ref t, .none, .none, .none, .bool false, .none] } ∧
      HandOk A s₁.heap ∧ (∀ eh, A.handled = some (.ref eh) → eh ≠ e) ∧
      ∀ h' vs, Heap.SameBut e s₁.heap h' → h'.get? e = some { cls := .type "TypeError", data := .fields vs } → vs[0]? = some (.ref t) → vs[1]? = some .none → (∃ a2, vs[2]? = some a2) → E (.ref e) { s₁ with heap := h' }) E s) :
    wpAny (model prog w) A (exec (.Raise (some x) (some (.Constant .none k cp)) pos) env) Q E s := by
  have key : wpAny (model prog w) A (raiseStmt env (some (do let v ← eval x env; standAt pos; pure v)) (some (do let v ← eval (.Constant .none k cp) env; standAt pos; pure v))) Q E s := by
    unfold raiseStmt
    refine wpAny_bind (wpAny_bind (wpAny_mono h (fun v s₁ h₁ => wpAny_bind (wpAny_standAt (wpAny_pure ?_))) fun _ _ x => x))
    obtain ⟨e, t, rfl, he, ho, hne, hE⟩ := h₁
    obtain ⟨hp, g, d, tk, os⟩ := s₁
    have hsub := PySem.F.excRaise_TypeError.isExc
    have hmeta := PySem.F.excRaise_TypeError.plainMeta
    dsimp only
    refine wpAny_bind (wpAny_holding (wpAny_bind (Constant_none (wpAny_bind (wpAny_standAt (wpAny_pure ?_))))))
    refine wpAny_bind (wpAny_pure ?_)
    refine wpAny_bind (wpAny_holding ?_)
    have ex : ∀ (Q : Value → Shared → Prop), Q (.ref e) ⟨hp, g, d, tk, os⟩ → wpAny (model prog w) A (excFromValue (.ref e) "exceptions must derive from BaseException") Q E ⟨hp, g, d, tk, os⟩ := fun Q hQ => by
      repeat (first | exact hQ | refine wpAny_loadPart he ?_ | wp_step)
    refine ex _ ?_
    dsimp only
    rw [if_pos (show (Value.none == Value.none) = true from rfl)]
    refine wpAny_bind (wpAny_pure ?_)
    refine wpAny_bind (wpAny_setField he rfl (by show 3 < 6; decide) ?_)
    have he₁ := Heap.get?_update_self (Obj.mapFields (·.setIfInBounds 3 Value.none)) he rfl
    have sb₁ := Heap.SameBut.update hp e (Obj.mapFields (·.setIfInBounds 3 Value.none))
    generalize hp.update e (Obj.mapFields (·.setIfInBounds 3 Value.none)) = h₁ at he₁ sb₁
    refine wpAny_bind (wpAny_setField he₁ rfl (by show 4 < 6; decide) ?_)
    have he₂ := Heap.get?_update_self (Obj.mapFields (·.setIfInBounds 4 (Value.bool true))) he₁ rfl
    have sb₂ := sb₁.trans (Heap.SameBut.update h₁ e (Obj.mapFields (·.setIfInBounds 4 (Value.bool true))))
    dsimp only
    generalize h₁.update e (Obj.mapFields (·.setIfInBounds 4 (Value.bool true))) = h₂ at he₂ sb₂
    have he₃ : h₂.get? e = some { cls := .type "TypeError", data := .fields #[.ref t, .none, .none, .none, .bool true, .none] } := he₂
    clear he₂ he₁ sb₁ ex
    have fin : ∀ (Q : Flow → Shared → Prop), wpAny (model prog w) A (setFlight (.ref e) none >>= fun _ => (raiseNew (.ref e) : Sem Flow)) Q E ⟨h₂, g, d, tk, os⟩ := fun Q => by
      refine wpAny_bind ?_
      unfold setFlight
      refine wpAny_bind (wpAny_field he₃ rfl (x := .none) rfl ?_)
      rw [if_neg (by decide)]
      refine wpAny_pure ?_
      refine raiseNew_ok (ho := ?_) hne he₃ rfl (by show 2 < 6; decide) (fun h' sb' hv => ?_)
      · rcases ho with q | ⟨eh, ob, ws, q1, q2, q3⟩
        · exact .inl q
        · exact .inr ⟨eh, ob, ws, q1, sb₂.extBut _ _ (hne eh q1) q2, q3⟩
      · obtain ⟨vs', q1, q2⟩ := hv
        refine hE h' vs' (sb₂.trans sb') q1 ?_ ?_ ?_
        · rcases q2 with rfl | ⟨x, rfl⟩ <;> rfl
        · rcases q2 with rfl | ⟨x, rfl⟩ <;> rfl
        · rcases q2 with rfl | ⟨x, rfl⟩
          · exact ⟨_, rfl⟩
          · exact ⟨x, rfl⟩
    repeat (first | exact fin _ | refine wpAny_loadPart he₃ ?_ | wp_step)
  rw [arm_exec_Raise]
  first
    | exact wpAny_bind (wpAny_standAt key)
    | (simp only [evalOpt, Option.map]; exact wpAny_bind (wpAny_standAt key))
    | (show wpAny _ A (do standAt pos; raiseStmt env (some (do let v ← eval x env; standAt pos; pure v)) (some (do let v ← eval (.Constant .none k cp) env; standAt pos; pure v))) Q E s; exact wpAny_bind (wpAny_standAt key))
end

def emptyMsg : Str := "reduce() of empty iterable with no initial value"

theorem dflt_binds {s : Shared} {T im fj S : Addr} {oT : Obj} {nT : Nat} (h1 : s.heap.get? T = some oT) (h3 : oT.data = .seq #[.ref im] nT) (kV doc pm an cdv ct) :
    BindsTo s (fnOf "reduce" "reduce" (paramsOf 2) (bodyOf 2) (scopeOf 2) (.ref T) kV doc pm an cdv ct) ⟨[.ref fj, .ref S], []⟩ [("function", .ref fj), ("sequence", .ref S), ("initial", .ref im)] :=
  BindsTo.of_defaults rfl h1 h3 rfl rfl

theorem stop_notTuple : isSubtype (.type ((Manifest.find? "StopIteration").elim "type" fun x => x.metatype)) (.type "tuple") = pure false := by rw [isSubtype_type]; kernel_rfl

section
variable {prog : Program} {w : World} {A : Around} {mg mb : Str → Option Value}

/-- reduce(_law_join, a list of lists that is not empty) -/
theorem reduce_join2 {E : Value → Shared → Prop} {Q : Value → Shared → Prop} {s : Shared} {a fj S : Addr} {x : List PyData} {l : List (List PyData)}
    (W : Wd mg mb s.heap) (hh : A.handled = none) (hroom : A.depth + 2 < recursionLimit) (ha : mg "reduce" = some (.ref a)) (hj : mg "_law_join" = some (.ref fj)) (hS : Rd s.heap (.ref S) (.list (listsOf (x :: l)))) (hl : ∀ y ∈ x :: l, PyData.canLayAll0 y = true)
    (hsz : (flat (x :: l)).length ≤ sizeLine)
    (hq : ∀ v' h' tk, Keep s.heap h' → Rd h' v' (.list (flat (x :: l))) → Q v' (St s h' tk)) :
    wpAny (model prog w) A (call (.ref a) [.ref fj, .ref S]) Q E s := by
  obtain ⟨a', T, im, om, r1, r2, r3, r4, r5, r6⟩ := W.red
  obtain rfl : a' = a := by rw [r1] at ha; cases ha; rfl
  obtain ⟨oT, hT1, hT2, nT, hT3⟩ := r3
  refine callN (binds := [("function", .ref fj), ("sequence", .ref S), ("initial", .ref im)]) (by omega) W.nolim r2 (dflt_binds hT1 hT3) (by decide) rfl (fun cd h₀ n kp => ?_)
  have F := Fm.start n kp
  generalize s.heap.objs.size = L at F ⊢
  generalize s.toks + _ = tk
  obtain ⟨S', vs, e, hS1, hS2⟩ := hS.list_inv
  cases e
  obtain ⟨v0, hv0, hr0⟩ := hS2.at (i := 0) (d := .list x) rfl
  repeat walk_at "e"
  refine bl W F boot_iter ?_
  refine PyProof.Rows.callWith_builtin1 ?_
  repeat walk_at "e"
  refine b_iter ?_
  refine iter_list F hS1 (fun h₁ I k₁ F₁ hI hgI hIL _ => ?_)
  refine st F₁ (fun h₂ tk₂ F₂ sb₂ => ?_)
  have hI₂ := hI.extBut sb₂.extBut hIL
  dsimp only
  repeat walk_at "e"
  refine gl W F₂ r4 ?_
  refine wpAny_is_ref_self ?_
  refine wpAny_truthy_bool ?_
  rw [if_pos rfl]
  refine wpAny_execs_cons ?_
  refine wpAny_Try_except ?_
  repeat walk_at "e"
  refine bl W F₂ boot_next ?_
  refine PyProof.Rows.callWith_builtin1 ?_
  repeat walk_at "e"
  refine call_next_item hI₂ (isList_keeps hS1 F₂.keep) (by simpa using hv0) (fun h₃ hI₃ sb₃ => ?_)
  have F₃ := F₂.ext sb₃.extBut hgI hIL
  refine st (s₀ := s) F₃ (fun h₄ tk₄ F₄ sb₄ => wpAny_execs_nil ?_)
  refine wpAny_execs_nil ?_
  dsimp only
  refine wpAny_execs_nil ?_
  dsimp only
  have hl' : PyData.canLayAll0 x = true := hl x (.head _)
  refine reduce_tail (l := x :: l) (i := 1) W hh (by show A.depth + 1 + 1 < _; omega) hj F₄ rfl rfl rfl (hI₃.extBut sb₄.extBut hIL) hgI hIL hS1 hS2 hl hr0 hl' (by simp) (by simpa [flat] using hsz) (fun v g' h' tk' kg kh hr _ => ?_)
  exact hq _ _ _ (kg.trans kh) (hr.keeps (show PyData.canLayAll0 (flat (x :: l)) = true from lay_flat hl) kh)

/-- reduce(_law_join, an empty list) -/
theorem reduce_empty {E : Value → Shared → Prop} {Q : Value → Shared → Prop} {s : Shared} {g0 : Heap} {a fj S L₁ : Addr} {env₁ : Env} {m₁ : Str → Option Value}
    (W : Wd mg mb g0) (kg0 : Keep g0 s.heap) (off₁ : g0.get? L₁ = none) (hh : A.handled = none) (hroom : A.depth + 2 < recursionLimit) (ha : mg "reduce" = some (.ref a)) (hS : g0.IsList S #[])
    (hfr : A.frames = some [env₁]) (hf₁ : env₁.frame = some L₁) (hk₁ : env₁.scope.kind = .function) (n₁ : s.heap.Ns L₁ m₁)
    (he : ∀ e t u a2 h' tk, FlyX (s.heap.hide L₁) [env₁] e (.type "TypeError") (.ref t) a2 .none h' → h'.TupAt t [.str emptyMsg u] → (s.heap.hide L₁).get? t = none → h'.Ns L₁ m₁ → E (.ref e) (St s h' tk)) :
    wpAny (model prog w) A (call (.ref a) [.ref fj, .ref S]) Q E s := by
  have Ws := W.keeps kg0
  obtain ⟨a', T, im, om, r1, r2, r3, r4, r5, r6⟩ := Ws.red
  obtain rfl : a' = a := by rw [r1] at ha; cases ha; rfl
  obtain ⟨oT, hT1, hT2, nT, hT3⟩ := r3
  refine callF (binds := [("function", .ref fj), ("sequence", .ref S), ("initial", .ref im)]) (by omega) Ws.nolim r2 (dflt_binds hT1 hT3) (by decide) rfl (fun cd h₀ n kp => ?_)
  have Fs := Fm.start n kp
  have hfresh : s.heap.get? s.heap.objs.size = none := Heap.get?_none_of_le (Nat.le_refl _)
  generalize s.heap.objs.size = L at Fs hfresh ⊢
  generalize s.toks + _ = tk
  have old : ∀ {b o}, s.heap.get? b = some o → b ≠ L := fun {b o} e q => by rw [q, hfresh] at e; cases e
  have hL1L : L₁ ≠ L := let ⟨_, _, _, e, _⟩ := n₁; old e
  have kB : Keep g0 (s.heap.hide L₁) := kg0.drop off₁
  have WB := W.keeps kB
  have F : Fm (s.heap.hide L₁) L h₀ _ := ⟨Fs.ns, fun b o e => Fs.keep _ _ (Heap.of_hide e), by
    cases q : (s.heap.hide L₁).get? L with
    | none => rfl
    | some o => have := Heap.of_hide q; rw [hfresh] at this; cases this⟩
  have hS' := isList_keeps hS kB
  have n₁' : h₀.Ns L₁ m₁ := n₁.keeps Fs.keep
  have offB : (s.heap.hide L₁).get? L₁ = none := Heap.hide_self _ _
  generalize s.heap.hide L₁ = B at kB WB F hS' offB he ⊢
  repeat walk_at "e"
  refine bl WB F boot_iter ?_
  refine PyProof.Rows.callWith_builtin1 ?_
  repeat walk_at "e"
  refine b_iter ?_
  refine iter_list F hS' (fun h₁ I k₁ F₁ hI hgI hIL hnI => ?_)
  refine st F₁ (fun h₂ tk₂ F₂ sb₂ => ?_)
  have hI₂ := hI.extBut sb₂.extBut hIL
  have n₂ : h₂.Ns L₁ m₁ := (n₁'.keeps k₁).sameBut sb₂ hL1L
  dsimp only
  repeat walk_at "e"
  refine gl WB F₂ r4 ?_
  refine wpAny_is_ref_self ?_
  refine wpAny_truthy_bool ?_
  rw [if_pos rfl]
  refine wpAny_execs_cons ?_
  refine wpAny_Try_except ?_
  repeat walk_at "e"
  refine bl WB F₂ boot_next ?_
  refine PyProof.Rows.callWith_builtin1 ?_
  repeat walk_at "e"
  refine call_next_end hh hI₂ (isList_keeps hS' F₂.keep) rfl (fun h₃ e₁ t₁ ex₃ hn₃ he₃ => ?_)
  have F₃ := F₂.ext ex₃ hgI hIL
  have hL1I : L₁ ≠ I := let ⟨_, q1, _, q2⟩ := hI₂; ns_ne_fields n₂ q1 q2
  have n₃ : h₃.Ns L₁ m₁ := n₂.extBut ex₃ hL1I
  have heB : B.get? e₁ = none := Old.keep F₂.keep _ hn₃
  have FF : ∀ {h : Heap} {m}, h.Ns L m → h.Ns L₁ m₁ → h.FunFrames B [envOf "reduce" (scopeOf 2) L a' cd, env₁] := fun q1 q2 =>
    Heap.FunFrames.cons (by show (scopeOf 2).kind ≠ .module; decide) rfl q1 F.off (Heap.FunFrames.cons (by rw [hk₁]; decide) hf₁ q2 offB trivial)
  refine note_new (base := B) (outer := [env₁]) (L := L) (a0 := .ref t₁) (a2 := .none) (Around.frames_deeper hfr) (FF F₃.ns n₃) rfl he₃ F₃.keep heB rfl rfl rfl rfl (fun h₄ fl₄ u₄ => ?_)
  refine land fl₄ (fun h₅ fl₅ u₅ => ?_)
  have u₃₅ := u₄.trans u₅
  have F₅ : Fm B L h₅ _ := ⟨u₃₅.ns F₃.ns, fl₅.1, F.off⟩
  have n₅ := u₃₅.ns n₃
  have ty₅ : (St s h₅ tk₂).TypeIs (.ref e₁) "StopIteration" := let ⟨_, _, _, oe, _, _, _, _, q1, q2, _⟩ := fl₅; ⟨oe, q1, q2⟩
  refine wpAny_handleBy_builtin (X := "StopIteration") (T := "StopIteration") (b := true) owsi_raise.isExc stop_notTuple isSubtype_stop ?_
  refine bl (s₀ := s) WB F₅ PyProof.Rows.Boot.«StopIteration» ⟨rfl, ty₅, ?_⟩
  rw [if_pos rfl]
  refine land fl₅ (fun h₆ fl₆ u₆ => ?_)
  have F₆ : Fm B L h₆ _ := ⟨u₆.ns F₅.ns, fl₆.1, F.off⟩
  have n₆ := u₆.ns n₅
  refine wpAny_passesOwnAt PassesOwnAt.leaving ?_
  refine wpAny_execs_cons ?_
  refine raise_from_none ?_
  refine Call_ ?_
  refine bl (s₀ := s) WB F₆ PyProof.Rows.Boot.«TypeError» ?_
  refine PyProof.Rows.callWith_type1 ?_
  refine args_cons ?_
  refine c_str (fun tm tk₇ => ?_)
  refine args_nil ?_
  refine wpAny_call_exc PySem.F.excCall_TypeError (fun h₈ e₂ hm => ?_) (by show 1 ≤ sizeLine; decide)
  obtain ⟨t₂, q1, q2, q3⟩ := hm.there
  have hee : e₁ ≠ e₂ := fun q => by
    obtain ⟨_, _, _, oe, _, _, _, _, q4, _⟩ := fl₆
    have := hm.new
    rw [← q] at this
    rw [show h₆.get? e₁ = some oe from q4] at this; cases this
  refine ⟨e₂, t₂, rfl, q1, ?_, ?_, fun h₉ vs₉ sb₉ q4 q5 q6 q7 => ?_⟩
  · obtain ⟨_, _, _, oe, vs, _, _, _, z1, z2, z3, z4, z5, _⟩ := fl₆
    exact .inr ⟨e₁, oe, vs, rfl, hm.keeps _ _ z1, z3, z5⟩
  · intro eh q; cases q; exact hee
  · obtain ⟨a2, q7⟩ := q7
    have B₆ : ∀ b, h₆.get? b = none → B.get? b = none := Old.keep F₆.keep
    have B₉ : Keep B h₉ := fun b o e => sb₉.extBut b o (fun q => by rw [q, B₆ _ hm.new] at e; cases e) (hm.keeps _ _ (F₆.keep b o e))
    have k₉ : ∀ {X m}, h₆.Ns X m → h₉.Ns X m := fun {X m} nX => by
      refine (nX.keeps hm.keeps).sameBut sb₉ ?_
      obtain ⟨o, es, ep, z1, _⟩ := nX
      intro q
      rw [q, hm.new] at z1; cases z1
    refine leave_new (base := B) (outer := [env₁]) (L := L) (a0 := .ref t₂) (a2 := a2) (Around.frames_deeper hfr) (FF (k₉ F₆.ns) (k₉ n₆)) rfl q4 B₉ (B₆ _ hm.new) rfl q5 q6 q7 (fun h₁₀ fl u₁₀ => ?_)
    refine he e₂ t₂ tm a2 h₁₀ _ fl ?_ (B₆ _ q2) (u₁₀.ns (k₉ n₆))
    refine Heap.TupAt.of_slots ?_ u₁₀
    exact ⟨_, _, sb₉.extBut _ _ (fun q => by rw [q, q1] at q3; exact absurd (congrArg Obj.cls (Option.some.inj q3)) (by simp)) q3, rfl, rfl⟩
end

section
variable {prog : Program} {w : World} {A : Around} {E : Value → Shared → Prop} {s : Shared} {mg mb : Str → Option Value} {Q : Value → Shared → Prop}

/-- a new generator over the stream -/
theorem gen_call {a : Addr} {v : Value} (W : Wd mg mb s.heap) (hroom : A.depth < recursionLimit) (ha : mg "_law_to_the_end" = some (.ref a))
    (hq : ∀ Lg ga cd h' tk m, Keep s.heap h' → h'.Ns Lg m → m "stream" = some v → s.heap.get? Lg = none → h'.IsGen ga s.gens.size → s.heap.get? ga = none → ga ≠ Lg →
      Q (.ref ga) (St (GS s (s.gens.push (.fresh (.func (bodyOf 11) (genEnv Lg a cd))))) h' tk)) :
    wpAny (model prog w) A (call (.ref a) [v]) Q E s := by
  obtain ⟨o, kV, doc, pm, an, cdv, ct, h1, h2, h3⟩ := W.fn (i := 11) ha
  refine wpAny_call (codeAny_call_generator hroom h1 h2 rfl rfl rfl h3 ?_)
  have hb : BindsTo s (fnOf "_law_to_the_end" "_law_to_the_end" (paramsOf 11) (bodyOf 11) (scopeOf 11) .none kV doc pm an cdv ct) ⟨[v], []⟩ [("stream", v)] := BindsTo.of_eq rfl
  refine hb _ _ _ _ ?_
  refine wpAny_newFunctionEnv (show ∀ x ∈ (scopeOf 11).names, x.2 ≠ .cell by decide) (fun y hy => ?_) (fun h₃ n₃ sb₃ => ?_) rfl
  · rw [List.mem_singleton.mp hy]; rfl
  · have hn : s.heap.get? s.heap.objs.size = none := Heap.get?_none_of_le (Nat.le_refl _)
    have k₃ : Keep s.heap h₃ := fun b o e => sb₃.extBut b o (Nat.ne_of_lt (Heap.lt_size e)) (Heap.get?_push_of_some _ e)
    refine ⟨(W.keeps k₃).nolim, ?_⟩
    refine hq s.heap.objs.size h₃.objs.size cdv _ _ _ (k₃.trans (Keep.push _ _)) (n₃.push _) rfl hn ⟨_, _, _, Heap.get?_push_size _ rfl, rfl, rfl, rfl⟩ (Old.keep k₃ _ (Heap.get?_none_of_le (Nat.le_refl _))) (Nat.ne_of_gt n₃.lt)

/-- list(an iterator), its walk given -/
theorem extend_of {I S : Addr} {n : Nat} {P : Nat → Value → Prop} {Inv : Nat → Shared → Prop} {D : Shared → Prop} {R : Result → Shared → Prop} {res : Value}
    (frame : ∀ i (s' : Shared) h', Inv i s' → (∀ b o, b ≠ S → s'.heap.get? b = some o → h'.get? b = some o) → Inv i { s' with heap := h' })
    (item : ∀ i (s' : Shared) (Q : Option Value → Shared → Prop) (E : Value → Shared → Prop), i < n → Inv i s' →
      (∀ v s'', P i v → Inv (i + 1) s'' → (∀ o, s'.heap.get? S = some o → s''.heap.get? S = some o) → Q (some v) s'') → wpAny (model prog w) A.in1 (pyNext (.ref I)) Q E s')
    (done : ∀ (s' : Shared) (Q : Option Value → Shared → Prop) (E : Value → Shared → Prop), Inv n s' →
      (∀ s'', D s'' → (∀ o, s'.heap.get? S = some o → s''.heap.get? S = some o) → Q none s'') → wpAny (model prog w) A.in1 (pyNext (.ref I)) Q E s')
    (hn : n ≤ sizeLine) : ∀ (k i : Nat) (s : Shared) (acc : Array Value) (c : Nat), n - i = k → i ≤ n → Inv i s → s.heap.get? S = some { cls := .type "list", dict := none, data := .seq acc c, slots := #[] } → ItemsOf P acc i →
    (∀ s' acc' c', D s' → s'.heap.get? S = some { cls := .type "list", dict := none, data := .seq acc' c', slots := #[] } → ItemsOf P acc' n → R (.ok (.ret res)) s') →
    codeAny (model prog w) A (.builtin "list.extend.loop" ⟨[.ref S, .ref I, res], []⟩) R s := by
  intro k
  induction k with
  | zero =>
    intro i s acc c hk hi hst hS hacc hR
    have hin : i = n := by omega
    subst hin
    refine codeAny_builtin PySem.F.entry_extend_loop ?_
    rw [Around.under_plainId PySem.F.plain_extend_loop _]
    show wpAny _ A.in1 (pyNext (.ref I) >>= _) _ _ s
    refine wpAny_bind (done s _ _ hst fun s' hd hm => ?_)
    exact wpAny_pure (hR s' acc c hd (hm _ hS) hacc)
  | succ k ih =>
    intro i s acc c hk hi hst hS hacc hR
    have hlt : i < n := by omega
    refine codeAny_builtin PySem.F.entry_extend_loop ?_
    rw [Around.under_plainId PySem.F.plain_extend_loop _]
    show wpAny _ A.in1 (pyNext (.ref I) >>= _) _ _ s
    refine wpAny_bind (item i s _ _ hlt hst fun v s' hP hst' hm => ?_)
    have hS' := hm _ hS
    show wpAny _ A.in1 (updateSeq S (·.push v) >>= _) _ _ _
    refine wpAny_bind ?_
    refine wpAny_updateSeq hS' rfl (wpAny_pure ⟨plainId_quiet PySem.F.plain_extend_loop _, ih (i + 1) _ (acc.push v) _ (by omega) hlt (frame _ s' _ hst' fun b o hb e => ?_) (Heap.get?_update_self _ hS' rfl) (hacc.push hP) hR⟩)
      (by rw [hacc.1]; omega) (by show (acc.push v).size ≤ sizeLine + 1; rw [Array.size_push, hacc.1]; omega)
    exact (Heap.get?_update_other _ _ (Ne.symm hb)).trans e

theorem list_of {I : Addr} {T : String} (hTm : T = "generator" ∨ T = "list_iterator") {n : Nat} {P : Nat → Value → Prop} {Inv : Nat → Shared → Prop} {D : Shared → Prop}
    (hT : ∀ i s', Inv i s' → s'.TypeIs (.ref I) T) (hI : I < s.heap.objs.size)
    (self : ∀ i (s' : Shared) (Q : Value → Shared → Prop) (E : Value → Shared → Prop), Inv i s' → Q (.ref I) s' → wpAny (model prog w) A.in1.in1 (pyIter (.ref I)) Q E s')
    (frame : ∀ i (s' : Shared) h', Inv i s' → (∀ b o, b ≠ s.heap.objs.size → s'.heap.get? b = some o → h'.get? b = some o) → Inv i { s' with heap := h' })
    (item : ∀ i (s' : Shared) (Q : Option Value → Shared → Prop) (E : Value → Shared → Prop), i < n → Inv i s' →
      (∀ v s'', P i v → Inv (i + 1) s'' → (∀ o, s'.heap.get? s.heap.objs.size = some o → s''.heap.get? s.heap.objs.size = some o) → Q (some v) s'') → wpAny (model prog w) A.in1.in1 (pyNext (.ref I)) Q E s')
    (done : ∀ (s' : Shared) (Q : Option Value → Shared → Prop) (E : Value → Shared → Prop), Inv n s' →
      (∀ s'', D s'' → (∀ o, s'.heap.get? s.heap.objs.size = some o → s''.heap.get? s.heap.objs.size = some o) → Q none s'') → wpAny (model prog w) A.in1.in1 (pyNext (.ref I)) Q E s')
    (hn : n ≤ sizeLine) (h0 : Inv 0 { s with heap := s.heap.push { cls := .type "list", data := .seq #[] } })
    (hq : ∀ s' acc c, D s' → s'.heap.get? s.heap.objs.size = some { cls := .type "list", dict := none, data := .seq acc c, slots := #[] } → ItemsOf P acc n → Q (.ref s.heap.objs.size) s') :
    wpAny (model prog w) A (call (.type "list") [.ref I]) Q E s := by
  refine callType_codes (Q₁ := fun obj s₁ => obj = .ref s.heap.objs.size ∧ s₁ = { s with heap := s.heap.push { cls := .type "list", data := .seq #[] } }) PySem.F.called_list (PySem.F.typeCall_list_1 _) PySem.F.entry_list_init
    (code_list_new _ ⟨rfl, rfl⟩) fun obj s₁ h₁ => ?_
  obtain ⟨rfl, rfl⟩ := h₁
  have hS : (s.heap.push { cls := .type "list", data := .seq #[] }).get? s.heap.objs.size = some { cls := .type "list", data := .seq #[] } := Heap.get?_push_size _ rfl
  have hSI : s.heap.objs.size ≠ I := Nat.ne_of_gt hI
  generalize s.heap.objs.size = S at *
  refine ⟨⟨_, hS, rfl⟩, PySem.F.args_list_init_2 _ _, ?_⟩
  show wpAny _ A.in1.in1 (do let old ← Builtin.List.listItems (.ref S); Builtin.List.listUpdate (.ref S) (fun _ => #[]); letGo old.toList.reverse; Builtin.List.listExtendWith (.ref S) (.ref I) .none) _ _ _
  refine wpAny_bind ?_
  unfold Builtin.List.listItems
  refine wpAny_bind (wpAny_seqItems hS rfl (wpAny_pure ?_))
  show wpAny _ A.in1.in1 (updateSeq S (fun _ => #[]) >>= fun _ => letGo (#[] : Array Value).toList.reverse >>= fun _ => Builtin.List.listExtendWith (.ref S) (.ref I) .none) _ _ _
  refine wpAny_bind (wpAny_updateSeq hS rfl ?_)
  have hS₂ := Heap.get?_update_self (Obj.mapSeq (fun _ => (#[] : Array Value))) hS rfl
  have hst := frame 0 _ ((s.heap.push { cls := .type "list", data := .seq #[] }).update S (Obj.mapSeq (fun _ => (#[] : Array Value)))) h0 (fun b o hb e => (Heap.get?_update_other _ _ (Ne.symm hb)).trans e)
  refine wpAny_bind (wpAny_letGo ?_)
  dsimp only at hst
  generalize (s.heap.push { cls := .type "list", data := .seq #[] }).update S (Obj.mapSeq (fun _ => (#[] : Array Value))) = h₂ at hS₂ hst
  have h1 : Builtin.List.listSameRef (.ref S) (.ref I) = false := by simp [Builtin.List.listSameRef, hSI]
  unfold Builtin.List.listExtendWith
  refine wpAny_bind (wpAny_typeOf (hT 0 _ hst) ?_)
  rcases hTm with rfl | rfl
  · have h2 : (Value.type "generator" == Value.type "list") = false := by decide
    have h3 : (Value.type "generator" == Value.type "tuple") = false := by decide
    simp only [h1, h2, h3, Bool.or_false, Bool.false_eq_true, if_false]
    refine wpAny_bind (self 0 _ _ _ hst ?_)
    refine wpAny_bind (wpAny_holding ?_)
    unfold Builtin.List.listLengthHint
    refine wpAny_bind (wpAny_specialOf (hT 0 _ hst) PySem.F.gen_no_len ?_)
    show wpAny _ A.in1.in1 (specialOf (Value.ref I) (Str.ofString "__length_hint__") >>= _) _ _ _
    refine wpAny_bind (wpAny_specialOf (hT 0 _ hst) PySem.F.gen_no_hint ?_)
    refine wpAny_pure ?_
    show wpAny _ A.in1.in1 (rule "list.extend.makes-room" >>= fun _ => Builtin.List.listTouch (.ref S) >>= fun _ =>
      again (.builtin "list.extend.loop" ⟨[.ref S, .ref I, .none], []⟩)) _ _ _
    refine wpAny_bind (wpAny_rule ?_)
    refine wpAny_bind ?_
    show wpAny _ A.in1.in1 (updateSeq S (·.push .none) >>= fun _ => updateSeq S (·.pop)) _ _ _
    refine wpAny_bind (wpAny_updateSeq hS₂ rfl ?_)
    have hS₃ := Heap.get?_update_self (Obj.mapSeq (·.push Value.none)) hS₂ rfl
    refine wpAny_updateSeq (hz := by seq_fits) hS₃ rfl ?_
    have hS₄ := Heap.get?_update_self (Obj.mapSeq (·.pop)) hS₃ rfl
    refine wpAny_pure ⟨plainId_quiet PySem.F.plain_extend_loop _, extend_of frame item done hn n 0 _ _ _ rfl (Nat.zero_le _) (frame 0 _ _ (frame 0 _ _ hst fun b o hb e => (Heap.get?_update_other _ _ (Ne.symm hb)).trans e) fun b o hb e => (Heap.get?_update_other _ _ (Ne.symm hb)).trans e) hS₄ (ItemsOf.nil P) fun s' acc' c' hd hS' hacc => ?_⟩
    exact ⟨rfl, hq s' acc' c' hd hS' hacc⟩
  · rw [if_neg (by rw [h1]; decide)]
    refine wpAny_bind (self 0 _ _ _ hst ?_)
    refine wpAny_bind (wpAny_holding ?_)
    unfold Builtin.List.listLengthHint
    refine wpAny_bind (wpAny_specialOf (hT 0 _ hst) PySem.F.nolen_li ?_)
    show wpAny _ A.in1.in1 (specialOf (Value.ref I) (Str.ofString "__length_hint__") >>= _) _ _ _
    refine wpAny_bind (wpAny_specialOf (hT 0 _ hst) PySem.F.hint_li ?_)
    (generalize hid : ("list_iterator.__length_hint__" : String) = id0; (fail_if_success (clear hid id0)); wp_delta; rw [show splitId id0 = some ("list_iterator", "__length_hint__") from by subst hid; decide +kernel]; subst hid)
    refine wpAny_bind (wpAny_isInstance (b := true) (hT 0 _ hst) (by rw [isSubtype_type]; kernel_rfl) ?_)
    refine wpAny_pure ?_
    rw [if_neg (by decide)]
    refine wpAny_pure ⟨plainId_quiet PySem.F.plain_extend_loop _, extend_of frame item done hn n 0 _ _ _ rfl (Nat.zero_le _) hst hS₂ (ItemsOf.nil P) fun s' acc' c' hd hS' hacc => ?_⟩
    exact ⟨rfl, hq s' acc' c' hd hS' hacc⟩

theorem intsAre_of : ∀ {vs : List Value} {ns : List Int}, vs.length = ns.length → (∀ (j : Nat) v, vs[j]? = some v → ∃ x t, ns[j]? = some x ∧ v = .int x t) → IntsAre vs ns
  | [], [], _, _ => .nil
  | [], _ :: _, e, _ => by simp at e
  | _ :: _, [], e, _ => by simp at e
  | v :: vs, n :: ns, e, k => by
    obtain ⟨x, t, h1, rfl⟩ := k 0 v rfl
    simp at h1; subst h1
    exact .cons _ _ (intsAre_of (by simpa using e) fun j v' h' => by simpa using k (j + 1) v' (by simpa using h'))

theorem list_gen {g0 : Heap} {ns : List Int} {I Lg Rw ga f : Addr} {cd : Value} {gn p i : Nat} (W : Wd mg mb g0) (row : Ints g0 Rw ns) (offI : g0.get? I = none) (offL : g0.get? Lg = none) (hIL : I ≠ Lg)
    (hroom : A.depth + 4 < recursionLimit) (hg : g0.IsGen ga gn) (sg : Stretch ns i p) (hp : p ≤ 2 ^ 20) (rdy : Rdy g0 Rw I Lg i s.heap) (hgs : s.gens[gn]? = some (.fresh (.func (bodyOf 11) (genEnv Lg f cd)))) (bare : AllBare s.gens) (hand : HandOk A g0)
    (hq : ∀ z h' tk G, KB I Lg s.heap h' → h'.IsListIter I Rw (p + 1) → Ints h' z ((ns.drop i).take (p - i)) → s.heap.get? z = none → AllBare G → Q (.ref z) (St (GS s G) h' tk)) :
    wpAny (model prog w) A (call (.type "list") [.ref ga]) Q E s := by
  have hle := sg.le
  obtain ⟨kg0, hI0, mLg, nLg, hmLg⟩ := id rdy
  have hfresh : s.heap.get? s.heap.objs.size = none := Heap.get?_none_of_le (Nat.le_refl _)
  have old : ∀ {b o}, s.heap.get? b = some o → b ≠ s.heap.objs.size := fun {b o} e q => by rw [q, hfresh] at e; cases e
  have hIS : I ≠ s.heap.objs.size := let ⟨_, e, _⟩ := hI0; old e
  have hLS : Lg ≠ s.heap.objs.size := let ⟨_, _, _, e, _⟩ := nLg; old e
  have hpl : p < ns.length := (List.getElem?_eq_some_iff.mp sg.eof).1
  have rdyOf : ∀ {k h h'}, Rdy g0 Rw I Lg k h → (∀ b o, b ≠ s.heap.objs.size → h.get? b = some o → h'.get? b = some o) → Rdy g0 Rw I Lg k h' := fun {k h h'} ⟨q1, ⟨oI, q2, q3⟩, m, ⟨oL, es, ep, q4, q5⟩, q6⟩ hk =>
    ⟨fun b o e => hk b o (old (kg0 b o e)) (q1 b o e), ⟨oI, hk _ _ hIS q2, q3⟩, m, ⟨oL, es, ep, hk _ _ hLS q4, q5⟩, q6⟩
  refine list_of (T := "generator") (.inl rfl) (n := p - i) (P := fun k v => ∃ x t, ns[i + k]? = some x ∧ v = .int x t)
    (Inv := fun k s' => ∃ (G : Array GenState) (h' : Heap) (tk' : Nat) (gs : GenState), s' = St (GS s G) h' tk' ∧ AllBare G ∧ KB I Lg s.heap h' ∧ Rdy g0 Rw I Lg (i + k) h' ∧ G[gn]? = some gs ∧
      (∀ s'' : Shared, Rdy g0 Rw I Lg (i + k) s''.heap → gs.Goes (model prog w) A.in1.in1.in1 (genR I Lg Rw p) (gYield g0 ns I Lg Rw p) (p - (i + k)) (.send .none) s''))
    (D := fun s' => ∃ (G : Array GenState) (h' : Heap) (tk' : Nat), s' = St (GS s G) h' tk' ∧ AllBare G ∧ KB I Lg s.heap h' ∧ h'.IsListIter I Rw (p + 1)) ?_ ?_ ?_ ?_ ?_ ?_ ?_ ?_ ?_
  · rintro k s' ⟨G, h', tk', gs, rfl, _, _, r, _⟩
    exact (hg.keeps r.1).typeIs
  · exact (let ⟨o, _, _, e, _⟩ := hg; Heap.lt_size (kg0 _ _ e))
  · rintro k s' Q' E' ⟨G, h', tk', gs, rfl, _, _, r, _⟩ hQ
    exact wpAny_pyIter_gen (hg.keeps r.1) hQ
  · rintro k s' h'' ⟨G, h', tk', gs, rfl, b, kb, r, q1, q2⟩ hk
    exact ⟨G, h'', tk', gs, rfl, b, fun b o h1 h2 e => hk b o (old e) (kb b o h1 h2 e), rdyOf r hk, q1, q2⟩
  · rintro k s' Q' E' hk ⟨G, h', tk', gs, rfl, hbare, kb, r, hgn, hgo⟩ hQ
    refine next_gen (s := St (GS s G) h' tk') ((W.keeps r.1).nolim) (by show A.depth + 2 < _; omega) (hg.keeps r.1) hgn ⟨by omega, sg.eof, fun q y h1 h2 => sg.sym q y (by omega) h2⟩ r hgo (fun h₁ kb₁ => ?_) (fun hlt x t h₁ tk₁ gs' hx hb' kb₁ rdy₁ hgo₁ => ?_) (fun hje h₁ tk₁ kb₁ hI₁ => ?_)
    · rcases hand with q | ⟨eh, ob, ws, q1, q2, q3⟩
      · exact .inl q
      · exact .inr ⟨eh, ob, ws, q1, kb₁ _ _ (fun q => by rw [q, offI] at q2; cases q2) (fun q => by rw [q, offL] at q2; cases q2) (r.1 _ _ q2), q3⟩
    · refine hQ _ _ ⟨x, t, hx, rfl⟩ ⟨_, h₁, tk₁, gs', rfl, bare_set (bare_set hbare rfl) hb', kb.trans kb₁, rdy₁, set_self hgn, hgo₁⟩ (fun o e => kb₁ _ _ (Ne.symm hIS) (Ne.symm hLS) e)
    · omega
  · rintro s' Q' E' ⟨G, h', tk', gs, rfl, hbare, kb, r, hgn, hgo⟩ hQ
    rw [show i + (p - i) = p by omega] at r hgo
    refine next_gen (s := St (GS s G) h' tk') ((W.keeps r.1).nolim) (by show A.depth + 2 < _; omega) (hg.keeps r.1) hgn ⟨Nat.le_refl _, sg.eof, fun q y h1 h2 => by omega⟩ r hgo (fun h₁ kb₁ => ?_) (fun hlt => by omega) (fun hje h₁ tk₁ kb₁ hI₁ => ?_)
    · rcases hand with q | ⟨eh, ob, ws, q1, q2, q3⟩
      · exact .inl q
      · exact .inr ⟨eh, ob, ws, q1, kb₁ _ _ (fun q => by rw [q, offI] at q2; cases q2) (fun q => by rw [q, offL] at q2; cases q2) (r.1 _ _ q2), q3⟩
    · exact hQ _ ⟨_, h₁, tk₁, rfl, bare_set (bare_set hbare rfl) rfl, kb.trans kb₁, hI₁⟩ (fun o e => kb₁ _ _ (Ne.symm hIS) (Ne.symm hLS) e)
  · have := sizeBig; omega
  · refine ⟨s.gens, _, s.toks, _, rfl, bare, KB.keep (Keep.push _ _), rdyOf rdy (fun b o _ e => Keep.push _ _ b o e), hgs, fun s'' hr => ⟨rfl, ?_⟩⟩
    exact gen_start W row offI offL hIL (by show A.depth + 2 < _; omega) sg hr
  · rintro s' acc c ⟨G, h', tk', rfl, hbare, kb, hI'⟩ hS hit
    refine hq _ h' tk' G kb hI' ⟨acc.toList, ⟨_, hS, rfl, c, rfl⟩, intsAre_of ?_ fun j v hj => ?_⟩ hfresh hbare
    · rw [Array.length_toList, hit.1, List.length_take, List.length_drop]; omega
    · obtain ⟨x, t, h1, rfl⟩ := hit.2 j v (by simpa using hj)
      have hjl : j < p - i := by
        have := (List.getElem?_eq_some_iff.mp hj).1
        rw [Array.length_toList, hit.1] at this; exact this
      exact ⟨x, t, by rw [List.getElem?_take, if_pos hjl, List.getElem?_drop]; exact h1, rfl⟩

/-- list(stream) at its end -/
theorem list_end {I Rw : Addr} {i : Nat} {its : Array Value} (hh : A.handled = none) (hI : s.heap.IsListIter I Rw i) (hR : s.heap.IsList Rw its) (hx : its[i]? = none)
    (hq : ∀ z h' tk, h'.IsList z #[] → Heap.ExtBut I s.heap h' → Q (.ref z) (St s h' tk)) :
    wpAny (model prog w) A (call (.type "list") [.ref I]) Q E s := by
  have hfresh : s.heap.get? s.heap.objs.size = none := Heap.get?_none_of_le (Nat.le_refl _)
  have old : ∀ {b o}, s.heap.get? b = some o → b ≠ s.heap.objs.size := fun {b o} e q => by rw [q, hfresh] at e; cases e
  have hIS : I ≠ s.heap.objs.size := let ⟨_, e, _⟩ := hI; old e
  have hRS : Rw ≠ s.heap.objs.size := let ⟨_, e, _⟩ := hR; old e
  refine list_of (T := "list_iterator") (.inr rfl) (n := 0) (P := fun _ _ => True)
    (Inv := fun k s' => ∃ (h' : Heap) (tk' : Nat), s' = St s h' tk' ∧ Keep s.heap h') (D := fun s' => ∃ (h' : Heap) (tk' : Nat), s' = St s h' tk' ∧ Heap.ExtBut I s.heap h') ?_ ?_ ?_ ?_ ?_ ?_ ?_ ?_ ?_
  · rintro k s' ⟨h', tk', rfl, kp⟩
    exact (show h'.IsListIter I Rw i from let ⟨o, e, r⟩ := hI; ⟨o, kp _ _ e, r⟩).typeIs (s := St s h' tk')
  · exact (let ⟨o, e, _⟩ := hI; Heap.lt_size e)
  · rintro k s' Q' E' ⟨h', tk', rfl, kp⟩ hQ
    exact wpAny_pyIter_listiter (show h'.IsListIter I Rw i from let ⟨o, e, r⟩ := hI; ⟨o, kp _ _ e, r⟩) hQ
  · rintro k s' h'' ⟨h', tk', rfl, kp⟩ hk
    exact ⟨h'', tk', rfl, fun b o e => hk b o (old e) (kp b o e)⟩
  · intro k s' Q' E' hk; omega
  · rintro s' Q' E' ⟨h', tk', rfl, kp⟩ hQ
    refine wpAny_pyNext_list_end hh (show h'.IsListIter I Rw i from let ⟨o, e, r⟩ := hI; ⟨o, kp _ _ e, r⟩) (isList_keeps hR kp) hx (fun h₁ e₁ => ?_)
    exact hQ _ ⟨h₁, tk', rfl, fun b o hb e => e₁ b o hb (kp b o e)⟩ (fun o e => e₁ _ _ (Ne.symm hIS) e)
  · exact Nat.zero_le _
  · exact ⟨_, s.toks, rfl, Keep.push _ _⟩
  · rintro s' acc c ⟨h', tk', rfl, ex⟩ hS hit
    refine hq _ h' tk' ⟨_, hS, rfl, c, ?_⟩ ex
    have : acc = #[] := by simpa using hit.1
    rw [this]
end

abbrev lawE (L a : Addr) (cd : Value) : Env := envOfC "law" (scopeOf 17) L a cd

section
variable {prog : Program} {w : World} {A : Around} {E : Value → Shared → Prop} {s₀ : Shared} {h : Heap} {tk : Nat} {mg mb : Str → Option Value} {Q : Value → Shared → Prop} {g : Heap} {L : Addr} {m : Str → Option Value} {a : Addr} {cd : Value}

theorem ldC {x : Str} {pos : Pos} {v : Value} (F : Fm g L h m) (hv : m x = some v) (hq : Q v (St s₀ h tk))
    (hl : (lawE L a cd).kindOf x = some .local := by rfl) (hd : (x == ("__debug__" : Str)) = false := by decide) :
    wpAny (model prog w) A (eval (.Name x pos) (lawE L a cd)) Q E (St s₀ h tk) := wpAny_Name (wpAny_loadName_local rfl hl F.ns hv hq) hd
theorem stC {x : Str} {v : Value} {Q : Unit → Shared → Prop} (F : Fm g L h m)
    (hq : ∀ h' tk', Fm g L h' (upd m x v) → Heap.SameBut L h h' → Q () (St s₀ h' tk')) (hl : (lawE L a cd).kindOf x = some .local := by rfl) :
    wpAny (model prog w) A (storeName (lawE L a cd) x v) Q E (St s₀ h tk) :=
  wpAny_storeName_local hl F.ns (fun h' n sb => hq h' _ (F.st n sb) sb) rfl
theorem glC {x : Str} {pos : Pos} {v : Value} (W : Wd mg mb g) (F : Fm g L h m) (hv : mg x = some v) (hq : Q v (St s₀ h tk))
    (hl : (lawE L a cd).kindOf x = some .globalImplicit := by rfl) (hd : (x == ("__debug__" : Str)) = false := by decide) :
    wpAny (model prog w) A (eval (.Name x pos) (lawE L a cd)) Q E (St s₀ h tk) :=
  Calls.Name_function_global rfl hl (Calls.loadGlobal_global (env := lawE L a cd) (W.keeps F.keep).g hv hq) hd
theorem blC {x : Str} {pos : Pos} {v : Value} (W : Wd mg mb g) (F : Fm g L h m) (hv : bootBuiltins x = some v) (hq : Q v (St s₀ h tk))
    (hx : x ∈ usedNames := by decide) (hn : x ≠ "__name__" := by decide)
    (hl : (lawE L a cd).kindOf x = some .globalImplicit := by rfl) (hd : (x == ("__debug__" : Str)) = false := by decide) :
    wpAny (model prog w) A (eval (.Name x pos) (lawE L a cd)) Q E (St s₀ h tk) :=
  have W' := W.keeps F.keep
  Calls.Name_function_global rfl hl (Calls.loadGlobal_builtin (env := lawE L a cd) W'.g (W'.free x hx) W'.b ((W'.bi x hn).trans hv) hq) hd
theorem ldP {pos : Pos} {v : Value} (hc : h.IsCell (L + 1) (some v)) (hq : Q v (St s₀ h tk)) :
    wpAny (model prog w) A (eval (.Name "part" pos) (lawE L a cd)) Q E (St s₀ h tk) :=
  wpAny_Name (wpAny_loadName_cell (c := L + 1) rfl rfl rfl hc hq) (by decide)
theorem stP {v₀ : Option Value} {v : Value} {Q : Unit → Shared → Prop} (hc : h.IsCell (L + 1) v₀) (hq : ∀ h', h'.IsCell (L + 1) (some v) → Heap.SameBut (L + 1) h h' → Q () (St s₀ h' tk)) :
    wpAny (model prog w) A (storeName (lawE L a cd) "part" v) Q E (St s₀ h tk) :=
  wpAny_storeName_cell (c := L + 1) rfl rfl rfl hc hq
end
local macro_rules | `(tactic| walk_at "l") => `(tactic| first
  | ((with_reducible show wpAny _ _ (eval (Expr.Name _ _) (lawE _ _ _)) _ _ _); refine ldC (by assumption) (by first | with_unfolding_all rfl | with_unfolding_all assumption) ?_)
  | ((with_reducible show wpAny _ _ (eval (Expr.Constant (Const.int _) _ _) _) _ _ _); refine c_int ?_; intro _ _)
  | ((with_reducible show wpAny _ _ (eval (Expr.Constant Const.none _ _) _) _ _ _); refine Constant_none ?_)
  | ((with_reducible show wpAny _ _ (eval (Expr.Constant (Const.bool _) _ _) _) _ _ _); refine Constant_bool ?_)
  | ((with_reducible show wpAny _ _ (eval (Expr.BinOp _ _ _ _) _) _ _ _); refine wpAny_BinOp ?_)
  | ((with_reducible show wpAny _ _ (eval (Expr.Compare _ _ _ _) _) _ _ _); refine wpAny_Compare1 ?_)
  | ((with_reducible show wpAny _ _ (eval (Expr.Subscript _ _ _) _) _ _ _); refine Subscript_ ?_)
  | ((with_reducible show wpAny _ _ (eval (Expr.Call _ _ _ _) _) _ _ _); refine Call_ ?_)
  | ((with_reducible show wpAny _ _ (eval (Expr.Tuple _ _ _) _) _ _ _); refine Tuple_ ?_)
  | ((with_reducible show wpAny _ _ (eval (Expr.List _ _) _) _ _ _); refine List_ ?_)
  | ((with_reducible show wpAny _ _ (eval (Expr.Slice _ _ _ _) _) _ _ _); refine wpAny_Slice ?_)
  | ((with_reducible show wpAny _ _ (evalPart (some _) _) _ _ _); show wpAny _ _ (eval _ _) _ _ _)
  | ((with_reducible show wpAny _ _ (evalPart none _) _ _ _); refine wpAny_pure ?_)
  | ((with_reducible show wpAny _ _ (exec (Stmt.Assign _ _ _) _) _ _ _); refine wpAny_Assign_Name ?_)
  | ((with_reducible show wpAny _ _ (exec (Stmt.Return (some _) _) _) _ _ _); refine wpAny_Return_some ?_)
  | ((with_reducible show wpAny _ _ (exec (Stmt.If _ _ _ _) _) _ _ _); refine wpAny_If ?_)
  | ((with_reducible show wpAny _ _ (exec (Stmt.For _ _ _ _ _) _) _ _ _); refine wpAny_For ?_)
  | ((with_reducible show wpAny _ _ (execs _ _) _ _ _); refine wpAny_execs_cons ?_)
  | ((with_reducible show wpAny _ _ (isTrue (Expr.Compare _ _ _ _) _ _) _ _ _); refine wpAny_isTrue_Compare1 ?_)
  | ((with_reducible show wpAny _ _ (truthy (Value.bool _)) _ _ _); refine wpAny_truthy_bool ?_)
  | ((with_reducible show wpAny _ _ (spliced (backTo _ (starEach (_ :: _) _))) _ _ _); refine args_cons ?_)
  | ((with_reducible show wpAny _ _ (spliced (backTo _ (starEach [] _))) _ _ _); refine args_nil ?_)
  | ((with_reducible show wpAny _ _ (binaryOp Operator.Add (Value.int _ _) (Value.int _ _)) _ _ _); refine b_add ?_; intro _ _)
  | ((with_reducible show wpAny _ _ (compareOp CmpOp.Lt (Value.int _ _) (Value.int _ _)) _ _ _); refine lt_int ?_))

section
variable {prog : Program} {w : World} {A : Around} {E : Value → Shared → Prop} {s₀ : Shared} {h : Heap} {tk : Nat} {mg mb : Str → Option Value} {Q : Value → Shared → Prop} {g : Heap} {L : Addr} {m : Str → Option Value}

theorem len_ints {P : Addr} {ns : List Int} (hP : Ints h P ns) (hl : ns.length < 2 ^ 40) (hq : ∀ t tk', Q (.int (ns.length : Nat) t) (St s₀ h tk')) : wpAny (model prog w) A (call (.builtin "len") [.ref P]) Q E (St s₀ h tk) := by
  obtain ⟨vs, h1, h2⟩ := hP
  have e : vs.toArray.size = ns.length := by rw [List.size_toArray]; exact IntsAre.length h2
  refine Calls.call_len_list h1 (by rw [e]; omega) ?_
  rw [e]
  exact hq _ _

open PySem.Calls in
theorem list_indexAt3 (l : Addr) (items : Array Value) (n : Nat) (dd : Option Addr) (sl : Array (Option Value)) (x : Value) (e : Value → Bool) (i j : Nat) (u : Tok) (hij : i ≤ j) (hj : j < items.size) (hsmall : (j : Int) < 2 ^ 63 - 1)
    (hit : e items[j] = true) (hno : ∀ m (hm : m < items.size), i ≤ m → m < j → e items[m] = false) :
    Meets (Builtin.«list.index» ⟨[.ref l, x, .int i u], []⟩)
      (fun A R s => s.heap.get? l = some { cls := .type "list", dict := dd, data := .seq items n, slots := sl } ∧ (∀ y, y ∈ items → SeqAt.EqAt A.in1 s y x (e y)) ∧ R (.ok (.ret (.int j s.toks))) { s with toks := s.toks + 1 }) := by
  intro prog w A R s h
  obtain ⟨hp, g, d, tk, os⟩ := s; obtain ⟨hl, he, h⟩ := h
  wp_walk using wpAny_loadPart' hl
  have a1 : ((fun k : Int => if k < 0 then max 0 (k + (items.size : Int)) else k) ((some (i : Int)).getD 0)) = ((i : Nat) : Int) := by simp; omega
  have a2 : ((fun k : Int => if k < 0 then max 0 (k + (items.size : Int)) else k) ((none : Option Int).getD (2 ^ 63 - 1))) = 2 ^ 63 - 1 := by simp
  rw [a1, a2]
  exact ⟨plainId_quiet MeetsSeq.plain_index_loop _, codeAny_builtin MeetsSeq.entry_index_loop (by
    rw [Around.under_plainId MeetsSeq.plain_index_loop _]
    exact SeqAt.index_loopAt l items n dd sl x e (2 ^ 63 - 1) j hj hsmall hit _ i rfl hij (fun m hm h1 h2 => hno m hm h1 h2) prog w A R _ ⟨hl, he, h⟩)⟩

theorem index_from {P : Addr} {ns : List Int} {i j : Nat} {t u : Tok} (hP : Ints h P ns) (sg : Stretch ns i j) (hl : ns.length < 2 ^ 40) (hq : ∀ t tk', Q (.int (j : Nat) t) (St s₀ h tk')) :
    wpAny (model prog w) A (call (.builtin "list.index") [.ref P, .int 0 t, .int i u]) Q E (St s₀ h tk) := by
  obtain ⟨vs, h1, h2⟩ := hP
  obtain ⟨⟨cls, dd, data, sl⟩, ho, hc, n, hd⟩ := id h1
  simp only at hc hd
  subst hc hd
  have hlen : vs.length = ns.length := IntsAre.length h2
  have hjl : j < ns.length := (List.getElem?_eq_some_iff.mp sg.eof).1
  have hle := sg.le
  refine call_meets PySem.F.slot_list_index ⟨_, ho, rfl⟩ PySem.F.entry_list_index (PySem.F.args_list_index_3 _ _ _)
    (list_indexAt3 P vs.toArray n dd sl (.int 0 t) (isInt 0) i j u hle (by simpa [hlen] using hjl) (by omega) ?_ ?_) ⟨ho, fun y hy => (eq_isInt 0 t h2 y (by simpa using hy)).at _ _, hq _ _⟩
  · show isInt 0 vs[j] = true
    rw [isInt_at 0 h2 _ (by omega) hjl, (List.getElem?_eq_some_iff.mp sg.eof).2]
    rfl
  · intro m hm h1 h3
    have hm' : m < vs.length := by simpa using hm
    show isInt 0 vs[m] = false
    rw [isInt_at 0 h2 _ hm' (by omega)]
    have := sg.sym m ns[m] h1 h3 (List.getElem?_eq_getElem _)
    simpa using this

theorem meth1 {env : Env} {name : Str} {id : String} {o e₁ : Expr} {apos pos : Pos} {s : Shared} (slot : Slot "list" name id) (ty : typeOf (.builtin id) = pure (.type "method_descriptor"))
    (h : wpAny (model prog w) A (eval o env) (fun ov s₁ => ∃ l its, ov = .ref l ∧ s₁.heap.IsList l its ∧ s₁.heap.NoDictAt (.ref l) ∧ wpAny (model prog w) A (eval e₁ env) (fun v s₂ => wpAny (model prog w) A (call (.builtin id) [.ref l, v]) Q E s₂) E s₁) E s)
    (hbase : attributeBase o name env (eval o env) = eval o env := by rfl) (hs : starEach [e₁] env = [(false, eval e₁ env)] := by rfl) (hline : (apos.endLine == pos.line) = true := by rfl) :
    wpAny (model prog w) A (eval (.Call (.Attribute o name apos) [e₁] [] pos) env) Q E s := by
  refine Call_method1 hbase hs hline (wpAny_mono h (fun ov s₁ h₁ => ?_) fun _ _ x => x)
  obtain ⟨l, its, rfl, hl, hd, h₁⟩ := h₁
  refine ⟨"list", id, PySem.F.plainAttrs_list, slot, ty, hl.typeIs, fun a e => by cases e; exact hd, ?_⟩
  refine Calls.callWith_builtin rfl (Calls.evalArgs_plain (Calls.spliced_cons (wpAny_mono h₁ (fun _ _ h₁ => Calls.spliced_nil h₁) fun _ _ e => e)))
theorem meth2 {env : Env} {name : Str} {id : String} {o e₁ e₂ : Expr} {apos pos : Pos} {s : Shared} (slot : Slot "list" name id) (ty : typeOf (.builtin id) = pure (.type "method_descriptor"))
    (h : wpAny (model prog w) A (eval o env) (fun ov s₁ => ∃ l its, ov = .ref l ∧ s₁.heap.IsList l its ∧ s₁.heap.NoDictAt (.ref l) ∧ wpAny (model prog w) A (eval e₁ env) (fun v s₂ => wpAny (model prog w) A (eval e₂ env) (fun u s₃ => wpAny (model prog w) A (call (.builtin id) [.ref l, v, u]) Q E s₃) E s₂) E s₁) E s)
    (hbase : attributeBase o name env (eval o env) = eval o env := by rfl) (hs : starEach [e₁, e₂] env = [(false, eval e₁ env), (false, eval e₂ env)] := by rfl) (hline : (apos.endLine == pos.line) = true := by rfl) :
    wpAny (model prog w) A (eval (.Call (.Attribute o name apos) [e₁, e₂] [] pos) env) Q E s := by
  refine Call_method2 hbase hs hline (wpAny_mono h (fun ov s₁ h₁ => ?_) fun _ _ x => x)
  obtain ⟨l, its, rfl, hl, hd, h₁⟩ := h₁
  refine ⟨"list", id, PySem.F.plainAttrs_list, slot, ty, hl.typeIs, fun a e => by cases e; exact hd, ?_⟩
  refine Calls.callWith_builtin rfl (Calls.evalArgs_plain (Calls.spliced_cons (wpAny_mono h₁ (fun _ _ h₁ => Calls.spliced_cons (wpAny_mono h₁ (fun _ _ h₂ => Calls.spliced_nil h₂) fun _ _ e => e)) fun _ _ e => e)))

/-- begins.index(None) -/
theorem index_none {P : Addr} {ds : List PyData} {j : Nat} (hP : Rd h (.ref P) (.list ds)) (hlay : PyData.canLayAll0 ds = true) (hl : ds.length < 2 ^ 40) (hj : ds[j]? = some .none) (hno : ∀ (i : Nat) d, i < j → ds[i]? = some d → ∃ k, d = .int k)
    (hu : A.units + 2 < cLine) (hq : ∀ t tk', Q (.int (j : Nat) t) (St s₀ h tk')) :
    wpAny (model prog w) A (call (.builtin "list.index") [.ref P, .none]) Q E (St s₀ h tk) := by
  obtain ⟨z, vs, e, h1, h2⟩ := hP.list_inv
  cases e
  obtain ⟨⟨cls, dd, data, sl⟩, ho, hc, n, hd⟩ := id h1
  simp only at hc hd
  subst hc hd
  have hlen := h2.length
  have hjl : j < ds.length := (List.getElem?_eq_some_iff.mp hj).1
  have heq : ∀ y, y ∈ vs.toArray → SeqAt.EqAt A.in1 (St s₀ h tk) y .none (PyData.eqv (SeqAt.readOf h y) .none) := by
    obtain ⟨_, h3⟩ := h2
    refine SeqAt.items_eqAt (s := St s₀ h tk) (vs := vs.toArray) h3 .none hlay rfl ?_
    have e0 : PyData.depth .none = 0 := rfl
    rw [e0, Nat.min_zero]; omega
  refine call_meets PySem.F.slot_list_index ⟨_, ho, rfl⟩ PySem.F.entry_list_index (PySem.F.args_list_index_2 _ _)
    (SeqAt.list_indexAt P vs.toArray n dd sl .none (fun y => PyData.eqv (SeqAt.readOf h y) .none) j (by simpa [hlen] using hjl) (by omega) ?_ ?_)
    ⟨ho, heq, hq _ _⟩
  · obtain ⟨v, hv, ⟨_, hr⟩⟩ := h2.at hj
    have e := SeqAt.readOf_eq (d := .none) rfl hr
    cases hr
    have : vs.toArray[j]? = some .none := by simpa using hv
    rw [(Array.getElem?_eq_some_iff.mp this).2, e]
    rfl
  · intro i hi hij
    have hi' : i < vs.length := by simpa using hi
    obtain ⟨k, hk⟩ := hno i ds[i] hij (List.getElem?_eq_getElem (by omega))
    obtain ⟨v, hv, hr⟩ := h2.at (i := i) (d := .int k) (by rw [List.getElem?_eq_getElem (by omega), hk])
    obtain ⟨_, hr⟩ := hr
    have e := SeqAt.readOf_eq (d := .int k) rfl hr
    have : vs.toArray[i]? = some v := by simpa using hv
    rw [(Array.getElem?_eq_some_iff.mp this).2, e]
    rfl
end

def whileB : List Stmt := match (bodyOf 17)[3]? with
  | some (Stmt.While _ b _ _) => b
  | _ => []
def optD : Option Nat → PyData
  | none => .none
  | some k => .int k
def begD (part : List Int) : List PyData := (List.range part.length).map fun k => optD (beginF part k)
theorem begD_lay (part : List Int) : PyData.canLayAll0 (begD part) = true := lay_iff.mpr fun d hd => by
  obtain ⟨k, _, rfl⟩ := List.mem_map.mp hd
  cases beginF part k <;> rfl
theorem begD_at {part : List Int} {k : Nat} (h : k < part.length) : (begD part)[k]? = some (optD (beginF part k)) := by simp [begD, h]

theorem Fm.hideX {g h : Heap} {L : Addr} {m} (F : Fm g L h m) (X : Addr) : Fm (g.hide X) L h m ∧ (g.hide X).get? X = none ∧ ∀ b o, b ≠ X → g.get? b = some o → (g.hide X).get? b = some o := by
  refine ⟨⟨F.ns, fun b o e => F.keep b o (Heap.of_hide e), ?_⟩, Heap.hide_self _ _, fun b o hb e => (Heap.hide_ne _ hb).trans e⟩
  cases q : (g.hide X).get? L with
  | none => rfl
  | some o => have := Heap.of_hide q; rw [F.off] at this; cases this
theorem paired_at {α β : Type} {F : α → β → Prop} : ∀ {l₁ : List α} {l₂ : List β}, Paired F l₁ l₂ → ∀ {i : Nat} {b : β}, l₂[i]? = some b → ∃ a, l₁[i]? = some a ∧ F a b
  | _, _, .nil, i, b, e => by simp at e
  | _, _, .cons h r, 0, b, e => by simp at e; subst e; exact ⟨_, rfl, h⟩
  | _, _, .cons h r, i + 1, b, e => by simpa using paired_at r (by simpa using e)
theorem paired_len {α β : Type} {F : α → β → Prop} : ∀ {l₁ : List α} {l₂ : List β}, Paired F l₁ l₂ → l₁.length = l₂.length
  | _, _, .nil => rfl
  | _, _, .cons _ r => congrArg (· + 1) (paired_len r)
theorem intsAre_run {vs : List Value} {ns : List Int} (h : IntsAre vs ns) (a b : Nat) : IntsAre ((vs.drop a).take b) ((ns.drop a).take b) := (IntsAre.drop h a).take b

section
variable {prog : Program} {w : World} {A : Around} {E : Value → Shared → Prop} {mg mb : Str → Option Value}

set_option maxHeartbeats 4000000 in
theorem stageA {Q : Flow → Shared → Prop} {s : Shared} {g0 h : Heap} {tk : Nat} {m : Str → Option Value} {L a I Rw : Addr} {cd : Value} {ns : List Int} {st p : Nat} {tS : Tok} {v0 : Option Value}
    (W : Wd mg mb g0) (hh : A.handled = none) (hroom : A.depth + 4 < recursionLimit) (row : Ints g0 Rw ns) (rowd : g0.NoDictAt (.ref Rw)) (hlen : ns.length ≤ 2 ^ 10) (offI : g0.get? I = none) (offC : g0.get? (L + 1) = none)
    (F : Fm g0 L h m) (hc : h.IsCell (L + 1) v0) (hI : h.IsListIter I Rw st) (m1 : m "row" = some (.ref Rw)) (m2 : m "stream" = some (.ref I)) (m3 : m "start" = some (.int st tS)) (sg : Stretch ns st p)
    (hq : ∀ g1 h' tk m' P Bz, Keep g0 g1 → Fm g1 L h' m' → g1.IsListIter I Rw st → g1.IsCell (L + 1) (some (.ref P)) → Ints g1 P ((ns.drop st).take (p - st)) → Rd g1 (.ref Bz) (.list (begD ((ns.drop st).take (p - st)))) → g1.NoDictAt (.ref Bz) →
      m' "row" = some (.ref Rw) → m' "stream" = some (.ref I) → (∃ t, m' "start" = some (.int (p + 1 : Nat) t)) → m' "begins" = some (.ref Bz) → wpAny (model prog w) A (execs (whileB.drop 4) (lawE L a cd)) Q E (St s h' tk)) :
    wpAny (model prog w) A (execs whileB (lawE L a cd)) Q E (St s h tk) := by
  obtain ⟨ab, hab⟩ : ∃ ab, mg "_law_begin" = some (.ref ab) := let ⟨ab, h1, _⟩ := W.fns ("_law_begin", 15) (by decide); ⟨ab, h1⟩
  obtain ⟨vs, hvs, hvi⟩ := id row
  have hvl : vs.length = ns.length := IntsAre.length hvi
  have hpl : p < ns.length := (List.getElem?_eq_some_iff.mp sg.eof).1
  have hle := sg.le
  have hsb := sizeBig
  have hIL : I ≠ L := Ne.symm (let ⟨_, e, _, d⟩ := hI; ns_ne_fields F.ns e d)
  have hIC : I ≠ L + 1 := fun q => by obtain ⟨_, e, _, d⟩ := hI; obtain ⟨_, e', d'⟩ := hc; rw [q, e'] at e; cases e; rw [d'] at d; cases d
  have hCL : L + 1 ≠ L := Nat.succ_ne_self _
  refine wpAny_execs_cons (wpAny_Assign_Name ?_)
  refine meth2 PySem.F.slot_list_index PySem.F.type_list_index ?_
  repeat walk_at "l"
  refine ⟨Rw, _, rfl, isList_keeps hvs F.keep, rowd.keeps F.keep, ?_⟩
  repeat walk_at "l"
  refine index_from (row.keeps F.keep) sg (by omega) (fun t1 tk1 => ?_)
  refine stC F (fun h₁ tk₁ F₁ sb₁ => ?_)
  have hI₁ := hI.extBut sb₁.extBut hIL
  have hc₁ := hc.sameBut sb₁ hCL
  dsimp only
  repeat walk_at "l"
  have R := F₁.rebase
  have hI₂ : (h₁.hide L).IsListIter I Rw st := let ⟨o, e, r⟩ := hI₁; ⟨o, (Heap.hide_ne _ hIL).trans e, r⟩
  have hc₂ : (h₁.hide L).IsCell (L + 1) v0 := let ⟨o, e, r⟩ := hc₁; ⟨o, (Heap.hide_ne _ hCL).trans e, r⟩
  refine l_slice R.1 (isList_keeps hvs R.2) (.int _ _) (.int _ _) (by omega) (slicePick_run _ st p (by simp; omega) hle) (fun g₃ h₃ P k₃ F₃ hP => ?_)
  obtain ⟨F₄, offC₄, kx₄⟩ := F₃.hideX (L + 1)
  have hPC : P ≠ L + 1 := fun q => by obtain ⟨_, e, _, _, d⟩ := hP; obtain ⟨_, e', d'⟩ := hc₂; rw [q, k₃ _ _ e'] at e; cases e; rw [d'] at d; cases d
  refine stP (hc₂.keeps (k₃.trans F₃.keep)) (fun h₅ hc₅ sb₅ => ?_)
  have F₅ := F₄.ext sb₅.extBut offC₄ hCL
  have k04 : Keep g0 (g₃.hide (L + 1)) := (R.2.trans k₃).drop offC
  have hP₄ : (g₃.hide (L + 1)).IsList P _ := let ⟨o, e, r⟩ := hP; ⟨o, kx₄ _ _ hPC e, r⟩
  have hI₄ : (g₃.hide (L + 1)).IsListIter I Rw st := let ⟨o, e, r⟩ := hI₂; ⟨o, kx₄ _ _ hIC (k₃ _ _ e), r⟩
  have R₅ := F₅.rebase
  have hcR : (h₅.hide L).IsCell (L + 1) (some (.ref P)) := let ⟨o, e, r⟩ := hc₅; ⟨o, (Heap.hide_ne _ hCL).trans e, r⟩
  have k05 := k04.trans R₅.2
  have hPI : Ints (h₅.hide L) P ((ns.drop st).take (p - st)) := ⟨_, isList_keeps hP₄ R₅.2, intsAre_run hvi st (p - st)⟩
  have hIR : (h₅.hide L).IsListIter I Rw st := let ⟨o, e, r⟩ := hI₄; ⟨o, R₅.2 _ _ e, r⟩
  have F₆ := R₅.1
  clear R R₅ F₃ F₄ hI₂ hc₂ hP hP₄ hI₄ kx₄ k₃ k04 offC₄
  generalize h₅.hide L = g₅ at *
  generalize hpart : (ns.drop st).take (p - st) = part at *
  have hpn : part.length = p - st := by rw [← hpart, List.length_take, List.length_drop]; omega
  dsimp only
  repeat walk_at "l"
  refine stC F₆ (fun h₇ tk₇ F₇ sb₇ => ?_)
  dsimp only
  refine wpAny_execs_cons ?_
  refine wpAny_Assign_ListComp_free (fun _ => true) (fun v y => ∃ (k : Nat) (t : Tok), v = .int k t ∧ OptV (beginF part k) y) (cl := [("part", L + 1)]) ?hsw ?hclos ?hcell ?hkind ?hnames ?hx ?hy ?hp ?_ ?hs
  case hs => intro _; rfl
  case hcell => decide
  case hkind => rfl
  case hnames => decide
  case hx => rfl
  case hy => rfl
  case hp => rfl
  case hsw => rfl
  case hclos => rfl
  repeat walk_at "l"
  refine blC (W.keeps k05) F₇ PyProof.Rows.Boot.«range» ?_
  refine PyProof.Rows.callWith_type1 ?_
  repeat walk_at "l"
  refine blC (W.keeps k05) F₇ bootS_len ?_
  refine PyProof.Rows.callWith_builtin1 ?_
  repeat walk_at "l"
  refine ldP (hcR.keeps F₇.keep) ?_
  repeat walk_at "l"
  refine len_ints (hPI.keeps F₇.keep) (by omega) (fun t8 tk8 => ?_)
  repeat walk_at "l"
  refine range_up (fun h₈ tk₈ r u8 v8 k₈ hr => ?_)
  refine iter_up (by omega) hr (fun h₉ it k₉ hn₉ hit => ?_)
  have F₉ := F₇.keeps (k₈.trans k₉)
  have hitg : g₅.get? it = none := Old.keep (F₇.keeps k₈).keep _ hn₉
  have hitL : it ≠ L := fun q => by
    obtain ⟨o, _, _, h1, _⟩ := (F₇.keeps k₈).ns
    rw [← q, hn₉] at h1; cases h1
  refine ⟨it, [it], [it], part.length, _, _, _, rfl, (Walks.range hh it 0 1 part.length).bound, by omega, by simpa using hit, ?_, ?_, F₉.ns, ⟨?_, ?_⟩, ?_⟩
  · intro b hb; rw [List.mem_singleton.mp hb]; exact Heap.lt_size hit
  · exact fun hm => hitL (List.mem_singleton.mp hm).symm
  · intro C i v s₃ m₃ E' hC hv hn hm hk ht
    exact wpAny_pure ⟨rfl, s₃.heap, s₃.toks, rfl, fun b o e => e⟩
  · intro C i v s₃ m₃ E' hC hv hp hn hm hk ht
    obtain ⟨hin, tv, rfl⟩ := hv
    have e0 : (0 : Int) + (i : Int) * 1 = (i : Nat) := by omega
    rw [e0] at hm ⊢
    have kg3 : Keep g₅ s₃.heap := fun b o e => hk b o (fun hb => by rw [List.mem_singleton.mp hb, hitg] at e; cases e) (F₉.keep b o e)
    have W₃ := (W.keeps k05).keeps kg3
    refine Call_ ?_
    refine glE (s₀ := s₃) (h := s₃.heap) (tk := s₃.toks) W₃ rfl hab ?_ rfl rfl (by decide)
    refine cw_def (W₃.fn (i := 15) hab) ?_
    refine args_cons ?_
    refine wpAny_Name (wpAny_loadName_cell (c := L + 1) rfl rfl rfl (hcR.keeps kg3) ?_) (by decide)
    refine args_cons ?_
    refine ldE (s₀ := s₃) (h := s₃.heap) (tk := s₃.toks) hn hm ?_ rfl rfl (by decide)
    refine args_nil ?_
    refine ⟨Keep.rfl, ?_⟩
    refine begin_call (s := s₃) W₃ hh (by omega) hab (hPI.keeps kg3) hin (by omega) (fun y h' tk' kk hy => ?_)
    exact ⟨⟨i, tv, rfl, hy⟩, h', tk', rfl, kk⟩
  · intro D h₁₀ tk₁₀ ys xs hDn hD hDp hxl hxP hpair hns hkk
    have kg10 : Keep g₅ h₁₀ := fun b o e => hkk b o (F₇.ne e) (fun hb => by rw [List.mem_singleton.mp hb, hitg] at e; cases e) (F₉.keep b o e)
    have F₁₀ : Fm g₅ L h₁₀ _ := ⟨hns, kg10, F₇.off⟩
    have R := F₁₀.rebase
    have hDL : D ≠ L := fun q => by obtain ⟨o, _, _, e, _⟩ := F₉.ns; rw [q] at hDn; rw [show h₉.get? L = _ from e] at hDn; cases hDn
    rw [List.filter_eq_self.mpr (fun _ _ => rfl)] at hpair
    have hyl := paired_len hpair
    refine hq (h₁₀.hide L) h₁₀ _ _ P D (k05.trans R.2) R.1 (let ⟨o, e, r⟩ := hIR; ⟨o, R.2 _ _ e, r⟩) (hcR.keeps R.2) (hPI.keeps R.2) ?_ (let ⟨n, e⟩ := hDp; ⟨_, (Heap.hide_ne _ hDL).trans e, rfl⟩) ?_ ?_ ?_ rfl
    · refine Rd.list (vs := ys.toList) (let ⟨o, e, r⟩ := hD; ⟨o, (Heap.hide_ne _ hDL).trans e, r⟩) (rdAll_of (by rw [← hyl, hxl, begD, List.length_map, List.length_range]) fun j d hd => ?_)
      have hjl : j < part.length := by have := (List.getElem?_eq_some_iff.mp hd).1; simpa [begD] using this
      rw [begD_at hjl] at hd
      cases hd
      have hjy : j < ys.toList.length := by omega
      obtain ⟨x, hx, k, t, rfl, ho⟩ := paired_at hpair (List.getElem?_eq_getElem hjy)
      refine ⟨_, List.getElem?_eq_getElem hjy, ?_⟩
      obtain ⟨_, t', hv⟩ := hxP j _ hx
      have : k = j := by have := (Value.int.inj hv).1; omega
      subst this
      cases hb : beginF part k with
      | none => rw [hb] at ho; rw [show ys.toList[k] = .none from ho]; exact Rd.none
      | some q => rw [hb] at ho; obtain ⟨tq, ho⟩ := ho; rw [ho]; exact Rd.int _ _
    · exact m1
    · exact m2
    · exact ⟨_, rfl⟩
end

def sub (ns : List Int) (b e : Nat) : List Int := (ns.drop b).take (e - b)
theorem sub_at {ns : List Int} {b e k : Nat} (h : k < e - b) : (sub ns b e)[k]? = ns[b + k]? := by
  rw [sub, List.getElem?_take, if_pos h, List.getElem?_drop]
theorem sub_len {ns : List Int} {b e : Nat} (h : e ≤ ns.length) : (sub ns b e).length = e - b := by
  rw [sub, List.length_take, List.length_drop]; omega
theorem sub_join {ns : List Int} {b e f : Nat} (h1 : b ≤ e) (h2 : e ≤ f) : sub ns b f = sub ns b e ++ sub ns e f := by
  unfold sub
  rw [show f - b = (e - b) + (f - e) by omega, List.take_add, List.drop_drop, show b + (e - b) = e by omega]
theorem sub_one {ns : List Int} {e : Nat} {x : Int} (h : ns[e]? = some x) : sub ns e (e + 1) = [x] := by
  unfold sub
  have hl := (List.getElem?_eq_some_iff.mp h).1
  rw [show e + 1 - e = 1 by omega, List.drop_eq_getElem_cons hl, (List.getElem?_eq_some_iff.mp h).2]
  rfl
theorem sub_nil {ns : List Int} {e : Nat} : sub ns e e = [] := by unfold sub; rw [Nat.sub_self, List.take_zero]

theorem Segs.split {ns : List Int} {b e : Nat} {ts : List PyData} (x : Segs ns b e ts) : ∀ t1 t2, ts = t1 ++ t2 → ∃ m, Segs ns b m t1 ∧ Segs ns m e t2 := by
  induction x with
  | nil b => intro t1 t2 h; obtain ⟨rfl, rfl⟩ := List.append_eq_nil_iff.mp h.symm; exact ⟨b, .nil b, .nil b⟩
  | @snoc b m e ts ks x h1 h2 hx hk i1 i2 =>
    intro t1 t2 h
    rcases List.eq_nil_or_concat t2 with rfl | ⟨t2', y, rfl⟩
    · rw [List.append_nil] at h; subst h
      exact ⟨_, .snoc h1 h2 hx hk, .nil _⟩
    · rw [List.concat_eq_append, ← List.append_assoc] at h
      obtain ⟨h', hy⟩ := List.append_inj' h rfl
      cases hy
      obtain ⟨m', s1, s2⟩ := i1 t1 t2' h'
      refine ⟨m', s1, ?_⟩
      rw [List.concat_eq_append]
      exact .snoc s2 h2 hx hk

theorem Segs.app {ns l : List Int} {b e : Nat} {ts : List PyData} (x : Segs ns b e ts) : Segs (ns ++ l) b e ts := by
  induction x with
  | nil b => exact .nil b
  | snoc h1 h2 hx hk i1 i2 => exact .snoc i1 i2 (by rw [List.getElem?_append_left (List.getElem?_eq_some_iff.mp hx).1]; exact hx) hk

theorem Steps.le {ns : List Int} {i j ts} (x : Steps ns i j ts) : i ≤ j := by
  induction x with
  | nil => omega
  | snoc _ _ _ ih => omega
theorem step_inv {ts ts' : List PyData} {x : Int} (h : stepF ts x = some ts') : takes x ≤ ts.length ∧ ts' = .tuple (.int x :: (ts.take (takes x)).reverse) :: ts.drop (takes x) := by
  unfold stepF at h
  split at h
  · rename_i hk; cases h; exact ⟨hk, rfl⟩
  · cases h
theorem steps_segs {ns : List Int} {i p j : Nat} {ts : List PyData} (x : Steps ns i j ts) (hp : p ≤ ns.length) : j ≤ p → Segs (sub ns i p) 0 (j - i) ts.reverse ∧ ∀ k, i + k < j → ∃ q, beginF (sub ns i p) k = some q := by
  induction x with
  | nil => intro _; rw [Nat.sub_self]; exact ⟨.nil 0, fun k hk => by omega⟩
  | @snoc j ts ts' x hs hx hf ih =>
    intro hj
    obtain ⟨sg, hb⟩ := ih (by omega)
    have hle := hs.le
    obtain ⟨hk, rfl⟩ := step_inv hf
    have hxs : (sub ns i p)[j - i]? = some x := by rw [sub_at (by omega), show i + (j - i) = j by omega]; exact hx
    have hrev : ts.reverse = (ts.drop (takes x)).reverse ++ (ts.take (takes x)).reverse := by rw [← List.reverse_append, List.take_append_drop]
    obtain ⟨m, s1, s2⟩ := sg.split _ _ hrev
    have hkl : takes x = (ts.take (takes x)).reverse.length := by rw [List.length_reverse, List.length_take]; omega
    refine ⟨?_, fun k hk' => ?_⟩
    · rw [List.reverse_cons, show j + 1 - i = (j - i) + 1 by omega]
      exact .snoc s1 s2 hxs hkl
    · by_cases e : i + k = j
      · obtain rfl : k = j - i := by omega
        exact ⟨m, begin_tree s2 hxs hkl⟩
      · exact hb k (by omega)
theorem steps_fail {ns : List Int} {i p q : Nat} {ts : List PyData} {x : Int} (h : Steps ns i q ts) (hp : p ≤ ns.length) (hx : ns[q]? = some x) (hq : q < p) (hf : stepF ts x = none) : beginF (sub ns i p) (q - i) = none := by
  have hle := h.le
  refine begin_short (steps_segs h hp (by omega)).1 (x := x) (by rw [sub_at (by omega), show i + (q - i) = q by omega]; exact hx) ?_
  unfold stepF at hf
  split at hf
  · cases hf
  · rw [List.length_reverse]; omega

theorem TreesW.snoc : ∀ {n ts wss t ws}, TreesW n ts wss → TreeW n t ws → TreesW n (ts ++ [t]) (wss ++ [ws])
  | _, _, _, _, _, .nil, h => .cons h .nil
  | _, _, _, _, _, .cons a r, h => .cons a (r.snoc h)

theorem trees_words {ns : List Int} (hlen : ns.length ≤ 2 ^ 10) {b e : Nat} {ts : List PyData} (x : Segs ns b e ts) : e ≤ ns.length → ∀ n, e - b ≤ n → ∃ wss, TreesW n ts wss ∧ wss.flatten = (sub ns b e).filter (· < 256) := by
  induction x with
  | nil b => intro _ n _; exact ⟨[], .nil, by rw [sub_nil]; rfl⟩
  | @snoc b m e ts ks x h1 h2 hx hk i1 i2 =>
    intro he n hn
    have l1 := h1.le
    have l2 := h2.le
    obtain ⟨wss, t1, f1⟩ := i1 (by omega) n (by omega)
    obtain ⟨n, rfl⟩ : ∃ k, n = k + 1 := ⟨n - 1, by omega⟩
    obtain ⟨wks, t2, f2⟩ := i2 (by omega) n (by omega)
    have hsub : sub ns b (e + 1) = sub ns b m ++ (sub ns m e ++ [x]) := by rw [sub_join l1 (show m ≤ e + 1 by omega), sub_join l2 (Nat.le_succ e), sub_one hx]
    by_cases hx2 : x < 256
    · have hks : ks = [] := by
        have : takes x = 0 := by unfold takes; rw [if_pos hx2]
        rw [this] at hk; exact List.length_eq_zero_iff.mp hk.symm
      subst hks
      obtain rfl := h2.nil_inv
      refine ⟨wss ++ [[x]], t1.snoc (.leaf hx2), ?_⟩
      rw [hsub, sub_nil, List.flatten_append, f1]
      simp [hx2]
    · refine ⟨wss ++ [wks.flatten], t1.snoc (.node hx2 ?_ ?_ t2), ?_⟩
      · have := h2.len; omega
      · rw [f2]
        have := List.length_filter_le (· < 256) (sub ns m e)
        rw [sub_len (by omega)] at this
        omega
      · rw [hsub, List.flatten_append, f1]
        simp [hx2, f2]

theorem segs_depth {ns : List Int} {b e : Nat} {ts : List PyData} (x : Segs ns b e ts) : PyData.depthAll ts ≤ e - b := by
  have app : ∀ (a c : List PyData), PyData.depthAll (a ++ c) = max (PyData.depthAll a) (PyData.depthAll c) := fun a c => by
    induction a with
    | nil => simp [PyData.depthAll]
    | cons y r ih => simp only [List.cons_append, PyData.depthAll, ih]; omega
  induction x with
  | nil b => simp [PyData.depthAll]
  | snoc h1 h2 hx hk i1 i2 =>
    have l1 := h1.le
    have l2 := h2.le
    rw [app]
    simp only [PyData.depthAll, PyData.depth]
    omega
theorem stk_depth : ∀ ts : List PyData, (stk ts).depth ≤ ts.length + PyData.depthAll ts
  | [] => by simp [stk, PyData.depth]
  | t :: r => by
    have := stk_depth r
    simp only [stk, PyData.depth, PyData.depthAll, List.length_cons]
    omega

theorem stretch_of {ns : List Int} {l : List Int} (hns : ns = l ++ [0]) : ∀ (n st : Nat), st < ns.length → n = ns.length - st → ∃ p, Stretch ns st p := by
  intro n
  induction n with
  | zero => intro st h e; omega
  | succ n ih =>
    intro st h e
    by_cases h0 : ns[st]? = some 0
    · exact ⟨st, Nat.le_refl _, h0, fun j x h1 h2 => by omega⟩
    · have hl : st + 1 < ns.length := by
        by_cases q : st + 1 < ns.length
        · exact q
        · exfalso; apply h0
          have : ns.length = l.length + 1 := by rw [hns]; simp
          rw [hns, show st = l.length by omega]; simp
      obtain ⟨p, sg⟩ := ih (st + 1) hl (by omega)
      refine ⟨p, by have := sg.le; omega, sg.eof, fun j x h1 h2 hx => ?_⟩
      by_cases hj : j = st
      · subst hj; rintro rfl; exact h0 hx
      · exact sg.sym j x (by omega) h2 hx
theorem rowF_len (script : List Int) : (rowF script).length ≤ 41 := by
  unfold rowF tailL
  simp only [List.length_append, List.length_map, List.length_take, List.length_cons, List.length_nil]
  omega

theorem excAttr_Stop : ExcAttrFacts "StopIteration" where
  ga := .of (owner := "BaseException") (n := "__getattribute__") (by rw [typeLookup_type, builtinLookup_eq_fast]; kernel_rfl) (by decide +kernel) (by decide +kernel) (by decide +kernel)
    (by first | exact .inl (by decide +kernel) | exact .inr (by decide +kernel)) (by rw [isSubtype_type]; kernel_rfl)
  lkArgs := by rw [typeLookup_type, builtinLookup_eq_fast]; kernel_rfl
  sub := by rw [isSubtype_type]; kernel_rfl

/-- an exception that stands -/
def ExcX (h : Heap) (e : Addr) (X : String) (a0 a2 : Value) : Prop := ∃ oe ws, h.get? e = some oe ∧ oe.cls = .type X ∧ oe.data = .fields ws ∧ ws[0]? = some a0 ∧ ws[2]? = some a2
theorem FlyX.exc {B l e X a0 a2 fl h} (x : FlyX B l e (.type X) a0 a2 fl h) : ExcX h e X a0 a2 := let ⟨_, _, _, oe, vs, _, _, _, q1, q2, q3, q4, q5, _⟩ := x; ⟨oe, vs, q1, q2, q3, q4, q5⟩
theorem ExcX.keeps {h h' : Heap} {e X a0 a2} (x : ExcX h e X a0 a2) (k : Keep h h') : ExcX h' e X a0 a2 := let ⟨oe, ws, q1, r⟩ := x; ⟨oe, ws, k _ _ q1, r⟩
theorem tupAt_keeps {h h' : Heap} {t vs} (x : h.TupAt t vs) (k : Keep h h') : h'.TupAt t vs := let ⟨o, n, e, r⟩ := x; ⟨o, n, k _ _ e, r⟩

section
variable {prog : Program} {w : World} {A : Around} {mg mb : Str → Option Value} {L a : Addr} {cd : Value}

theorem goesC {E : Value → Shared → Prop} {s : Shared} {g h : Heap} {tk : Nat} {m : Str → Option Value} {pos : Pos} {Q : Unit → Shared → Prop} (F : Fm g L h m)
    (hq : ∀ h' tk' v, Fm g L h' (fun x => if x = ("error" : Str) then v else m x) → Heap.SameBut L h h' → Q () (St s h' tk')) :
    wpAny (model prog w) A (do bindName (lawE L a cd) "error" .none; unbindBehindTheSuite (lawE L a cd) "error" pos) Q E (St s h tk) :=
  wpAny_nameGoes_keeps rfl F.ns rfl fun h' v hn hs => hq h' _ v (F.st hn hs) hs

theorem caughtC {E : Value → Shared → Prop} {s : Shared} {B h : Heap} {tk : Nat} {m : Str → Option Value} {e t : Addr} {a2 : Value} {vs : List Value} {X : String} {x : Str} {np pos : Pos} {b₀ : Stmt} {suite : List Stmt} {Q : Flow → Shared → Prop}
    (W : Wd mg mb B) (hfr : A.frames = some [lawE L a cd]) (fl : FlyX B [lawE L a cd] e (.type X) (.ref t) a2 .none h) (n : h.Ns L m) (tp : h.TupAt t vs)
    (hv : bootBuiltins x = some (.type X)) (hexc : isSubtype (.type X) (.type "BaseException") = pure true) (hnt : isSubtype (.type ((Manifest.find? X).elim "type" fun x => x.metatype)) (.type "tuple") = pure false) (hsub : isSubtype (.type X) (.type X) = pure true)
    (k : ∀ h' tk', Fm B L h' (upd m "error" (.ref e)) → ExcX h' e X (.ref t) a2 → h'.TupAt t vs → e ≠ L →
      wpAny (model prog w) (A.mark (some (.ref e))) (execs (b₀ :: suite) (lawE L a cd)) (fun f s₄ => wpAny (model prog w) A (do bindName (lawE L a cd) "error" .none; unbindBehindTheSuite (lawE L a cd) "error" pos) (fun _ s₅ => Q f s₅) E s₄) (fun _ _ => False) (St s h' tk'))
    (hx : x ∈ usedNames := by decide) (hn : x ≠ "__name__" := by decide) (hl : (lawE L a cd).kindOf x = some .globalImplicit := by rfl) (hd : (x == ("__debug__" : Str)) = false := by decide) :
    wpAny (model prog w) A (noteFrame (.ref e) (lawE L a cd)) (fun _ s₂ => wpAny (model prog w) A (setFlight (.ref e) none) (fun _ s₃ =>
      wpAny (model prog w) A (handleBy (.ref e) (lawE L a cd) [.ExceptHandler (some (.Name x np)) (some "error") (b₀ :: suite) pos]) Q E s₃) E s₂) E (St s h tk) := by
  have offL : B.get? L = none := by
    obtain ⟨_, ⟨L', _, hf, hn', _⟩, _⟩ := fl.2.2.1
    obtain rfl : L = L' := Option.some.inj hf
    exact hn'
  refine note_on (s := St s h tk) hfr rfl fl (fun h₁ fl₁ u₁ => ?_)
  refine land (s := St s h₁ tk) fl₁ (fun h₂ fl₂ u₂ => ?_)
  have u := u₁.trans u₂
  have F₂ : Fm B L h₂ m := ⟨u.ns n, fl₂.1, offL⟩
  have ty : (St s h₂ tk).TypeIs (.ref e) X := let ⟨oe, _, q1, q2, _⟩ := fl₂.exc; ⟨oe, q1, q2⟩
  refine wpAny_handleBy_builtin_as (X := X) (T := X) (b := true) hexc hnt hsub ?_
  refine blC (s₀ := s) (h := h₂) (tk := tk) W F₂ hv ⟨rfl, ty, ?_⟩ hx hn hl hd
  rw [if_pos rfl]
  refine land (s := St s h₂ tk) fl₂ (fun h₃ fl₃ u₃ => ?_)
  have F₃ : Fm B L h₃ m := ⟨u₃.ns F₂.ns, fl₃.1, offL⟩
  refine stC (s₀ := s) (h := h₃) F₃ (fun h₄ tk₄ F₄ sb₄ => ?_)
  obtain ⟨oe, ws, q1, q2, q3, q4, q5⟩ := fl₃.exc
  have heL : e ≠ L := Ne.symm (ns_ne_fields F₃.ns q1 q3)
  have tp₃ := tp.of_slots (u.trans u₃)
  have htL : t ≠ L := fun q => by
    obtain ⟨o, n', e1, _, d1⟩ := tp₃
    obtain ⟨o', es, ep, e2, d2, _⟩ := F₃.ns
    rw [q, e2] at e1; cases e1; rw [d1] at d2; cases d2
  refine wpAny_mono (k h₄ tk₄ F₄ ⟨oe, ws, sb₄.extBut _ _ heL q1, q2, q3, q4, q5⟩ (let ⟨o, n', e1, r⟩ := tp₃; ⟨o, n', sb₄.extBut _ _ htL e1, r⟩) heL) (fun _ _ y => y) (fun _ _ y => y.elim)

theorem args_of {E : Value → Shared → Prop} {Q : Value → Shared → Prop} {s : Shared} {h : Heap} {tk : Nat} {e t : Addr} {a2 : Value} {X : String} (FX : ExcAttrFacts X) (ex : ExcX h e X (.ref t) a2) (hq : ∀ tk', Q (.ref t) (St s h tk')) :
    wpAny (model prog w) A (getAttr (.ref e) "args" true) Q E (St s h tk) :=
  let ⟨_, _, q1, q2, q3, q4, _⟩ := ex; args_attr FX q1 q2 q3 q4 (hq _)
theorem ne_rd {E : Value → Shared → Prop} {Q : Value → Shared → Prop} {s : Shared} {h : Heap} {tk : Nat} {v v' : Value} {d : PyData} (x : Rd h v d) (y : Rd h v' d) (c : d.canLay0 = true) (hu : A.units + d.depth < cLine) (hq : Q (.bool false) (St s h tk)) :
    wpAny (model prog w) A (compareOp .NotEq v v') Q E (St s h tk) := by
  obtain ⟨_, x⟩ := x; obtain ⟨_, y⟩ := y
  refine SeqAt.compareNe_reads (s := St s h tk) x y c c (by rw [Nat.min_self]; exact hu) ?_
  rw [SeqAt.eqv_refl d c]; exact hq
end

theorem rd_ints {h : Heap} : ∀ {vs : List Value} {ns : List Int}, IntsAre vs ns → RdAll h vs (ns.map .int)
  | _, _, .nil => .nil
  | _, _, .cons n t r => .cons (.int n t) (rd_ints r)
theorem Ints.rd {h : Heap} {P ns} (x : Ints h P ns) : Rd h (.ref P) (wordD ns) := let ⟨_, h1, h2⟩ := x; Rd.list h1 (rd_ints h2)
theorem word_lay (ns : List Int) : (wordD ns).canLay0 = true := by simp [wordD, PyData.canLay0, lay_ints]
theorem word_depth (ns : List Int) : (wordD ns).depth ≤ 1 := by
  have : PyData.depthAll (ns.map .int) = 0 := by
    induction ns with
    | nil => rfl
    | cons a r ih => simp [PyData.depthAll, PyData.depth, ih]
  simp [wordD, PyData.depth, this]
theorem sub_drop {ns : List Int} {st q p : Nat} (h1 : st ≤ q) (h2 : q < p) (hp : p ≤ ns.length) : (sub ns st p).drop (q - st + 1) = sub ns (q + 1) p := by
  rw [sub_join (ns := ns) (b := st) (e := q + 1) (f := p) (by omega) (by omega), List.drop_left' (by rw [sub_len (by omega)]; omega)]

section
variable {prog : Program} {w : World} {A : Around} {E : Value → Shared → Prop} {mg mb : Str → Option Value}

theorem stageB {Q : Flow → Shared → Prop} {s : Shared} {g h : Heap} {tk : Nat} {m : Str → Option Value} {L a I Rw P Bz : Addr} {cd : Value} {ns : List Int} {st p : Nat}
    (W : Wd mg mb g) (hh : A.handled = none) (hroom : A.depth + 4 < recursionLimit) (hu : A.units + 10 < cLine) (hfr : A.frames = some [lawE L a cd]) (row : Ints g Rw ns) (hlen : ns.length ≤ 2 ^ 10) (bare : AllBare s.gens)
    (F : Fm g L h m) (offI : g.get? I = none) (hI : h.IsListIter I Rw st) (hc : g.IsCell (L + 1) (some (.ref P))) (hP : Ints g P (sub ns st p)) (hB : Rd g (.ref Bz) (.list (begD (sub ns st p)))) (hBd : g.NoDictAt (.ref Bz))
    (m2 : m "stream" = some (.ref I)) (m4 : m "begins" = some (.ref Bz)) (sg : Stretch ns st p)
    (hq : ∀ g2 h' tk G told ts, Steps ns st p ts → Keep g g2 → Rd g2 told (stk ts) → Fm g2 L h' (upd m "told" told) → g2.get? I = none → h'.IsListIter I Rw (p + 1) → AllBare G →
      wpAny (model prog w) A (execs (whileB.drop 5) (lawE L a cd)) Q E (St (GS s G) h' tk))
    (hcont : ∀ h' tk m' G, Fm g L h' m' → h'.IsListIter I Rw (p + 1) → (∀ x : Str, x ≠ "error" → x ≠ "place" → m' x = m x) → AllBare G → Q .cont (St (GS s G) h' tk)) :
    wpAny (model prog w) A (execs (whileB.drop 4) (lawE L a cd)) Q E (St s h tk) := by
  obtain ⟨fe, hfe⟩ : ∃ ab, mg "_law_to_the_end" = some (.ref ab) := let ⟨ab, h1, _⟩ := W.fns ("_law_to_the_end", 11) (by decide); ⟨ab, h1⟩
  obtain ⟨fs, hfs⟩ : ∃ ab, mg "_law_step" = some (.ref ab) := let ⟨ab, h1, _⟩ := W.fns ("_law_step", 12) (by decide); ⟨ab, h1⟩
  obtain ⟨ar, T, im, om, r1, r2, r3, r4, r5, r6⟩ := W.red
  have hpl : p < ns.length := (List.getElem?_eq_some_iff.mp sg.eof).1
  have hle := sg.le
  have hsb := sizeBig
  have hIL : I ≠ L := Ne.symm (let ⟨_, e, _, d⟩ := hI; ns_ne_fields F.ns e d)
  refine wpAny_execs_cons ?_
  refine wpAny_Try_except ?_
  repeat walk_at "l"
  refine glC W F r1 ?_
  refine cw_def r2 ?_
  repeat walk_at "l"
  refine glC W F hfs ?_
  repeat walk_at "l"
  refine glC W F hfe ?_
  refine cw_def (W.fn (i := 11) hfe) ?_
  repeat walk_at "l"
  refine ⟨F.keep, ?_⟩
  refine gen_call (s := St s h tk) (W.keeps F.keep) (by omega) hfe (fun Lg ga cdg h₁ tk₁ mg₁ k₁ nLg hmLg hLgn hga hgan hgaL => ?_)
  repeat walk_at "l"
  have F₁ := F.keeps k₁
  refine ⟨F₁.keep, ?_⟩
  have hLL : L ≠ Lg := fun q => by obtain ⟨_, _, _, e, _⟩ := F.ns; rw [← q] at hLgn; rw [show (St s h tk).heap.get? L = _ from e] at hLgn; cases hLgn
  have hILg : I ≠ Lg := fun q => by obtain ⟨_, e, _⟩ := hI; rw [← q] at hLgn; rw [show (St s h tk).heap.get? I = _ from e] at hLgn; cases hLgn
  have offLg : g.get? Lg = none := Old.keep F.keep _ hLgn
  have hI₁ : h₁.IsListIter I Rw st := let ⟨o, e, r⟩ := hI; ⟨o, k₁ _ _ e, r⟩
  have hgaLL : ga ≠ L := fun q => by obtain ⟨_, _, _, e, _⟩ := F.ns; rw [q] at hgan; rw [show (St s h tk).heap.get? L = _ from e] at hgan; cases hgan
  have hgaI : ga ≠ I := fun q => by obtain ⟨_, e, _⟩ := hI; rw [q] at hgan; rw [show (St s h tk).heap.get? I = _ from e] at hgan; cases hgan
  -- the base of the generator
  have kb : ∀ b o, b ≠ L → b ≠ I → b ≠ Lg → h₁.get? b = some o → (((h₁.hide L).hide I).hide Lg).get? b = some o := fun b o q1 q2 q3 e => by rw [Heap.hide_ne _ q3, Heap.hide_ne _ q2, Heap.hide_ne _ q1]; exact e
  have kgb : Keep g (((h₁.hide L).hide I).hide Lg) := fun b o e => kb b o (F.ne e) (fun q => by rw [q, offI] at e; cases e) (fun q => by rw [q, offLg] at e; cases e) (F₁.keep b o e)
  have kbh : Keep (((h₁.hide L).hide I).hide Lg) h₁ := fun b o e => Heap.of_hide (Heap.of_hide (Heap.of_hide e))
  have ob1 : (((h₁.hide L).hide I).hide Lg).get? I = none := by
    cases q : (((h₁.hide L).hide I).hide Lg).get? I with
    | none => rfl
    | some o => have := Heap.of_hide q; rw [Heap.hide_self] at this; cases this
  have ob2 : (((h₁.hide L).hide I).hide Lg).get? Lg = none := Heap.hide_self _ _
  have hgab : (((h₁.hide L).hide I).hide Lg).IsGen ga s.gens.size := let ⟨o, x, y, e, r⟩ := hga; ⟨o, x, y, kb _ _ hgaLL hgaI hgaL e, r⟩
  generalize (((h₁.hide L).hide I).hide Lg) = gb at kb kgb kbh ob1 ob2 hgab
  have hgs : (s.gens.push (.fresh (.func (bodyOf 11) (genEnv Lg fe cdg))))[s.gens.size]? = some (.fresh (.func (bodyOf 11) (genEnv Lg fe cdg))) := by simp
  have bare₁ : AllBare (s.gens.push (.fresh (.func (bodyOf 11) (genEnv Lg fe cdg)))) := fun y hy => by
    rcases Array.mem_push.mp hy with q | q
    · exact bare y q
    · rw [q]; rfl
  refine reduce_step (s := St (GS s (s.gens.push (.fresh (.func (bodyOf 11) (genEnv Lg fe cdg))))) h₁ _) (W.keeps kgb) hh (by omega) r1 hfs (row.keeps kgb) ob1 ob2 hILg hgab sg ⟨kbh, hI₁, mg₁, nLg, hmLg⟩ hgs bare₁ hfr rfl rfl F₁.ns hLL
    (fun v ts h₂ tk₂ G hst hv kb₂ hI₂ hG => ?_) (fun e t u x q ts B h₂ tk₂ G hst hx hqp hsf hBk hBI fl tp hBt n₂ hG => ?_)
  · change wpAny _ _ _ _ _ (St (GS s G) h₂ tk₂)
    have F₂ : Fm g L h₂ m := ⟨kb₂.ns F₁.ns (Ne.symm hIL) hLL, fun b o e => kb₂ b o (fun q => by rw [q, offI] at e; cases e) (fun q => by rw [q, offLg] at e; cases e) (F₁.keep b o e), F.off⟩
    obtain ⟨oI, i1, i2, i3⟩ := hI₂
    obtain ⟨g₃, kg₃, F₃, to₃, off₃⟩ := F₂.backX Keep.rfl offI hIL i1 i3
    have lay : PyData.canLayAll0 ts = true := by
      have := (steps_segs hst (Nat.le_of_lt hpl) (Nat.le_refl _)).1.lay
      exact lay_iff.mpr fun d hd => lay_iff.mp this d (List.mem_reverse.mpr hd)
    refine stC F₃ (fun h₄ tk₄ F₄ sb₄ => wpAny_execs_nil ?_)
    refine wpAny_execs_nil ?_
    exact hq g₃ h₄ tk₄ G v ts hst kg₃ (hv.to (stk_lay lay) to₃) F₄ off₃ ⟨oI, sb₄.extBut _ _ hIL i1, i2, i3⟩ hG
  · change wpAny _ _ _ _ _ (St (GS s G) h₂ tk₂)
    have kgB : Keep g B := fun b o e => hBk b o (F.ne e) (fun q => by rw [q, offI] at e; cases e) (fun q => by rw [q, offLg] at e; cases e) (F₁.keep b o e)
    refine caughtC (s := GS s G) (W.keeps kgB) hfr fl n₂ tp PyProof.Rows.Boot.«StopIteration» owsi_raise.isExc stop_notTuple isSubtype_stop (fun h₃ tk₃ F₃ ex tp₃ heL => ?_)
    have heB : B.get? e = none := fl.2.1
    have heI : e ≠ I := fun q => by obtain ⟨_, q1, _⟩ := hBI; rw [q, q1] at heB; cases heB
    have htI : t ≠ I := fun q => by obtain ⟨_, q1, _⟩ := hBI; rw [q, q1] at hBt; cases hBt
    have htL : t ≠ L := fun q => by
      obtain ⟨o, n', e1, _, d1⟩ := tp₃
      obtain ⟨o', es, ep, e2, d2, _⟩ := F₃.ns
      rw [q, e2] at e1; cases e1; rw [d1] at d2; cases d2
    have hI₃ : h₃.IsListIter I Rw (q + 1) := let ⟨o, e, r⟩ := hBI; ⟨o, F₃.keep _ _ e, r⟩
    have R₃ := F₃.rebase
    obtain ⟨F₄, offI₄, kx₄⟩ := R₃.1.hideX I
    have kk₄ : ∀ b o, b ≠ L → b ≠ I → h₃.get? b = some o → ((h₃.hide L).hide I).get? b = some o := fun b o q1 q2 e => kx₄ b o q2 ((Heap.hide_ne _ q1).trans e)
    have ex₄ : ExcX ((h₃.hide L).hide I) e "StopIteration" (.ref t) .none := let ⟨oe, ws, q1, r⟩ := ex; ⟨oe, ws, kk₄ _ _ heL heI q1, r⟩
    have tp₄ : ((h₃.hide L).hide I).TupAt t _ := let ⟨o, n', q1, r⟩ := tp₃; ⟨o, n', kk₄ _ _ htL htI q1, r⟩
    have kg₄ : Keep g ((h₃.hide L).hide I) := fun b o e => kk₄ b o (F.ne e) (fun q => by rw [q, offI] at e; cases e) (F₃.keep _ _ (kgB b o e))
    clear R₃ kx₄ kk₄
    generalize ((h₃.hide L).hide I) = g₄ at *
    have hst' := steps_segs hst (Nat.le_of_lt hpl) (Nat.le_of_lt hqp)
    have hqle := hst.le
    have hfail := steps_fail hst (Nat.le_of_lt hpl) hx hqp hsf
    have hplen : (sub ns st p).length = p - st := sub_len (Nat.le_of_lt hpl)
    have hbq : (begD (sub ns st p))[q - st]? = some .none := by rw [begD_at (by omega), hfail]; rfl
    repeat walk_at "l"
    obtain ⟨asB, rB⟩ := hB.keeps (begD_lay _) (kg₄.trans F₄.keep)
    refine SeqAt.notIn_list_reads (s := St (GS s G) h₃ tk₃) rB .none (begD_lay _) rfl (by show A.units + 1 + min _ (PyData.depth .none) < _; rw [show PyData.depth .none = 0 from rfl, Nat.min_zero]; omega) ?_
    have hany : (begD (sub ns st p)).any (fun y => PyData.eqv y .none) = true := List.any_eq_true.mpr ⟨.none, List.mem_of_getElem? hbq, rfl⟩
    rw [hany]
    repeat walk_at "l"
    rw [if_neg (by decide)]
    refine wpAny_execs_nil ?_
    dsimp only
    refine wpAny_execs_cons (wpAny_Assign_Name ?_)
    refine meth1 PySem.F.slot_list_index PySem.F.type_list_index ?_
    repeat walk_at "l"
    obtain ⟨zB, vB, eB, lB, _⟩ := hB.list_inv
    cases eB
    refine ⟨Bz, _, rfl, isList_keeps lB (kg₄.trans F₄.keep), hBd.keeps (kg₄.trans F₄.keep), ?_⟩
    repeat walk_at "l"
    refine index_none (hB.keeps (begD_lay _) (kg₄.trans F₄.keep)) (begD_lay _) (by rw [begD, List.length_map, List.length_range]; omega) hbq (fun i d hi hd => ?_) (by show A.units + 2 < _; omega) (fun t5 tk5 => ?_)
    · rw [begD_at (by omega)] at hd
      cases hd
      obtain ⟨k, hk⟩ := hst'.2 i (by omega)
      exact ⟨k, by rw [hk]; rfl⟩
    refine stC F₄ (fun h₅ tk₅ F₅ sb₅ => ?_)
    have hI₅ := hI₃.extBut sb₅.extBut hIL
    dsimp only
    refine wpAny_execs_cons (wpAny_If (isTrue_or ?_))
    refine wpAny_isTrue_Compare1 ?_
    refine Attribute_name ?_
    repeat walk_at "l"
    refine args_of excAttr_Stop (ex₄.keeps F₅.keep) (fun tk6 => ?_)
    refine Tuple_ ?_
    refine args_cons ?_
    refine Subscript_ ?_
    refine ldP ((hc.keeps kg₄).keeps F₅.keep) ?_
    repeat walk_at "l"
    refine item_ints ((hP.keeps kg₄).keeps F₅.keep) (by omega) (by omega) (n := x) (by rw [Int.toNat_natCast, sub_at (by omega), show st + (q - st) = q by omega]; exact hx) (fun t7 => ?_)
    repeat walk_at "l"
    have R₅ := F₅.rebase
    have hIR : (h₅.hide L).IsListIter I Rw (q + 1) := let ⟨o, e, r⟩ := hI₅; ⟨o, (Heap.hide_ne _ hIL).trans e, r⟩
    refine t_new R₅.1 (by show 1 ≤ sizeLine; decide) (fun g₆ h₆ z₆ k₆ F₆ hz₆ => ?_)
    have k46 := R₅.2.trans k₆
    have kg₆ := kg₄.trans k46
    have W₆ := W.keeps kg₆
    have tp₆ : g₆.IsTuple t [.int x u].toArray := let ⟨o, n', e, c, d⟩ := tp₄; ⟨o, k46 _ _ e, c, n', d⟩
    refine ne_rd (d := .tuple [.int x]) (Rd.tuple (isTup_keeps tp₆ F₆.keep) (.cons (.int x u) .nil)) (Rd.tuple (isTup_keeps hz₆ F₆.keep) (.cons (.int x _) .nil)) rfl (by show A.units + 1 < _; omega) ?_
    repeat walk_at "l"
    rw [if_neg (by decide)]
    refine isTrue_or ?_
    refine wpAny_isTrue_Compare1 ?_
    refine Call_ ?_
    refine blC W₆ F₆ PyProof.Rows.boot_list ?_
    refine PyProof.Rows.callWith_type1 ?_
    refine args_cons ?_
    refine Call_ ?_
    refine glC W₆ F₆ hfe ?_
    refine cw_def (W₆.fn (i := 11) hfe) ?_
    repeat walk_at "l"
    refine ⟨F₆.keep, ?_⟩
    refine gen_call (s := St (GS s G) h₆ _) (W₆.keeps F₆.keep) (by show A.depth < _; omega) hfe (fun Lh gb2 cdh h₇ tk₇ mh k₇ nLh hmLh hLhn hgb2 hgbn hgbL => ?_)
    change wpAny _ _ _ _ _ (St (GS s (G.push (.fresh (.func (bodyOf 11) (genEnv Lh fe cdh))))) h₇ tk₇)
    repeat walk_at "l"
    have F₇ := F₆.keeps k₇
    have hI₆ : h₆.IsListIter I Rw (q + 1) := let ⟨o, e, r⟩ := hIR; ⟨o, F₆.keep _ _ (k₆ _ _ e), r⟩
    have hI₇ : h₇.IsListIter I Rw (q + 1) := let ⟨o, e, r⟩ := hI₆; ⟨o, k₇ _ _ e, r⟩
    have hLhn' : h₆.get? Lh = none := hLhn
    have hgbn' : h₆.get? gb2 = none := hgbn
    have hne : ∀ {b o}, h₆.get? b = some o → b ≠ Lh ∧ b ≠ gb2 := fun {b o} e => ⟨(fun z => by rw [z, hLhn'] at e; cases e), (fun z => by rw [z, hgbn'] at e; cases e)⟩
    have hLLh : L ≠ Lh ∧ L ≠ gb2 := let ⟨_, _, _, e, _⟩ := F₆.ns; hne e
    have hILh : I ≠ Lh ∧ I ≠ gb2 := let ⟨_, e, _⟩ := hI₆; hne e
    have kb7 : ∀ b o, b ≠ L → b ≠ I → b ≠ Lh → h₇.get? b = some o → (((h₇.hide L).hide I).hide Lh).get? b = some o := fun b o q1 q2 q3 e => by rw [Heap.hide_ne _ q3, Heap.hide_ne _ q2, Heap.hide_ne _ q1]; exact e
    have kg47 : Keep g₄ (((h₇.hide L).hide I).hide Lh) := fun b o e => kb7 b o (F₄.ne e) (fun q => by rw [q, offI₄] at e; cases e) (hne (F₆.keep _ _ (k46 _ _ e))).1 (k₇ _ _ (F₆.keep _ _ (k46 _ _ e)))
    have kbh7 : Keep (((h₇.hide L).hide I).hide Lh) h₇ := fun b o e => Heap.of_hide (Heap.of_hide (Heap.of_hide e))
    have ob71 : (((h₇.hide L).hide I).hide Lh).get? I = none := by
      cases q : (((h₇.hide L).hide I).hide Lh).get? I with
      | none => rfl
      | some o => have := Heap.of_hide q; rw [Heap.hide_self] at this; cases this
    have ob72 : (((h₇.hide L).hide I).hide Lh).get? Lh = none := Heap.hide_self _ _
    have hgb7 : (((h₇.hide L).hide I).hide Lh).IsGen gb2 G.size := let ⟨o, x, y, e, r⟩ := hgb2; ⟨o, x, y, kb7 _ _ (Ne.symm hLLh.2) (Ne.symm hILh.2) hgbL e, r⟩
    generalize (((h₇.hide L).hide I).hide Lh) = gc at kb7 kg47 kbh7 ob71 ob72 hgb7
    have ex₇ := ex₄.keeps kg47
    have hand : HandOk (A.mark (some (.ref e))) gc := let ⟨oe, ws, q1, _, q3, _, q5⟩ := ex₇; .inr ⟨e, oe, ws, rfl, q1, q3, q5⟩
    have bare₇ : AllBare (G.push (.fresh (.func (bodyOf 11) (genEnv Lh fe cdh)))) := fun y hy => by
      rcases Array.mem_push.mp hy with q | q
      · exact hG y q
      · rw [q]; rfl
    refine list_gen (f := fe) (cd := cdh) (s := St (GS s (G.push (.fresh (.func (bodyOf 11) (genEnv Lh fe cdh))))) h₇ tk₇) (W.keeps (kg₄.trans kg47)) ((row.keeps kg₄).keeps kg47) ob71 ob72 hILh.1 (by show A.depth + 4 < _; omega) hgb7 ⟨hqp, sg.eof, fun j y h1 h2 => sg.sym j y (by omega) h2⟩ (by omega) ⟨kbh7, hI₇, mh, nLh, hmLh⟩ (by simp) bare₇ hand
      (fun z₈ h₈ tk₈ G₈ kb₈ hI₈ hz₈ hz₈n hG₈ => ?_)
    change wpAny _ _ _ _ _ (St (GS s G₈) h₈ tk₈)
    have F₈ : Fm g₄ L h₈ _ := ⟨kb₈.ns F₇.ns (Ne.symm hIL) hLLh.1, fun b o e => kb₈ b o (fun q => by rw [q, offI₄] at e; cases e) (fun z => by rw [z, Old.keep kg47 _ ob72] at e; cases e) (kbh7 _ _ (kg47 b o e)), F₄.off⟩
    have R₈ := F₈.rebase
    have hIR₈ : (h₈.hide L).IsListIter I Rw (p + 1) := let ⟨o, e, r⟩ := hI₈; ⟨o, (Heap.hide_ne _ hIL).trans e, r⟩
    have hz₈L : z₈ ≠ L := fun q => by obtain ⟨_, ⟨o, e, _, _, d⟩, _⟩ := hz₈; obtain ⟨o', _, _, e', d', _⟩ := F₈.ns; rw [q, e'] at e; cases e; rw [d'] at d; cases d
    have hzR₈ : Ints (h₈.hide L) z₈ (sub ns (q + 1) p) := let ⟨vs, ⟨o, e, r⟩, hi⟩ := hz₈; ⟨vs, ⟨o, (Heap.hide_ne _ hz₈L).trans e, r⟩, hi⟩
    have kg8 := kg₄.trans R₈.2
    obtain ⟨vP, lP, iP⟩ := hP.keeps kg8
    have hvP : vP.length = p - st := by rw [IntsAre.length iP, hplen]
    refine Subscript_ ?_
    refine ldP ((hc.keeps kg8).keeps R₈.1.keep) ?_
    refine wpAny_Slice ?_
    have FR := R₈.1
    repeat walk_at "l"
    refine l_slice FR lP (.int ((q - st + 1 : Nat) : Int) _) .none (by omega) (slicePick_from' _ (q - st + 1)) (fun g₉ h₉ z₉ k₉ F₉ hz₉ => ?_)
    have iw : Ints g₉ z₉ (sub ns (q + 1) p) := ⟨_, hz₉, by rw [← sub_drop hqle hqp (Nat.le_of_lt hpl)]; exact IntsAre.drop iP _⟩
    refine ne_rd (((hzR₈.keeps k₉).keeps F₉.keep).rd) ((iw.keeps F₉.keep).rd) (word_lay _) (by have := word_depth (sub ns (q + 1) p); show A.units + _ < _; omega) ?_
    repeat walk_at "l"
    rw [if_neg (by decide)]
    refine isTrue_or_nil ?_
    rw [if_neg (by decide)]
    refine wpAny_execs_nil ?_
    dsimp only
    refine wpAny_execs_cons (wpAny_Continue ?_)
    dsimp only
    refine goesC F₉ (fun h₁₀ tk₁₀ v₁₀ F₁₀ sb₁₀ => ?_)
    refine hcont h₁₀ tk₁₀ _ G₈ (F₁₀.weaken (kg8.trans k₉) F.off) ?_ (fun y h1 h2 => ?_) hG₈
    · obtain ⟨o, e, r⟩ := hIR₈
      exact ⟨o, sb₁₀.extBut _ _ hIL (F₉.keep _ _ (k₉ _ _ e)), r⟩
    · rw [if_neg h1]
      show upd (upd m "error" _) "place" _ y = m y
      unfold upd
      rw [if_neg h2, if_neg h1]
end

section
variable {prog : Program} {w : World} {A : Around} {E : Value → Shared → Prop} {mg mb : Str → Option Value}

theorem stageC1 {Q : Flow → Shared → Prop} {s : Shared} {g h : Heap} {tk : Nat} {m : Str → Option Value} {L a I Rw P Bz : Addr} {cd : Value} {ns : List Int} {st p : Nat} {told : Value} {ts : List PyData}
    (W : Wd mg mb g) (hh : A.handled = none) (hroom : A.depth + 60 < recursionLimit) (hu : A.units + 200 < cLine) (hlen : ns.length ≤ 41) (hp : p ≤ ns.length)
    (F : Fm g L h m) (hI : g.IsListIter I Rw (p + 1)) (hc : g.IsCell (L + 1) (some (.ref P))) (hP : Ints g P (sub ns st p)) (hB : Rd g (.ref Bz) (.list (begD (sub ns st p))))
    (hst : Steps ns st p ts) (htold : Rd g told (stk ts)) (m5 : m "told" = some told) (m4 : m "begins" = some (.ref Bz))
    (hq : ∀ g2 h' tk m' Tz, Keep g g2 → Fm g2 L h' m' → Rd g2 (.ref Tz) (.tuple ts.reverse) → m' "trees" = some (.ref Tz) → m' "row" = m "row" → m' "stream" = m "stream" → m' "start" = m "start" →
      wpAny (model prog w) A (execs (whileB.drop 10) (lawE L a cd)) Q E (St s h' tk)) :
    wpAny (model prog w) A (execs (whileB.drop 5) (lawE L a cd)) Q E (St s h tk) := by
  obtain ⟨ft, hft⟩ : ∃ ab, mg "_law_tree" = some (.ref ab) := let ⟨ab, h1, _⟩ := W.fns ("_law_tree", 16) (by decide); ⟨ab, h1⟩
  have hle := hst.le
  have hsb := sizeBig
  obtain ⟨sgs, hbs⟩ := steps_segs hst hp (Nat.le_refl _)
  have hplen : (sub ns st p).length = p - st := sub_len hp
  have layr : PyData.canLayAll0 ts.reverse = true := sgs.lay
  have lay : PyData.canLayAll0 ts = true := lay_iff.mpr fun d hd => lay_iff.mp layr d (List.mem_reverse.mpr hd)
  have hdep : (stk ts).depth ≤ 100 := by
    have h1 := stk_depth ts
    have h2 := segs_depth sgs
    have h3 := sgs.len
    have h4 : PyData.depthAll ts ≤ PyData.depthAll ts.reverse := by
      have key : ∀ (l : List PyData) n, PyData.depthAll l ≤ n ↔ ∀ d ∈ l, d.depth ≤ n := fun l n => by
        induction l with
        | nil => simp [PyData.depthAll]
        | cons x r ih => simp [PyData.depthAll, ← ih]; omega
      exact (key ts _).mpr fun d hd => (key ts.reverse _).mp (Nat.le_refl _) d (List.mem_reverse.mpr hd)
    rw [List.length_reverse] at h3
    omega
  generalize hpt : sub ns st p = pt at *
  repeat walk_at "l"
  obtain ⟨asB, rB⟩ := hB.keeps (begD_lay _) F.keep
  refine SeqAt.in_list_reads (s := St s h tk) rB .none (begD_lay _) rfl (by rw [show PyData.depth .none = 0 from rfl, Nat.min_zero]; omega) ?_
  have hany : (begD pt).any (fun y => PyData.eqv y .none) = false := by
    rw [List.any_eq_false]
    intro d hd
    obtain ⟨k, hk, rfl⟩ := List.mem_map.mp hd
    obtain ⟨q, hq'⟩ := hbs k (by have := List.mem_range.mp hk; omega)
    rw [hq']; simp [optD, PyData.eqv]
  rw [hany]
  repeat walk_at "l"
  rw [if_neg (by decide)]
  refine wpAny_execs_nil ?_
  dsimp only
  repeat walk_at "l"
  refine glC W F hft ?_
  refine cw_def (W.fn (i := 16) hft) ?_
  repeat walk_at "l"
  refine ldP (hc.keeps F.keep) ?_
  repeat walk_at "l"
  refine l_new F (by show 1 ≤ sizeLine; decide) (fun g₁ h₁ z₁ k₁ F₁ hz₁ _ _ => ?_)
  obtain ⟨vP, lP, iP⟩ := hP.keeps k₁
  have hvP : vP.length = p - st := by rw [IntsAre.length iP, hplen]
  repeat walk_at "l"
  refine l_add F₁ lP hz₁ (by show _ + 1 ≤ _; omega) (fun g₂ h₂ z₂ k₂ F₂ hz₂ _ => ?_)
  have i2 : Ints g₂ z₂ (pt ++ [0]) := ⟨_, hz₂, intsAre_snoc iP⟩
  have k02 := k₁.trans k₂
  have W₂ := W.keeps k02
  repeat walk_at "l"
  refine blC W₂ F₂ bootS_len ?_
  refine PyProof.Rows.callWith_builtin1 ?_
  refine args_cons ?_
  refine ldP ((hc.keeps k02).keeps F₂.keep) ?_
  repeat walk_at "l"
  refine len_ints ((hP.keeps k02).keeps F₂.keep) (by omega) (fun t3 tk3 => ?_)
  repeat walk_at "l"
  refine ⟨k02.trans F₂.keep, ?_⟩
  rw [hplen]
  refine tree_call (s := St s h₂ _) (b := 0) 41 (by omega) sgs.app (x := 0) (by rw [List.getElem?_append_right (by omega)]; simp [hplen]) (W₂.keeps F₂.keep) hh (by omega) hft (i2.keeps F₂.keep) (by simp; omega) (fun v h₃ tk₃ k₃ hv => ?_)
  obtain ⟨g₄, k₄, F₄, to₄⟩ := F₂.back k₃
  have hv₄ := hv.to (by simp [PyData.canLay0, PyData.canLayAll0, layr]) to₄
  obtain ⟨zt, vt, rfl, hzt, hvt⟩ := hv₄.tuple_inv
  obtain ⟨v0, vt, rfl⟩ : ∃ v0 vt', vt = v0 :: vt' := by cases vt with
    | nil => exact absurd hvt.length (by simp)
    | cons a b => exact ⟨a, b, rfl⟩
  have hvtl := hvt.inv.2.length
  have htsl := sgs.len
  repeat walk_at "l"
  refine t_from F₄ hzt (a := 1) (by decide) (by simp) (by rw [List.length_cons, hvtl]; omega) (fun g₅ h₅ Tz k₅ F₅ hTz => ?_)
  have rTz : Rd g₅ (.ref Tz) (.tuple ts.reverse) := Rd.tuple hTz (hvt.inv.2.keeps layr k₅)
  have k05 := (k02.trans k₄).trans k₅
  refine stC F₅ (fun h₆ tk₆ F₆ _ => ?_)
  dsimp only
  repeat walk_at "l"
  refine stC F₆ (fun h₇ tk₇ F₇ _ => ?_)
  generalize hm₇ : upd (upd m "trees" _) "due" _ = m₇ at F₇
  have e1 : m₇ "trees" = some (.ref Tz) := by rw [← hm₇]; rfl
  have e2 : m₇ "due" = some .none := by rw [← hm₇]; rfl
  have e3 : m₇ "told" = some told := by rw [← hm₇]; exact m5
  have e4 : m₇ "row" = m "row" := by rw [← hm₇]; rfl
  have e5 : m₇ "stream" = m "stream" := by rw [← hm₇]; rfl
  have e6 : m₇ "start" = m "start" := by rw [← hm₇]; rfl
  clear hm₇
  dsimp only
  repeat walk_at "l"
  obtain ⟨zT, vT, eT, hT, hvT⟩ := rTz.tuple_inv
  cases eT
  have hvTl := hvT.length
  refine iter_tuple F₇ hT (fun h₈ It k₈ F₈ hIt hgIt hItL _ => ?_)
  refine codeAny_forLoop (fun k s' => ∃ (g' h' : Heap) (tk' : Nat) (m' : Str → Option Value) (j : Nat) (vd : Value), s' = St s h' tk' ∧ Keep g₅ g' ∧ Fm g' L h' m' ∧ g'.get? It = none ∧ h'.IsTupleIter It Tz j ∧ m' "due" = some vd ∧ Rd g' vd (stk (ts.reverse.take j).reverse) ∧
    m' "trees" = some (.ref Tz) ∧ m' "told" = some told ∧ m' "row" = m "row" ∧ m' "stream" = m "stream" ∧ m' "start" = m "start" ∧ j ≤ ts.length ∧ k = ts.length + 1 - j) ?_ (ts.length + 1)
    ⟨g₅, h₈, _, _, 0, .none, rfl, Keep.rfl, F₈, hgIt, hIt, e2, Rd.none, e1, e3, e4, e5, e6, by omega, rfl⟩
  clear F₈ F₇ F₆ F₅ hIt
  rintro k s' ⟨g', h', tk', m', j, vd, rfl, kg, F', off', hIt', n1, hvd, n2, n3, n4, n5, n6, hj, rfl⟩
  have kgg := k05.trans kg
  cases hx : ts.reverse[j]? with
  | none =>
    have hje : j = ts.length := by have := List.getElem?_eq_none_iff.mp hx; rw [List.length_reverse] at this; omega
    refine wpAny_pyNext_tuple_end hh hIt' (isTup_keeps (isTup_keeps hT kg) F'.keep) (by rw [List.length_reverse] at hvTl; simpa [hvTl] using Nat.le_of_eq hje.symm) (fun h₉ e₉ => wpAny_execs_nil ?_)
    have F₉ := F'.ext e₉ off' hItL
    rw [List.take_of_length_le (by rw [List.length_reverse]; omega), List.reverse_reverse] at hvd
    dsimp only
    repeat walk_at "l"
    refine ne_rd ((htold.keeps (stk_lay lay) kgg).keeps (stk_lay lay) F₉.keep) (hvd.keeps (stk_lay lay) F₉.keep) (stk_lay lay) (by omega) ?_
    repeat walk_at "l"
    rw [if_neg (by decide)]
    refine wpAny_execs_nil ?_
    dsimp only
    exact hq g' h₉ _ m' Tz kgg F₉ (rTz.keeps (by simp [PyData.canLay0, layr]) kg) n2 n4 n5 n6
  | some d =>
    have hjl : j < ts.length := by have := (List.getElem?_eq_some_iff.mp hx).1; rwa [List.length_reverse] at this
    obtain ⟨v, hv', hrv⟩ := hvT.at hx
    refine wpAny_pyNext_tuple_item hIt' (isTup_keeps (isTup_keeps hT kg) F'.keep) (by simpa using hv') (fun h₉ hIt₉ sb₉ => ?_)
    have F₉ := F'.ext sb₉.extBut off' hItL
    refine wpAny_assign_Name ?_
    refine stC F₉ (fun h₁₀ tk₁₀ F₁₀ sb₁₀ => ?_)
    have hIt₁₀ : h₁₀.IsTupleIter It Tz (j + 1) := let ⟨o, e, r⟩ := hIt₉; ⟨o, sb₁₀.extBut _ _ hItL e, r⟩
    repeat walk_at "l"
    have R := F₁₀.rebase
    refine t_new R.1 (by show 2 ≤ sizeLine; decide) (fun g₁₁ h₁₁ z₁₁ k₁₁ F₁₁ hz₁₁ => ?_)
    obtain ⟨oI, i1, i2', i3⟩ := hIt₁₀
    refine stC F₁₁ (fun h₁₂ tk₁₂ F₁₂ sb₁₂ => wpAny_execs_nil ?_)
    have hit := F₁₂.keep _ _ (k₁₁ _ _ ((Heap.hide_ne _ hItL).trans i1))
    obtain ⟨F₁₃, to₁₃, off₁₃⟩ := F₁₂.drop hit i3
    have kk := R.2.trans k₁₁
    have ld : d.canLay0 = true := lay_at layr hx
    have l1 : PyData.canLayAll0 (ts.reverse.take j).reverse = true := lay_iff.mpr fun y hy => lay_iff.mp layr y (List.mem_of_mem_take (List.mem_reverse.mp hy))
    have et : (ts.reverse.take (j + 1)).reverse = d :: (ts.reverse.take j).reverse := by rw [List.take_add_one, hx]; simp
    have l2 : (stk (d :: (ts.reverse.take j).reverse)).canLay0 = true := stk_lay (by rw [PyData.canLayAll0, ld, l1]; rfl)
    refine ⟨ts.length + 1 - (j + 1), by omega, g₁₁.hide It, h₁₂, tk₁₂, _, j + 1, .ref z₁₁, rfl, (kg.trans kk).drop (Old.keep kg _ off'), F₁₃, off₁₃, ⟨oI, hit, i2', i3⟩, rfl, ?_, n2, n3, n4, n5, n6, hjl, rfl⟩
    rw [et]
    exact Rd.to (Rd.tuple (vs := [vd, v]) hz₁₁ (.cons (hvd.keeps (stk_lay l1) kk) (.cons (hrv.keeps ld (kg.trans kk)) .nil))) l2 to₁₃
end

section
variable {prog : Program} {w : World} {A : Around} {E : Value → Shared → Prop} {mg mb : Str → Option Value}

theorem assign_comp {env : Env} {s : Shared} {elt iter : Expr} {x y : Str} {px py : Pos} {scope : Scope} {pos spos : Pos} {Q : Flow → Shared → Prop}
    (hsw : swapsWith (.ListComp elt [⟨.Name x px, iter, [], 0⟩] scope pos) (some (.Name y py)) spos.line env = pure true)
    (hclos : closureFor scope env = pure []) (hkind : scope.kind = .function) (hnames : ∀ z ∈ scope.names, z.2 = .local → scope.names.lookup z.1 = some .local)
    (h : wpAny (model prog w) A (eval iter env) (fun xv s₁ => wpAny (model prog w) A (pyIter xv) (fun it s₂ => wpAny (model prog w) A (newList []) (fun acc s₃ =>
      wpAny (model prog w) A (newFunctionEnv scope env.globals [] [] env.qual none .none (some env)) (fun cenv s₄ =>
        codeAny (model prog w) A (.compStart (.ListComp elt [⟨.Name x px, iter, [], 0⟩] scope pos) 0 it acc { cenv with scope := relabel scope env }) (compPost (model prog w) A E (some (assign (.Name y py) env)) (fun _ s' => Q .next s') acc cenv.locals) s₄) E s₃) E s₂) E s₁) E s)
    (hs : ∀ x, foldedSetIterable iter env x = pure x) :
    wpAny (model prog w) A (exec (.Assign [.Name y py] (.ListComp elt [⟨.Name x px, iter, [], 0⟩] scope pos) spos) env) Q E s := by
  rw [exec_Assign_Name_used _ _ _ _ hsw]
  refine wpAny_bind (wpAny_standAt (wpAny_bind ?_))
  show wpAny _ A (do let _ ← comprehension (.ListComp elt [⟨.Name x px, iter, [], 0⟩] scope pos) scope env _ (newList []) false (eval iter env) (some (assign (.Name y py) env))) _ _ s
  exact wpAny_bind (wpAny_mono (wpAny_comprehension_free (use := some (assign (.Name y py) env)) (Q := fun _ s' => Q .next s') rfl hs hclos hkind hnames h) (fun _ s' hq => wpAny_pure (wpAny_pure hq)) fun _ _ e => e)

theorem stageC2 {Q : Flow → Shared → Prop} {s : Shared} {g h : Heap} {tk : Nat} {m : Str → Option Value} {L a Tz : Addr} {cd : Value} {ts : List PyData} {wss : List (List Int)} {n : Nat}
    (W : Wd mg mb g) (hh : A.handled = none) (hroom : A.depth + n + 4 < recursionLimit) (F : Fm g L h m) (hT : Rd g (.ref Tz) (.tuple ts)) (lay : PyData.canLayAll0 ts = true) (hts : TreesW n ts wss) (hlen : ts.length ≤ 2 ^ 20) (m1 : m "trees" = some (.ref Tz))
    (hq : ∀ g2 h' tk Wz, Keep g g2 → Fm g2 L h' (upd m "words" (.ref Wz)) → Rd g2 (.ref Wz) (.list (wss.map wordD)) → wpAny (model prog w) A (execs (whileB.drop 11) (lawE L a cd)) Q E (St s h' tk)) :
    wpAny (model prog w) A (execs (whileB.drop 10) (lawE L a cd)) Q E (St s h tk) := by
  obtain ⟨fw, hfw⟩ : ∃ ab, mg "_law_word" = some (.ref ab) := let ⟨ab, h1, _⟩ := W.fns ("_law_word", 14) (by decide); ⟨ab, h1⟩
  have lay' : PyData.canLay0 (.list (wss.map wordD)) = true := by
    show PyData.canLayAll0 _ = true
    have : wss.map wordD = listsOf (wss.map fun ws => ws.map PyData.int) := by simp [listsOf, wordD]
    rw [this]
    exact lay_lists.mpr fun y hy => by obtain ⟨ws, _, rfl⟩ := List.mem_map.mp hy; exact lay_ints ws
  refine wpAny_execs_cons ?_
  refine assign_comp ?hsw ?hclos ?hkind ?hnames ?_ ?hs
  case hsw => rfl
  case hclos => rfl
  case hkind => rfl
  case hnames => decide
  case hs => intro _; rfl
  repeat walk_at "l"
  obtain ⟨z, vs, e, hTt, hvs⟩ := hT.tuple_inv
  cases e
  refine comp_wordG (RR := fun acc cenv r s' => compPost (model prog w) A E (some (assign (.Name "words" _) (lawE L a cd))) _ acc cenv.locals r s') rfl rfl rfl rfl (by decide) rfl (by decide) hh W hfw F hTt hvs hts lay hlen (fun s' v' t' ws' Q' E' W' htw hlt hrt hq' => ?_) (fun acc cenv h₁ tk₁ mC nC hCn k₁ hr => ?_)
  · exact word_call n htw hlt hrt W' hh (by omega) hfw hq'
  · show wpAny _ A (assign (.Name "words" _) (lawE L a cd) (.ref acc)) _ _ _
    refine wpAny_assign_Name ?_
    have F₁ := F.keeps k₁
    have hCL : cenv.locals ≠ L := fun q => by obtain ⟨_, _, _, e, _⟩ := F.ns; rw [q, e] at hCn; cases hCn
    refine stC F₁ (fun h₂ tk₂ F₂ sb₂ => ?_)
    refine ⟨mC, nC.sameBut sb₂ hCL, fun h₃ sb₃ => ?_⟩
    have F₃ := F₂.ext sb₃.extBut (Old.keep F.keep _ hCn) hCL
    have nseq : ∀ {h : Heap} {X : Addr} {mX}, h.Ns X mX → ∀ b o vs n, h.get? b = some o → o.data = .seq vs n → b ≠ X := fun nX b o vs n e hd q => by
      obtain ⟨o', es, ep, q1, q2, _⟩ := nX
      rw [q, q1] at e; rw [← Option.some.inj e, q2] at hd; cases hd
    have s13 : KeepS h₁ h₃ := fun b o vs n e hd => sb₃.extBut b o (nseq nC b o vs n e hd) (sb₂.extBut b o (nseq F₁.ns b o vs n e hd) e)
    obtain ⟨g₄, k₄, F₄, to₄⟩ := F₃.back Keep.rfl
    exact hq g₄ h₃ _ acc k₄ F₄ ((hr.to lay' s13).to lay' to₄)
end

def isLow : Value → Bool
  | .int n _ => decide (n < 256)
  | _ => false
theorem intsAre_low : ∀ {vs : List Value} {ns : List Int}, IntsAre vs ns → IntsAre (vs.filter isLow) (ns.filter (· < 256))
  | _, _, .nil => .nil
  | _, _, .cons n t r => by
    by_cases h : n < 256
    · rw [List.filter_cons_of_pos (by simpa [isLow] using h), List.filter_cons_of_pos (by simpa using h)]; exact .cons n t (intsAre_low r)
    · rw [List.filter_cons_of_neg (by simpa [isLow] using h), List.filter_cons_of_neg (by simpa using h)]; exact intsAre_low r
theorem paired_eq : ∀ {l₁ l₂ : List Value}, Paired (fun v y => y = v) l₁ l₂ → l₂ = l₁
  | _, _, .nil => rfl
  | _, _, .cons h r => by rw [h, paired_eq r]

section
variable {prog : Program} {w : World} {A : Around} {E : Value → Shared → Prop} {mg mb : Str → Option Value}

/-- the last question -/
theorem stageC4 {Q : Flow → Shared → Prop} {s : Shared} {g h : Heap} {tk : Nat} {m : Str → Option Value} {L a Wz P : Addr} {cd : Value} {wss : List (List Int)} {pt : List Int} {wv : Value} {n : Nat}
    (W : Wd mg mb g) (hh : A.handled = none) (hu : A.units + 200 < cLine) (F : Fm g L h m) (hc : g.IsCell (L + 1) (some (.ref P))) (hP : Ints g P pt) (hpl : pt.length ≤ 2 ^ 10) (hW : Rd g (.ref Wz) (.list (wss.map wordD))) (hne : wss ≠ []) (hv : Rd g wv (wordD (pt.filter (· < 256))))
    (m1 : m "words" = some (.ref Wz)) (m2 : m "word" = some wv)
    (hq : ∀ h' tk, Fm g L h' m → Q .next (St s h' tk)) :
    wpAny (model prog w) A (execs (whileB.drop 12) (lawE L a cd)) Q E (St s h tk) := by
  have lay' : PyData.canLay0 (.list (wss.map wordD)) = true := by
    show PyData.canLayAll0 _ = true
    have : wss.map wordD = listsOf (wss.map fun ws => ws.map PyData.int) := by simp [listsOf, wordD]
    rw [this]
    exact lay_lists.mpr fun y hy => by obtain ⟨ws, _, rfl⟩ := List.mem_map.mp hy; exact lay_ints ws
  have hsb := sizeBig
  refine wpAny_execs_cons (wpAny_If (isTrue_or ?_))
  refine wpAny_isTrue_Compare1 ?_
  repeat walk_at "l"
  refine l_new F (by simp) (fun g₁ h₁ z₁ k₁ F₁ hz₁ _ _ => ?_)
  obtain ⟨_, rW⟩ := (hW.keeps lay' k₁).keeps lay' F₁.keep
  obtain ⟨_, rz⟩ : Rd h₁ (.ref z₁) (.list []) := Rd.list (isList_keeps hz₁ F₁.keep) .nil
  refine SeqAt.compareEq_reads (s := St s h₁ _) rW rz lay' rfl (by
    have : PyData.depth (.list []) ≤ 1 := by simp [PyData.depth, PyData.depthAll]
    have := Nat.min_le_right (PyData.depth (.list (wss.map wordD))) (PyData.depth (.list [])); omega) ?_
  have hf : PyData.eqv (.list (wss.map wordD)) (.list []) = false := by
    cases wss with
    | nil => exact absurd rfl hne
    | cons a r => rfl
  rw [hf]
  repeat walk_at "l"
  rw [if_neg (by decide)]
  refine isTrue_or ?_
  refine wpAny_isTrue_Compare1 ?_
  repeat walk_at "l"
  obtain ⟨vP, lP, iP⟩ := hP.keeps k₁
  have hvP : vP.length = pt.length := IntsAre.length iP
  refine wpAny_ListComp_free isLow (fun v y => y = v) (cl := []) ?hclos ?hcell ?hkind ?hnames ?hx ?_ ?hs
  case hclos => rfl
  case hcell => decide
  case hkind => rfl
  case hnames => decide
  case hx => rfl
  case hs => intro _; rfl
  refine ldP ((hc.keeps k₁).keeps F₁.keep) ?_
  refine iter_list F₁ lP (fun h₂ I k₂ F₂ hI hgI hIL hIn => ?_)
  have hPI : P ≠ I := fun q => by obtain ⟨_, e, _⟩ := lP; rw [q, hgI] at e; cases e
  refine ⟨I, [I, P], [I], vP.toArray.size, _, _, rfl, Walks.list hh I P hPI vP.toArray, by simp; omega, ⟨hI, isList_keeps lP F₂.keep⟩, ?_, ⟨?_, ?_⟩, ?_⟩
  · intro b hb
    rcases List.mem_cons.mp hb with rfl | hb
    · exact (let ⟨_, e, _⟩ := hI; Heap.lt_size e)
    · rw [List.mem_singleton.mp hb]; exact (let ⟨_, e, _⟩ := lP; Heap.lt_size (F₂.keep _ _ e))
  · intro C i v s₃ m₃ E' hC hv hn hm hk ht
    have hvi : vP[i]? = some v := by simpa using hv
    have hil : i < vP.length := (List.getElem?_eq_some_iff.mp hvi).1
    obtain ⟨t, ht'⟩ := ints_at iP (k := i) (n := pt[i]) (List.getElem?_eq_getElem (by omega))
    rw [hvi] at ht'
    cases ht'
    rw [List.forIn_cons]
    refine wpAny_bind ?_
    rw [if_pos rfl]
    refine wpAny_bind ?_
    refine wpAny_isTrue_Compare1 ?_
    refine ldE (s₀ := s₃) (h := s₃.heap) (tk := s₃.toks) hn hm ?_ rfl rfl (by decide)
    refine c_int (fun t4 tk4 => ?_)
    refine lt_int ?_
    refine wpAny_truthy_bool ?_
    refine wpAny_pure ?_
    dsimp only
    rw [List.forIn_nil]
    exact wpAny_pure ⟨rfl, s₃.heap, _, rfl, fun b o e => e⟩
  · intro C i v s₃ m₃ E' hC hv hp hn hm hk ht
    refine ldE (s₀ := s₃) (h := s₃.heap) (tk := s₃.toks) hn hm ?_ rfl rfl (by decide)
    exact ⟨rfl, s₃.heap, _, rfl, fun b o e => e⟩
  · intro D h₃ tk₃ ys xs hDn hD hDp hxl hxP hpair hkk
    have hxs : xs = vP := by
      refine List.ext_getElem? fun j => ?_
      by_cases hj : j < xs.length
      · have := hxP j xs[j] (List.getElem?_eq_getElem hj)
        rw [List.getElem?_eq_getElem hj]; simpa using this.symm
      · rw [List.getElem?_eq_none (by omega), List.getElem?_eq_none (by rw [List.size_toArray] at hxl; omega)]
    subst hxs
    have hys := paired_eq hpair
    have kg3 : Keep g₁ h₃ := fun b o e => hkk b o (fun hb => by rw [List.mem_singleton.mp hb, hgI] at e; cases e) (F₂.keep b o e)
    have n₃ : h₃.Ns L m := let ⟨o, es, ep, e, r⟩ := F₂.ns; ⟨o, es, ep, hkk _ _ (fun hb => hIL (List.mem_singleton.mp hb).symm) e, r⟩
    have F₃ : Fm g₁ L h₃ m := ⟨n₃, kg3, F₂.off⟩
    have iD : Ints h₃ D (pt.filter (· < 256)) := ⟨ys.toList, by simpa using hD, by rw [hys]; exact intsAre_low iP⟩
    refine ne_rd ((hv.keeps (word_lay _) k₁).keeps (word_lay _) F₃.keep) iD.rd (word_lay _) (by have := word_depth (pt.filter (· < 256)); omega) ?_
    repeat walk_at "l"
    rw [if_neg (by decide)]
    refine isTrue_or_nil ?_
    rw [if_neg (by decide)]
    refine wpAny_execs_nil ?_
    refine wpAny_execs_nil ?_
    exact hq _ _ (F₃.weaken k₁ F.off)

theorem stageC3 {Q : Flow → Shared → Prop} {s : Shared} {g h : Heap} {tk : Nat} {m : Str → Option Value} {L a Wz P : Addr} {cd : Value} {wss : List (List Int)} {pt : List Int}
    (W : Wd mg mb g) (hh : A.handled = none) (hroom : A.depth + 4 < recursionLimit) (hu : A.units + 200 < cLine) (hfr : A.frames = some [lawE L a cd]) (F : Fm g L h m) (hc : g.IsCell (L + 1) (some (.ref P))) (hP : Ints g P pt) (hpl : pt.length ≤ 2 ^ 10)
    (hW : Rd g (.ref Wz) (.list (wss.map wordD))) (hfl : wss.flatten = pt.filter (· < 256)) (m1 : m "words" = some (.ref Wz))
    (hq : ∀ f h' tk m', (f = .next ∨ f = .cont) → Fm g L h' m' → m' "row" = m "row" → m' "stream" = m "stream" → m' "start" = m "start" → Q f (St s h' tk)) :
    wpAny (model prog w) A (execs (whileB.drop 11) (lawE L a cd)) Q E (St s h tk) := by
  obtain ⟨fj, hfj⟩ : ∃ ab, mg "_law_join" = some (.ref ab) := let ⟨ab, h1, _⟩ := W.fns ("_law_join", 13) (by decide); ⟨ab, h1⟩
  obtain ⟨ar, T, im, om, r1, r2, r3, r4, r5, r6⟩ := W.red
  have hls : wss.map wordD = listsOf (wss.map fun ws => ws.map PyData.int) := by simp [listsOf, wordD]
  have hl : ∀ y ∈ (wss.map fun ws => ws.map PyData.int), PyData.canLayAll0 y = true := fun y hy => by
    obtain ⟨ws, _, rfl⟩ := List.mem_map.mp hy; exact lay_ints ws
  have lay' : PyData.canLay0 (.list (wss.map wordD)) = true := by rw [hls]; exact lay_lists.mpr hl
  have hsb := sizeBig
  refine wpAny_execs_cons ?_
  refine wpAny_Try_except ?_
  repeat walk_at "l"
  refine glC W F r1 ?_
  refine cw_def r2 ?_
  repeat walk_at "l"
  refine glC W F hfj ?_
  repeat walk_at "l"
  refine ⟨F.keep, ?_⟩
  cases hws : wss with
  | cons w0 wr =>
    rw [hws] at hls
    refine reduce_join2 (s := St s h _) (x := w0.map PyData.int) (l := wr.map fun ws => ws.map PyData.int) (W.keeps F.keep) hh (by omega) r1 hfj ?_ ?_ ?_ (fun v h₁ tk₁ k₁ hv => ?_)
    · have := hW.keeps lay' F.keep
      rw [hws, hls] at this; exact this
    · rw [hws] at hl; exact hl
    · show (flat ((w0 :: wr).map fun ws => ws.map PyData.int)).length ≤ _
      rw [flat_lists, ← hws, hfl, List.length_map]
      have := List.length_filter_le (· < 256) pt
      omega
    · have hv' : Rd h₁ v (wordD (pt.filter (· < 256))) := by
        have e : flat ((w0.map PyData.int) :: wr.map fun ws => ws.map PyData.int) = (pt.filter (· < 256)).map .int := by
          show flat ((w0 :: wr).map fun ws => ws.map PyData.int) = _
          rw [flat_lists, ← hws, hfl]
        rw [e] at hv; exact hv
      obtain ⟨g₂, k₂, F₂, to₂⟩ := F.back k₁
      refine stC F₂ (fun h₃ tk₃ F₃ _ => wpAny_execs_nil ?_)
      refine wpAny_execs_nil ?_
      refine stageC4 (n := 0) (wss := wss) (W.keeps k₂) hh hu F₃ (hc.keeps k₂) (hP.keeps k₂) hpl (hW.keeps lay' k₂) (by rw [hws]; simp) (hv'.to (word_lay _) to₂) m1 rfl (fun h₄ tk₄ F₄ => ?_)
      exact hq _ h₄ _ _ (.inl rfl) (F₄.weaken k₂ F.off) rfl rfl rfl
  | nil =>
    subst hws
    obtain ⟨zw, vw, ew, lw, rw'⟩ := hW.list_inv
    cases ew
    have hvw : vw = [] := by have := rw'.length; simpa using this
    subst hvw
    refine reduce_empty (s := St s h _) (g0 := g) W F.keep F.off hh (by omega) r1 lw hfr rfl rfl F.ns (fun e t u a2 h₁ tk₁ fl tp hBt n₁ => ?_)
    change wpAny _ _ _ _ _ (St s h₁ tk₁)
    have R := F.rebase
    refine caughtC (s := s) (W.keeps R.2) hfr fl n₁ tp PyProof.Rows.Boot.«TypeError» PySem.F.isExc_TypeError PySem.F.notTuple_TypeError (by rw [isSubtype_type]; kernel_rfl) (fun h₂ tk₂ F₂ ex tp₂ heL => ?_)
    have R₂ := F₂.rebase
    have ex₃ : ExcX (h₂.hide L) e "TypeError" (.ref t) a2 := let ⟨oe, ws, q1, r⟩ := ex; ⟨oe, ws, (Heap.hide_ne _ heL).trans q1, r⟩
    have htL : t ≠ L := fun q => by
      obtain ⟨o, n', e1, _, d1⟩ := tp₂
      obtain ⟨o', es, ep, e2, d2, _⟩ := F₂.ns
      rw [q, e2] at e1; cases e1; rw [d1] at d2; cases d2
    have tp₃ : (h₂.hide L).TupAt t _ := let ⟨o, n', q1, r⟩ := tp₂; ⟨o, n', (Heap.hide_ne _ htL).trans q1, r⟩
    have kg₃ := R.2.trans R₂.2
    have F₃ := R₂.1
    refine wpAny_execs_cons (wpAny_If (isTrue_or ?_))
    refine wpAny_isTrue_Compare1 ?_
    repeat walk_at "l"
    refine l_new F₃ (by simp) (fun g₄ h₄ z₄ k₄ F₄ hz₄ _ _ => ?_)
    refine ne_rd (d := .list []) (Rd.list (isList_keeps (isList_keeps (isList_keeps lw kg₃) k₄) F₄.keep) .nil) (Rd.list (isList_keeps hz₄ F₄.keep) .nil) rfl (by show A.units + 1 < _; omega) ?_
    repeat walk_at "l"
    rw [if_neg (by decide)]
    refine isTrue_or ?_
    refine wpAny_isTrue_Compare1 ?_
    refine Call_ ?_
    have W₄ := (W.keeps kg₃).keeps k₄
    refine blC W₄ F₄ bootS_str ?_
    refine PyProof.Rows.callWith_type1 ?_
    repeat walk_at "l"
    refine PySem.P.str_of_exc_one (s := St s h₄ _) PySem.F.excStr_TypeError (by show A.units + 2 < _; omega) (let ⟨oe, ws, q1, q2, q3, q4, _⟩ := ex₃; ⟨oe, ws, F₄.keep _ _ (k₄ _ _ q1), q2, q3, q4⟩) (tupAt_keeps (tupAt_keeps tp₃ k₄) F₄.keep) ?_
    refine c_str (fun t5 tk5 => ?_)
    refine ne_rd (d := .str emptyMsg) ⟨_, .str _ _⟩ ⟨_, .str _ _⟩ (by decide +kernel) (by show A.units + 0 < _; omega) ?_
    repeat walk_at "l"
    rw [if_neg (by decide)]
    refine isTrue_or_nil ?_
    rw [if_neg (by decide)]
    refine wpAny_execs_nil ?_
    dsimp only
    refine wpAny_execs_cons (wpAny_Continue ?_)
    dsimp only
    refine goesC F₄ (fun h₆ tk₆ v₆ F₆ sb₆ => ?_)
    exact hq _ h₆ tk₆ _ (.inr rfl) (F₆.weaken (kg₃.trans k₄) F.off) rfl rfl rfl
end

section
variable {prog : Program} {w : World} {A : Around} {E : Value → Shared → Prop} {mg mb : Str → Option Value}

/-- one turn of the law's loop -/
theorem turn {Q : Flow → Shared → Prop} {s : Shared} {g0 h : Heap} {tk : Nat} {m : Str → Option Value} {L a I Rw : Addr} {cd : Value} {ns : List Int} {st p : Nat} {tS : Tok} {v0 : Option Value}
    (W : Wd mg mb g0) (hh : A.handled = none) (hroom : A.depth + 60 < recursionLimit) (hu : A.units + 200 < cLine) (hfr : A.frames = some [lawE L a cd]) (row : Ints g0 Rw ns) (rowd : g0.NoDictAt (.ref Rw)) (hlen : ns.length ≤ 41) (bare : AllBare s.gens)
    (offI : g0.get? I = none) (offC : g0.get? (L + 1) = none)
    (F : Fm g0 L h m) (hc : h.IsCell (L + 1) v0) (hI : h.IsListIter I Rw st) (m1 : m "row" = some (.ref Rw)) (m2 : m "stream" = some (.ref I)) (m3 : m "start" = some (.int st tS)) (sg : Stretch ns st p)
    (hq : ∀ f h' tk m' G v t, (f = .next ∨ f = .cont) → Fm g0 L h' m' → h'.IsCell (L + 1) v → h'.IsListIter I Rw (p + 1) → m' "row" = some (.ref Rw) → m' "stream" = some (.ref I) → m' "start" = some (.int (p + 1 : Nat) t) → AllBare G → Q f (St (GS s G) h' tk)) :
    wpAny (model prog w) A (execs whileB (lawE L a cd)) Q E (St s h tk) := by
  have hpl : p < ns.length := (List.getElem?_eq_some_iff.mp sg.eof).1
  have hIL : I ≠ L := Ne.symm (let ⟨_, e, _, d⟩ := hI; ns_ne_fields F.ns e d)
  refine stageA W hh (by omega) row rowd (by omega) offI offC F hc hI m1 m2 m3 sg (fun g₁ h₁ tk₁ mm P Bz k₁ F₁ hI₁ hc₁ hP₁ hB₁ hBd₁ n1 n2 n3 n4 => ?_)
  obtain ⟨t3, n3⟩ := n3
  change Ints g₁ P (sub ns st p) at hP₁
  change Rd g₁ (.ref Bz) (.list (begD (sub ns st p))) at hB₁
  obtain ⟨F₂, offI₂, kx⟩ := F₁.hideX I
  have hIf : ∃ o vs, g₁.get? I = some o ∧ o.data = .fields vs := let ⟨o, e, _, d⟩ := hI₁; ⟨o, _, e, d⟩
  obtain ⟨oI, vI, i1, i2⟩ := hIf
  have kS : KeepS g₁ (g₁.hide I) := fun b o vs n e hd => kx b o (fun q => by rw [q, i1] at e; rw [← Option.some.inj e, i2] at hd; cases hd) e
  have k₂ : Keep g0 (g₁.hide I) := k₁.drop offI
  have hc₂ : (g₁.hide I).IsCell (L + 1) (some (.ref P)) := let ⟨o, e, d⟩ := hc₁; ⟨o, kx _ _ (fun q => by rw [q, i1] at e; rw [← Option.some.inj e, i2] at d; cases d) e, d⟩
  have hP₂ : Ints (g₁.hide I) P (sub ns st p) := let ⟨vs, ⟨o, e, c, n, d⟩, hi⟩ := hP₁; ⟨vs, ⟨o, kS _ _ _ _ e d, c, n, d⟩, hi⟩
  have hB₂ := hB₁.to (by simpa [PyData.canLay0] using begD_lay (sub ns st p)) kS
  have hBd₂ : (g₁.hide I).NoDictAt (.ref Bz) := by
    obtain ⟨o, e, d⟩ := hBd₁
    obtain ⟨z, vs, ez, ⟨o', e', c', n', d'⟩, _⟩ := hB₁.list_inv
    cases ez
    rw [e] at e'; cases e'
    exact ⟨o, kS _ _ _ _ e d', d⟩
  have hI₂ : h₁.IsListIter I Rw st := let ⟨o, e, r⟩ := hI₁; ⟨o, F₁.keep _ _ e, r⟩
  generalize g₁.hide I = g₂ at F₂ offI₂ k₂ hc₂ hP₂ hB₂ hBd₂
  refine stageB (W.keeps k₂) hh (by omega) (by omega) hfr (row.keeps k₂) (by omega) bare F₂ offI₂ hI₂ hc₂ hP₂ hB₂ hBd₂ n2 n4 sg (fun g₃ h₃ tk₃ G told ts hst k₃ htold F₃ offI₃ hI₃ hG => ?_) (fun h₃ tk₃ m₃ G F₃ hI₃ hm₃ hG => ?_)
  · have R := F₃.rebase
    have kR := k₃.trans R.2
    obtain ⟨sgs, _⟩ := steps_segs hst (Nat.le_of_lt hpl) (Nat.le_refl _)
    have hplen : (sub ns st p).length = p - st := sub_len (Nat.le_of_lt hpl)
    have layr : PyData.canLayAll0 ts.reverse = true := sgs.lay
    have lay : PyData.canLayAll0 ts = true := lay_iff.mpr fun d hd => lay_iff.mp layr d (List.mem_reverse.mpr hd)
    have hIR : (h₃.hide L).IsListIter I Rw (p + 1) := let ⟨o, e, r⟩ := hI₃; ⟨o, (Heap.hide_ne _ hIL).trans e, r⟩
    refine stageC1 (s := GS s G) ((W.keeps k₂).keeps kR) hh hroom hu hlen (Nat.le_of_lt hpl) R.1 hIR (hc₂.keeps kR) (hP₂.keeps kR) (hB₂.keeps (by simpa [PyData.canLay0] using begD_lay (sub ns st p)) kR) hst (htold.keeps (stk_lay lay) R.2) rfl n4 (fun g₄ h₄ tk₄ m₄ Tz k₄ F₄ hT₄ q1 q2 q3 q4 => ?_)
    obtain ⟨wss, htw, hflat⟩ := trees_words (ns := sub ns st p) (by omega) sgs (by omega) 41 (by omega)
    have hs0 : sub (sub ns st p) 0 (p - st) = sub ns st p := by
      show ((sub ns st p).drop 0).take (p - st - 0) = _
      rw [List.drop_zero, Nat.sub_zero, ← hplen, List.take_length]
    rw [hs0] at hflat
    have hsl := sgs.len
    have k04 := (k₂.trans kR).trans k₄
    refine stageC2 (s := GS s G) (n := 41) (W.keeps k04) hh (by omega) F₄ hT₄ layr htw (by omega) q1 (fun g₅ h₅ tk₅ Wz k₅ F₅ hW₅ => ?_)
    have k05 := k04.trans k₅
    refine stageC3 (s := GS s G) (W.keeps k05) hh (by omega) hu hfr F₅ ((hc₂.keeps kR).keeps (k₄.trans k₅)) ((hP₂.keeps kR).keeps (k₄.trans k₅)) (by omega) hW₅ hflat rfl (fun f h₆ tk₆ m₆ hf F₆ z1 z2 z3 => ?_)
    refine hq f h₆ tk₆ m₆ G _ t3 hf (F₆.weaken k05 F.off) (((hc₂.keeps kR).keeps (k₄.trans k₅)).keeps F₆.keep) (let ⟨o, e, r⟩ := hIR; ⟨o, F₆.keep _ _ (k₅ _ _ (k₄ _ _ e)), r⟩) ?_ ?_ ?_ hG
    · rw [z1]; exact q2.trans n1
    · rw [z2]; exact q3.trans n2
    · rw [z3]; exact q4.trans n3
  · refine hq .cont h₃ tk₃ m₃ G _ t3 (.inr rfl) (F₃.weaken k₂ F.off) (hc₂.keeps F₃.keep) hI₃ ?_ ?_ ?_ hG
    · rw [hm₃ _ (by decide) (by decide)]; exact n1
    · rw [hm₃ _ (by decide) (by decide)]; exact n2
    · rw [hm₃ _ (by decide) (by decide)]; exact n3
end

section
variable {prog : Program} {w : World} {A : Around} {mg mb : Str → Option Value}

theorem law_call {R : Result → Shared → Prop} {s : Shared} {fa a0 : Addr} {script : List Int} (W : Wd mg mb s.heap) (hh : A.handled = none) (hroom : A.depth + 70 < recursionLimit) (hu : A.units + 300 < cLine) (hfr : A.frames = some [])
    (fn : FnAt s.heap "law" 17 .none fa) (hP : Ints s.heap a0 script) (hlen : script.length ≤ 2 ^ 10) (bare : AllBare s.gens)
    (hq : ∀ h' tk G, Keep s.heap h' → AllBare G → R (.ok (.ret (.bool true))) (St (GS s G) h' tk)) :
    codeAny (model prog w) A (.call (.ref fa) ⟨[.ref a0], []⟩) R s := by
  obtain ⟨o, kV, doc, pm, an, cdv, ct, f1, f2, f3⟩ := fn
  obtain ⟨fr, hfrw⟩ : ∃ ab, mg "_law_row" = some (.ref ab) := let ⟨ab, h1, _⟩ := W.fns ("_law_row", 10) (by decide); ⟨ab, h1⟩
  refine codeAny_call_cells (binds := [("script", .ref a0)]) (by omega) f1 f2 W.nolim f3 rfl rfl rfl ?_ (fun s₁ x => ?_)
  · intro y hy; rw [List.mem_singleton.mp hy]; exact .inl rfl
  change wpAny (model prog w) (A.deeper (lawE s.heap.objs.size fa cdv)) (execs (bodyOf 17) (lawE s.heap.objs.size fa cdv)) _ _ s₁
  obtain ⟨h₁, tk₁, rfl⟩ := x.toInCall.same
  have F₁ : Fm s.heap s.heap.objs.size h₁ (upd (fun _ => none) "script" (.ref a0)) := Fm.start x.toInCall.ns x.toInCall.keep
  have hc₁ : h₁.IsCell (s.heap.objs.size + 1) none := x.cell "part" (s.heap.objs.size + 1) rfl
  have offC : s.heap.get? (s.heap.objs.size + 1) = none := Heap.get?_none_of_le (Nat.le_succ _)
  clear x
  generalize s.heap.objs.size = L at *
  change wpAny _ _ _ _ _ (St s h₁ tk₁)
  have hCL : L + 1 ≠ L := Nat.succ_ne_self _
  repeat walk_at "l"
  refine glC W F₁ hfrw ?_
  refine cw_def (W.fn (i := 10) hfrw) ?_
  repeat walk_at "l"
  refine ⟨F₁.keep, ?_⟩
  refine row_call (s := St s h₁ tk₁) (W.keeps F₁.keep) hh (by show A.depth + 1 < _; omega) hfrw (hP.keeps F₁.keep) (by omega) (fun Rw h₂ tk₂ k₂ hRw hRd hRn => ?_)
  have hRn' : h₁.get? Rw = none := hRn
  have hRL : Rw ≠ L := fun q => by obtain ⟨_, _, _, e, _⟩ := F₁.ns; rw [q, e] at hRn'; cases hRn'
  have hRC : Rw ≠ L + 1 := fun q => by obtain ⟨_, e, _⟩ := hc₁; rw [q, e] at hRn'; cases hRn'
  have F₂ := F₁.keeps k₂
  have R₂ := F₂.rebase
  obtain ⟨F₃, offC₃, kx⟩ := R₂.1.hideX (L + 1)
  have kk : ∀ b o, b ≠ L → b ≠ L + 1 → h₂.get? b = some o → ((h₂.hide L).hide (L + 1)).get? b = some o := fun b o q1 q2 e => kx b o q2 ((Heap.hide_ne _ q1).trans e)
  have row : Ints ((h₂.hide L).hide (L + 1)) Rw (rowF script) := let ⟨vs, ⟨o, e, r⟩, hi⟩ := hRw; ⟨vs, ⟨o, kk _ _ hRL hRC e, r⟩, hi⟩
  have rowd : ((h₂.hide L).hide (L + 1)).NoDictAt (.ref Rw) := let ⟨o, e, r⟩ := hRd; ⟨o, kk _ _ hRL hRC e, r⟩
  have k03 : Keep s.heap ((h₂.hide L).hide (L + 1)) := R₂.2.drop offC
  have hc₂ := hc₁.keeps k₂
  clear R₂ kx kk hRw hRd
  generalize ((h₂.hide L).hide (L + 1)) = g at *
  have W₃ := W.keeps k03
  refine stC F₃ (fun h₄ tk₄ F₄ sb₄ => ?_)
  have hc₄ := hc₂.sameBut sb₄ hCL
  dsimp only
  repeat walk_at "l"
  refine blC W₃ F₄ boot_iter ?_
  refine PyProof.Rows.callWith_builtin1 ?_
  repeat walk_at "l"
  refine b_iter ?_
  obtain ⟨vR, lR, iR⟩ := id row
  refine iter_list F₄ lR (fun h₅ I k₅ F₅ hI₅ offI hIL _ => ?_)
  refine stC F₅ (fun h₆ tk₆ F₆ sb₆ => ?_)
  have hI₆ := hI₅.extBut sb₆.extBut hIL
  have hc₆ := (hc₄.keeps k₅).sameBut sb₆ hCL
  dsimp only
  repeat walk_at "l"
  refine stC F₆ (fun h₇ tk₇ F₇ sb₇ => ?_)
  have hI₇ := hI₆.extBut sb₇.extBut hIL
  have hc₇ := hc₆.sameBut sb₇ hCL
  dsimp only
  have hvR : vR.length = (rowF script).length := IntsAre.length iR
  have hrl := rowF_len script
  obtain ⟨ll, hll⟩ : ∃ l, rowF script = l ++ [0] := ⟨_, rfl⟩
  generalize rowF script = ns at *
  refine wpAny_execs_cons ?_
  refine wpAny_While ?_
  refine codeAny_whileLoop (fun n s' => ∃ (G : Array GenState) (h' : Heap) (tk' : Nat) (m' : Str → Option Value) (st : Nat) (v0 : Option Value) (tS : Tok), s' = St (GS s G) h' tk' ∧ AllBare G ∧ Fm g L h' m' ∧ h'.IsCell (L + 1) v0 ∧ h'.IsListIter I Rw st ∧
    m' "row" = some (.ref Rw) ∧ m' "stream" = some (.ref I) ∧ m' "start" = some (.int st tS) ∧ st ≤ ns.length ∧ n = ns.length - st) ?_ ns.length
    ⟨s.gens, h₇, tk₇, _, 0, none, _, rfl, bare, F₇, hc₇, hI₇, rfl, rfl, rfl, by omega, rfl⟩
  clear F₇ F₆ F₅ F₄ F₃ hI₇ hc₇
  rintro n s' ⟨G, h, tk, m, st, v0, tS, rfl, hG, F, hc, hI, m1, m2, m3, hst, rfl⟩
  repeat walk_at "l"
  refine blC W₃ F bootS_len ?_
  refine PyProof.Rows.callWith_builtin1 ?_
  repeat walk_at "l"
  refine len_ints (row.keeps F.keep) (by omega) (fun t8 tk8 => ?_)
  repeat walk_at "l"
  by_cases hlt : st < ns.length
  · rw [if_pos (by simpa using hlt)]
    obtain ⟨p, sg⟩ := stretch_of hll _ st hlt rfl
    have hpl : p < ns.length := (List.getElem?_eq_some_iff.mp sg.eof).1
    have hle := sg.le
    refine turn (s := GS s G) W₃ hh (by show A.depth + 1 + 60 < _; omega) (by show A.units + 3 + 200 < _; omega) (Around.frames_deeper hfr) row rowd hrl hG offI offC₃ F hc hI m1 m2 m3 sg (fun f h' tk' m' G' v t hf F' hc' hI' n1 n2 n3 hG' => ?_)
    have inv : ∃ k, k < ns.length - st ∧ ∃ (G : Array GenState) (h'' : Heap) (tk'' : Nat) (m' : Str → Option Value) (st : Nat) (v0 : Option Value) (tS : Tok), St (GS (GS s G) G') h' tk' = St (GS s G) h'' tk'' ∧ AllBare G ∧ Fm g L h'' m' ∧ h''.IsCell (L + 1) v0 ∧ h''.IsListIter I Rw st ∧
        m' "row" = some (.ref Rw) ∧ m' "stream" = some (.ref I) ∧ m' "start" = some (.int st tS) ∧ st ≤ ns.length ∧ k = ns.length - st :=
      ⟨ns.length - (p + 1), by omega, G', h', tk', m', p + 1, v, t, rfl, hG', F', hc', hI', n1, n2, n3, hpl, rfl⟩
    rcases hf with rfl | rfl
    · exact inv
    · exact inv
  · rw [if_neg (by simpa using hlt)]
    refine wpAny_execs_nil ?_
    dsimp only
    refine wpAny_execs_cons (wpAny_Return_some ?_)
    refine wpAny_Compare1 ?_
    refine Call_ ?_
    refine blC W₃ F PyProof.Rows.boot_list ?_
    refine PyProof.Rows.callWith_type1 ?_
    repeat walk_at "l"
    refine list_end (s := St (GS s G) h _) hh hI (isList_keeps lR F.keep) (by simp; omega) (fun z h₈ tk₈ hz ex₈ => ?_)
    have F₈ := F.ext ex₈ offI hIL
    have hzL : z ≠ L := fun q => by
      obtain ⟨o', e1, _, _, d1⟩ := hz
      obtain ⟨o', es, ep, e2, d2, _⟩ := F₈.ns
      rw [q, e2] at e1; cases e1; rw [d1] at d2; cases d2
    have R₈ := F₈.rebase
    have hzR : (h₈.hide L).IsList z #[] := let ⟨o, e, r⟩ := hz; ⟨o, (Heap.hide_ne _ hzL).trans e, r⟩
    have F₉ := R₈.1
    refine List_ ?_
    refine args_nil ?_
    refine l_new F₉ (by simp) (fun g₁₀ h₁₀ z₁₀ k₁₀ F₁₀ hz₁₀ _ _ => ?_)
    obtain ⟨_, ra⟩ : Rd h₁₀ (.ref z) (.list []) := Rd.list (vs := []) (isList_keeps (isList_keeps hzR k₁₀) F₁₀.keep) .nil
    obtain ⟨_, rb⟩ : Rd h₁₀ (.ref z₁₀) (.list []) := Rd.list (isList_keeps hz₁₀ F₁₀.keep) .nil
    refine SeqAt.compareEq_reads (s := St (GS s G) h₁₀ _) ra rb rfl rfl (by show A.units + 3 + min 1 1 < _; omega) ?_
    exact hq h₁₀ _ G (((k03.trans R₈.2).trans k₁₀).trans F₁₀.keep) hG
end

theorem mg_of {K : Frag} {h : Heap} {mg : Str → Option Value} (KX : K.In h) (g : h.Ns mainGlobals mg) {o : Obj} {es : Array DictEntry} {ep : Nat} (e : K.lookup mainGlobals = some o) (d : o.data = .dict es ep) (x : Str) : mg x = nsFind es x := by
  obtain ⟨o', es', ep', e', d', _, f⟩ := g
  rw [KX _ _ e] at e'; cases e'
  rw [d] at d'; cases d'
  exact (f x).symm
theorem fn_of {K : Frag} {h : Heap} (KX : K.In h) {a c : Addr} {name : Str} {i : Nat} {dV kV doc pm : Value} {an ct} {o oc : Obj} {vs : Array Value} {t : Tok} (e : K.lookup a = some o)
    (d : o.data = .func (fnOf name name (paramsOf i) (bodyOf i) (scopeOf i) dV kV doc pm an (.ref c) ct)) (e2 : K.lookup c = some oc) (d2 : oc.data = .fields vs) (q : vs[1]? = some (.str name t)) : FnAt h name i dV a :=
  ⟨o, kV, doc, pm, an, .ref c, ct, KX _ _ e, d, c, oc, vs, t, rfl, KX _ _ e2, d2, q⟩
theorem forall_used {P : Str → Prop} (h1 : P "iter") (h2 : P "next") (h3 : P "StopIteration") (h4 : P "TypeError") (h5 : P "list") (h6 : P "range") (h7 : P "len") (h8 : P "str") : ∀ x ∈ usedNames, P x := by
  intro x hx
  simp only [usedNames, List.mem_cons, List.not_mem_nil, or_false] at hx
  rcases hx with rfl | rfl | rfl | rfl | rfl | rfl | rfl | rfl <;> assumption
theorem forall_fns {P : Str × Nat → Prop} (h1 : P ("ISTERMINAL", 6)) (h2 : P ("ISNONTERMINAL", 7)) (h3 : P ("ISEOF", 8)) (h4 : P ("_law_row", 10)) (h5 : P ("_law_to_the_end", 11)) (h6 : P ("_law_step", 12)) (h7 : P ("_law_join", 13))
    (h8 : P ("_law_word", 14)) (h9 : P ("_law_begin", 15)) (h10 : P ("_law_tree", 16)) : ∀ p ∈ fnList, P p := by
  intro x hx
  simp only [fnList, List.mem_cons, List.not_mem_nil, or_false] at hx
  rcases hx with rfl | rfl | rfl | rfl | rfl | rfl | rfl | rfl | rfl | rfl <;> assumption

end RL

set_option maxRecDepth 100000 in
set_option maxHeartbeats 8000000 in
theorem PySem.Challenge.cw_mq0062_01_holds : PySem.Challenge.rw_mq0062_01.Holds := by
  w_on
  o_law
  k_head
  (case hw => w_witness2)
  k_fill
  intro w s₀ s₁ mg mb G Y fa o pm cd doc dV kV ho hd hcd hD hmg hg args vals as hpre hlay hrd hwl hlo
  have KX := kIn_of Y
  refine Ground.open G ?_
  intro T B D TE TW
  wrow_args hpre hlay hrd hwl hlo
  refine enter_call ?_
  rename IntsAre _ _ => hI
  rename Heap.IsList _ _ _ => hL
  rename (¬ _ < _) => hc
  have gx := fun x => RL.mg_of KX T.g rfl rfl x
  have W : RL.Wd mg mb s₁.heap :=
    { g := T.g, b := T.b, bi := T.builtins, nolim := T.nolimit
      free := RL.forall_used ((gx _).trans rfl) ((gx _).trans rfl) ((gx _).trans rfl) ((gx _).trans rfl) ((gx _).trans rfl) ((gx _).trans rfl) ((gx _).trans rfl) ((gx _).trans rfl)
      endm := ⟨_, (gx _).trans rfl⟩
      nto := ⟨_, (gx _).trans rfl⟩
      fns := RL.forall_fns ⟨_, (gx _).trans rfl, RL.fn_of KX rfl rfl rfl rfl rfl⟩ ⟨_, (gx _).trans rfl, RL.fn_of KX rfl rfl rfl rfl rfl⟩ ⟨_, (gx _).trans rfl, RL.fn_of KX rfl rfl rfl rfl rfl⟩ ⟨_, (gx _).trans rfl, RL.fn_of KX rfl rfl rfl rfl rfl⟩
        ⟨_, (gx _).trans rfl, RL.fn_of KX rfl rfl rfl rfl rfl⟩ ⟨_, (gx _).trans rfl, RL.fn_of KX rfl rfl rfl rfl rfl⟩ ⟨_, (gx _).trans rfl, RL.fn_of KX rfl rfl rfl rfl rfl⟩ ⟨_, (gx _).trans rfl, RL.fn_of KX rfl rfl rfl rfl rfl⟩
        ⟨_, (gx _).trans rfl, RL.fn_of KX rfl rfl rfl rfl rfl⟩ ⟨_, (gx _).trans rfl, RL.fn_of KX rfl rfl rfl rfl rfl⟩
      red := ⟨_, _, _, _, (gx _).trans rfl, RL.fn_of KX rfl rfl rfl rfl rfl, ⟨_, KX _ _ rfl, rfl, _, rfl⟩, (gx _).trans rfl, KX _ _ rfl, rfl⟩ }
  have hfa : ∃ k, mg "law" = some (.ref k) ∧ RL.FnAt s₁.heap "law" 17 .none k := ⟨_, (gx _).trans rfl, RL.fn_of KX rfl rfl rfl rfl rfl⟩
  obtain ⟨k, e1, e2⟩ := hfa
  have e3 := e1.symm.trans hmg
  cases e3
  refine RL.law_call W rfl (by decide) (by decide) rfl e2 ⟨_, hL, hI⟩ (by omega) (AllBare.of_eq hg) (fun h' tk G' kp hG => ?_)
  exact ⟨.inl ⟨.bool true, .bool true, [], rfl, fun _ => rfl, .bool true, (by with_unfolding_all rfl), fun _ => ⟨List.nodup_nil, fun _ h => nomatch h⟩⟩, .of_keep kp, rfl, hG⟩
