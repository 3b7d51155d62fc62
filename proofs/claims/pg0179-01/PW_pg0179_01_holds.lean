import PyProof.Rows.All
import Wide.All
import OpenK.AllK
import Wide.FinOn
import KE.KEqDict
import PySem.Challenge.RW_pg0179_01
set_option Elab.async false

section
open PySem PySem.W PyProof.Rows
set_option maxRecDepth 100000
set_option maxHeartbeats 0
namespace Mine
open_top hd for PySem.Challenge.rw_pg0179_01
end Mine
end

section
open PySem PySem.W PyProof.Rows
namespace Mine

/-- what stands in the heap and never changes again, and a bound below which the tokens lie that are told of -/
structure View where
  ob : Addr → Obj → Prop
  tk : Nat
structure VLe (g g' : View) : Prop where
  ob : ∀ b o, g.ob b o → g'.ob b o
  tk : g.tk ≤ g'.tk
def VOn (g : View) (h : Heap) : Prop := ∀ b o, g.ob b o → h.get? b = some o
theorem VLe.refl (g : View) : VLe g g := ⟨fun _ _ x => x, Nat.le_refl _⟩
theorem VLe.trans {a b c : View} (x : VLe a b) (y : VLe b c) : VLe a c := ⟨fun _ _ z => y.ob _ _ (x.ob _ _ z), Nat.le_trans x.tk y.tk⟩

/-- a word about a value, told in a view -/
structure VP where
  p : View → Value → Prop
  mono : ∀ {g g' : View} {v : Value}, VLe g g' → p g v → p g' v

/-- the world: the program, its globals, and what of its heap is written out -/
structure Gv where
  prog : Program
  w : World
  mg : Str → Option Value
  mb : Str → Option Value
  K : Frag
  /-- what more is known of the heap for a while -/
  X : List (Addr × Obj) := []
/-- what is true of the world's part of the heap all the way -/
structure Wd (G : Gv) (h : Heap) : Prop where
  nolimit : h.NoLimit
  sysm : ∃ o, h.get? sysModules = some o
  digits : ∃ mc, h.Ns cStatics mc ∧ mc "sys.int_max_str_digits" = none
  g : h.Ns mainGlobals G.mg
  b : h.Ns builtinsNs G.mb
  k : G.K.In h
  x : ∀ p ∈ G.X, h.get? p.1 = some p.2
section
variable {G : Gv}
theorem Wd.keeps {h h' : Heap} (x : Wd G h) (k : ∀ b o, h.get? b = some o → h'.get? b = some o) : Wd G h' :=
  ⟨x.nolimit.keeps k, let ⟨o, e⟩ := x.sysm; ⟨o, k _ _ e⟩, let ⟨mc, h1, h2⟩ := x.digits; ⟨mc, h1.keeps k, h2⟩, x.g.keeps k, x.b.keeps k, x.k.keeps k, fun p hp => k _ _ (x.x p hp)⟩

structure Bs (G : Gv) (g : View) (s : Shared) : Prop where
  on : VOn g s.heap
  wd : Wd G s.heap
  tk : g.tk ≤ s.toks
  pos : 0 < g.tk

theorem KeepsRefl (s : Shared) : Keeps s s := ⟨s.heap, s.toks, rfl, fun _ _ e => e⟩
theorem KeepsTrans {a b c : Shared} (x : Keeps a b) (y : Keeps b c) : Keeps a c := by
  obtain ⟨h1, t1, rfl, k1⟩ := x
  obtain ⟨h2, t2, rfl, k2⟩ := y
  exact ⟨h2, t2, rfl, fun b o e => k2 b o (k1 b o e)⟩
theorem KeepsHeap {a b : Shared} (x : Keeps a b) : ∀ c o, a.heap.get? c = some o → b.heap.get? c = some o := by
  obtain ⟨h1, t1, rfl, k1⟩ := x; exact k1
theorem keepsTok (s : Shared) (t : Tok) : Keeps s { s with toks := t } := ⟨s.heap, t, rfl, fun _ _ e => e⟩
theorem keepsPush (s : Shared) (o : Obj) (t : Tok) : Keeps s { s with heap := s.heap.push o, toks := t } :=
  ⟨_, t, rfl, fun _ _ e => Heap.get?_push_of_some _ e⟩
theorem noneOfKeeps {s s' : Shared} (k : Keeps s s') {b : Addr} (e : s'.heap.get? b = none) : s.heap.get? b = none := by
  cases q : s.heap.get? b with
  | none => rfl
  | some o => rw [KeepsHeap k b o q] at e; cases e

/-- a step that keeps all that stood: the view grows by new objects alone -/
structure Stp (G : Gv) (g : View) (s : Shared) (g' : View) (s' : Shared) : Prop where
  keeps : Keeps s s'
  toks : s.toks ≤ s'.toks
  le : VLe g g'
  bs : Bs G g' s'
  new : ∀ b o, g'.ob b o → g.ob b o ∨ s.heap.get? b = none
theorem Stp.refl {g : View} {s : Shared} (B : Bs G g s) : Stp G g s g s := ⟨KeepsRefl s, Nat.le_refl _, VLe.refl g, B, fun _ _ h => .inl h⟩
theorem Stp.same {g : View} {s s' : Shared} (B : Bs G g s) (k : Keeps s s') (t : s.toks ≤ s'.toks) : Stp G g s g s' :=
  ⟨k, t, VLe.refl g, ⟨fun b o h => KeepsHeap k b o (B.on b o h), B.wd.keeps (KeepsHeap k), Nat.le_trans B.tk t, B.pos⟩, fun _ _ h => .inl h⟩
theorem Stp.trans {g g1 g2 : View} {s s1 s2 : Shared} (a : Stp G g s g1 s1) (b : Stp G g1 s1 g2 s2) : Stp G g s g2 s2 :=
  ⟨KeepsTrans a.keeps b.keeps, Nat.le_trans a.toks b.toks, a.le.trans b.le, b.bs, fun c o h => (b.new c o h).elim (fun x => a.new c o x) fun x => .inr (noneOfKeeps a.keeps x)⟩

def Out (G : Gv) (g : View) (s : Shared) (P : VP) (v : Value) (s' : Shared) : Prop := ∃ g', Stp G g s g' s' ∧ P.p g' v
/-- the same with no word of the tokens' growth (it goes by itself) -/
def Raw (g : View) (s : Shared) (P : VP) (v : Value) (s' : Shared) : Prop :=
  ∃ g', Keeps s s' ∧ VLe g g' ∧ VOn g' s'.heap ∧ (∀ b o, g'.ob b o → g.ob b o ∨ s.heap.get? b = none) ∧ (g'.tk ≤ g.tk ∨ g'.tk ≤ s'.toks) ∧ P.p g' v
theorem Raw.out {g : View} {s : Shared} {P : VP} {v : Value} {s' : Shared} (B : Bs G g s) (r : Raw g s P v s') (t : s.toks ≤ s'.toks) : Out G g s P v s' := by
  obtain ⟨g', k, le, on, new, tk, p⟩ := r
  exact ⟨g', ⟨k, t, le, ⟨on, B.wd.keeps (KeepsHeap k), tk.elim (fun x => Nat.le_trans x (Nat.le_trans B.tk t)) id, Nat.lt_of_lt_of_le B.pos le.tk⟩, new⟩, p⟩
theorem raw {M : Model} {A : Around} {t : Sem Value} {E : Value → Shared → Prop} {g : View} {s : Shared} {P : VP} (B : Bs G g s) (h : wpAny M A t (Raw g s P) E s) : wpAny M A t (Out G g s P) E s :=
  wpAny_with_toks (Nat.le_refl s.toks) (wpAny_mono h (fun _ _ r t => r.out B t) fun _ _ x _ => x)
theorem Raw.same {g : View} {s : Shared} {P : VP} {v : Value} {s' : Shared} (B : Bs G g s) (k : Keeps s s') (p : P.p g v) : Raw g s P v s' :=
  ⟨g, k, VLe.refl g, fun b o h => KeepsHeap k b o (B.on b o h), fun _ _ h => .inl h, .inl (Nat.le_refl _), p⟩
theorem Raw.tok {g : View} {s : Shared} {P : VP} {v : Value} {t : Tok} (B : Bs G g s) (p : P.p g v) : Raw g s P v { s with toks := t } := .same B (keepsTok s t) p
theorem Raw.here {g : View} {s : Shared} {P : VP} {v : Value} (B : Bs G g s) (p : P.p g v) : Raw g s P v s := .same B (KeepsRefl s) p
/-- one new object, frozen as it is made -/
def VAdd (g : View) (a : Addr) (o : Obj) : View := ⟨fun b x => g.ob b x ∨ (b = a ∧ x = o), g.tk⟩
theorem VAdd.here (g : View) (a : Addr) (o : Obj) : (VAdd g a o).ob a o := .inr ⟨rfl, rfl⟩
theorem VAdd.le (g : View) (a : Addr) (o : Obj) : VLe g (VAdd g a o) := ⟨fun _ _ h => .inl h, Nat.le_refl _⟩
theorem fresh_none (h : Heap) : h.get? h.objs.size = none := by
  cases e : h.get? h.objs.size with
  | none => rfl
  | some o => exact absurd (Heap.lt_size e) (Nat.lt_irrefl _)
theorem Raw.add {g : View} {s : Shared} {P : VP} {v : Value} {s' : Shared} {a : Addr} {o : Obj} (B : Bs G g s) (k : Keeps s s') (hn : s.heap.get? a = none) (ho : s'.heap.get? a = some o)
    (p : P.p (VAdd g a o) v) : Raw g s P v s' :=
  ⟨VAdd g a o, k, VAdd.le g a o, fun b x h => h.elim (fun y => KeepsHeap k b x (B.on b x y)) fun y => by rw [y.1, y.2]; exact ho, fun b x h => h.imp id fun y => by rw [y.1]; exact hn, .inl (Nat.le_refl _), p⟩
theorem Raw.push {g : View} {s : Shared} {P : VP} {v : Value} {o : Obj} {t : Tok} (B : Bs G g s) (hf : o.isFreed = false) (p : P.p (VAdd g s.heap.objs.size o) v) :
    Raw g s P v { s with heap := s.heap.push o, toks := t } := .add B (keepsPush s o t) (fresh_none _) (Heap.get?_push_size _ hf) p

end
/-- how a name reads in a frame -/
inductive RD (env : Env) (h : Heap) (x : Str) (v : Value) : Prop
  | loc (hk : env.kindOf x = some .local) (m : Str → Option Value) (hn : h.Ns env.locals m) (hm : m x = some v)
  | cell (hk : env.kindOf x = some .cell) (c : Addr) (hc : env.cells.lookup x = some c) (hv : h.IsCell c (some v))
  | glob (hk : env.kindOf x = some .globalImplicit) (m : Str → Option Value) (hn : h.Ns env.globals m) (hm : m x = some v)
  | blt (hk : env.kindOf x = some .globalImplicit) (m : Str → Option Value) (hn : h.Ns env.globals m) (hm : m x = none)
      (mb : Str → Option Value) (hb : h.Ns env.builtins mb) (hv : mb x = some v)
theorem RD.keeps {env : Env} {h h' : Heap} {x : Str} {v : Value} (r : RD env h x v) (k : ∀ b o, h.get? b = some o → h'.get? b = some o) : RD env h' x v := by
  cases r with
  | loc hk m hn hm => exact .loc hk m (hn.keeps k) hm
  | cell hk c hc hv => exact .cell hk c hc (hv.keeps k)
  | glob hk m hn hm => exact .glob hk m (hn.keeps k) hm
  | blt hk m hn hm mb hb hv => exact .blt hk m (hn.keeps k) hm mb (hb.keeps k) hv
theorem RD.load {M : Model} {A : Around} {E : Value → Shared → Prop} {s : Shared} {env : Env} {x : Str} {v : Value} {Q : Value → Shared → Prop} (hf : env.scope.kind = .function)
    (r : RD env s.heap x v) (h : Q v s) : wpAny M A (loadName env x) Q E s := by
  have gl : env.kindOf x = some .globalImplicit → wpAny M A (loadGlobal env x) Q E s → wpAny M A (loadName env x) Q E s := fun hk h => by
    unfold loadName
    simp only [Env.blockKind, hf, hk, ScopeKind.isAnnotationScope, Bool.false_and, Bool.false_eq_true, if_false]
    exact h
  cases r with
  | loc hk m hn hm => exact wpAny_loadName_local hf hk hn hm h
  | cell hk c hc hv => exact wpAny_loadName_cell hf hk hc hv h
  | glob hk m hn hm => exact gl hk (Calls.loadGlobal_global hn hm h)
  | blt hk m hn hm mb hb hv => exact gl hk (Calls.loadGlobal_builtin hn hm hb hv h)

abbrev Asg := List (Str × VP)
section
variable {G : Gv}
structure Ev (G : Gv) (env : Env) (g : View) (s : Shared) (σ : Asg) : Prop where
  fn : env.scope.kind = .function
  bs : Bs G g s
  var : ∀ x P, (x, P) ∈ σ → ∃ v, RD env s.heap x v ∧ P.p g v
theorem Ev.grow {env : Env} {g g' : View} {s s' : Shared} {σ : Asg} (e : Ev G env g s σ) (w : Stp G g s g' s') : Ev G env g' s' σ :=
  ⟨e.fn, w.bs, fun x P h => let ⟨v, r, p⟩ := e.var x P h; ⟨v, r.keeps (KeepsHeap w.keeps), P.mono w.le p⟩⟩
theorem Ev.sub {env : Env} {g : View} {s : Shared} {σ τ : Asg} (e : Ev G env g s σ) (h : ∀ p ∈ τ, p ∈ σ) : Ev G env g s τ := ⟨e.fn, e.bs, fun x P q => e.var x P (h _ q)⟩

end
structure Rm (n : Nat) (A : Around) : Prop where
  h : A.handled = none
  d : A.depth + n < recursionLimit
  u : A.units + 10 * n < cLine
theorem Rm.deeper {n : Nat} {A : Around} (r : Rm (n + 1) A) (env : Env) : Rm n (A.deeper env) := ⟨r.h, by show A.depth + 1 + n < _; have := r.d; omega, by show A.units + 3 + 10 * n < _; have := r.u; omega⟩
theorem Rm.in1 {n : Nat} {A : Around} (r : Rm (n + 1) A) : Rm n A.in1 := ⟨r.h, by show A.depth + n < _; have := r.d; omega, by show A.units + 1 + 10 * n < _; have := r.u; omega⟩
theorem Rm.less {n k : Nat} {A : Around} (r : Rm n A) (h : k ≤ n) : Rm k A := ⟨r.h, by have := r.d; omega, by have := r.u; omega⟩

section
variable (G : Gv) (A : Around)

/-- an expression gives a value of which P holds -/
def EX (env : Env) (σ : Asg) (e : Expr) (P : VP) : Prop :=
  ∀ (g : View) (s : Shared) (E : Value → Shared → Prop), Ev G env g s σ → wpAny (model G.prog G.w) A (eval e env) (Out G g s P) E s
def TX (env : Env) (σ : Asg) (e : Expr) (b : Bool) : Prop :=
  ∀ (g : View) (s : Shared) (E : Value → Shared → Prop), Ev G env g s σ → wpAny (model G.prog G.w) A (isTrue e env (eval e env)) (fun c s' => c = b ∧ ∃ g', Stp G g s g' s') E s
def Op1 (f : Value → Sem Value) (P R : VP) : Prop :=
  ∀ (g : View) (s : Shared) (E : Value → Shared → Prop) (a : Value), Bs G g s → P.p g a → wpAny (model G.prog G.w) A (f a) (Out G g s R) E s
def Op2 (f : Value → Value → Sem Value) (P Q R : VP) : Prop :=
  ∀ (g : View) (s : Shared) (E : Value → Shared → Prop) (a b : Value), Bs G g s → P.p g a → Q.p g b → wpAny (model G.prog G.w) A (f a b) (Out G g s R) E s

variable {G A}
variable {env : Env} {σ : Asg} {P Q R : VP}

theorem Out.go {g g1 : View} {s s1 : Shared} {v : Value} {s2 : Shared} (J : Stp G g s g1 s1) (h : Out G g1 s1 P v s2) : Out G g s P v s2 :=
  let ⟨g2, G2, p⟩ := h; ⟨g2, J.trans G2, p⟩
theorem Out.here {g : View} {s : Shared} {v : Value} (B : Bs G g s) (p : P.p g v) : Out G g s P v s := ⟨g, .refl B, p⟩
theorem Out.tok {g : View} {s : Shared} {v : Value} (B : Bs G g s) (p : P.p g v) : Out G g s P v { s with toks := s.toks + 1 } := ⟨g, .same B (keepsTok s _) (Nat.le_succ _), p⟩
theorem Out.imp {g : View} {s s' : Shared} {v : Value} (h : Out G g s P v s') (f : ∀ g v, P.p g v → Q.p g v) : Out G g s Q v s' :=
  let ⟨g', G, p⟩ := h; ⟨g', G, f _ _ p⟩
theorem EX.imp {e : Expr} (h : EX G A env σ e P) (f : ∀ g v, P.p g v → Q.p g v) : EX G A env σ e Q := fun g s E ev => wpAny_mono (h g s E ev) (fun _ _ o => o.imp f) fun _ _ x => x
theorem EX.sub {τ : Asg} {e : Expr} (h : EX G A env τ e P) (f : ∀ p ∈ τ, p ∈ σ) : EX G A env σ e P := fun g s E ev => h g s E (ev.sub f)

/-- chain: an expression, then what is done with its value -/
theorem EX.then {e : Expr} {Z : Value → Shared → Prop} {E : Value → Shared → Prop} {g : View} {s : Shared} (h : EX G A env σ e P) (ev : Ev G env g s σ)
    (k : ∀ v g1 s1, Stp G g s g1 s1 → Ev G env g1 s1 σ → P.p g1 v → Z v s1) : wpAny (model G.prog G.w) A (eval e env) Z E s :=
  wpAny_mono (h g s E ev) (fun v s1 ⟨g1, G, p⟩ => k v g1 s1 G (ev.grow G) p) fun _ _ x => x
theorem Op1.then {f : Value → Sem Value} {Z : Value → Shared → Prop} {E : Value → Shared → Prop} {g : View} {s : Shared} {a : Value} (h : Op1 G A f P R) (B : Bs G g s) (p : P.p g a)
    (k : ∀ v g1 s1, Stp G g s g1 s1 → R.p g1 v → Z v s1) : wpAny (model G.prog G.w) A (f a) Z E s :=
  wpAny_mono (h g s E a B p) (fun v s1 ⟨g1, G, p⟩ => k v g1 s1 G p) fun _ _ x => x
theorem Op2.then {f : Value → Value → Sem Value} {Z : Value → Shared → Prop} {E : Value → Shared → Prop} {g : View} {s : Shared} {a b : Value} (h : Op2 G A f P Q R) (B : Bs G g s) (p : P.p g a) (q : Q.p g b)
    (k : ∀ v g1 s1, Stp G g s g1 s1 → R.p g1 v → Z v s1) : wpAny (model G.prog G.w) A (f a b) Z E s :=
  wpAny_mono (h g s E a b B p q) (fun v s1 ⟨g1, G, p⟩ => k v g1 s1 G p) fun _ _ x => x

theorem EX_name {x : Str} {pos : Pos} (hx : (x, P) ∈ σ) (hd : (x == ("__debug__" : Str)) = false := by decide) : EX G A env σ (.Name x pos) P := fun g s E ev => by
  obtain ⟨v, r, p⟩ := ev.var x P hx
  exact wpAny_Name (r.load ev.fn (.here ev.bs p)) hd

def vInt (i : Int) : VP := ⟨fun _ v => ∃ t, v = .int i t, fun _ h => h⟩
def vStr (x : Str) : VP := ⟨fun _ v => ∃ t, v = .str x t, fun _ h => h⟩
/-- a str whose token is known to be an older one -/
def vStrT (x : Str) : VP := ⟨fun g v => ∃ t, v = .str x t ∧ 0 < t ∧ t < g.tk, fun l ⟨t, e, a, b⟩ => ⟨t, e, a, Nat.lt_of_lt_of_le b l.tk⟩⟩
def vBool (b : Bool) : VP := ⟨fun _ v => v = .bool b, fun _ h => h⟩
def vNone : VP := ⟨fun _ v => v = .none, fun _ h => h⟩
def vIs (u : Value) : VP := ⟨fun _ v => v = u, fun _ h => h⟩
theorem vStr_of_T {x : Str} (g : View) (v : Value) (h : (vStrT x).p g v) : (vStr x).p g v := let ⟨t, e, _⟩ := h; ⟨t, e⟩

theorem EX_int {i : Int} {k : Nat} {pos : Pos} : EX G A env σ (.Constant (.int i) k pos) (vInt i) := fun _ _ _ ev => wpAny_Constant_int (.tok ev.bs ⟨_, rfl⟩)
theorem EX_str {x : Str} {k : Nat} {pos : Pos} : EX G A env σ (.Constant (.str x) k pos) (vStr x) := fun _ _ _ ev => Calls.Constant_str (.tok ev.bs ⟨_, rfl⟩)
theorem EX_bool {b : Bool} {k : Nat} {pos : Pos} : EX G A env σ (.Constant (.bool b) k pos) (vBool b) := fun _ _ _ ev => fun _ _ _ => Out.here ev.bs rfl
/-- a new str of the latest token -/
theorem Out.strT {g : View} {s : Shared} {x : Str} (B : Bs G g s) : Out G g s (vStrT x) (.str x s.toks) { s with toks := s.toks + 1 } :=
  ⟨⟨g.ob, s.toks + 1⟩, ⟨keepsTok s _, Nat.le_succ _, ⟨fun _ _ h => h, Nat.le_succ_of_le B.tk⟩, ⟨B.on, B.wd, Nat.le_refl _, Nat.succ_pos _⟩, fun _ _ h => .inl h⟩,
    s.toks, rfl, Nat.lt_of_lt_of_le B.pos B.tk, Nat.lt_succ_self _⟩
theorem EX_strT {x : Str} {k : Nat} {pos : Pos} : EX G A env σ (.Constant (.str x) k pos) (vStrT x) := fun _ _ _ ev => Calls.Constant_str (.strT ev.bs)

theorem EX_bin {op : Operator} {l r : Expr} {pos : Pos} (hl : EX G A env σ l P) (hr : EX G A env σ r Q) (ho : Op2 G A (binaryOp op) P Q R) :
    EX G A env σ (.BinOp l op r pos) R := fun _ _ _ ev => wpAny_BinOp (hl.then ev fun _ _ _ G1 e1 p => hr.then e1 fun _ _ _ G2 e2 q =>
      ho.then e2.bs (P.mono G2.le p) q fun _ g3 _ G3 r => ⟨g3, G1.trans (G2.trans G3), r⟩)
theorem EX_un {op : UnaryOp} {l : Expr} {pos : Pos} (hl : EX G A env σ l P) (ho : Op1 G A (unaryOp op) P R) : EX G A env σ (.UnaryOp op l pos) R := fun _ _ _ ev => by
  rw [arm_eval_UnaryOp]
  exact wpAny_bind (hl.then ev fun _ _ _ G1 e1 p => wpAny_bind (wpAny_standAt (wpAny_holding (ho.then e1.bs p fun _ g2 _ G2 r => ⟨g2, G1.trans G2, r⟩))))
theorem EX_cmp {op : CmpOp} {l r : Expr} {pos : Pos} (hl : EX G A env σ l P) (hr : EX G A env σ r Q) (ho : Op2 G A (compareOp op) P Q R) (hm : behindInMarks op r = false := by rfl) :
    EX G A env σ (.Compare l [op] [r] pos) R := fun _ _ _ ev => wpAny_Compare1 (hl.then ev fun _ _ _ G1 e1 p => hr.then e1 fun _ _ _ G2 e2 q =>
      ho.then e2.bs (P.mono G2.le p) q fun _ g3 _ G3 r => ⟨g3, G1.trans (G2.trans G3), r⟩) hm
theorem TX_cmp {op : CmpOp} {l r : Expr} {pos : Pos} {b : Bool} (hl : EX G A env σ l P) (hr : EX G A env σ r Q) (ho : Op2 G A (compareOp op) P Q (vBool b)) (hm : behindInMarks op r = false := by rfl) :
    TX G A env σ (.Compare l [op] [r] pos) b := fun _ _ _ ev => wpAny_isTrue_Compare1 (hl.then ev fun _ _ _ G1 e1 p => hr.then e1 fun _ _ _ G2 e2 q =>
      ho.then e2.bs (P.mono G2.le p) q fun v g3 _ G3 r => by
        obtain rfl : v = .bool b := r
        exact wpAny_truthy_bool ⟨rfl, g3, G1.trans (G2.trans G3)⟩) hm
theorem TX.then {e : Expr} {b : Bool} {Z : Bool → Shared → Prop} {E : Value → Shared → Prop} {g : View} {s : Shared} (h : TX G A env σ e b) (ev : Ev G env g s σ)
    (k : ∀ g1 s1, Stp G g s g1 s1 → Ev G env g1 s1 σ → Z b s1) : wpAny (model G.prog G.w) A (isTrue e env (eval e env)) Z E s :=
  wpAny_mono (h g s E ev) (fun c s1 ⟨hc, g1, G⟩ => by subst hc; exact k g1 s1 G (ev.grow G)) fun _ _ x => x
theorem EX_ifexp_true {t a b : Expr} {pos : Pos} (ht : TX G A env σ t true) (h : EX G A env σ a P) : EX G A env σ (.IfExp t a b pos) P := fun _ _ _ ev => by
  rw [arm_eval_IfExp]
  exact wpAny_bind (ht.then ev fun _ _ G1 e1 => h.then e1 fun _ g2 _ G2 _ p => ⟨g2, G1.trans G2, p⟩)
theorem EX_ifexp_false {t a b : Expr} {pos : Pos} (ht : TX G A env σ t false) (h : EX G A env σ b P) : EX G A env σ (.IfExp t a b pos) P := fun _ _ _ ev => by
  rw [arm_eval_IfExp]
  exact wpAny_bind (ht.then ev fun _ _ G1 e1 => h.then e1 fun _ g2 _ G2 _ p => ⟨g2, G1.trans G2, p⟩)
theorem EX_ifexp {t a b : Expr} {pos : Pos} {c : Bool} (ht : TX G A env σ t c) (h : EX G A env σ a P) (h' : EX G A env σ b Q) : EX G A env σ (.IfExp t a b pos) (if c then P else Q) := by
  cases c with
  | true => exact EX_ifexp_true ht h
  | false => exact EX_ifexp_false ht h'
/-- a name (or any plain expression) as a test -/
theorem TX_of {e : Expr} {b : Bool} (h : EX G A env σ e (vBool b)) (hs : isTrue e env (eval e env) = (do let v ← eval e env; standAt e.pos; holding [v] (truthy v)) := by rfl) : TX G A env σ e b := fun _ _ _ ev => by
  rw [hs]
  refine wpAny_bind (h.then ev fun v g1 _ G1 _ p => ?_)
  obtain rfl : v = .bool b := p
  exact wpAny_bind (wpAny_standAt (wpAny_holding (wpAny_truthy_bool ⟨rfl, g1, G1⟩)))
end
end Mine

end

section
open PySem PySem.W PyProof.Rows
set_option linter.unusedVariables false
namespace Mine
section
variable {G : Gv} {A : Around} {env : Env} {σ : Asg} {P Q R : VP} {α β : Type}

theorem PairedImp {α β : Type} {F G : α → β → Prop} (f : ∀ a b, F a b → G a b) : ∀ {l₁ : List α} {l₂ : List β}, Paired F l₁ l₂ → Paired G l₁ l₂
  | _, _, .nil => .nil
  | _, _, .cons h t => .cons (f _ _ h) (PairedImp f t)
theorem PairedAppend {α β : Type} {F : α → β → Prop} : ∀ {l₁ : List α} {l₂ : List β} {m₁ : List α} {m₂ : List β}, Paired F l₁ l₂ → Paired F m₁ m₂ → Paired F (l₁ ++ m₁) (l₂ ++ m₂)
  | _, _, _, _, .nil, h => h
  | _, _, _, _, .cons h t, k => .cons h (PairedAppend t k)
theorem PairedAt {α β : Type} {F : α → β → Prop} : ∀ {l₁ : List α} {l₂ : List β}, Paired F l₁ l₂ → ∀ {n : Nat} {y : β}, l₂[n]? = some y → ∃ x, l₁[n]? = some x ∧ F x y
  | _, _, .nil, n, y, e => by simp at e
  | _, _, .cons h t, 0, y, e => by simp at e; subst e; exact ⟨_, by simp, h⟩
  | _, _, .cons h t, n + 1, y, e => by simp at e; obtain ⟨x, hx, hf⟩ := PairedAt t e; exact ⟨x, by simpa using hx, hf⟩
theorem PairedAt' {α β : Type} {F : α → β → Prop} : ∀ {l₁ : List α} {l₂ : List β}, Paired F l₁ l₂ → ∀ {n : Nat} {x : α}, l₁[n]? = some x → ∃ y, l₂[n]? = some y ∧ F x y
  | _, _, .nil, n, y, e => by simp at e
  | _, _, .cons h t, 0, y, e => by simp at e; subst e; exact ⟨_, by simp, h⟩
  | _, _, .cons h t, n + 1, y, e => by simp at e; obtain ⟨x, hx, hf⟩ := PairedAt' t e; exact ⟨x, by simpa using hx, hf⟩

def listObj (vs : List Value) (n : Nat) : Obj := { cls := .type "list", data := .seq vs.toArray n }
def tupObj (vs : List Value) (n : Nat) : Obj := { cls := .type "tuple", data := .seq vs.toArray n }
/-- a list that never changes again -/
def vList (R : α → VP) (xs : List α) : VP :=
  ⟨fun g v => ∃ a vs n, v = .ref a ∧ g.ob a (listObj vs n) ∧ Paired (fun v x => (R x).p g v) vs xs,
   fun l ⟨a, vs, n, e, h, p⟩ => ⟨a, vs, n, e, l.ob _ _ h, PairedImp (fun _ _ q => (R _).mono l q) p⟩⟩
/-- a tuple whose items have each a word of its own -/
def vTup (Ps : List VP) : VP :=
  ⟨fun g v => ∃ a vs n, v = .ref a ∧ g.ob a (tupObj vs n) ∧ Paired (fun v (x : VP) => x.p g v) vs Ps,
   fun l ⟨a, vs, n, e, h, p⟩ => ⟨a, vs, n, e, l.ob _ _ h, PairedImp (fun _ x q => x.mono l q) p⟩⟩

theorem listObj_isList {g : View} {s : Shared} {a : Addr} {vs : List Value} {n : Nat} (B : Bs G g s) (h : g.ob a (listObj vs n)) : s.heap.IsList a vs.toArray := ⟨_, B.on _ _ h, rfl, n, rfl⟩
theorem tupObj_isTup {g : View} {s : Shared} {a : Addr} {vs : List Value} {n : Nat} (B : Bs G g s) (h : g.ob a (tupObj vs n)) : IsTup s.heap a vs.toArray := ⟨_, B.on _ _ h, rfl, n, rfl⟩

-- ints
theorem op_add {a b : Int} : Op2 G A (binaryOp .Add) (vInt a) (vInt b) (vInt (a + b)) := by
  rintro g s E _ _ B ⟨t, rfl⟩ ⟨u, rfl⟩; exact raw B (add_int (.tok B ⟨_, rfl⟩))
theorem op_sub {a b : Int} : Op2 G A (binaryOp .Sub) (vInt a) (vInt b) (vInt (a - b)) := by
  rintro g s E _ _ B ⟨t, rfl⟩ ⟨u, rfl⟩; exact raw B (sub_int' (.tok B ⟨_, rfl⟩))
theorem op_mul {a b : Int} (ha : a.natAbs < 2 ^ 64) : Op2 G A (binaryOp .Mult) (vInt a) (vInt b) (vInt (a * b)) := by
  rintro g s E _ _ B ⟨t, rfl⟩ ⟨u, rfl⟩
  exact raw B (PyProof.Rows.mul_int (.tok B ⟨_, rfl⟩) (IntMulOk.of_left (intBits_le_64 (by omega) (by omega))))
theorem op_fdiv {a b : Int} (hb : b ≠ 0) (hs : b.natAbs < 1073741824) : Op2 G A (binaryOp .FloorDiv) (vInt a) (vInt b) (vInt (a.fdiv b)) := by
  rintro g s E _ _ B ⟨t, rfl⟩ ⟨u, rfl⟩; exact raw B (floordiv_int hb (.tok B ⟨_, rfl⟩) (.inl (PyProof.noPylong_small hs)))
theorem op_mod {a b : Int} (hb : b ≠ 0) : Op2 G A (binaryOp .Mod) (vInt a) (vInt b) (vInt (a.fmod b)) := by
  rintro g s E _ _ B ⟨t, rfl⟩ ⟨u, rfl⟩; exact raw B (mod_int' hb (.tok B ⟨_, rfl⟩))
theorem op_pow {a n : Int} (hn : 0 ≤ n) (ha : a.natAbs < 2 ^ 64) (hk : n ≤ 1000000) : Op2 G A (binaryOp .Pow) (vInt a) (vInt n) (vInt (a ^ n.toNat)) := by
  rintro g s E _ _ B ⟨t, rfl⟩ ⟨u, rfl⟩
  have h := intBits_le_64 (k := a) (by omega) (by omega)
  have : (Builtin.Int.intBits a : Int) * n ≤ 64 * 1000000 := Int.mul_le_mul (by omega) hk hn (by omega)
  exact raw B (pow_int hn (by omega) (.tok B ⟨_, rfl⟩))
theorem op_neg {a : Int} : Op1 G A (unaryOp .USub) (vInt a) (vInt (-a)) := by
  rintro g s E _ B ⟨t, rfl⟩; exact raw B (neg_int (.tok B ⟨_, rfl⟩))
theorem op_eq {a b : Int} : Op2 G A (compareOp .Eq) (vInt a) (vInt b) (vBool (a == b)) := by
  rintro g s E _ _ B ⟨t, rfl⟩ ⟨u, rfl⟩; exact PyProof.Rows.eq_int (.here B rfl)
theorem op_ge {a b : Int} : Op2 G A (compareOp .GtE) (vInt a) (vInt b) (vBool (decide (b ≤ a))) := by
  rintro g s E _ _ B ⟨t, rfl⟩ ⟨u, rfl⟩; exact PyProof.Rows.ge_int (.here B rfl)
theorem op_le {a b : Int} : Op2 G A (compareOp .LtE) (vInt a) (vInt b) (vBool (decide (a ≤ b))) := by
  rintro g s E _ _ B ⟨t, rfl⟩ ⟨u, rfl⟩; exact PyProof.Rows.le_int (.here B rfl)
-- strs
theorem op_eqS {a b : Str} : Op2 G A (compareOp .Eq) (vStr a) (vStr b) (vBool (a == b)) := by
  rintro g s E _ _ B ⟨t, rfl⟩ ⟨u, rfl⟩; exact PyProof.Rows.eq_str (.here B rfl)
theorem op_cat {a b : Str} (h : a.length + b.length ≤ sizeLine) : Op2 G A (binaryOp .Add) (vStr a) (vStr b) (vStr (a ++ b)) := by
  rintro g s E _ _ B ⟨t, rfl⟩ ⟨u, rfl⟩; exact raw B (PyProof.Rows.add_str (fun t' k => .tok B ⟨_, rfl⟩) h)
theorem op_rep {a : Str} {n : Int} (ha : a.length ≤ 1000) (hn : n ≤ 1000) (h0 : 0 ≤ n) : Op2 G A (binaryOp .Mult) (vStr a) (vInt n) (vStr (Txt.mul a n)) := by
  rintro g s E _ _ B ⟨t, rfl⟩ ⟨u, rfl⟩
  exact raw B (SB.mul (mulOk_of 1000 1000 ha hn (by omega) (by decide) (by decide)) fun t' k => .tok B ⟨_, rfl⟩)
-- lists
theorem PairedLen {α β : Type} {F : α → β → Prop} {l₁ : List α} {l₂ : List β} (h : Paired F l₁ l₂) : l₁.length = l₂.length := h.length
theorem op_catL {R : α → VP} {xs ys : List α} (h : xs.length + ys.length ≤ sizeLine) : Op2 G A (binaryOp .Add) (vList R xs) (vList R ys) (vList R (xs ++ ys)) := by
  rintro g s E _ _ B ⟨l, vs, n, rfl, hl, pa⟩ ⟨l2, vs2, n2, rfl, hl2, pb⟩
  have ho := B.on _ _ hl
  have ho2 := B.on _ _ hl2
  have hsz : vs.toArray.size + vs2.toArray.size ≤ sizeLine := by
    rw [List.size_toArray, List.size_toArray, pa.length, pb.length]; exact h
  refine raw B (concat_meets ⟨_, ho, rfl⟩ ⟨_, ho2, rfl⟩ noFill_list_add seq_list_add PySem.F.slot_list_add PySem.F.entry_list_add (PySem.F.args_list_add_2 _ _)
    (list_addW l l2 vs.toArray vs2.toArray n n2 none none #[] #[] hsz) ⟨ho, ho2, ?_⟩)
  refine Raw.push B rfl ⟨_, vs ++ vs2, 0, rfl, ?_, PairedImp (fun _ _ q => (R _).mono (VAdd.le g _ _) q) (PairedAppend pa pb)⟩
  have e : listObj (vs ++ vs2) 0 = { cls := .type "list", data := .seq (vs.toArray ++ vs2.toArray) } := by simp [listObj]
  rw [e]
  exact VAdd.here g _ _
theorem foldl_flat (items : Array Value) : ∀ (n : Nat) (acc : Array Value), (List.foldl (fun x1 x2 => x1 ++ x2) acc (List.replicate n items)).toList = acc.toList ++ (List.replicate n items.toList).flatten
  | 0, acc => by simp
  | n + 1, acc => by simp only [List.replicate_succ, List.foldl_cons, List.flatten_cons]; rw [foldl_flat items n]; simp [List.append_assoc]
theorem PairedFlat {F : Value → α → Prop} {vs : List Value} {xs : List α} (h : Paired F vs xs) : ∀ n : Nat, Paired F (List.replicate n vs).flatten (List.replicate n xs).flatten
  | 0 => by simpa using Paired.nil
  | n + 1 => by simp only [List.replicate_succ, List.flatten_cons]; exact PairedAppend h (PairedFlat h n)
theorem op_repL {R : α → VP} {xs : List α} {n : Int} (hl : -(2 ^ 63 : Int) ≤ n) (hh : n < 2 ^ 63) (hz : xs.length * n.toNat ≤ 2 ^ 24) (hne : xs ≠ []) :
    Op2 G A (binaryOp .Mult) (vList R xs) (vInt n) (vList R (List.replicate n.toNat xs).flatten) := by
  rintro g s E _ _ B ⟨l, vs, k, rfl, hl', pa⟩ ⟨u, rfl⟩
  have ho := B.on _ _ hl'
  have e0 : vs.toArray.isEmpty = false := by
    cases pa with
    | nil => exact absurd rfl hne
    | cons _ _ => rfl
  have hsz : vs.toArray.size * n.toNat ≤ 2 ^ 24 := by rw [List.size_toArray, pa.length]; exact hz
  refine raw B (wpAny_binaryOp_repeat_ref (T := "list") (U := "int") (by decide) ⟨_, ho, rfl⟩ (fun s' => typeIs_int s' n u) noFill_list_mul F.fills_int_mul F.slot_int_rmul repeat_list F.slot_int_index.lookup
    (call_meets F.slot_int_rmul (typeIs_int s n u) F.entry_int_rmul (F.args_int_rmul_2 _ _) (int___rmul___int_list n u l vs.toArray k)
      ⟨ho, rfl, ⟨_, ho, rfl⟩, call_meets F.slot_list_mul ⟨_, ho, rfl⟩ F.entry_list_mul (F.args_list_mul_2 _ _)
        (AutoListH.list___mul___list_int_3 l vs.toArray k n u (by simp [Builtin.List.listFitsIndex]; omega) (by omega) (by simp [Builtin.List.listTooLong, sizeLine] at hsz ⊢; omega))
        ⟨ho, ?_⟩⟩))
  refine Raw.push B rfl ⟨_, (List.replicate n.toNat vs).flatten, 0, rfl, ?_, PairedImp (fun _ _ q => (R _).mono (VAdd.le g _ _) q) (PairedFlat pa _)⟩
  have e : listObj (List.replicate n.toNat vs).flatten 0 = { cls := .type "list", data := .seq (List.foldl (fun x1 x2 => x1 ++ x2) #[] (List.replicate (if vs.toArray.isEmpty = true then 0 else n.toNat) vs.toArray)) } := by
    have q : (List.replicate n.toNat vs).flatten.toArray = List.foldl (fun x1 x2 => x1 ++ x2) #[] (List.replicate n.toNat vs.toArray) := by
      apply Array.ext'
      rw [foldl_flat]; simp
    rw [e0]
    simp only [Bool.false_eq_true, if_false, listObj, q]
  rw [e]
  exact VAdd.here g _ _
end
end Mine

end

section
open PySem PySem.W PyProof.Rows
set_option linter.unusedVariables false
namespace Mine
section
variable {G : Gv} {A : Around} {env : Env} {σ : Asg} {P Q R : VP} {α β : Type}

variable (G A env σ) in
/-- the arguments of a call, or the items of a display -/
def AX (es : List Expr) (Ps : List VP) : Prop :=
  ∀ (pos : Pos) (g : View) (s : Shared) (E : Value → Shared → Prop), Ev G env g s σ →
    wpAny (model G.prog G.w) A (spliced (backTo pos (starEach es env))) (fun vs s' => ∃ g', Stp G g s g' s' ∧ Paired (fun v (x : VP) => x.p g' v) vs Ps) E s
theorem AX_nil : AX G A env σ [] [] := fun _ _ _ _ ev => args_nil ⟨_, .refl ev.bs, .nil⟩
theorem AX_cons {e : Expr} {es : List Expr} {Ps : List VP} (h : EX G A env σ e P) (t : AX G A env σ es Ps) (he : starEach (e :: es) env = (false, eval e env) :: starEach es env := by rfl) :
    AX G A env σ (e :: es) (P :: Ps) := fun pos _ _ E ev => args_cons (h.then ev fun _ g1 s1 G1 e1 p =>
      wpAny_mono (t pos g1 s1 E e1) (fun _ _ ⟨g2, G2, q⟩ => ⟨g2, G1.trans G2, .cons (P.mono G2.le p) q⟩) fun _ _ x => x) he
theorem AX_one {e : Expr} (h : EX G A env σ e P) (he : starEach [e] env = [(false, eval e env)] := by rfl) : AX G A env σ [e] [P] := AX_cons h AX_nil he
theorem AX_two {e f : Expr} (h : EX G A env σ e P) (h2 : EX G A env σ f Q) (he : starEach [e, f] env = (false, eval e env) :: starEach [f] env := by rfl) (hf : starEach [f] env = [(false, eval f env)] := by rfl) :
    AX G A env σ [e, f] [P, Q] := AX_cons h (AX_one h2 hf) he

theorem PairedMap {F : Value → β → Prop} {f : α → β} : ∀ {vs : List Value} {xs : List α}, Paired F vs (xs.map f) → Paired (fun v x => F v (f x)) vs xs
  | [], [], _ => .nil
  | [], _ :: _, h => nomatch h
  | _ :: _, [], h => nomatch h
  | _ :: _, _ :: _, .cons a b => .cons a (PairedMap b)
theorem EX_list {es : List Expr} {R : α → VP} {xs : List α} {pos : Pos} (h : AX G A env σ es (xs.map R)) (hz : xs.length ≤ sizeLine := by decide) : EX G A env σ (.List es pos) (vList R xs) := fun g s E ev => by
  rw [arm_eval_List]
  refine wpAny_bind (wpAny_standAt (wpAny_bind (wpAny_mono (h pos g s E ev) (fun vs s1 ⟨g1, G1, q⟩ => ?_) fun _ _ x => x)))
  have hl : vs.length = xs.length := by rw [q.length, List.length_map]
  have key : wpAny (model G.prog G.w) A (newList vs) (Out G g1 s1 (vList R xs)) E s1 := by
    refine raw G1.bs (wpAny_newObj_type (hd := by show vs.toArray.size ≤ sizeLine; rw [List.size_toArray, hl]; omega) ?_)
    refine Raw.push G1.bs rfl ⟨_, vs, 0, rfl, VAdd.here _ _ _, ?_⟩
    exact PairedImp (fun _ _ z => (R _).mono (VAdd.le g1 _ _) z) (PairedMap q)
  exact wpAny_mono key (fun _ _ o => o.go G1) fun _ _ x => x
theorem EX_tuple {es : List Expr} {Ps : List VP} {k : Nat} {pos : Pos} (h : AX G A env σ es Ps) (hz : Ps.length ≤ sizeLine := by decide) : EX G A env σ (.Tuple es k pos) (vTup Ps) := fun g s E ev => by
  rw [arm_eval_Tuple]
  refine wpAny_bind (wpAny_standAt (wpAny_bind (wpAny_mono (h pos g s E ev) (fun vs s1 ⟨g1, G1, q⟩ => ?_) fun _ _ x => x)))
  have hl : vs.length = Ps.length := q.length
  have key : wpAny (model G.prog G.w) A (newTuple vs) (Out G g1 s1 (vTup Ps)) E s1 := by
    refine raw G1.bs (wpAny_newObj_type (hd := by show vs.toArray.size ≤ sizeLine; rw [List.size_toArray, hl]; omega) ?_)
    exact Raw.push G1.bs rfl ⟨_, vs, 0, rfl, VAdd.here _ _ _, PairedImp (fun _ x z => x.mono (VAdd.le g1 _ _) z) q⟩
  exact wpAny_mono key (fun _ _ o => o.go G1) fun _ _ x => x

-- subscripts
theorem EX_sub {value slice : Expr} {pos : Pos} (hl : EX G A env σ value P) (hr : EX G A env σ slice Q) (ho : Op2 G A (subscriptTail value slice) P Q R) : EX G A env σ (.Subscript value slice pos) R :=
  fun _ _ _ ev => Subscript_ (hl.then ev fun _ _ _ G1 e1 p => hr.then e1 fun _ _ _ G2 e2 q => ho.then e2.bs (P.mono G2.le p) q fun _ g3 _ G3 r => ⟨g3, G1.trans (G2.trans G3), r⟩)
theorem op_item {value slice : Expr} {R : α → VP} {xs : List α} {i : Int} {x : α} (h0 : 0 ≤ i) (hx : xs[i.toNat]? = some x) (hz : xs.length ≤ sizeLine)
    (hs : ∀ o i, subscripted slice false o i = operate [o, i] (getItem o i) := by intro _ _; rfl) : Op2 G A (subscriptTail value slice) (vList R xs) (vInt i) (R x) := by
  rintro g s E _ _ B ⟨l, vs, n, rfl, hl, pa⟩ ⟨u, rfl⟩
  obtain ⟨y, hy, p⟩ := PairedAt pa hx
  have hb : i < 2 ^ 63 := by
    have := (List.getElem?_eq_some_iff.mp hx).1
    have e : sizeLine = 16777216 := by decide
    omega
  exact tail_any (listObj_isList B hl).typeIs slot_list_getitem.lookup (wpAny_getItem_list (listObj_isList B hl) h0 hb (by simpa using hy) (.here B p)) (hs _ _)
theorem op_itemT {value slice : Expr} {Ps : List VP} {i : Nat} {x : VP} (hx : Ps[i]? = some x) (hi : i < 1000)
    (hs : ∀ o i, subscripted slice false o i = operate [o, i] (getItem o i) := by intro _ _; rfl) : Op2 G A (subscriptTail value slice) (vTup Ps) (vInt (i : Nat)) x := by
  rintro g s E _ _ B ⟨l, vs, n, rfl, hl, pa⟩ ⟨u, rfl⟩
  obtain ⟨y, hy, p⟩ := PairedAt pa hx
  have hlt := (List.getElem?_eq_some_iff.mp hy).1
  refine tail_any (tupObj_isTup B hl).typeIs slot_tuple_getitem.lookup (getItem_tuple (j := i) (tupObj_isTup B hl) (by omega) (by omega) ?_ (by simpa using hy) (.here B p)) (hs _ _)
  unfold seqIndex?
  simp
  first | omega | (split <;> omega) | (refine ⟨?_, ?_⟩ <;> omega)
theorem op_itemS {value slice : Expr} {x : Str} {i : Int} (h0 : 0 ≤ i) (hb : i < 1000) (hin : (Txt.charAt x i).isSome = true)
    (hs : ∀ o i, subscripted slice false o i = operate [o, i] (getItem o i) := by intro _ _; rfl) : Op2 G A (subscriptTail value slice) (vStr x) (vInt i) (vStrT (Txt.item x i)) := by
  rintro g s E _ _ B ⟨t, rfl⟩ ⟨u, rfl⟩
  refine tail_any (typeIs_str s x t) F.slot_str_getitem.lookup (SB.getItem (fitsSsize_of (N := 9223372036854775808) (by omega) (by omega) (Int.le_refl _)) hin (.strT B)) (hs _ _)
end
end Mine

end

section
open PySem PySem.W PyProof.Rows
set_option linter.unusedVariables false
namespace Mine
section
variable {G : Gv} {A : Around} {env : Env} {σ : Asg} {P Q R : VP} {α β : Type}

variable (G A) in
/-- what a call of the value u gives -/
def CX (u : Value) (Ps : List VP) (R : VP) : Prop :=
  ∀ (g : View) (s : Shared) (E : Value → Shared → Prop) (vs : List Value), Bs G g s → Paired (fun v (x : VP) => x.p g v) vs Ps → wpAny (model G.prog G.w) A (call u vs) (Out G g s R) E s

theorem EX_call {f : Str} {p pos : Pos} {e : Expr} {es : List Expr} {a : Addr} {o : Obj} {fd : FuncData} {Ps : List VP} (hf : (f, vIs (.ref a)) ∈ σ) (hk : G.K.lookup a = some o) (hd : o.data = .func fd)
    (ha : AX G A env σ (e :: es) Ps) (hc : CX G A (.ref a) Ps R) (hdb : (f == ("__debug__" : Str)) = false := by decide) (he : starEach (e :: es) env = (false, eval e env) :: starEach es env := by rfl) :
    EX G A env σ (.Call (.Name f p) (e :: es) [] pos) R := fun g s E ev =>
  wpAny_Call_NameR ((EX_name hf hdb).then ev fun v g1 s1 G1 e1 hv => by
    obtain rfl : v = .ref a := hv
    refine callWith_def hd (wpAny_mono (ha pos g1 s1 E e1) (fun vs s2 ⟨g2, G2, q⟩ => ⟨G2.bs.wd.k a o hk, ?_⟩) fun _ _ x => x) he
    exact wpAny_mono (hc g2 s2 E vs G2.bs q) (fun _ _ o => (o.go G2).go G1) fun _ _ x => x)
theorem EX_callB {f : Str} {p pos : Pos} {e : Expr} {es : List Expr} {id : String} {Ps : List VP} (hf : (f, vIs (.builtin id)) ∈ σ)
    (ha : AX G A env σ (e :: es) Ps) (hc : CX G A (.builtin id) Ps R) (hdb : (f == ("__debug__" : Str)) = false := by decide) (he : starEach (e :: es) env = (false, eval e env) :: starEach es env := by rfl)
    (hp : (backTo pos (starEach es env)).any (·.1) = false := by rfl) :
    EX G A env σ (.Call (.Name f p) (e :: es) [] pos) R := fun g s E ev =>
  wpAny_Call_NameR ((EX_name hf hdb).then ev fun v g1 s1 G1 e1 hv => by
    obtain rfl : v = .builtin id := hv
    refine PyProof.Rows.callWith_builtin1 (wpAny_mono (ha pos g1 s1 E e1) (fun vs s2 ⟨g2, G2, q⟩ => ?_) fun _ _ x => x) he hp
    exact wpAny_mono (hc g2 s2 E vs G2.bs q) (fun _ _ o => (o.go G2).go G1) fun _ _ x => x)
theorem EX_callT {f : Str} {p pos : Pos} {e : Expr} {es : List Expr} {T : String} {Ps : List VP} (hf : (f, vIs (.type T)) ∈ σ)
    (ha : AX G A env σ (e :: es) Ps) (hc : CX G A (.type T) Ps R) (hdb : (f == ("__debug__" : Str)) = false := by decide) (he : starEach (e :: es) env = (false, eval e env) :: starEach es env := by rfl)
    (hp : (backTo pos (starEach es env)).any (·.1) = false := by rfl) :
    EX G A env σ (.Call (.Name f p) (e :: es) [] pos) R := fun g s E ev =>
  wpAny_Call_NameR ((EX_name hf hdb).then ev fun v g1 s1 G1 e1 hv => by
    obtain rfl : v = .type T := hv
    have h2 := ha pos g1 s1 E e1
    rw [he] at h2 ⊢
    refine PySem.callWith_type (by show (false || (backTo pos (starEach es env)).any (·.1)) = false; rw [hp]; rfl) (Calls.evalArgs_plain (wpAny_mono h2 (fun vs s2 ⟨g2, G2, q⟩ => ?_) fun _ _ x => x))
    exact wpAny_mono (hc g2 s2 E vs G2.bs q) (fun _ _ o => (o.go G2).go G1) fun _ _ x => x)

theorem one_of {g : View} {vs : List Value} (h : Paired (fun v (x : VP) => x.p g v) vs [P]) : ∃ v, vs = [v] ∧ P.p g v := by
  cases h with | cons a t => cases t; exact ⟨_, rfl, a⟩
theorem two_of {g : View} {vs : List Value} (h : Paired (fun v (x : VP) => x.p g v) vs [P, Q]) : ∃ v u, vs = [v, u] ∧ P.p g v ∧ Q.p g u := by
  cases h with | cons a t => obtain ⟨u, rfl, b⟩ := one_of t; exact ⟨_, _, rfl, a, b⟩
theorem three_of {g : View} {vs : List Value} (h : Paired (fun v (x : VP) => x.p g v) vs [P, Q, R]) : ∃ v u t, vs = [v, u, t] ∧ P.p g v ∧ Q.p g u ∧ R.p g t := by
  cases h with | cons a t => obtain ⟨u, t, rfl, b, c⟩ := two_of t; exact ⟨_, _, _, rfl, a, b, c⟩

theorem PairedMap' {F : Value → β → Prop} {f : α → β} {vs : List Value} {xs : List α} (h : Paired (fun v x => F v (f x)) vs xs) : Paired F vs (xs.map f) := by
  induction h with
  | nil => exact .nil
  | cons a _ ih => exact .cons a ih
theorem cx_len {R : α → VP} {xs : List α} (hz : xs.length ≤ sizeLine) : CX G A (.builtin "len") [vList R xs] (vInt xs.length) := by
  intro g s E vs B h
  obtain ⟨v, rfl, a, us, n, rfl, hl, pa⟩ := one_of h
  have e := pa.length
  have q : sizeLine = 16777216 := by decide
  refine raw B (Calls.call_len_list (listObj_isList B hl) (by rw [List.size_toArray]; omega) ?_)
  rw [List.size_toArray, e]
  exact .tok B ⟨_, rfl⟩
theorem ints_are {g : View} {us : List Value} {ns : List Int} (h : Paired (fun v x => (vInt x).p g v) us ns) : ∃ xs : Array (Int × Tok), us.toArray = intItems xs ∧ xs.toList.map (·.1) = ns := by
  induction ns generalizing us with
  | nil => cases h; exact ⟨#[], by simp [intItems], rfl⟩
  | cons n ns ih =>
    cases h with
    | cons a t =>
      obtain ⟨xs, e1, e2⟩ := ih t
      obtain ⟨t, rfl⟩ := a
      refine ⟨#[(n, t)] ++ xs, ?_, by simp [e2]⟩
      have e3 := congrArg Array.toList e1
      simp only [intItems, Array.toList_map] at e3
      apply Array.ext'
      simp [intItems, ← e3]
theorem ints_are' {g : View} {us : List Value} {ns : List Int} (h : Paired (fun v x => (vInt x).p g v) us ns) : IntsAre us ns := by
  induction ns generalizing us with
  | nil => cases h; exact .nil
  | cons n ns ih => cases h with | cons a t => obtain ⟨t', rfl⟩ := a; exact .cons _ _ (ih t)
theorem strs_are {g : View} {us : List Value} {ns : List Str} (h : Paired (fun v x => (vStr x).p g v) us ns) : StrsAre us ns := by
  induction ns generalizing us with
  | nil => cases h; exact .nil
  | cons n ns ih => cases h with | cons a t => obtain ⟨t', rfl⟩ := a; exact .cons _ _ (ih t)
theorem cx_sum (hA : A.handled = none) {ns : List Int} : CX G A (.builtin "sum") [vList vInt ns] (vInt ns.sum) := by
  intro g s E vs B h
  obtain ⟨v, rfl, a, us, n, rfl, hl, pa⟩ := one_of h
  obtain ⟨xs, e1, e2⟩ := ints_are pa
  have hl' := listObj_isList B hl
  rw [e1] at hl'
  refine raw B (sum_intListG hA hl' fun h' tk t' hk => ?_)
  have e : preSum (numAt xs) xs.size = ns.sum := by rw [preSum_eq, e2, List.take_of_length_le (by rw [← e2]; simp)]
  rw [e]
  exact .same B ⟨h', tk, rfl, hk⟩ ⟨_, rfl⟩
theorem cx_tuple {R : α → VP} {xs : List α} (hz : xs.length ≤ sizeLine) : CX G A (.type "tuple") [vList R xs] (vTup (xs.map R)) := by
  intro g s E vs B h
  obtain ⟨v, rfl, a, us, n, rfl, hl, pa⟩ := one_of h
  have e := pa.length
  refine raw B (call_tuple_list (listObj_isList B hl) (fun h' hk => ?_) (by rw [List.size_toArray]; omega))
  refine Raw.add (a := h'.objs.size) (o := tupObj us 0) B ⟨_, _, rfl, fun _ _ x => Heap.get?_push_of_some _ (hk _ _ x)⟩ ?_ (Heap.get?_push_size _ rfl) ⟨_, us, 0, rfl, VAdd.here _ _ _, ?_⟩
  · cases q : s.heap.get? h'.objs.size with
    | none => rfl
    | some o => exact absurd (Heap.lt_size (hk _ _ q)) (Nat.lt_irrefl _)
  · exact PairedMap' (PairedImp (fun _ _ z => (R _).mono (VAdd.le g _ _) z) pa)

-- methods
theorem EX_method {o : Expr} {name : Str} {apos pos : Pos} {e : Expr} {es : List Expr} {T id : String} {Ps : List VP} (pa : PlainAttrs T) (sl : Slot T name id) (ty : typeOf (.builtin id) = pure (.type "method_descriptor"))
    (ho : EX G A env σ o P) (hT : ∀ g (s : Shared) v, Bs G g s → P.p g v → s.TypeIs v T ∧ (∀ a, v = .ref a → ∃ ob, s.heap.get? a = some ob ∧ ob.dict = none)) (ha : AX G A env σ (e :: es) Ps)
    (hc : CX G A (.builtin id) (P :: Ps) R)
    (hbase : attributeBase o name env (eval o env) = eval o env := by rfl)
    (hfew : ((backTo pos (starEach (e :: es) env)).all (fun x => !x.1) && (backToKw pos (keywordEach [] env)).all (fun x => x.1.isSome)
      && decide ((e :: es).length + ([] : List Keyword).length + (if ([] : List Keyword).isEmpty then 0 else 1) < 30)) = true := by rfl)
    (hline : (apos.endLine == pos.line) = true := by rfl) (he : starEach (e :: es) env = (false, eval e env) :: starEach es env := by rfl)
    (hp : (backTo pos (starEach es env)).any (·.1) = false := by rfl) :
    EX G A env σ (.Call (.Attribute o name apos) (e :: es) [] pos) R := fun g s E ev =>
  wpAny_Call_method_late hbase hfew hline rfl (ho.then ev fun v g1 s1 G1 e1 hv => by
    obtain ⟨t1, t2⟩ := hT g1 s1 v e1.bs hv
    refine ⟨T, id, pa, sl, ty, t1, t2, ?_⟩
    have h2 := ha pos g1 s1 E e1
    rw [he] at h2 ⊢
    refine Calls.callWith_builtin (by show (false || (backTo pos (starEach es env)).any (·.1)) = false; rw [hp]; rfl) (Calls.evalArgs_plain (wpAny_mono h2 (fun vs s2 ⟨g2, G2, q⟩ => ?_) fun _ _ x => x))
    exact wpAny_mono (hc g2 s2 E (v :: vs) G2.bs (.cons (P.mono G2.le hv) q)) (fun _ _ o => (o.go G2).go G1) fun _ _ x => x)
theorem isStr {x : Str} (g : View) (s : Shared) (v : Value) (_ : Bs G g s) (h : (vStr x).p g v) : s.TypeIs v "str" ∧ (∀ a, v = .ref a → ∃ ob, s.heap.get? a = some ob ∧ ob.dict = none) := by
  obtain ⟨t, rfl⟩ := h; exact ⟨typeIs_str s x t, fun _ e => nomatch e⟩
theorem isLst {R : α → VP} {xs : List α} (g : View) (s : Shared) (v : Value) (B : Bs G g s) (h : (vList R xs).p g v) : s.TypeIs v "list" ∧ (∀ a, v = .ref a → ∃ ob, s.heap.get? a = some ob ∧ ob.dict = none) := by
  obtain ⟨a, vs, n, rfl, hl, _⟩ := h
  exact ⟨(listObj_isList B hl).typeIs, fun b e => by cases e; exact ⟨_, B.on _ _ hl, rfl⟩⟩
theorem EX_methodS {o : Expr} {name : Str} {apos pos : Pos} {e : Expr} {es : List Expr} {id : String} {x : Str} {Ps : List VP} (sl : Slot "str" name id) (ty : typeOf (.builtin id) = pure (.type "method_descriptor"))
    (ho : EX G A env σ o (vStr x)) (ha : AX G A env σ (e :: es) Ps) (hc : CX G A (.builtin id) (vStr x :: Ps) R)
    (hbase : attributeBase o name env (eval o env) = eval o env := by rfl)
    (hfew : ((backTo pos (starEach (e :: es) env)).all (fun x => !x.1) && (backToKw pos (keywordEach [] env)).all (fun x => x.1.isSome)
      && decide ((e :: es).length + ([] : List Keyword).length + (if ([] : List Keyword).isEmpty then 0 else 1) < 30)) = true := by rfl)
    (hline : (apos.endLine == pos.line) = true := by rfl) (he : starEach (e :: es) env = (false, eval e env) :: starEach es env := by rfl)
    (hp : (backTo pos (starEach es env)).any (·.1) = false := by rfl) :
    EX G A env σ (.Call (.Attribute o name apos) (e :: es) [] pos) R := EX_method F.plainAttrs_str sl ty ho isStr ha hc hbase hfew hline he hp
theorem cx_join {x : Str} {ys : List Str} (hok : (ys.map (·.length)).sum + ys.length * x.length ≤ 16777216) : CX G A (.builtin "str.join") [vStr x, vList vStr ys] (vStr (Txt.join x ys)) := by
  intro g s E vs B h
  obtain ⟨v, u, rfl, ⟨t, rfl⟩, a, us, n, rfl, hl, pa⟩ := two_of h
  exact raw B (join_list (listObj_isList B hl) (by simpa using strs_are pa) hok fun t' k => .tok B ⟨_, rfl⟩)
theorem cx_count {ns : List Int} {k : Int} : CX G A (.builtin "list.count") [vList vInt ns, vInt k] (vInt (ns.count k : Nat)) := by
  intro g s E vs B h
  obtain ⟨v, u, rfl, ⟨a, us, n, rfl, hl, pa⟩, ⟨t, rfl⟩⟩ := two_of h
  exact raw B (count_list_ints (listObj_isList B hl) (ints_are' pa) (.tok B ⟨_, rfl⟩))
/-- replace: the old text is an older str, the new one is made here -/
theorem ax_replace {x y z : Str} {g : View} {s : Shared} {E : Value → Shared → Prop} {t u v : Tok} (B : Bs G g s) (hu : u ≠ 0) (hv : v ≠ 0) (huv : u ≠ v) (hyz : (y == z) = false) (hb : x.length + (x.length + 1) * z.length ≤ 16777216) :
    wpAny (model G.prog G.w) A (call (.builtin "str.replace") [.str x t, .str y u, .str z v]) (Out G g s (vStr (Txt.replace x y z))) E s :=
  raw B (SC.replace hu hv huv hyz hb fun t' k => .tok B ⟨_, rfl⟩)
end
end Mine

end

section
open PySem PySem.W PyProof.Rows
set_option linter.unusedVariables false
namespace Mine
section
variable {G : Gv} {A : Around} {env : Env} {σ : Asg} {P Q R : VP} {α β : Type}

variable (G A) in
/-- an iterator over xs, just made -/
structure ItOk (g : View) (s : Shared) (g2 : View) (s2 : Shared) (I : Addr) (fp wr : List Addr) (Pi : Nat → Value → Prop) (St : Nat → Heap → Prop) (R : α → VP) (xs : List α) : Prop where
  walks : Walks G.prog G.w A I fp wr xs.length Pi St
  start : St 0 s2.heap
  wrs : ∀ b ∈ wr, s.heap.get? b = none ∧ (∀ o, ¬ g2.ob b o)
  ex : ∀ i h, St i h → ∀ b ∈ wr, ∃ o, h.get? b = some o
  lt : ∀ b ∈ fp, b < s2.heap.objs.size
  fps : ∀ b ∈ fp, b ∈ wr ∨ ∃ o, g2.ob b o
  item : ∀ i v, Pi i v → ∃ x, xs[i]? = some x ∧ (R x).p g2 v
variable (G A env σ) in
def IX (iter : Expr) (R : α → VP) (xs : List α) : Prop :=
  ∀ (g : View) (s : Shared) (E : Value → Shared → Prop), Ev G env g s σ →
    wpAny (model G.prog G.w) A (eval iter env) (fun xv s1 => wpAny (model G.prog G.w) A (pyIter xv) (fun it s2 =>
      ∃ g2 I fp wr Pi St, it = .ref I ∧ Stp G g s g2 s2 ∧ ItOk G A g s g2 s2 I fp wr Pi St R xs) E s1) E s

theorem stpPush {g : View} {s : Shared} (B : Bs G g s) (o : Obj) (t : Tok) (ht : s.toks ≤ t) : Stp G g s g { s with heap := s.heap.push o, toks := t } := .same B (keepsPush s o t) ht
theorem notOb {g : View} {s : Shared} (B : Bs G g s) {a : Addr} (h : s.heap.get? a = none) (o : Obj) : ¬ g.ob a o := fun x => by rw [B.on a o x] at h; cases h

theorem IX_list (hA : A.handled = none) {iter : Expr} {R : α → VP} {xs : List α} (h : EX G A env σ iter (vList R xs)) : IX G A env σ iter R xs := fun g s E ev =>
  h.then ev fun v g1 s1 G1 e1 hv => by
    obtain ⟨a, us, n, rfl, hl, pa⟩ := hv
    have hL := listObj_isList e1.bs hl
    refine wpAny_pyIter_list hL ?_
    have hn : s1.heap.get? s1.heap.objs.size = none := fresh_none _
    have hlt : a < s1.heap.objs.size := Heap.lt_size (e1.bs.on _ _ hl)
    have K := stpPush e1.bs { cls := .type "list_iterator", data := .fields #[.ref a, .int 0 0] } s1.toks (Nat.le_refl _)
    have W := Walks.list (prog := G.prog) (w := G.w) hA s1.heap.objs.size a (Nat.ne_of_lt hlt) us.toArray
    rw [show us.toArray.size = xs.length by rw [List.size_toArray, pa.length]] at W
    refine ⟨g1, _, _, _, _, _, rfl, G1.trans K, ⟨W, ⟨⟨_, Heap.get?_push_size _ rfl, rfl, rfl⟩, ?_⟩, ?_, ?_, ?_, ?_, ?_⟩⟩
    · exact hL.push _
    · intro b hb
      obtain rfl : b = s1.heap.objs.size := by simpa using hb
      exact ⟨noneOfKeeps G1.keeps hn, notOb e1.bs hn⟩
    · rintro i h ⟨⟨o, ho, _⟩, _⟩ b hb
      obtain rfl : b = s1.heap.objs.size := by simpa using hb
      exact ⟨o, ho⟩
    · intro b hb
      have e : (s1.heap.push { cls := .type "list_iterator", data := .fields #[.ref a, .int 0 0] }).objs.size = s1.heap.objs.size + 1 := Heap.size_push ..
      rcases List.mem_cons.mp hb with q | hb
      · show b < (s1.heap.push _).objs.size; rw [e, q]; exact Nat.lt_succ_self _
      · have q : b = a := by simpa using hb
        show b < (s1.heap.push _).objs.size; rw [e, q]; exact Nat.lt_succ_of_lt hlt
    · intro b hb
      rcases List.mem_cons.mp hb with rfl | hb
      · exact .inl (by simp)
      · obtain rfl : b = a := by simpa using hb
        exact .inr ⟨_, hl⟩
    · intro i v hv
      exact PairedAt' pa (by simpa using hv)

def rng (a : Int) (n : Nat) : List Int := (List.range n).map fun (i : Nat) => a + (i : Int)
theorem rng_len (a : Int) (n : Nat) : (rng a n).length = n := by simp [rng]
theorem range_it (hA : A.handled = none) {g : View} {s s1 : Shared} {g1 : View} {a b : Int} {t u v : Tok} {E : Value → Shared → Prop} {tk : Tok} (G1 : Stp G g s g1 s1) (ht : s1.toks ≤ tk)
    (h1 : -(2 ^ 62) ≤ a) (h2 : a < 2 ^ 62) (h3 : -(2 ^ 62) ≤ b) (h4 : b < 2 ^ 62) :
    wpAny (model G.prog G.w) A (pyIter (.ref s1.heap.objs.size)) (fun it s2 => ∃ g2 I fp wr Pi St, it = .ref I ∧ Stp G g s g2 s2 ∧ ItOk G A g s g2 s2 I fp wr Pi St vInt (rng a (b - a).toNat)) E
      { s1 with heap := s1.heap.push { cls := .type "range", data := .fields #[.int a t, .int b u, .int 1 v] }, toks := tk } := by
  refine wpAny_pyIter_range (IsRange.new ..) (small_one h1 h2 h3 h4) ?_
  generalize hs' : ({ s1 with heap := s1.heap.push { cls := .type "range", data := .fields #[.int a t, .int b u, .int 1 v] }, toks := tk } : Shared) = s'
  have K1 : Stp G g1 s1 g1 s' := hs' ▸ stpPush G1.bs _ tk ht
  have hn : s'.heap.get? s'.heap.objs.size = none := fresh_none _
  have G2 := G1.trans K1
  have K := stpPush G2.bs { cls := .type "range_iterator", data := .fields #[rawInt a, rawInt (Builtin.Range.rangeSize a b 1), rawInt 1] } s'.toks (Nat.le_refl _)
  have hsz : Builtin.Range.rangeSize a b 1 = ((b - a).toNat : Int) := by rw [rangeSize_one]; split <;> omega
  have W := Walks.range (prog := G.prog) (w := G.w) hA s'.heap.objs.size a 1 (b - a).toNat
  have W' : Walks G.prog G.w A s'.heap.objs.size [s'.heap.objs.size] [s'.heap.objs.size] (rng a (b - a).toNat).length (fun i v => ∃ t, v = .int (a + i * 1) t ∧ i < (b - a).toNat)
      (fun i h => IsRangeIter h s'.heap.objs.size (a + (i : Nat) * 1) (((b - a).toNat : Int) - (i : Nat)) 1) := by
    rw [rng_len]
    exact ⟨W.sub, W.frame, fun i s Q E hi st hQ => W.item i s Q E hi st fun v h' tk ⟨t, e⟩ => hQ v h' tk ⟨t, e, hi⟩, W.done, W.self⟩
  refine ⟨g1, _, _, _, _, _, rfl, G2.trans K, ⟨W', ?_, ?_, ?_, ?_, ?_, ?_⟩⟩
  · have e1 : (a + ((0 : Nat) : Int) * 1) = a := by simp
    have e2 : (((b - a).toNat : Int) - ((0 : Nat) : Int)) = Builtin.Range.rangeSize a b 1 := by rw [hsz]; simp
    show IsRangeIter _ _ (a + ((0 : Nat) : Int) * 1) (((b - a).toNat : Int) - ((0 : Nat) : Int)) 1
    rw [e1, e2]
    exact Heap.get?_push_size _ rfl
  · intro b hb
    obtain rfl : b = s'.heap.objs.size := by simpa using hb
    exact ⟨noneOfKeeps G2.keeps hn, notOb G2.bs hn⟩
  · intro i h st b hb
    obtain rfl : b = s'.heap.objs.size := by simpa using hb
    exact ⟨_, st⟩
  · intro b hb
    obtain rfl : b = s'.heap.objs.size := by simpa using hb
    show _ < (s'.heap.push _).objs.size; rw [Heap.size_push]; exact Nat.lt_succ_self _
  · intro b hb; exact .inl hb
  · rintro i v ⟨t, rfl, hi⟩
    exact ⟨a + i, by simp [rng, hi], t, by simp⟩
theorem IX_range1 (hA : A.handled = none) {f : Str} {p pos : Pos} {e : Expr} {n : Int} (hf : (f, vIs (.type "range")) ∈ σ) (h : EX G A env σ e (vInt n)) (hlo : -(2 ^ 62) ≤ n) (hhi : n < 2 ^ 62)
    (hdb : (f == ("__debug__" : Str)) = false := by decide) (he : starEach [e] env = [(false, eval e env)] := by rfl) :
    IX G A env σ (.Call (.Name f p) [e] [] pos) vInt (rng 0 n.toNat) := fun g s E ev =>
  wpAny_Call_NameR ((EX_name hf hdb).then ev fun v g1 s1 G1 e1 hv => by
    obtain rfl : v = .type "range" := hv
    rw [show backTo pos (starEach [e] env) = [(false, eval e env)] by rw [he]; rfl]
    refine PySem.callWith_type rfl (Calls.evalArgs_plain (Calls.spliced_cons (h.then e1 fun v g2 s2 G2 e2 hv => Calls.spliced_nil ?_)))
    obtain ⟨t, rfl⟩ := hv
    refine call_range_1 ?_
    have := range_it (E := E) (A := A) (t := s2.toks) (u := t) (v := s2.toks + 1) (b := n) hA (G1.trans G2) (Nat.le_succ_of_le (Nat.le_succ s2.toks)) (a := 0) (by decide) (by decide) hlo hhi
    rw [Int.sub_zero] at this
    exact this)
theorem IX_range2 (hA : A.handled = none) {f : Str} {p pos : Pos} {e e' : Expr} {n m : Int} (hf : (f, vIs (.type "range")) ∈ σ) (h : EX G A env σ e (vInt n)) (h' : EX G A env σ e' (vInt m))
    (hlo : -(2 ^ 62) ≤ n) (hhi : n < 2 ^ 62) (hlo' : -(2 ^ 62) ≤ m) (hhi' : m < 2 ^ 62)
    (hdb : (f == ("__debug__" : Str)) = false := by decide) (he : starEach [e, e'] env = [(false, eval e env), (false, eval e' env)] := by rfl) :
    IX G A env σ (.Call (.Name f p) [e, e'] [] pos) vInt (rng n (m - n).toNat) := fun g s E ev =>
  wpAny_Call_NameR ((EX_name hf hdb).then ev fun v g1 s1 G1 e1 hv => by
    obtain rfl : v = .type "range" := hv
    rw [show backTo pos (starEach [e, e'] env) = [(false, eval e env), (false, eval e' env)] by rw [he]; rfl]
    refine PySem.callWith_type rfl (Calls.evalArgs_plain (Calls.spliced_cons (h.then e1 fun v g2 s2 G2 e2 hv => Calls.spliced_cons (h'.then e2 fun v' g3 s3 G3 e3 hv' => Calls.spliced_nil ?_))))
    obtain ⟨t, rfl⟩ := hv
    obtain ⟨t', rfl⟩ := hv'
    refine call_range_2 ?_
    exact range_it hA (G1.trans (G2.trans G3)) (Nat.le_succ _) hlo hhi hlo' hhi')

-- comprehensions
/-- a name of the outer frame that the comprehension's frame reads the same -/
def Carry (env cenv : Env) (y : Str) : Prop :=
  (env.kindOf y = some .cell ∧ cenv.kindOf y = some .cell ∧ cenv.cells.lookup y = env.cells.lookup y) ∨
  (env.kindOf y = some .globalImplicit ∧ cenv.kindOf y = some .globalImplicit ∧ cenv.globals = env.globals ∧ cenv.builtins = env.builtins)
theorem RD.carry {env cenv : Env} {h : Heap} {y : Str} {v : Value} (r : RD env h y v) (c : Carry env cenv y) : RD cenv h y v := by
  rcases c with ⟨k1, k2, e⟩ | ⟨k1, k2, e1, e2⟩
  · cases r with
    | loc hk => rw [k1] at hk; cases hk
    | cell hk c hc hv => exact .cell k2 c (e.trans hc) hv
    | glob hk => rw [k1] at hk; cases hk
    | blt hk => rw [k1] at hk; cases hk
  · cases r with
    | loc hk => rw [k1] at hk; cases hk
    | cell hk => rw [k1] at hk; cases hk
    | glob hk m hn hm => exact .glob k2 m (e1 ▸ hn) hm
    | blt hk m hn hm mb hb hv => exact .blt k2 m (e1 ▸ hn) hm mb (e2 ▸ hb) hv
/-- a global name that the comprehension's frame alone reads -/
def CarryG (G : Gv) (cenv : Env) (q : Str × VP) : Prop := ∃ v, q.2 = vIs v ∧ cenv.kindOf q.1 = some .globalImplicit ∧ cenv.globals = mainGlobals ∧ cenv.builtins = builtinsNs ∧ (G.mg q.1 = some v ∨ (G.mg q.1 = none ∧ G.mb q.1 = some v))
def Cry (G : Gv) (env cenv : Env) (σ : Asg) (q : Str × VP) : Prop := (q ∈ σ ∧ Carry env cenv q.1) ∨ CarryG G cenv q
theorem Ev.over {g g2 : View} {s s2 s3 : Shared} {wr : List Addr} (ev : Ev G env g s σ) (S : Stp G g s g2 s2) (k : ∀ b o, b ∉ wr → s2.heap.get? b = some o → s3.heap.get? b = some o)
    (hw : ∀ b ∈ wr, s.heap.get? b = none ∧ ∀ o, ¬ g2.ob b o) (t : s2.toks ≤ s3.toks) : Ev G env g2 s3 σ := by
  have kk : ∀ b o, s.heap.get? b = some o → s3.heap.get? b = some o := fun b o e => k b o (fun h => by rw [(hw b h).1] at e; cases e) (KeepsHeap S.keeps b o e)
  exact ⟨ev.fn, ⟨fun b o h => k b o (fun q => (hw b q).2 o h) (S.bs.on b o h), ev.bs.wd.keeps kk, Nat.le_trans S.bs.tk t, S.bs.pos⟩,
    fun x P h => let ⟨v, r, p⟩ := ev.var x P h; ⟨v, r.keeps kk, P.mono S.le p⟩⟩
theorem Ev.comp {cenv : Env} {g : View} {s : Shared} {x : Str} {m : Str → Option Value} {v : Value} {τ : Asg} (ev : Ev G env g s σ) (hf : cenv.scope.kind = .function) (hn : s.heap.Ns cenv.locals m) (hm : m x = some v)
    (hx : cenv.kindOf x = some .local) (p : P.p g v) (hτ : ∀ q ∈ τ, Cry G env cenv σ q) : Ev G cenv g s ((x, P) :: τ) :=
  ⟨hf, ev.bs, fun y Q h => by
    rcases List.mem_cons.mp h with e | h
    · cases e; exact ⟨v, .loc hx m hn hm, p⟩
    · rcases hτ _ h with ⟨h1, h2⟩ | ⟨u, h1, h2, h3, h4, h5⟩
      · obtain ⟨u, r, q⟩ := ev.var y Q h1
        exact ⟨u, r.carry h2, q⟩
      · have h1' : Q = vIs u := h1
        subst h1'
        refine ⟨u, ?_, rfl⟩
        rcases h5 with h5 | ⟨h5, h6⟩
        · exact .glob h2 _ (h3 ▸ ev.bs.wd.g) h5
        · exact .blt h2 _ (h3 ▸ ev.bs.wd.g) h5 _ (h4 ▸ ev.bs.wd.b) h6⟩

def Flat (P : VP) : Prop := ∀ g g' v, P.p g v → P.p g' v
theorem flat_int (i : Int) : Flat (vInt i) := fun _ _ _ h => h
theorem flat_str (x : Str) : Flat (vStr x) := fun _ _ _ h => h
def Inj (R : α → VP) : Prop := ∀ g v x y, (R x).p g v → (R y).p g v → x = y
theorem inj_int : Inj vInt := by rintro g v x y ⟨t, rfl⟩ ⟨u, e⟩; cases e; rfl
theorem inj_str : Inj vStr := by rintro g v x y ⟨t, rfl⟩ ⟨u, e⟩; cases e; rfl

theorem pairedOfAt {α β : Type} {F : α → β → Prop} : ∀ {l₁ : List α} {l₂ : List β}, l₁.length = l₂.length → (∀ (n : Nat) a b, l₁[n]? = some a → l₂[n]? = some b → F a b) → Paired F l₁ l₂
  | [], [], _, _ => .nil
  | [], _ :: _, h, _ => by simp at h
  | _ :: _, [], h, _ => by simp at h
  | a :: l, b :: m, h, k => .cons (k 0 a b rfl rfl) (pairedOfAt (by simpa using h) fun n x y hx hy => k (n + 1) x y (by simpa using hx) (by simpa using hy))
theorem EX_comp {elt iter : Expr} {x : Str} {px : Pos} {scope : Scope} {pos : Pos} {cl : List (Str × Addr)} {R : α → VP} {xs : List α} {S : β → VP} {f : α → β} {τ : Asg}
    (hi : IX G A env σ iter R xs) (hz : xs.length ≤ sizeLine) (inj : Inj R) (rflat : ∀ x, Flat (R x)) (flat : ∀ y, Flat (S y))
    (hclos : closureFor scope env = pure cl) (hcell : ∀ y ∈ scope.names, y.2 ≠ .cell) (hkind : scope.kind = .function)
    (hnames : ∀ y ∈ scope.names, y.2 = .local → scope.names.lookup y.1 = some .local) (hx : scope.names.lookup x = some .local)
    (hτ : ∀ C, ∀ q ∈ τ, Cry G env (compEnvC scope cl C env) σ q)
    (he : ∀ C, ∀ a ∈ xs, EX G A (compEnvC scope cl C env) ((x, R a) :: τ) elt (S (f a)))
    (hs : ∀ x, foldedSetIterable iter env x = pure x := by intro _; rfl) :
    EX G A env σ (.ListComp elt [⟨.Name x px, iter, [], 0⟩] scope pos) (vList S (xs.map f)) := fun g s E ev => by
  refine raw ev.bs (wpAny_ListComp_free (fun _ => true) (fun v y => ∃ a, a ∈ xs ∧ (∃ g, (R a).p g v) ∧ ∀ g, (S (f a)).p g y) hclos hcell hkind hnames hx
    (wpAny_mono (hi g s E ev) (fun xv s1 h1 => wpAny_mono h1 (fun it s2 h2 => ?_) fun _ _ e => e) fun _ _ e => e) hs)
  obtain ⟨g2, I, fp, wr, Pi, St, rfl, S2, K⟩ := h2
  refine ⟨I, fp, wr, xs.length, Pi, St, rfl, K.walks, hz, K.start, K.lt, ⟨?_, ?_⟩, ?_⟩
  · intro C i v s3 m3 E' hC hP hn hm hk ht
    exact wpAny_tests_nil ⟨rfl, KeepsRefl _⟩
  · intro C i v s3 m3 E' hC hP _ hn hm hk ht
    obtain ⟨a, ha, pa⟩ := K.item i v hP
    have ham : a ∈ xs := List.mem_of_getElem? ha
    have ev3 : Ev G env g2 s3 σ := ev.over S2 hk (fun b hb => ⟨(K.wrs b hb).1, (K.wrs b hb).2⟩) ht
    have ev4 : Ev G (compEnvC scope cl C env) g2 s3 ((x, R a) :: τ) := ev3.comp hkind hn hm (lookup_relabel_local hx) pa (hτ C)
    exact (he C a ham).then ev4 fun y g4 s4 S4 e4 p4 => ⟨⟨a, ham, ⟨g2, pa⟩, fun g => flat _ _ _ _ p4⟩, S4.keeps⟩
  · intro D h' tk ys vs hD hl hpl hlen hPs hF hk
    have kk : ∀ b o, s.heap.get? b = some o → h'.get? b = some o := fun b o e => hk b o (fun h => by rw [(K.wrs b h).1] at e; cases e) (KeepsHeap S2.keeps b o e)
    obtain ⟨n, hpl⟩ := hpl
    have hob : (⟨.type "list", none, .seq ys n, #[]⟩ : Obj) = listObj ys.toList n := by simp [listObj]
    refine ⟨⟨(VAdd g2 D (listObj ys.toList n)).ob, g.tk⟩, ⟨h', tk, by obtain ⟨q, t, rfl, _⟩ := S2.keeps; rfl, kk⟩, ⟨fun b o h => .inl (S2.le.ob b o h), Nat.le_refl _⟩, ?_, ?_, .inl (Nat.le_refl _), ⟨D, ys.toList, n, rfl, VAdd.here _ _ _, ?_⟩⟩
    · rintro b o (h | ⟨rfl, rfl⟩)
      · exact hk b o (fun q => (K.wrs b q).2 o h) (S2.bs.on b o h)
      · exact hob ▸ hpl
    · rintro b o (h | ⟨rfl, rfl⟩)
      · exact S2.new b o h
      · exact .inr (noneOfKeeps S2.keeps hD)
    · have hF' : Paired (fun v y => ∃ a, a ∈ xs ∧ (∃ g, (R a).p g v) ∧ ∀ g, (S (f a)).p g y) vs ys.toList := by
        rwa [List.filter_eq_self.mpr fun _ _ => rfl] at hF
      refine pairedOfAt (by rw [← hF'.length, hlen, List.length_map]) fun n y b hy hb => ?_
      obtain ⟨v, hv, a, _, ⟨g', pa⟩, q⟩ := PairedAt hF' hy
      obtain ⟨x', hx', px⟩ := K.item n v (hPs n v hv)
      obtain rfl : a = x' := inj g' v a x' pa (by exact rflat _ _ _ _ px)
      rw [List.getElem?_map, hx'] at hb
      cases hb
      exact q _
end
end Mine

end

section
open PySem PySem.W PyProof.Rows
set_option linter.unusedVariables false
namespace Mine
/-- a word about an object that is still under construction -/
structure OP where
  p : View → Obj → Prop
  mono : ∀ {g g' : View} {o : Obj}, VLe g g' → p g o → p g' o
  alive : ∀ {g : View} {o : Obj}, p g o → o.isFreed = false
/-- the same object, read as if it were frozen -/
def OP.vp (C : OP) : VP := ⟨fun g v => ∃ a o, v = .ref a ∧ a ≠ sysModules ∧ g.ob a o ∧ C.p g o, fun l ⟨a, o, e, n, h, p⟩ => ⟨a, o, e, n, l.ob _ _ h, C.mono l p⟩⟩
def Mut (env : Env) (b : Addr) : Prop := b = env.locals ∨ ∃ n, (n, b) ∈ env.cells
structure Frm (env : Env) (s₀ : Shared) (g : View) (s : Shared) : Prop where
  ns : ∃ m, s.heap.Ns env.locals m
  cells : ∀ n c, (n, c) ∈ env.cells → ∃ v, s.heap.IsCell c v
  out : ∀ b, Mut env b → s₀.heap.get? b = none ∧ ∀ o, ¬ g.ob b o
  apart : env.cells.Pairwise fun x y => x.2 ≠ y.2
  above : ∀ n c, (n, c) ∈ env.cells → c ≠ env.locals
  gl : ∃ o, s₀.heap.get? env.globals = some o
  bl : ∃ o, s₀.heap.get? env.builtins = some o
abbrev Own := Option (Str × OP)
structure Fg (G : Gv) (env : Env) (s₀ : Shared) (g₀ : View) (σ : Asg) (τ : Own) (g : View) (s : Shared) : Prop where
  ev : Ev G env g s σ
  wd : Wd G s₀.heap
  keeps : Keeps s₀ s
  toks : s₀.toks ≤ s.toks
  le : VLe g₀ g
  new : ∀ b o, g.ob b o → g₀.ob b o ∨ s₀.heap.get? b = none
  fr : Frm env s₀ g s
  own : ∀ x C, τ = some (x, C) → ∃ D o, RD env s.heap x (.ref D) ∧ s.heap.get? D = some o ∧ (∀ o, ¬ g.ob D o) ∧ s₀.heap.get? D = none ∧ ¬ Mut env D ∧ C.p g o

section
variable {G : Gv} {A : Around} {env : Env} {σ σ' : Asg} {τ τ' : Own} {P Q R : VP} {α β : Type} {s₀ s s' : Shared} {g₀ g g' : View}

theorem nsUnique {h : Heap} {a : Addr} {m m' : Str → Option Value} (x : h.Ns a m) (y : h.Ns a m') : m = m' := by
  obtain ⟨o, es, ep, ho, hd, _, hm⟩ := x
  obtain ⟨o', es', ep', ho', hd', _, hm'⟩ := y
  rw [ho] at ho'; cases ho'
  rw [hd] at hd'; cases hd'
  funext n; rw [← hm, ← hm']
def del (x : Str) : Asg → Asg
  | [] => []
  | q :: r => match q.1 == x with
    | true => del x r
    | false => q :: del x r
theorem mem_del {x : Str} : ∀ {σ : Asg} {q : Str × VP}, q ∈ del x σ → q ∈ σ ∧ q.1 ≠ x
  | q' :: r, q, h => by
    unfold del at h
    cases e : q'.1 == x with
    | true => rw [e] at h; have := mem_del h; exact ⟨.tail _ this.1, this.2⟩
    | false =>
      rw [e] at h
      rcases List.mem_cons.mp h with rfl | h
      · exact ⟨.head _, by simpa using e⟩
      · have := mem_del h; exact ⟨.tail _ this.1, this.2⟩
/-- only what the frame itself changes has changed -/
structure Moved (env : Env) (s s' : Shared) : Prop where
  same : ∃ h tk, s' = { s with heap := h, toks := tk }
  keep : ∀ b o, ¬ Mut env b → s.heap.get? b = some o → s'.heap.get? b = some o

theorem Fg.sub (F : Fg G env s₀ g₀ σ τ g s) (h : ∀ q ∈ σ', q ∈ σ) : Fg G env s₀ g₀ σ' τ g s := ⟨F.ev.sub h, F.wd, F.keeps, F.toks, F.le, F.new, F.fr, F.own⟩
theorem Fg.drop (F : Fg G env s₀ g₀ σ τ g s) : Fg G env s₀ g₀ σ none g s := ⟨F.ev, F.wd, F.keeps, F.toks, F.le, F.new, F.fr, fun _ _ e => nomatch e⟩
/-- a step that keeps all -/
theorem Fg.step (F : Fg G env s₀ g₀ σ τ g s) (S : Stp G g s g' s') : Fg G env s₀ g₀ σ τ g' s' := by
  have out : ∀ b, (∃ o, s.heap.get? b = some o) → (∀ o, ¬ g.ob b o) → ∀ o, ¬ g'.ob b o := fun b ⟨o, e⟩ h o' q =>
    (S.new b o' q).elim (h o') fun z => by rw [z] at e; cases e
  refine ⟨F.ev.grow S, F.wd, KeepsTrans F.keeps S.keeps, Nat.le_trans F.toks S.toks, F.le.trans S.le, fun b o h => (S.new b o h).elim (F.new b o) fun z => .inr (noneOfKeeps F.keeps z), ?_, ?_⟩
  · refine ⟨let ⟨m, h⟩ := F.fr.ns; ⟨m, h.keeps (KeepsHeap S.keeps)⟩, fun n c h => let ⟨v, h⟩ := F.fr.cells n c h; ⟨v, h.keeps (KeepsHeap S.keeps)⟩, fun b hb => ⟨(F.fr.out b hb).1, ?_⟩, F.fr.apart, F.fr.above, F.fr.gl, F.fr.bl⟩
    refine out b ?_ (F.fr.out b hb).2
    rcases hb with rfl | ⟨n, hb⟩
    · obtain ⟨m, o, _, _, e, _⟩ := F.fr.ns; exact ⟨o, e⟩
    · obtain ⟨v, o, e, _⟩ := F.fr.cells n b hb; exact ⟨o, e⟩
  · intro x C e
    obtain ⟨D, o, r, h1, h2, h3, h4, h5⟩ := F.own x C e
    exact ⟨D, o, r.keeps (KeepsHeap S.keeps), KeepsHeap S.keeps _ _ h1, out D ⟨o, h1⟩ h2, h3, h4, C.mono S.le h5⟩

def Kd (env : Env) (x : Str) : Prop := env.kindOf x = some .local ∨ (env.kindOf x = some .cell ∧ ∃ c, env.cells.lookup x = some c)
theorem glNe (F : Fg G env s₀ g₀ σ τ g s) : ¬ Mut env env.globals ∧ ¬ Mut env env.builtins := by
  constructor <;> intro h
  · obtain ⟨o, e⟩ := F.fr.gl; rw [(F.fr.out _ h).1] at e; cases e
  · obtain ⟨o, e⟩ := F.fr.bl; rw [(F.fr.out _ h).1] at e; cases e

/-- what a store leaves: all objects but one that is the frame's own -/
theorem Fg.stored {h' : Heap} {tk : Tok} {x : Str} {v : Value} {c₀ : Addr} (F : Fg G env s₀ g₀ σ τ g s) (hc₀ : Mut env c₀) (hsb : Heap.SameBut c₀ s.heap h') (ht : s.toks ≤ tk) (p : P.p g v)
    (rx : RD env h' x v) (ry : ∀ y u, y ≠ x → RD env s.heap y u → RD env h' y u) (hns : ∃ m, h'.Ns env.locals m) (hcl : ∀ n c, (n, c) ∈ env.cells → ∃ v, h'.IsCell c v)
    (hτ : ∀ y C, τ' = some (y, C) → τ = some (y, C) ∧ y ≠ x) : Fg G env s₀ g₀ ((x, P) :: del x σ) τ' g { s with heap := h', toks := tk } := by
  have gn := F.fr.out c₀ hc₀
  have kk : ∀ b o, b ≠ c₀ → s.heap.get? b = some o → h'.get? b = some o := fun b o hb e => hsb.extBut b o hb e
  have kp : ∀ b o, s₀.heap.get? b = some o → h'.get? b = some o := fun b o e => kk b o (fun q => by rw [q, gn.1] at e; cases e) (KeepsHeap F.keeps b o e)
  obtain ⟨hh, tt, hs, _⟩ := F.keeps
  have wd : Wd G h' := F.wd.keeps kp
  refine ⟨⟨F.ev.fn, ⟨fun b o h => kk b o (fun q => gn.2 o (q ▸ h)) (F.ev.bs.on b o h), wd, Nat.le_trans F.ev.bs.tk ht, F.ev.bs.pos⟩, fun y Q hq => ?_⟩,
    F.wd, ⟨h', tk, by rw [hs], kp⟩, Nat.le_trans F.toks ht, F.le, F.new, ⟨hns, hcl, F.fr.out, F.fr.apart, F.fr.above, F.fr.gl, F.fr.bl⟩, fun y C e => ?_⟩
  · rcases List.mem_cons.mp hq with e | hq
    · cases e; exact ⟨v, rx, p⟩
    · obtain ⟨hm, hne⟩ := mem_del hq
      obtain ⟨u, r, q⟩ := F.ev.var y Q hm
      exact ⟨u, ry y u hne r, q⟩
  · obtain ⟨e1, e2⟩ := hτ y C e
    obtain ⟨D, o, r, h1, h2, h3, h4, h5⟩ := F.own y C e1
    exact ⟨D, o, ry y _ e2 r, kk D o (fun q => h4 (q ▸ hc₀)) h1, h2, h3, h4, h5⟩

theorem rdLoc {h h' : Heap} {L : Addr} {x : Str} {v : Value} {m : Str → Option Value} (hL : L = env.locals) (hn : h.Ns L m) (hn' : h'.Ns L (fun y => if y = x then some v else m y)) (hsb : Heap.SameBut L h h')
    (hc : ∀ n c, (n, c) ∈ env.cells → c ≠ L) (hg : env.globals ≠ L) (hb : env.builtins ≠ L) : ∀ y u, y ≠ x → RD env h y u → RD env h' y u := by
  subst hL
  intro y u hne r
  cases r with
  | loc hk m' hm' e =>
    have := nsUnique hn hm'
    subst this
    exact .loc hk _ hn' (by simp [hne, e])
  | cell hk c hc' hv => exact .cell hk c hc' (hv.sameBut hsb (hc _ c (mem_of_lookup hc')))
  | glob hk m' hm' e => exact .glob hk m' (hm'.sameBut hsb hg) e
  | blt hk m' hm' e mb hb' hv => exact .blt hk m' (hm'.sameBut hsb hg) e mb (hb'.sameBut hsb hb) hv
theorem rdCell {h h' : Heap} {c₀ : Addr} {x : Str} (hx : env.cells.lookup x = some c₀) (hl : c₀ ≠ env.locals) (hsb : Heap.SameBut c₀ h h') (hap : env.cells.Pairwise fun x y => x.2 ≠ y.2)
    (hg : env.globals ≠ c₀) (hb : env.builtins ≠ c₀) : ∀ y u, y ≠ x → RD env h y u → RD env h' y u := by
  intro y u hne r
  cases r with
  | loc hk m' hm' e => exact .loc hk m' (hm'.sameBut hsb (Ne.symm hl)) e
  | cell hk c hc' hv => exact .cell hk c hc' (hv.sameBut hsb fun q => hne (name_of_addr hap (mem_of_lookup hc') (q ▸ mem_of_lookup hx)))
  | glob hk m' hm' e => exact .glob hk m' (hm'.sameBut hsb hg) e
  | blt hk m' hm' e mb hb' hv => exact .blt hk m' (hm'.sameBut hsb hg) e mb (hb'.sameBut hsb hb) hv

theorem Fg.store {M : Model} {E : Value → Shared → Prop} {x : Str} {v : Value} {Q : Unit → Shared → Prop} (F : Fg G env s₀ g₀ σ τ g s) (hk : Kd env x) (p : P.p g v)
    (hτ : ∀ y C, τ' = some (y, C) → τ = some (y, C) ∧ y ≠ x)
    (h : ∀ s', Fg G env s₀ g₀ ((x, P) :: del x σ) τ' g s' → s.toks ≤ s'.toks → (∀ b o, ¬ Mut env b → s.heap.get? b = some o → s'.heap.get? b = some o) →
      (∀ y u, y ≠ x → RD env s.heap y u → RD env s'.heap y u) → Q () s') : wpAny M A (storeName env x v) Q E s := by
  obtain ⟨ng, nb⟩ := glNe F
  have hf := F.ev.fn
  rcases hk with hk | ⟨hk, c, hc⟩
  · obtain ⟨m, hn⟩ := F.fr.ns
    have hM : Mut env env.locals := .inl rfl
    refine wpAny_storeName_local hk hn (fun h' hn' hsb => h _ ?_ (Nat.le_succ _) (fun b o hb e => hsb.extBut b o (fun q => hb (q ▸ hM)) e)
      (rdLoc rfl hn hn' hsb F.fr.above (fun e => ng (.inl e)) (fun e => nb (.inl e)))) (by rw [hf]; rfl)
    exact F.stored hM hsb (Nat.le_succ _) p (.loc hk _ hn' (by simp)) (rdLoc rfl hn hn' hsb F.fr.above (fun e => ng (.inl e)) (fun e => nb (.inl e))) ⟨_, hn'⟩
      (fun n c hc => let ⟨v, hv⟩ := F.fr.cells n c hc; ⟨v, hv.sameBut hsb (F.fr.above n c hc)⟩) hτ
  · have hm := mem_of_lookup hc
    obtain ⟨v₀, hv₀⟩ := F.fr.cells _ _ hm
    have hM : Mut env c := .inr ⟨_, hm⟩
    refine wpAny_storeName_cell hf hk hc hv₀ fun h' hc' hsb => h _ ?_ (Nat.le_refl _) (fun b o hb e => hsb.extBut b o (fun q => hb (q ▸ hM)) e)
      (rdCell hc (F.fr.above _ _ hm) hsb F.fr.apart (fun e => ng (e ▸ hM)) (fun e => nb (e ▸ hM)))
    have := F.stored (h' := h') (tk := s.toks) hM hsb (Nat.le_refl _) p (.cell hk c hc hc') (rdCell hc (F.fr.above _ _ hm) hsb F.fr.apart (fun e => ng (e ▸ hM)) (fun e => nb (e ▸ hM)))
      (let ⟨m, hn⟩ := F.fr.ns; ⟨m, hn.sameBut hsb (Ne.symm (F.fr.above _ _ hm))⟩)
      (fun n c' hc2 => by
        by_cases q : c' = c
        · subst q; exact ⟨_, hc'⟩
        · obtain ⟨v, hv⟩ := F.fr.cells n c' hc2; exact ⟨v, hv.sameBut hsb q⟩) hτ
    exact this

variable (G A env) in
def S1 (σ : Asg) (τ : Own) (st : Stmt) (σ' : Asg) (τ' : Own) : Prop :=
  ∀ (s₀ : Shared) (g₀ : View) (g : View) (s : Shared) (E : Value → Shared → Prop), Fg G env s₀ g₀ σ τ g s →
    wpAny (model G.prog G.w) A (exec st env) (fun fl s' => fl = .next ∧ ∃ g', Fg G env s₀ g₀ σ' τ' g' s') E s
variable (G A env) in
def SN (σ : Asg) (τ : Own) (sts : List Stmt) (σ' : Asg) (τ' : Own) : Prop :=
  ∀ (s₀ : Shared) (g₀ : View) (g : View) (s : Shared) (E : Value → Shared → Prop), Fg G env s₀ g₀ σ τ g s →
    wpAny (model G.prog G.w) A (execs sts env) (fun fl s' => fl = .next ∧ ∃ g', Fg G env s₀ g₀ σ' τ' g' s') E s
variable (G A env) in
def SR (σ : Asg) (τ : Own) (sts : List Stmt) (P : VP) : Prop :=
  ∀ (s₀ : Shared) (g₀ : View) (g : View) (s : Shared) (E : Value → Shared → Prop), Fg G env s₀ g₀ σ τ g s →
    wpAny (model G.prog G.w) A (execs sts env) (fun fl s' => ∃ v, fl = .ret v ∧ Out G g₀ s₀ P v s') E s

theorem SN_nil : SN G A env σ τ [] σ τ := fun _ _ g _ _ F => wpAny_execs_nil ⟨rfl, g, F⟩
theorem SN_cons {σ1 : Asg} {τ1 : Own} {st : Stmt} {sts : List Stmt} (h : S1 G A env σ τ st σ1 τ1) (k : SN G A env σ1 τ1 sts σ' τ') : SN G A env σ τ (st :: sts) σ' τ' := fun s₀ g₀ g s E F =>
  wpAny_execs_cons (wpAny_mono (h s₀ g₀ g s E F) (fun fl s' ⟨e, g', F'⟩ => by subst e; exact k s₀ g₀ g' s' E F') fun _ _ x => x)
theorem SN_one {st : Stmt} (h : S1 G A env σ τ st σ' τ') : SN G A env σ τ [st] σ' τ' := SN_cons h SN_nil
theorem SR_cons {σ1 : Asg} {τ1 : Own} {st : Stmt} {sts : List Stmt} (h : S1 G A env σ τ st σ1 τ1) (k : SR G A env σ1 τ1 sts P) : SR G A env σ τ (st :: sts) P := fun s₀ g₀ g s E F =>
  wpAny_execs_cons (wpAny_mono (h s₀ g₀ g s E F) (fun fl s' ⟨e, g', F'⟩ => by subst e; exact k s₀ g₀ g' s' E F') fun _ _ x => x)
theorem SN_sub (h : ∀ q ∈ σ', q ∈ σ) {σ2 : Asg} {sts : List Stmt} (k : SN G A env σ' τ sts σ2 τ') : SN G A env σ τ sts σ2 τ' := fun s₀ g₀ g s E F => k s₀ g₀ g s E (F.sub h)
theorem SR_sub (h : ∀ q ∈ σ', q ∈ σ) {sts : List Stmt} (k : SR G A env σ' τ sts P) : SR G A env σ τ sts P := fun s₀ g₀ g s E F => k s₀ g₀ g s E (F.sub h)

theorem S1.sub {st : Stmt} {σ2 : Asg} (k : S1 G A env σ τ st σ' τ') (h : ∀ q ∈ σ2, q ∈ σ') : S1 G A env σ τ st σ2 τ' := fun s₀ g₀ g s E F =>
  wpAny_mono (k s₀ g₀ g s E F) (fun _ _ ⟨e, g', F'⟩ => ⟨e, g', F'.sub h⟩) fun _ _ x => x
/-- what an expression's outcome is for the whole call -/
theorem Fg.out (F : Fg G env s₀ g₀ σ τ g s) {v : Value} (h : Out G g s P v s') : Out G g₀ s₀ P v s' := by
  obtain ⟨g', S, p⟩ := h
  exact ⟨g', ⟨KeepsTrans F.keeps S.keeps, Nat.le_trans F.toks S.toks, F.le.trans S.le, S.bs, fun b o h => (S.new b o h).elim (F.new b o) fun z => .inr (noneOfKeeps F.keeps z)⟩, p⟩
theorem SR_ret {e : Expr} {pos : Pos} {rest : List Stmt} (h : EX G A env σ e P) : SR G A env σ τ (.Return (some e) pos :: rest) P := fun s₀ g₀ g s E F =>
  wpAny_execs_cons (wpAny_Return_some (wpAny_mono (h g s E F.ev) (fun v s' o => ⟨v, rfl, F.out o⟩) fun _ _ x => x))

theorem noSys {G : Gv} {h : Heap} {D : Addr} (W : Wd G h) (e : h.get? D = none) : D ≠ sysModules := fun q => by
  obtain ⟨o', e'⟩ := W.sysm
  rw [← q, e] at e'; cases e'
/-- the object under construction, read as if it were frozen -/
theorem Fg.fz {x : Str} {C : OP} (F : Fg G env s₀ g₀ σ (some (x, C)) g s) : ∃ gz, Ev G env gz s ((x, C.vp) :: σ) ∧ VLe g₀ gz ∧ (∀ b o, gz.ob b o → g₀.ob b o ∨ s₀.heap.get? b = none) := by
  obtain ⟨D, o, r, h1, h2, h3, h4, h5⟩ := F.own x C rfl
  refine ⟨VAdd g D o, ⟨F.ev.fn, ⟨?_, F.ev.bs.wd, F.ev.bs.tk, F.ev.bs.pos⟩, ?_⟩, F.le.trans (VAdd.le _ _ _), ?_⟩
  · rintro b o' (h | ⟨rfl, rfl⟩)
    · exact F.ev.bs.on b o' h
    · exact h1
  · intro y Q hq
    rcases List.mem_cons.mp hq with e | hq
    · cases e; exact ⟨_, r, D, o, rfl, noSys F.wd h3, VAdd.here _ _ _, C.mono (VAdd.le _ _ _) h5⟩
    · obtain ⟨u, r', q⟩ := F.ev.var y Q hq
      exact ⟨u, r', Q.mono (VAdd.le _ _ _) q⟩
  · rintro b o' (h | ⟨rfl, rfl⟩)
    · exact F.new b o' h
    · exact .inr h3
theorem SR_retOwn {x : Str} {C : OP} {e : Expr} {pos : Pos} {rest : List Stmt} (h : EX G A env ((x, C.vp) :: σ) e P) : SR G A env σ (some (x, C)) (.Return (some e) pos :: rest) P := fun s₀ g₀ g s E F => by
  obtain ⟨gz, ev, le, new⟩ := F.fz
  refine wpAny_execs_cons (wpAny_Return_some (wpAny_mono (h gz s E ev) (fun v s' ⟨g', S, p⟩ => ⟨v, rfl, g', ⟨KeepsTrans F.keeps S.keeps, Nat.le_trans F.toks S.toks, le.trans S.le, S.bs,
    fun b o h => (S.new b o h).elim (new b o) fun z => .inr (noneOfKeeps F.keeps z)⟩, p⟩) fun _ _ x => x))
/-- an expression that reads the object under construction and gives what lies in no view -/
theorem Fg.fzEX {x : Str} {C : OP} {e : Expr} {Z : Value → Shared → Prop} {E : Value → Shared → Prop} (F : Fg G env s₀ g₀ σ (some (x, C)) g s) (h : EX G A env ((x, C.vp) :: σ) e P) (fl : Flat P)
    (k : ∀ v s1, Stp G g s g s1 → P.p g v → Z v s1) : wpAny (model G.prog G.w) A (eval e env) Z E s := by
  obtain ⟨gz, ev, _, _⟩ := F.fz
  exact wpAny_mono (h gz s E ev) (fun v s1 ⟨g1, S, p⟩ => k v s1 (.same F.ev.bs S.keeps S.toks) (fl _ _ _ p)) fun _ _ x => x

theorem assignTail {M : Model} {E : Value → Shared → Prop} {x : Str} {v : Value} (F : Fg G env s₀ g₀ σ τ g s) (hk : Kd env x) (p : P.p g v) (hσ : σ' = (x, P) :: del x σ) (hτ : ∀ y C, τ' = some (y, C) → τ = some (y, C) ∧ y ≠ x) :
    wpAny M A (storeName env x v) (fun _ s' => (Flow.next : Flow) = .next ∧ ∃ g', Fg G env s₀ g₀ σ' τ' g' s') E s :=
  F.store (τ' := τ') hk p hτ fun s' F' _ _ _ => ⟨rfl, g, hσ ▸ F'⟩
theorem S1_assign {x : Str} {e : Expr} {pos pos' : Pos} (h : EX G A env σ e P) (hk : Kd env x) (hσ : σ' = (x, P) :: del x σ) (hτ : ∀ y C, τ' = some (y, C) → τ = some (y, C) ∧ y ≠ x)
    (hs : swapsWith e (some (.Name x pos')) pos.line env = pure false := by rfl) : S1 G A env σ τ (.Assign [.Name x pos'] e pos) σ' τ' := fun s₀ g₀ g s E F =>
  wpAny_Assign_Name (h.then F.ev fun v g1 s1 G1 _ p => wpAny_mono (assignTail (F.step G1) hk p hσ hτ) (fun _ _ x => x) fun _ _ x => x) hs
theorem S1_assignZ {x y : Str} {C : OP} {e : Expr} {pos pos' : Pos} (h : EX G A env ((y, C.vp) :: σ) e P) (fl : Flat P) (hk : Kd env x) (hσ : σ' = (x, P) :: del x σ) (hyx : y ≠ x)
    (hs : swapsWith e (some (.Name x pos')) pos.line env = pure false := by rfl) : S1 G A env σ (some (y, C)) (.Assign [.Name x pos'] e pos) σ' (some (y, C)) := fun s₀ g₀ g s E F =>
  wpAny_Assign_Name (F.fzEX h fl fun v s1 G1 p => wpAny_mono (assignTail (F.step G1) hk p hσ fun _ _ e => by cases e; exact ⟨rfl, hyx⟩) (fun _ _ x => x) fun _ _ x => x) hs
end
end Mine

end

section
open PySem PySem.W PyProof.Rows
set_option linter.unusedVariables false
namespace Mine
section
variable {G : Gv} {A : Around} {env : Env} {σ σ' : Asg} {τ τ' : Own} {P Q R : VP} {α β : Type} {s₀ s s' : Shared} {g₀ g g' : View}

theorem RD.unique {h : Heap} {x : Str} {v u : Value} (a : RD env h x v) (b : RD env h x u) : v = u := by
  cases a with
  | loc hk m hn hm =>
    cases b with
    | loc hk' m' hn' hm' => have := nsUnique hn hn'; subst this; rw [hm] at hm'; cases hm'; rfl
    | cell hk' => rw [hk] at hk'; cases hk'
    | glob hk' => rw [hk] at hk'; cases hk'
    | blt hk' => rw [hk] at hk'; cases hk'
  | cell hk c hc hv =>
    cases b with
    | loc hk' => rw [hk] at hk'; cases hk'
    | cell hk' c' hc' hv' =>
      rw [hc] at hc'; cases hc'
      obtain ⟨o, e1, e2⟩ := hv
      obtain ⟨o', e1', e2'⟩ := hv'
      rw [e1] at e1'; cases e1'
      rw [e2] at e2'; cases e2'; rfl
    | glob hk' => rw [hk] at hk'; cases hk'
    | blt hk' => rw [hk] at hk'; cases hk'
  | glob hk m hn hm =>
    cases b with
    | loc hk' => rw [hk] at hk'; cases hk'
    | cell hk' => rw [hk] at hk'; cases hk'
    | glob hk' m' hn' hm' => have := nsUnique hn hn'; subst this; rw [hm] at hm'; cases hm'; rfl
    | blt hk' m' hn' hm' => have := nsUnique hn hn'; subst this; rw [hm] at hm'; cases hm'
  | blt hk m hn hm mb hb hv =>
    cases b with
    | loc hk' => rw [hk] at hk'; cases hk'
    | cell hk' => rw [hk] at hk'; cases hk'
    | glob hk' m' hn' hm' => have := nsUnique hn hn'; subst this; rw [hm] at hm'; cases hm'
    | blt hk' m' hn' hm' mb' hb' hv' => have := nsUnique hb hb'; subst this; rw [hv] at hv'; cases hv'; rfl

/-- an object of an iterator: it stands apart from all that the frame speaks of -/
structure Dis (env : Env) (s₀ : Shared) (g : View) (s : Shared) (τ : Own) (b : Addr) : Prop where
  h0 : s₀.heap.get? b = none
  nmut : ¬ Mut env b
  ob : ∀ o, ¬ g.ob b o
  ex : ∃ o, s.heap.get? b = some o
  own : ∀ x C, τ = some (x, C) → ¬ RD env s.heap x (.ref b)

theorem Fg.moved {h1 : Heap} {tk : Tok} {wr : List Addr} (F : Fg G env s₀ g₀ σ τ g s) (hd : ∀ b ∈ wr, Dis env s₀ g s τ b) (k : ∀ b o, b ∉ wr → s.heap.get? b = some o → h1.get? b = some o) (ht : s.toks ≤ tk) :
    Fg G env s₀ g₀ σ τ g { s with heap := h1, toks := tk } ∧ (∀ x v, RD env s.heap x v → RD env h1 x v) := by
  obtain ⟨ng, nb⟩ := glNe F
  have kM : ∀ b, Mut env b → ∀ o, s.heap.get? b = some o → h1.get? b = some o := fun b hb o e => k b o (fun q => (hd b q).nmut hb) e
  have k0 : ∀ b o, s₀.heap.get? b = some o → h1.get? b = some o := fun b o e => k b o (fun q => by rw [(hd b q).h0] at e; cases e) (KeepsHeap F.keeps b o e)
  have kG : ∀ b, (∃ o, s₀.heap.get? b = some o) → ∀ o, s.heap.get? b = some o → h1.get? b = some o := fun b ⟨o', e'⟩ o e => k b o (fun q => by rw [(hd b q).h0] at e'; cases e') e
  have nsAt : ∀ {a : Addr} {m : Str → Option Value}, (∀ o, s.heap.get? a = some o → h1.get? a = some o) → s.heap.Ns a m → h1.Ns a m := fun f hn => hn.at' f
  have rd : ∀ x v, RD env s.heap x v → RD env h1 x v := by
    intro x v r
    cases r with
    | loc hk m hn hm => exact .loc hk m (nsAt (kM _ (.inl rfl)) hn) hm
    | cell hk c hc hv => exact .cell hk c hc (let ⟨o, e, d⟩ := hv; ⟨o, kM c (.inr ⟨_, mem_of_lookup hc⟩) o e, d⟩)
    | glob hk m hn hm => exact .glob hk m (nsAt (kG _ F.fr.gl) hn) hm
    | blt hk m hn hm mb hb hv => exact .blt hk m (nsAt (kG _ F.fr.gl) hn) hm mb (nsAt (kG _ F.fr.bl) hb) hv
  obtain ⟨hh, tt, hs, _⟩ := F.keeps
  refine ⟨⟨⟨F.ev.fn, ⟨fun b o h => k b o (fun q => (hd b q).ob o h) (F.ev.bs.on b o h), F.wd.keeps k0, Nat.le_trans F.ev.bs.tk ht, F.ev.bs.pos⟩, fun y Q hq => ?_⟩, F.wd, ⟨h1, tk, by rw [hs], k0⟩, Nat.le_trans F.toks ht, F.le, F.new,
    ⟨let ⟨m, hn⟩ := F.fr.ns; ⟨m, nsAt (kM _ (.inl rfl)) hn⟩, fun n c hc => let ⟨v, o, e, d⟩ := F.fr.cells n c hc; ⟨v, o, kM c (.inr ⟨n, hc⟩) o e, d⟩, F.fr.out, F.fr.apart, F.fr.above, F.fr.gl, F.fr.bl⟩, fun y C e => ?_⟩, rd⟩
  · obtain ⟨u, r, q⟩ := F.ev.var y Q hq
    exact ⟨u, rd _ _ r, q⟩
  · obtain ⟨D, o, r, h1', h2, h3, h4, h5⟩ := F.own y C e
    exact ⟨D, o, rd _ _ r, k D o (fun q => (hd D q).own y C e r) h1', h2, h3, h4, h5⟩

def muts (env : Env) (l : List Addr) : List Addr := env.locals :: (env.cells.map (·.2) ++ l)
theorem mem_muts {b : Addr} {l : List Addr} : b ∈ muts env l ↔ Mut env b ∨ b ∈ l := by
  unfold muts Mut
  simp only [List.mem_cons, List.mem_append, List.mem_map, Prod.exists, exists_eq_right]
  constructor
  · rintro (h | h | h)
    · exact .inl (.inl h)
    · exact .inl (.inr h)
    · exact .inr h
  · rintro ((h | h) | h)
    · exact .inl h
    · exact .inr (.inl h)
    · exact .inr (.inr h)
/-- the same frame, seen from now on: all that it does not change itself is kept -/
theorem Fg.rebase (F : Fg G env s₀ g₀ σ τ g s) : ∃ s1, Fg G env s1 g σ τ g s ∧ (∀ b o, ¬ Mut env b → (∀ x C, τ = some (x, C) → ¬ RD env s.heap x (.ref b)) → s.heap.get? b = some o → s1.heap.get? b = some o) ∧
    ∀ σ2 τ2 g2 s2, Fg G env s1 g σ2 τ2 g2 s2 → Fg G env s₀ g₀ σ2 τ2 g2 s2 := by
  have key : ∃ l : List Addr, (∀ D ∈ l, s₀.heap.get? D = none ∧ (∀ o, ¬ g.ob D o) ∧ ∃ x C, τ = some (x, C) ∧ RD env s.heap x (.ref D)) ∧ (∀ x C, τ = some (x, C) → ∃ D ∈ l, ∃ o, RD env s.heap x (.ref D) ∧ s.heap.get? D = some o ∧ ¬ Mut env D ∧ C.p g o) := by
    cases hτ : τ with
    | none => exact ⟨[], ⟨fun D h => absurd h (by simp), fun x C e => by cases e⟩⟩
    | some q =>
      obtain ⟨x, C⟩ := q
      obtain ⟨D, o, r, h1, h2, h3, h4, h5⟩ := F.own x C hτ
      exact ⟨[D], fun D' h => by obtain rfl : D' = D := by simpa using h
                                 exact ⟨h3, h2, x, C, rfl, r⟩, fun y C' e => by cases e; exact ⟨D, by simp, o, r, h1, h4, h5⟩⟩
  obtain ⟨l, l1, l2⟩ := key
  have none0 : ∀ b ∈ muts env l, s₀.heap.get? b = none ∧ ∀ o, ¬ g.ob b o := fun b hb => (mem_muts.mp hb).elim (fun h => F.fr.out b h) fun h => ⟨(l1 b h).1, (l1 b h).2.1⟩
  have up : ∀ b o, s₀.heap.get? b = some o → (hideAll s.heap (muts env l)).get? b = some o := fun b o e => hideAll_get _ (KeepsHeap F.keeps b o e) fun q => by rw [(none0 b q).1] at e; cases e
  obtain ⟨hh, tt, hs, _⟩ := F.keeps
  refine ⟨{ s with heap := hideAll s.heap (muts env l) }, ⟨F.ev, F.wd.keeps up, ⟨s.heap, s.toks, rfl, fun b o e => of_hideAll _ e⟩, Nat.le_refl _, VLe.refl g, fun b o h => .inl h,
    ⟨F.fr.ns, F.fr.cells, fun b hb => ⟨hideAll_none _ (mem_muts.mpr (.inl hb)), (F.fr.out b hb).2⟩, F.fr.apart, F.fr.above, let ⟨o, e⟩ := F.fr.gl; ⟨o, up _ _ e⟩, let ⟨o, e⟩ := F.fr.bl; ⟨o, up _ _ e⟩⟩, fun x C e => ?_⟩, ?_, ?_⟩
  · obtain ⟨D, hD, o, r, h1, h4, h5⟩ := l2 x C e
    exact ⟨D, o, r, h1, (none0 D (mem_muts.mpr (.inr hD))).2, hideAll_none _ (mem_muts.mpr (.inr hD)), h4, h5⟩
  · intro b o hm ho e
    refine hideAll_get _ e fun q => ?_
    rcases mem_muts.mp q with q | q
    · exact hm q
    · obtain ⟨_, _, x, C, e1, r⟩ := l1 b q
      exact ho x C e1 r
  · intro σ2 τ2 g2 s2 F2
    have dn : ∀ b, (hideAll s.heap (muts env l)).get? b = none → s₀.heap.get? b = none := fun b e => by
      cases q : s₀.heap.get? b with
      | none => rfl
      | some o => rw [up b o q] at e; cases e
    have K0 : Keeps s₀ { s with heap := hideAll s.heap (muts env l) } := ⟨_, s.toks, by rw [hs], up⟩
    exact ⟨F2.ev, F.wd, KeepsTrans K0 F2.keeps, Nat.le_trans F.toks F2.toks, F.le.trans F2.le, fun b o h => (F2.new b o h).elim (F.new b o) fun z => .inr (dn b z),
      ⟨F2.fr.ns, F2.fr.cells, fun b hb => ⟨(F.fr.out b hb).1, (F2.fr.out b hb).2⟩, F.fr.apart, F.fr.above, F.fr.gl, F.fr.bl⟩,
      fun x C e => let ⟨D, o, r, h1, h2, h3, h4, h5⟩ := F2.own x C e; ⟨D, o, r, h1, h2, dn D h3, h4, h5⟩⟩

theorem S1_ifT {t : Expr} {b o : List Stmt} {pos : Pos} (ht : TX G A env σ t true) (h : SN G A env σ τ b σ' τ') : S1 G A env σ τ (.If t b o pos) σ' τ' := fun s₀ g₀ g s E F =>
  wpAny_If (ht.then F.ev fun g1 s1 G1 _ => by rw [if_pos rfl]; exact h s₀ g₀ g1 s1 E (F.step G1))
theorem S1_ifF {t : Expr} {b o : List Stmt} {pos : Pos} (ht : TX G A env σ t false) (h : SN G A env σ τ o σ' τ') : S1 G A env σ τ (.If t b o pos) σ' τ' := fun s₀ g₀ g s E F =>
  wpAny_If (ht.then F.ev fun g1 s1 G1 _ => by rw [if_neg (by simp)]; exact h s₀ g₀ g1 s1 E (F.step G1))
theorem Fg.fzTX {x : Str} {C : OP} {e : Expr} {b : Bool} {Z : Bool → Shared → Prop} {E : Value → Shared → Prop} (F : Fg G env s₀ g₀ σ (some (x, C)) g s) (h : TX G A env ((x, C.vp) :: σ) e b)
    (k : ∀ s1, Stp G g s g s1 → Z b s1) : wpAny (model G.prog G.w) A (isTrue e env (eval e env)) Z E s := by
  obtain ⟨gz, ev, _, _⟩ := F.fz
  exact wpAny_mono (h gz s E ev) (fun c s1 ⟨hc, g1, S⟩ => by subst hc; exact k s1 (.same F.ev.bs S.keeps S.toks)) fun _ _ x => x
theorem S1_ifTZ {x : Str} {C : OP} {t : Expr} {b o : List Stmt} {pos : Pos} (ht : TX G A env ((x, C.vp) :: σ) t true) (h : SN G A env σ (some (x, C)) b σ' τ') : S1 G A env σ (some (x, C)) (.If t b o pos) σ' τ' := fun s₀ g₀ g s E F =>
  wpAny_If (F.fzTX ht fun s1 G1 => by rw [if_pos rfl]; exact h s₀ g₀ g s1 E (F.step G1))
theorem S1_ifFZ {x : Str} {C : OP} {t : Expr} {b o : List Stmt} {pos : Pos} (ht : TX G A env ((x, C.vp) :: σ) t false) (h : SN G A env σ (some (x, C)) o σ' τ') : S1 G A env σ (some (x, C)) (.If t b o pos) σ' τ' := fun s₀ g₀ g s E F =>
  wpAny_If (F.fzTX ht fun s1 G1 => by rw [if_neg (by simp)]; exact h s₀ g₀ g s1 E (F.step G1))

theorem S1_for {v : Str} {pv pos : Pos} {iter : Expr} {body : List Stmt} {R : α → VP} {xs : List α} (S : Nat → Asg) (T : Nat → Own) (hi : IX G A env σ iter R xs) (hv : Kd env v)
    (h0 : ∀ q ∈ S 0, q ∈ σ) (hT0 : T 0 = τ) (hTv : ∀ i y C, T i = some (y, C) → y ≠ v)
    (hb : ∀ i x, xs[i]? = some x → SN G A env ((v, R x) :: del v (S i)) (T i) body (S (i + 1)) (T (i + 1)))
    (hs : ∀ x, foldedSetIterable iter env x = pure x := by intro _; rfl) : S1 G A env σ τ (.For (.Name v pv) iter body [] pos) (S xs.length) (T xs.length) := fun s₀ g₀ g s E F => by
  refine wpAny_For (wpAny_mono (hi g s E F.ev) (fun xv s1 h1 => wpAny_mono h1 (fun it s2 h2 => ?_) fun _ _ e => e) fun _ _ e => e) hs
  obtain ⟨g2, I, fp, wr, Pi, St, rfl, S2, K⟩ := h2
  have F2 := (F.step S2).sub h0
  have d2 : ∀ b ∈ wr, Dis env s₀ g2 s2 (T 0) b := fun b hb => by
    obtain ⟨w1, w2⟩ := K.wrs b hb
    refine ⟨noneOfKeeps F.keeps w1, fun hm => ?_, w2, K.ex _ _ K.start b hb, fun x C e r => ?_⟩
    · rcases hm with rfl | ⟨n, hm⟩
      · obtain ⟨m, o, _, _, e, _⟩ := F.fr.ns; rw [w1] at e; cases e
      · obtain ⟨v, o, e, _⟩ := F.fr.cells n b hm; rw [w1] at e; cases e
    · obtain ⟨D, o, r', e', _⟩ := F.own x C (hT0 ▸ e)
      have := (r'.keeps (KeepsHeap S2.keeps)).unique r
      cases this
      rw [w1] at e'; cases e'
  refine codeAny_forLoop (fun k s' => ∃ i g', i ≤ xs.length ∧ k = xs.length + 1 - i ∧ St i s'.heap ∧ VLe g2 g' ∧ Fg G env s₀ g₀ (S i) (T i) g' s' ∧ ∀ b ∈ wr, Dis env s₀ g' s' (T i) b) ?_ (xs.length + 1)
    ⟨0, g2, Nat.zero_le _, rfl, K.start, VLe.refl _, by rw [hT0]; exact F2, d2⟩
  rintro k s' ⟨i, g', hi', rfl, hst, hle, F', hd⟩
  by_cases hlt : i < xs.length
  · refine wpAny_with_toks (n := s'.toks) (Nat.le_refl _) (K.walks.item i _ _ _ hlt hst fun u h1 tk1 hP hst1 hk1 ht1 => ?_)
    obtain ⟨x, hx, px⟩ := K.item i u hP
    obtain ⟨F1, rd1⟩ := F'.moved hd hk1 ht1
    refine wpAny_assign_Name (F1.store (τ' := T i) hv ((R x).mono hle px) (fun y C e => ⟨e, hTv i y C e⟩) fun s3 F3 t3 k3 rd3 => ?_)
    obtain ⟨sb, Fb, kb, back⟩ := F3.rebase
    have own3 : ∀ b ∈ wr, ∀ y C, T i = some (y, C) → ¬ RD env s3.heap y (.ref b) := fun b hb y C e r => by
      obtain ⟨D, o, r', _⟩ := F'.own y C e
      have := (rd3 y _ (hTv i y C e) (rd1 _ _ r')).unique r
      cases this
      exact (hd _ hb).own y C e r'
    have ex1 : ∀ b ∈ wr, ∃ o, h1.get? b = some o := fun b hb => K.ex _ _ hst1 b hb
    have exb : ∀ b ∈ wr, ∀ o, h1.get? b = some o → sb.heap.get? b = some o := fun b hb o e => kb b o (hd b hb).nmut (own3 b hb) (k3 b o (hd b hb).nmut e)
    refine wpAny_with_toks (n := s3.toks) (Nat.le_refl _) (wpAny_mono (hb i x hx sb g' g' s3 _ Fb) (fun fl s4 ⟨efl, g4, F4⟩ t4 => ?_) fun _ _ e _ => e)
    subst efl
    refine ⟨xs.length + 1 - (i + 1), by omega, i + 1, g4, hlt, rfl, ?_, hle.trans F4.le, back _ _ _ _ F4, fun b hb => ?_⟩
    · refine K.walks.frame _ _ _ hst1 fun b hb o e => ?_
      rcases K.fps b hb with hw | ⟨o', ho'⟩
      · exact KeepsHeap F4.keeps b o (exb b hw o e)
      · have q1 := F1.ev.bs.on b o' (hle.ob b o' ho')
        have q2 := F4.ev.bs.on b o' (F4.le.ob b o' (hle.ob b o' ho'))
        rw [show h1.get? b = some o' from q1] at e; cases e; exact q2
    · obtain ⟨o, eo⟩ := ex1 b hb
      have eb := exb b hb o eo
      refine ⟨(hd b hb).h0, (hd b hb).nmut, fun o' h' => ?_, ⟨o, KeepsHeap F4.keeps b o eb⟩, fun y C e r => ?_⟩
      · rcases F4.new b o' h' with q | q
        · exact (hd b hb).ob o' q
        · rw [eb] at q; cases q
      · obtain ⟨D, o', r', _, _, hn, _⟩ := F4.own y C e
        have := r'.unique r
        cases this
        rw [eb] at hn; cases hn
  · obtain rfl : i = xs.length := by omega
    refine wpAny_with_toks (n := s'.toks) (Nat.le_refl _) (K.walks.done _ _ _ hst fun h1 tk1 hk1 ht1 => wpAny_execs_nil ⟨rfl, g', (F'.moved hd hk1 ht1).1⟩)
end
end Mine

end

section
open PySem PySem.W PyProof.Rows
set_option linter.unusedVariables false
namespace Mine
section
variable {G : Gv} {A : Around} {env : Env} {σ σ' : Asg} {τ τ' : Own} {P Q R : VP} {α β : Type} {s₀ s s' : Shared} {g₀ g g' : View}

/-- a list under construction -/
def oList (R : α → VP) (xs : List α) : OP :=
  ⟨fun g o => ∃ vs n, o = listObj vs n ∧ Paired (fun v x => (R x).p g v) vs xs, fun l ⟨vs, n, e, p⟩ => ⟨vs, n, e, PairedImp (fun _ _ q => (R _).mono l q) p⟩, fun ⟨_, _, e, _⟩ => by rw [e]; rfl⟩
theorem oList_vp {R : α → VP} {xs : List α} (g : View) (v : Value) (h : (oList R xs).vp.p g v) : (vList R xs).p g v := by
  obtain ⟨a, o, rfl, _, ho, vs, n, rfl, p⟩ := h; exact ⟨a, vs, n, rfl, ho, p⟩
/-- a name that holds a new object becomes the owner of what is under construction -/
theorem Fg.mkOwn {x : Str} {D : Addr} {o : Obj} {C : OP} (F : Fg G env s₀ g₀ ((x, vIs (.ref D)) :: σ) none g s) (hD : s.heap.get? D = some o) (hg : ∀ o, ¬ g.ob D o) (h0 : s₀.heap.get? D = none) (hm : ¬ Mut env D) (p : C.p g o) :
    Fg G env s₀ g₀ σ (some (x, C)) g s := by
  refine ⟨F.ev.sub fun q h => .tail _ h, F.wd, F.keeps, F.toks, F.le, F.new, F.fr, fun y C' e => ?_⟩
  cases e
  obtain ⟨v, r, hv⟩ := F.ev.var x _ (.head _)
  obtain rfl : v = .ref D := hv
  exact ⟨D, o, r, hD, hg, h0, hm, p⟩
theorem Fg.pushStore {M : Model} {E : Value → Shared → Prop} {x : Str} {o : Obj} {C : OP} (F : Fg G env s₀ g₀ σ τ g s) (hk : Kd env x) (hf : o.isFreed = false) (p : C.p g o) (hσ : σ' = del x σ) :
    wpAny M A (storeName env x (.ref s.heap.objs.size)) (fun _ s' => (Flow.next : Flow) = .next ∧ ∃ g', Fg G env s₀ g₀ σ' (some (x, C)) g' s') E { s with heap := s.heap.push o } := by
  have S := stpPush F.ev.bs o s.toks (Nat.le_refl _)
  have F1 := F.step S
  have hn : s.heap.get? s.heap.objs.size = none := fresh_none _
  have hmut : ¬ Mut env s.heap.objs.size := fun h => by
    rcases h with h | ⟨n, h⟩
    · obtain ⟨m, o', _, _, e, _⟩ := F.fr.ns; rw [← h, hn] at e; cases e
    · obtain ⟨v, o', e, _⟩ := F.fr.cells n _ h; rw [hn] at e; cases e
  refine F1.store (τ' := none) (P := vIs (.ref s.heap.objs.size)) hk rfl (fun _ _ e => nomatch e) fun s' F2 _ k2 _ => ⟨rfl, g, ?_⟩
  rw [hσ]
  exact F2.mkOwn (k2 _ _ hmut (Heap.get?_push_size _ hf)) (notOb F.ev.bs hn) (noneOfKeeps F.keeps hn) hmut p
theorem S1_ownList {x : Str} {es : List Expr} {R : α → VP} {xs : List α} {pos pos' lpos : Pos} (h : AX G A env σ es (xs.map R)) (hk : Kd env x) (hσ : σ' = del x σ) (hz : xs.length ≤ sizeLine := by decide)
    (hs : swapsWith (.List es lpos) (some (.Name x pos')) pos.line env = pure false := by rfl) : S1 G A env σ τ (.Assign [.Name x pos'] (.List es lpos) pos) σ' (some (x, oList R xs)) := fun s₀ g₀ g s E F => by
  refine wpAny_Assign_Name ?_ hs
  rw [arm_eval_List]
  refine wpAny_bind (wpAny_standAt (wpAny_bind (wpAny_mono (h lpos g s E F.ev) (fun vs s1 ⟨g1, G1, q⟩ => ?_) fun _ _ x => x)))
  have hl : vs.length = xs.length := by rw [q.length, List.length_map]
  refine wpAny_newObj_type (hd := by show vs.toArray.size ≤ sizeLine; rw [List.size_toArray, hl]; omega) ?_
  exact (F.step G1).pushStore (C := oList R xs) hk rfl ⟨vs, 0, rfl, PairedMap q⟩ hσ
/-- the object under construction turned; all else stands -/
theorem Fg.ownStep {x : Str} {C C' : OP} {D : Addr} {o' : Obj} {h' : Heap} {tk : Tok} (F : Fg G env s₀ g₀ σ (some (x, C)) g s) (r : RD env s.heap x (.ref D)) (hsb : Heap.SameBut D s.heap h') (hD : h'.get? D = some o') (ht : s.toks ≤ tk) (p : C'.p g o') :
    Fg G env s₀ g₀ σ (some (x, C')) g { s with heap := h', toks := tk } := by
  obtain ⟨D', o, r', h1, h2, h3, h4, h5⟩ := F.own x C rfl
  obtain rfl : D = D' := by have := r.unique r'; cases this; rfl
  have kk : ∀ b o, b ≠ D → s.heap.get? b = some o → h'.get? b = some o := fun b o hb e => hsb.extBut b o hb e
  have k0 : ∀ b o, s₀.heap.get? b = some o → h'.get? b = some o := fun b o e => kk b o (fun q => by rw [q, h3] at e; cases e) (KeepsHeap F.keeps b o e)
  obtain ⟨ng, nb⟩ := glNe F
  have gne : env.globals ≠ D := fun q => by obtain ⟨o, e⟩ := F.fr.gl; rw [q, h3] at e; cases e
  have bne : env.builtins ≠ D := fun q => by obtain ⟨o, e⟩ := F.fr.bl; rw [q, h3] at e; cases e
  have mne : ∀ b, Mut env b → b ≠ D := fun b hb q => h4 (q ▸ hb)
  have rd : ∀ x v, RD env s.heap x v → RD env h' x v := by
    intro x v r
    cases r with
    | loc hk m hn hm => exact .loc hk m (hn.sameBut hsb (mne _ (.inl rfl))) hm
    | cell hk c hc hv => exact .cell hk c hc (hv.sameBut hsb (mne _ (.inr ⟨_, mem_of_lookup hc⟩)))
    | glob hk m hn hm => exact .glob hk m (hn.sameBut hsb gne) hm
    | blt hk m hn hm mb hb hv => exact .blt hk m (hn.sameBut hsb gne) hm mb (hb.sameBut hsb bne) hv
  obtain ⟨hh, tt, hs, _⟩ := F.keeps
  exact ⟨⟨F.ev.fn, ⟨fun b o h => kk b o (fun q => h2 o (q ▸ h)) (F.ev.bs.on b o h), F.wd.keeps k0, Nat.le_trans F.ev.bs.tk ht, F.ev.bs.pos⟩, fun y Q hq => let ⟨u, r, q⟩ := F.ev.var y Q hq; ⟨u, rd _ _ r, q⟩⟩, F.wd, ⟨h', tk, by rw [hs], k0⟩,
    Nat.le_trans F.toks ht, F.le, F.new, ⟨let ⟨m, hn⟩ := F.fr.ns; ⟨m, hn.sameBut hsb (mne _ (.inl rfl))⟩, fun n c hc => let ⟨v, hv⟩ := F.fr.cells n c hc; ⟨v, hv.sameBut hsb (mne _ (.inr ⟨n, hc⟩))⟩, F.fr.out, F.fr.apart, F.fr.above, F.fr.gl, F.fr.bl⟩,
    fun y C'' e => by cases e; exact ⟨D, o', rd _ _ r, hD, h2, h3, h4, p⟩⟩
theorem S1_append {x : Str} {R : α → VP} {xs : List α} {y : α} {e : Expr} {p1 apos cpos epos : Pos} (h : EX G A env ((x, (oList R xs).vp) :: σ) e (R y)) (fl : Flat (R y)) (hz : xs.length < sizeLine)
    (hi : interactive env = false := by rfl) (hs : swapsWith (.Call (.Attribute (.Name x p1) "append" apos) [e] [] cpos) none epos.line env = pure false := by rfl)
    (hbase : attributeBase (.Name x p1) "append" env (eval (.Name x p1) env) = eval (.Name x p1) env := by rfl)
    (hfew : ((backTo cpos (starEach [e] env)).all (fun x => !x.1) && (backToKw cpos (keywordEach [] env)).all (fun x => x.1.isSome)
      && decide (([e] : List Expr).length + ([] : List Keyword).length + (if ([] : List Keyword).isEmpty then 0 else 1) < 30)) = true := by rfl)
    (hline : (apos.endLine == cpos.line) = true := by rfl) (he : starEach [e] env = [(false, eval e env)] := by rfl) (hd : (x == ("__debug__" : Str)) = false := by decide) :
    S1 G A env σ (some (x, oList R xs)) (.Expr (.Call (.Attribute (.Name x p1) "append" apos) [e] [] cpos) epos) σ (some (x, oList R (xs ++ [y]))) := fun s₀ g₀ g s E F => by
  refine wpAny_Expr (wpAny_Call_method_late hbase hfew hline rfl ?_) hi hs
  obtain ⟨D, o, r, h1, h2, h3, h4, h5⟩ := F.own x _ rfl
  refine wpAny_Name (r.load F.ev.fn ?_) hd
  have h5' := h5
  obtain ⟨vs, n, rfl, pa⟩ := h5'
  refine ⟨"list", _, PySem.F.plainAttrs_list, PySem.F.slot_list_append, PySem.F.type_list_append, ⟨_, h1, rfl⟩, fun a e => by cases e; exact ⟨_, h1, rfl⟩, ?_⟩
  rw [show backTo cpos (starEach [e] env) = [(false, eval e env)] by rw [he]; rfl]
  refine Calls.callWith_builtin rfl (Calls.evalArgs_plain (Calls.spliced_cons (F.fzEX h fl fun v s1 G1 pv => Calls.spliced_nil ?_)))
  have F1 := F.step G1
  have h1' := KeepsHeap G1.keeps _ _ h1
  have hpl : s1.heap.PlainList D vs.toArray := ⟨n, h1'⟩
  refine wpAny_list_append_plain hpl (fun h' hl' hsb => ?_) (by rw [List.size_toArray, pa.length]; omega)
  obtain ⟨n', hl'⟩ := hl'
  have ho : (⟨.type "list", none, .seq (vs.toArray.push v) n', #[]⟩ : Obj) = listObj (vs ++ [v]) n' := by simp [listObj]
  exact ⟨rfl, g, F1.ownStep (C' := oList R (xs ++ [y])) (r.keeps (KeepsHeap G1.keeps)) hsb (ho ▸ hl') (Nat.le_refl _) ⟨vs ++ [v], n', rfl, PairedAppend pa (.cons pv .nil)⟩⟩

-- dicts of strs to ints
def kvOk (a : Str × Value) (b : Str × Int) : Prop := a.1 = b.1 ∧ ∃ t, a.2 = .int b.2 t
def oDict (G : Gv) (kvs : List (Str × Int)) : OP :=
  ⟨fun _ o => ∃ l, o.IsDictOf (PySem.strKind G.prog G.w) l ∧ Paired kvOk l kvs, fun _ h => h, fun ⟨l, ⟨es, ep, _, hd, _⟩, _⟩ => Obj.isFreed_of_dict hd⟩
def vDict (G : Gv) (kvs : List (Str × Int)) : VP := (oDict G kvs).vp
end
end Mine

end

section
open PySem PySem.W PyProof.Rows
set_option linter.unusedVariables false
namespace Mine
section
variable {G : Gv} {A : Around} {env : Env} {σ σ' : Asg} {τ τ' : Own} {P Q R : VP} {α β : Type} {s₀ s s' : Shared} {g₀ g g' : View}

/-- a plain def of the text's top -/
structure DefOf (G : Gv) (a : Addr) (fd : FuncData) (body : List Stmt) : Prop where
  ob : ∃ o, G.K.lookup a = some o ∧ o.data = .func fd
  code : codeIn G.K fd.code fd.qualname = true
  body : fd.body = .stmts body
  clo : fd.closure = []
  gl : fd.globals = mainGlobals
  bl : fd.builtins = builtinsNs
  co : fd.scope.isCoroutine = false
  gen : fd.scope.isGenerator = false
  kind : fd.scope.kind = .function
  nod : (fd.scope.names.map (·.1)).Nodup

theorem cellsFrom_mem : ∀ (names : List (Str × NameKind)) (n : Nat) (acc : List (Str × Addr)) (q : Str × Addr), q ∈ cellsFrom n names acc → q ∈ acc ∨ q.1 ∈ names.map (·.1)
  | [], _, _, _, h => .inl h
  | (name, kind) :: r, n, acc, q, h => by
    unfold cellsFrom at h
    split at h
    · rcases cellsFrom_mem r _ _ q h with h | h
      · rcases List.mem_cons.mp h with e | h
        · exact .inr (by rw [e]; simp)
        · exact .inl h
      · exact .inr (by simp only [List.map_cons, List.mem_cons]; exact .inr h)
    · rcases cellsFrom_mem r _ _ q h with h | h
      · exact .inl h
      · exact .inr (by simp only [List.map_cons, List.mem_cons]; exact .inr h)
theorem cellsFrom_nod : ∀ (names : List (Str × NameKind)) (n : Nat) (acc : List (Str × Addr)), (names.map (·.1)).Nodup → (acc.map (·.1)).Nodup → (∀ q ∈ acc, q.1 ∉ names.map (·.1)) → ((cellsFrom n names acc).map (·.1)).Nodup
  | [], _, _, _, h, _ => h
  | (name, kind) :: r, n, acc, h1, h2, h3 => by
    unfold cellsFrom
    simp only [List.map_cons, List.nodup_cons] at h1
    have h3' : ∀ q ∈ acc, q.1 ∉ r.map (·.1) := fun q hq h => h3 q hq (by simp only [List.map_cons, List.mem_cons]; exact .inr h)
    split
    · refine cellsFrom_nod r _ _ h1.2 ?_ ?_
      · simp only [List.map_cons, List.nodup_cons]
        refine ⟨fun h => ?_, h2⟩
        obtain ⟨q, hq, e⟩ := List.mem_map.mp h
        exact h3 q hq (by rw [e]; simp)
      · intro q hq
        rcases List.mem_cons.mp hq with e | hq
        · rw [e]; exact h1.1
        · exact h3' q hq
    · exact cellsFrom_nod r _ _ h1.2 h2 h3'
theorem lookup_of_nod {β : Type} : ∀ {l : List (Str × β)} {n : Str} {c : β}, (l.map (·.1)).Nodup → (n, c) ∈ l → l.lookup n = some c
  | [], _, _, _, h => nomatch h
  | (m, d) :: r, n, c, hn, h => by
    simp only [List.map_cons, List.nodup_cons] at hn
    rcases List.mem_cons.mp h with e | h
    · cases e; simp [List.lookup]
    · have : n ≠ m := fun e => hn.1 (e ▸ List.mem_map.mpr ⟨_, h, rfl⟩)
      rw [List.lookup, beq_false_of_ne this]
      exact lookup_of_nod hn.2 h
theorem cellsFrom_has : ∀ (names : List (Str × NameKind)) (n : Nat) (acc : List (Str × Addr)) (x : Str), (names.lookup x = some .cell ∨ (acc.lookup x).isSome = true) → ((cellsFrom n names acc).lookup x).isSome = true
  | [], _, _, x, h => h.elim (fun e => nomatch e) id
  | (name, kind) :: r, n, acc, x, h => by
    unfold cellsFrom
    by_cases e : x = name
    · subst e
      split
      · exact cellsFrom_has r _ _ x (.inr (by simp [List.lookup]))
      · rename_i hk
        refine cellsFrom_has r _ _ x (h.imp (fun q => ?_) id)
        rw [List.lookup, beq_self_eq_true] at q
        cases q
        exact absurd rfl hk
    · have hb : (x == name) = false := beq_false_of_ne e
      have h' : r.lookup x = some .cell ∨ (acc.lookup x).isSome = true := by
        rwa [List.lookup, hb] at h
      split
      · exact cellsFrom_has r _ _ x (h'.imp id fun q => by rw [List.lookup, hb]; exact q)
      · exact cellsFrom_has r _ _ x h'

theorem bindL_not {kindOf : Str → Option NameKind} {x : Str} : ∀ {binds : List (Str × Value)} {m : Str → Option Value}, x ∉ binds.map (·.1) → bindL kindOf binds m x = m x
  | [], _, _ => rfl
  | (n, v) :: r, m, h => by
    simp only [List.map_cons, List.mem_cons, not_or] at h
    unfold bindL
    rw [bindL_not h.2]
    split
    · simp [h.1]
    · rfl
theorem bindC_not {kindOf : Str → Option NameKind} {x : Str} : ∀ {binds : List (Str × Value)} {m : Str → Option Value}, x ∉ binds.map (·.1) → bindC kindOf binds m x = m x
  | [], _, _ => rfl
  | (n, v) :: r, m, h => by
    simp only [List.map_cons, List.mem_cons, not_or] at h
    unfold bindC
    rw [bindC_not h.2]
    split
    · rfl
    · simp [h.1]
theorem bindL_has {kindOf : Str → Option NameKind} {x : Str} {v : Value} (hk : kindOf x = some .local) : ∀ {binds : List (Str × Value)} {m : Str → Option Value}, (binds.map (·.1)).Nodup → (x, v) ∈ binds → bindL kindOf binds m x = some v
  | [], _, _, h => nomatch h
  | (n, u) :: r, m, hn, h => by
    simp only [List.map_cons, List.nodup_cons] at hn
    unfold bindL
    rcases List.mem_cons.mp h with e | h
    · cases e
      rw [bindL_not hn.1, if_pos hk]; simp
    · exact bindL_has hk hn.2 h
theorem bindC_has {kindOf : Str → Option NameKind} {x : Str} {v : Value} (hk : kindOf x = some .cell) : ∀ {binds : List (Str × Value)} {m : Str → Option Value}, (binds.map (·.1)).Nodup → (x, v) ∈ binds → bindC kindOf binds m x = some v
  | [], _, _, h => nomatch h
  | (n, u) :: r, m, hn, h => by
    simp only [List.map_cons, List.nodup_cons] at hn
    unfold bindC
    rcases List.mem_cons.mp h with e | h
    · cases e
      rw [bindC_not hn.1, if_neg (by rw [hk]; decide)]; simp
    · exact bindC_has hk hn.2 h

/-- a global name of the text, as a def's frame reads it -/
def GlOk (G : Gv) (fd : FuncData) (q : Str × Value) : Prop := fd.scope.names.lookup q.1 = some .globalImplicit ∧ (G.mg q.1 = some q.2 ∨ (G.mg q.1 = none ∧ G.mb q.1 = some q.2))
def glv (q : Str × Value) : Str × VP := (q.1, vIs q.2)

theorem fmZip {l : List (Str × Value)} : ∀ {r : List (Str × Value)}, (∀ q ∈ r, l.lookup q.1 = some q.2) → (r.map (·.1)).filterMap (fun n => (l.lookup n).map (n, ·)) = r
  | [], _ => rfl
  | q :: r, h => by
    simp only [List.map_cons, List.filterMap_cons, h q (.head _), Option.map_some]
    rw [fmZip fun q' hq => h q' (.tail _ hq)]
theorem fiZip {l : List (Str × Value)} : ∀ {r : List (Str × Value)}, (∀ q ∈ r, l.lookup q.1 = some q.2) → (r.map (·.1)).filter (fun n => (l.lookup n).isNone) = []
  | [], _ => rfl
  | q :: r, h => by
    simp only [List.map_cons, List.filter_cons, h q (.head _), Option.isNone_some]
    exact fiZip fun q' hq => h q' (.tail _ hq)
theorem bindPlain {fd : FuncData} {xs : List Str} {vs : List Value} (h1 : fd.params.posonlyargs = []) (h2 : fd.params.args.map (·.arg) = xs) (h3 : fd.params.vararg = none) (h4 : fd.params.kwonlyargs = [])
    (h5 : fd.params.kwarg = none) (h6 : fd.defaults = .none) (hn : xs.Nodup) (hl : vs.length = xs.length) : bindArgs fd ⟨vs, []⟩ = pure (xs.zip vs) := by
  have hm : (xs.zip vs).map (·.1) = xs := by rw [List.map_fst_zip]; omega
  have hq : ∀ q ∈ xs.zip vs, (xs.zip vs).lookup q.1 = some q.2 := fun q h => lookup_of_nod (by rw [hm]; exact hn) h
  have e1 := fmZip hq
  have e2 := fiZip hq
  rw [hm] at e1 e2
  have hs : seqItems? fd.defaults = pure none := by rw [h6]; rfl
  unfold bindArgs
  simp [h1, h2, h3, h4, h5, hs, hl, e1, e2]
theorem zipMem {vs : List Value} {Ps : List VP} {g : View} {params : List Str} {x : Str} {P : VP} (h : Paired (fun v (x : VP) => x.p g v) vs Ps) (hm : (x, P) ∈ params.zip Ps) : ∃ v, (x, v) ∈ params.zip vs ∧ P.p g v := by
  induction h generalizing params with
  | nil => simp at hm
  | cons a t ih =>
    cases params with
    | nil => simp at hm
    | cons y r =>
      simp only [List.zip_cons_cons, List.mem_cons] at hm ⊢
      rcases hm with e | hm
      · cases e; exact ⟨_, .inl rfl, a⟩
      · obtain ⟨v, h1, h2⟩ := ih hm; exact ⟨v, .inr h1, h2⟩

theorem CX_def {a : Addr} {fd : FuncData} {body : List Stmt} (D : DefOf G a fd body) (hroom : A.depth < recursionLimit) (params : List Str) (Ps : List VP) (Γ : List (Str × Value))
    (hlen : params.length = Ps.length) (hnod : params.Nodup) (h1 : fd.params.posonlyargs = []) (h2 : fd.params.args.map (·.arg) = params) (h3 : fd.params.vararg = none) (h4 : fd.params.kwonlyargs = []) (h5 : fd.params.kwarg = none) (h6 : fd.defaults = .none)
    (hkind : ∀ x ∈ params, fd.scope.names.lookup x = some .local ∨ fd.scope.names.lookup x = some .cell) (hΓ : ∀ q ∈ Γ, GlOk G fd q)
    (hb : ∀ L, SR G (A.deeper (callEnvC fd L a)) (callEnvC fd L a) (params.zip Ps ++ Γ.map glv) none body R) : CX G A (.ref a) Ps R := fun g s E vs B pa => by
  obtain ⟨o, ho, hd⟩ := D.ob
  have ho' := B.wd.k a o ho
  have hvl : vs.length = params.length := by rw [pa.length, hlen]
  have hnz : ((params.zip vs).map (·.1)) = params := by
    rw [List.map_fst_zip]; omega
  refine wpAny_call (codeAny_call_function hroom ho' hd D.co D.gen D.body (codeRec_of B.wd.k D.code) ?_)
  rw [bindPlain h1 h2 h3 h4 h5 h6 hnod hvl, D.clo]
  refine wpAny_pure (wpAny_with_toks (n := s.toks) (Nat.le_refl _) (wpAny_newFunctionEnv_cells D.kind ?_ fun env he s1 x htk => ?_))
  · rintro ⟨y, v⟩ hy
    have hy' : y ∈ params := hnz ▸ List.mem_map.mpr ⟨_, hy, rfl⟩
    rcases hkind y hy' with h | h
    · exact .inl h
    · exact .inr ⟨h, cellsFrom_has _ _ _ _ (.inl h)⟩
  · subst he
    change InCallC s (callEnvC fd s.heap.objs.size a).locals (bindL (callEnvC fd s.heap.objs.size a).kindOf (params.zip vs) fun _ => none) (callEnvC fd s.heap.objs.size a).cells (bindC (callEnvC fd s.heap.objs.size a).kindOf (params.zip vs) fun _ => none) s1 at x
    refine ⟨B.wd.nolimit.keeps x.toInCall.keep, codeAny_func ?_⟩
    change wpAny _ (A.deeper (callEnvC fd s.heap.objs.size a)) (execs body (callEnvC fd s.heap.objs.size a)) _ _ s1
    have hb' := hb s.heap.objs.size
    have hge : (callEnvC fd s.heap.objs.size a).globals = mainGlobals := D.gl
    have hbe : (callEnvC fd s.heap.objs.size a).builtins = builtinsNs := D.bl
    have hko : ∀ x, (callEnvC fd s.heap.objs.size a).kindOf x = fd.scope.names.lookup x := fun _ => rfl
    have hkd : (callEnvC fd s.heap.objs.size a).scope.kind = .function := D.kind
    have hcn : ((callEnvC fd s.heap.objs.size a).cells.map (·.1)).Nodup := cellsFrom_nod _ _ _ D.nod (by simp) (by simp)
    have hch : ∀ y, fd.scope.names.lookup y = some .cell → ((callEnvC fd s.heap.objs.size a).cells.lookup y).isSome = true := fun y h => cellsFrom_has _ _ _ _ (.inl h)
    generalize callEnvC fd s.heap.objs.size a = env at x hb' hge hbe hko hkd hcn hch
    obtain ⟨h1, tk, rfl, hk1⟩ := x.done
    have K : Keeps s { s with heap := h1, toks := tk } := ⟨h1, tk, rfl, hk1⟩
    have S : Stp G g s g { s with heap := h1, toks := tk } := .same B K htk
    have nn : ∀ b, s.heap.objs.size ≤ b → s.heap.get? b = none := fun b hb => by
      cases e : s.heap.get? b with
      | none => rfl
      | some o => exact absurd (Heap.lt_size e) (Nat.not_lt.mpr hb)
    have F : Fg G env s g (params.zip Ps ++ Γ.map glv) none g { s with heap := h1, toks := tk } := by
      refine ⟨⟨hkd, S.bs, fun y Q hq => ?_⟩, B.wd, K, htk, VLe.refl g, fun _ _ h => .inl h, ⟨⟨_, x.toInCall.ns⟩, fun n c hc => ⟨_, x.cell n c (lookup_of_nod hcn hc)⟩, fun b hb => ?_, x.apart, fun n c hc => Nat.ne_of_gt (x.above n c hc), ?_, ?_⟩, fun _ _ e => nomatch e⟩
      · rcases List.mem_append.mp hq with hq | hq
        · obtain ⟨v, hv, pv⟩ := zipMem pa hq
          have hy' : y ∈ params := hnz ▸ List.mem_map.mpr ⟨_, hv, rfl⟩
          refine ⟨v, ?_, pv⟩
          rcases hkind y hy' with h | h
          · exact .loc ((hko y).trans h) _ x.toInCall.ns (bindL_has ((hko y).trans h) (by rw [hnz]; exact hnod) hv)
          · cases hc : env.cells.lookup y with
            | none =>
              have := hch y h
              rw [hc] at this; cases this
            | some c => exact .cell ((hko y).trans h) c hc (bindC_has ((hko y).trans h) (by rw [hnz]; exact hnod) hv ▸ x.cell y c hc)
        · obtain ⟨q, hm, e⟩ := List.mem_map.mp hq
          cases e
          obtain ⟨h1, h2⟩ := hΓ q hm
          refine ⟨q.2, ?_, rfl⟩
          rcases h2 with h2 | ⟨h2, h3⟩
          · exact .glob ((hko _).trans h1) _ (hge ▸ S.bs.wd.g) h2
          · exact .blt ((hko _).trans h1) _ (hge ▸ S.bs.wd.g) h2 _ (hbe ▸ S.bs.wd.b) h3
      · have hnone : s.heap.get? b = none := by
          rcases hb with rfl | ⟨n, hb⟩
          · exact nn _ x.toInCall.fresh
          · exact nn _ (Nat.le_trans x.toInCall.fresh (Nat.le_of_lt (x.above n b hb)))
        exact ⟨hnone, notOb B hnone⟩
      · rw [hge]; obtain ⟨o, _, _, e, _⟩ := B.wd.g; exact ⟨o, e⟩
      · rw [hbe]; obtain ⟨o, _, _, e, _⟩ := B.wd.b; exact ⟨o, e⟩
    exact wpAny_mono (hb' s g g _ (fun _ _ => False) F) (fun f s' ⟨v, e, h⟩ => by subst e; exact h) fun _ _ h => h.elim
end
end Mine

end

section
open PySem PySem.W PyProof.Rows
set_option linter.unusedVariables false
namespace Mine
section
variable {G : Gv} {A : Around} {env : Env} {σ σ' : Asg} {τ τ' : Own} {P Q R : VP} {α β γ : Type} {s₀ s s' : Shared} {g₀ g g' : View}

/-- the state inside a comprehension: C its frame, D what it builds -/
structure Cs (s0 : Shared) (g0 : View) (C D : Addr) (s : Shared) (g : View) (ys : List Value) (m : Str → Option Value) : Prop where
  same : ∃ h tk, s = { s0 with heap := h, toks := tk }
  k0 : ∀ b o, s0.heap.get? b = some o → s.heap.get? b = some o
  toks : s0.toks ≤ s.toks
  le : VLe g0 g
  on : VOn g s.heap
  tk : g.tk ≤ s.toks
  new : ∀ b o, g.ob b o → g0.ob b o ∨ s0.heap.get? b = none
  ns : s.heap.Ns C m
  acc : ∃ n, s.heap.get? D = some (listObj ys n)
  nC : ∀ o, ¬ g.ob C o
  nD : ∀ o, ¬ g.ob D o
theorem Cs.bs {s0 g0 C D s g ys m} (B0 : Bs G g0 s0) (x : Cs s0 g0 C D s g ys m) : Bs G g s := ⟨x.on, B0.wd.keeps x.k0, x.tk, Nat.lt_of_lt_of_le B0.pos x.le.tk⟩
theorem Cs.step {s0 g0 C D s g ys m} (x : Cs s0 g0 C D s g ys m) (S : Stp G g s g' s') : Cs s0 g0 C D s' g' ys m := by
  obtain ⟨h, tk, rfl⟩ := x.same
  obtain ⟨h', tk', rfl, k⟩ := S.keeps
  obtain ⟨n, ha⟩ := x.acc
  obtain ⟨o, es, ep, hc, _⟩ := id x.ns
  refine ⟨⟨h', tk', rfl⟩, fun b o e => k b o (x.k0 b o e), Nat.le_trans x.toks S.toks, x.le.trans S.le, S.bs.on, S.bs.tk, fun b o q => (S.new b o q).elim (x.new b o) fun z => .inr ?_, x.ns.keeps k, ⟨n, k _ _ ha⟩, fun o' q => ?_, fun o' q => ?_⟩
  · cases e : s0.heap.get? b with
    | none => rfl
    | some o => rw [x.k0 b o e] at z; cases z
  · exact (S.new _ _ q).elim (x.nC _) fun z => by rw [hc] at z; cases z
  · exact (S.new _ _ q).elim (x.nD _) fun z => by rw [ha] at z; cases z
/-- something of the comprehension's own moved -/
theorem Cs.move {s0 g0 C D s g ys m ys' m'} {h' : Heap} {tk : Tok} {X : Addr → Prop} (x : Cs s0 g0 C D s g ys m) (hX : ∀ b, X b → s0.heap.get? b = none ∧ ∀ o, ¬ g.ob b o) (k : ∀ b o, ¬ X b → s.heap.get? b = some o → h'.get? b = some o)
    (ht : s.toks ≤ tk) (ns : h'.Ns C m') (acc : ∃ n, h'.get? D = some (listObj ys' n)) : Cs s0 g0 C D { s with heap := h', toks := tk } g ys' m' := by
  obtain ⟨h, tk0, rfl⟩ := x.same
  exact ⟨⟨h', tk, rfl⟩, fun b o e => k b o (fun q => by rw [(hX b q).1] at e; cases e) (x.k0 b o e), Nat.le_trans x.toks ht, x.le, fun b o e => k b o (fun q => (hX b q).2 o e) (x.on b o e), Nat.le_trans x.tk ht, x.new, ns, acc, x.nC, x.nD⟩

theorem comp_loop {e : Expr} {d : Nat} {y : Str} {py ppos : Pos} {cenv : Env} {body : Value → Env → Sem Fin → Sem Fin} {R' : Result → Shared → Prop} {s0 : Shared} {g0 : View} {D I : Addr} {fp wr : List Addr} {Pi : Nat → Value → Prop} {St : Nat → Heap → Prop}
    {R : α → VP} {xs : List α} {S : β → VP} (zs : Nat → List β) (Mk : View → (Str → Option Value) → Prop) {ys : List Value} {m : Str → Option Value}
    (hturn : ∀ it acc env, compTurn e d it acc env = (standAt ppos >>= fun _ => pyNext it >>= fun r => match r with
      | none => pure (.done .next)
      | some v => letOwnedTupleGo (.Name y py) it v >>= fun _ => assign (.Name y py) env v >>= fun _ => body acc env (again (.compLoop e d it acc env))))
    (hu : A.under (Code.compLoop e d (.ref I) (.ref D) cenv) = A) (hfr : (Code.compLoop e d (.ref I) (.ref D) cenv).isFrame = false) (hq : (Code.compLoop e d (.ref I) (.ref D) cenv).quiet = true)
    (hy : cenv.kindOf y = some .local) (hp : (cenv.scope.kind == .class || (cenv.scope.kind == .module && cenv.locals != cenv.globals)) = false)
    (B0 : Bs G g0 s0) (hC0 : s0.heap.get? cenv.locals = none) (hD0 : s0.heap.get? D = none) (hDC : D ≠ cenv.locals)
    (W : Walks G.prog G.w A I fp wr xs.length Pi St) (hs : Cs s0 g0 cenv.locals D s g ys m) (hst : St 0 s.heap)
    (hwr : ∀ b ∈ wr, s0.heap.get? b = none ∧ (∀ o, ¬ g.ob b o) ∧ b ≠ cenv.locals ∧ b ≠ D) (hex : ∀ i h, St i h → ∀ b ∈ wr, ∃ o, h.get? b = some o)
    (hfp : ∀ b ∈ fp, b ∈ wr ∨ ∃ o, g.ob b o) (hitem : ∀ i v, Pi i v → ∃ x, xs[i]? = some x ∧ (R x).p g v)
    (hz : Paired (fun u z => (S z).p g u) ys (zs 0)) (hm : Mk g m) (Mmono : ∀ g g' m, VLe g g' → Mk g m → Mk g' m) (Mset : ∀ g m v, Mk g m → Mk g (fun z => if z = y then some v else m z))
    (hbody : ∀ i x, xs[i]? = some x → ∀ s g m ys v (k : Sem Fin) (Q' : Fin → Shared → Prop) (E : Value → Shared → Prop), Cs s0 g0 cenv.locals D s g ys m → m y = some v → (R x).p g v → Mk g m → Paired (fun u z => (S z).p g u) ys (zs i) →
      (∀ s' g' m' ys', Cs s0 g0 cenv.locals D s' g' ys' m' → Mk g' m' → Paired (fun u z => (S z).p g' u) ys' (zs (i + 1)) → VLe g g' →
        (∀ b o, b ≠ cenv.locals → b ≠ D → s.heap.get? b = some o → s'.heap.get? b = some o) → (∀ b o, g'.ob b o → g.ob b o ∨ s.heap.get? b = none) → wpAny (model G.prog G.w) A k Q' E s') →
      wpAny (model G.prog G.w) A (body (.ref D) cenv k) Q' E s)
    (hR : ∀ s' g' m' ys', Cs s0 g0 cenv.locals D s' g' ys' m' → Mk g' m' → Paired (fun u z => (S z).p g' u) ys' (zs xs.length) → VLe g g' →
      (∀ b o, b ∉ wr → b ≠ cenv.locals → b ≠ D → s.heap.get? b = some o → s'.heap.get? b = some o) → (∀ b o, g'.ob b o → g.ob b o ∨ s.heap.get? b = none) → R' (.ok .next) s') :
    codeAny (model G.prog G.w) A (.compLoop e d (.ref I) (.ref D) cenv) R' s := by
  have hwC : ∀ b ∈ wr, b ≠ cenv.locals := fun b hb => (hwr b hb).2.2.1
  have hwD : ∀ b ∈ wr, b ≠ D := fun b hb => (hwr b hb).2.2.2
  refine codeAny_loop hq (fun k s' => ∃ i g' m' ys', i ≤ xs.length ∧ k = xs.length + 1 - i ∧ St i s'.heap ∧ Cs s0 g0 cenv.locals D s' g' ys' m' ∧ Mk g' m' ∧ Paired (fun u z => (S z).p g' u) ys' (zs i) ∧ VLe g g' ∧
      (∀ b o, b ∉ wr → b ≠ cenv.locals → b ≠ D → s.heap.get? b = some o → s'.heap.get? b = some o) ∧ (∀ b o, g'.ob b o → g.ob b o ∨ s.heap.get? b = none)) ?_ (xs.length + 1)
    ⟨0, g, m, ys, Nat.zero_le _, rfl, hst, hs, hm, hz, VLe.refl g, fun _ _ _ _ _ e => e, fun _ _ h => .inl h⟩
  rintro k s' ⟨i, g1, m1, ys1, hi, rfl, hst1, hs1, hm1, hz1, hle1, hk1, hn1⟩
  have hex0 := hex 0 _ hst
  have nw1 : ∀ b ∈ wr, ∀ o, ¬ g1.ob b o := fun b hb o q => by
    rcases hn1 b o q with q | q
    · exact (hwr b hb).2.1 o q
    · obtain ⟨o', e⟩ := hex0 b hb; rw [q] at e; cases e
  show wpAny _ _ (if (Code.compLoop e d (.ref I) (.ref D) cenv).isFrame then (compTurn e d (.ref I) (.ref D) cenv).onRaise (leaving cenv) else (compTurn e d (.ref I) (.ref D) cenv).onRaise (fun x => do noteFrame x cenv; theTreesLotGoes x)) _ _ s'
  rw [hfr, hu]
  simp only [Bool.false_eq_true, if_false]
  refine wpAny_noted ?_
  rw [hturn]
  have key : ∀ Q' E', (∀ fin s', (match fin with | .done f => R' (.ok f) s' | .again c' => c' = Code.compLoop e d (.ref I) (.ref D) cenv ∧ ∃ m, m < xs.length + 1 - i ∧ (∃ i g' m' ys', i ≤ xs.length ∧ m = xs.length + 1 - i ∧ St i s'.heap ∧ Cs s0 g0 cenv.locals D s' g' ys' m' ∧ Mk g' m' ∧ Paired (fun u z => (S z).p g' u) ys' (zs i) ∧ VLe g g' ∧
      (∀ b o, b ∉ wr → b ≠ cenv.locals → b ≠ D → s.heap.get? b = some o → s'.heap.get? b = some o) ∧ (∀ b o, g'.ob b o → g.ob b o ∨ s.heap.get? b = none))) → Q' fin s') →
      wpAny (model G.prog G.w) A (standAt ppos >>= fun _ => pyNext (.ref I) >>= fun r => match r with
      | none => pure (.done .next)
      | some v => letOwnedTupleGo (.Name y py) (.ref I) v >>= fun _ => assign (.Name y py) cenv v >>= fun _ => body (.ref D) cenv (again (.compLoop e d (.ref I) (.ref D) cenv))) Q' E' s' := by
    intro Q' E' hQ
    refine wpAny_bind (wpAny_standAt (wpAny_bind ?_))
    obtain ⟨nacc, ha1⟩ := hs1.acc
    by_cases hlt : i < xs.length
    · refine wpAny_with_toks (n := s'.toks) (Nat.le_refl _) (W.item i _ _ _ hlt hst1 fun u h1 tk1 hP hst2 hk2 ht2 => ?_)
      refine wpAny_bind (wpAny_of_eq (show letOwnedTupleGo (.Name y py) (.ref I) u = pure () from rfl) (wpAny_bind ?_))
      obtain ⟨x, hx, px⟩ := hitem i u hP
      have hsA : Cs s0 g0 cenv.locals D { s' with heap := h1, toks := tk1 } g1 ys1 m1 := hs1.move (X := fun b => b ∈ wr) (fun b hb => ⟨(hwr b hb).1, nw1 b hb⟩) hk2 ht2
        (hs1.ns.at' fun o e => hk2 _ o (fun q => hwC _ q rfl) e) ⟨nacc, hk2 _ _ (fun q => hwD _ q rfl) ha1⟩
      refine wpAny_assign_Name (wpAny_storeName_local hy hsA.ns (fun h3 hn3 hs3 => ?_) hp)
      have hsB : Cs s0 g0 cenv.locals D { s' with heap := h3, toks := tk1 + 1 } g1 ys1 (fun z => if z = y then some u else m1 z) := by
        have ha3 : ∃ n, h3.get? D = some (listObj ys1 n) := by
          obtain ⟨n, ha⟩ := hsA.acc
          exact ⟨n, hs3.extBut _ _ hDC ha⟩
        have := Cs.move (s := { s' with heap := h1, toks := tk1 }) (tk := tk1 + 1) hsA (X := fun b => b = cenv.locals) (fun b hb => by subst hb; exact ⟨hC0, hsA.nC⟩) (fun b o hb e => hs3.extBut b o hb e) (Nat.le_succ _) hn3 ha3
        exact this
      refine hbody i x hx _ g1 _ ys1 u _ _ _ hsB (by simp) ((R x).mono hle1 px) (Mset _ _ _ hm1) hz1 fun s4 g4 m4 ys4 c4 hm4 hz4 le4 k4 n4 => wpAny_pure (hQ _ _ ?_)
      have alive4 : ∀ b, s.heap.get? b ≠ none → h3.get? b ≠ none := fun b hb => by
        by_cases hw : b ∈ wr
        · obtain ⟨o, e⟩ := hex _ _ hst2 b hw
          have := hs3.extBut b o (hwC b hw) e
          rw [this]; simp
        · by_cases q1 : b = cenv.locals
          · subst q1; obtain ⟨o, _, _, e, _⟩ := hn3; rw [e]; simp
          · by_cases q2 : b = D
            · subst q2; obtain ⟨n, e⟩ := hsB.acc; have e' : h3.get? b = _ := e; rw [e']; simp
            · cases e : s.heap.get? b with
              | none => exact absurd e hb
              | some o =>
                have := hs3.extBut b o q1 (hk2 b o hw (hk1 b o hw q1 q2 e))
                rw [this]; simp
      refine ⟨rfl, xs.length + 1 - (i + 1), by omega, i + 1, g4, m4, ys4, hlt, rfl, ?_, c4, hm4, hz4, hle1.trans le4, fun b o q1 q2 q3 e => k4 b o q2 q3 (hs3.extBut b o q2 (hk2 b o q1 (hk1 b o q1 q2 q3 e))), fun b o q => ?_⟩
      · refine W.frame _ _ _ hst2 fun b hb o e => ?_
        rcases hfp b hb with hw | ⟨o', ho'⟩
        · exact k4 b o (hwC b hw) (hwD b hw) (hs3.extBut b o (hwC b hw) e)
        · have q1 := hsA.on b o' (hle1.ob b o' ho')
          have q2 := c4.on b o' (le4.ob b o' (hle1.ob b o' ho'))
          rw [show h1.get? b = some o' from q1] at e; cases e; exact q2
      · rcases n4 b o q with q | q
        · exact hn1 b o q
        · refine .inr ?_
          cases e : s.heap.get? b with
          | none => rfl
          | some o' => exact absurd q (alive4 b (by rw [e]; simp))
    · obtain rfl : i = xs.length := by omega
      refine wpAny_with_toks (n := s'.toks) (Nat.le_refl _) (W.done _ _ _ hst1 fun h1 tk1 hk2 ht2 => wpAny_pure (hQ _ _ ?_))
      exact hR _ g1 m1 ys1 (hs1.move (X := fun b => b ∈ wr) (fun b hb => ⟨(hwr b hb).1, nw1 b hb⟩) hk2 ht2 (hs1.ns.at' fun o e => hk2 _ o (fun q => hwC _ q rfl) e) ⟨nacc, hk2 _ _ (fun q => hwD _ q rfl) ha1⟩)
        hm1 hz1 hle1 (fun b o q1 q2 q3 e => hk2 b o q1 (hk1 b o q1 q2 q3 e)) hn1
  exact key _ _ fun _ _ h => h
end
end Mine

end

section
open PySem PySem.W PyProof.Rows
set_option linter.unusedVariables false
namespace Mine
section
variable {G : Gv} {A : Around} {env : Env} {σ σ' : Asg} {τ τ' : Own} {P Q R : VP} {α β γ : Type} {s₀ s s' : Shared} {g₀ g g' : View}

theorem compTurn_outer (elt it1 it2 : Expr) (x y : Str) (px py : Pos) (scope : Scope) (pos : Pos) (it acc : Value) (env : Env) :
    compTurn (.ListComp elt [⟨.Name x px, it1, [], 0⟩, ⟨.Name y py, it2, [], 0⟩] scope pos) 0 it acc env = (standAt it1.pos >>= fun _ => pyNext it >>= fun r => match r with
      | none => pure (.done .next)
      | some v => letOwnedTupleGo (.Name x px) it v >>= fun _ => assign (.Name x px) env v >>= fun _ =>
        eval it2 env >>= fun xv => standAt it2.pos >>= fun _ => foldedSetIterable it2 env xv >>= fun xv => holding [xv] (pyIter xv) >>= fun i2 =>
          runOwn (.compStart (.ListComp elt [⟨.Name x px, it1, [], 0⟩, ⟨.Name y py, it2, [], 0⟩] scope pos) 1 i2 acc env) env >>= fun _ =>
          again (.compLoop (.ListComp elt [⟨.Name x px, it1, [], 0⟩, ⟨.Name y py, it2, [], 0⟩] scope pos) 0 it acc env)) := by rfl
theorem compTurn_inner (elt it1 it2 : Expr) (x y : Str) (px py : Pos) (scope : Scope) (pos : Pos) (it acc : Value) (env : Env) :
    compTurn (.ListComp elt [⟨.Name x px, it1, [], 0⟩, ⟨.Name y py, it2, [], 0⟩] scope pos) 1 it acc env = (standAt it2.pos >>= fun _ => pyNext it >>= fun r => match r with
      | none => pure (.done .next)
      | some v => letOwnedTupleGo (.Name y py) it v >>= fun _ => assign (.Name y py) env v >>= fun _ =>
        (eval elt env >>= fun x => call (.builtin "list.append") [acc, x] >>= fun _ => pure ()) >>= fun _ =>
          again (.compLoop (.ListComp elt [⟨.Name x px, it1, [], 0⟩, ⟨.Name y py, it2, [], 0⟩] scope pos) 1 it acc env)) := by rfl

/-- one item made and appended -/
theorem emit_ok {elt : Expr} {cenv : Env} {s0 : Shared} {g0 : View} {D : Addr} {ys : List Value} {m : Str → Option Value} {S : β → VP} {zs : List β} {z : β} {k : Sem Fin} {Q' : Fin → Shared → Prop} {E : Value → Shared → Prop} {σc : Asg}
    (B0 : Bs G g0 s0) (hD0 : s0.heap.get? D = none) (hDC : D ≠ cenv.locals) (hsz : zs.length ≤ sizeLine) (c : Cs s0 g0 cenv.locals D s g ys m) (ev : Ev G cenv g s σc) (he : EX G A cenv σc elt (S z))
    (hz : Paired (fun u z => (S z).p g u) ys zs)
    (hk : ∀ s' g' ys', Cs s0 g0 cenv.locals D s' g' ys' m → Paired (fun u z => (S z).p g' u) ys' (zs ++ [z]) → VLe g g' →
        (∀ b o, b ≠ cenv.locals → b ≠ D → s.heap.get? b = some o → s'.heap.get? b = some o) → (∀ b o, g'.ob b o → g.ob b o ∨ s.heap.get? b = none) → wpAny (model G.prog G.w) A k Q' E s') :
    wpAny (model G.prog G.w) A ((eval elt cenv >>= fun x => call (.builtin "list.append") [.ref D, x] >>= fun _ => pure ()) >>= fun _ => k) Q' E s := by
  refine wpAny_bind (wpAny_bind (he.then ev fun v g1 s1 G1 e1 p => ?_))
  have c1 := c.step G1
  obtain ⟨n, ha⟩ := c1.acc
  refine wpAny_bind (wpAny_list_append_plain (items := ys.toArray) ⟨n, ha⟩ (fun h' hl' hsb => wpAny_pure ?_) (by rw [List.size_toArray, hz.length]; exact hsz))
  obtain ⟨n', hl'⟩ := hl'
  have ho : (⟨.type "list", none, .seq (ys.toArray.push v) n', #[]⟩ : Obj) = listObj (ys ++ [v]) n' := by simp [listObj]
  have c2 := Cs.move (s := s1) (tk := s1.toks) c1 (X := fun b => b = D) (fun b hb => by subst hb; exact ⟨hD0, c1.nD⟩) (fun b o hb e => hsb.extBut b o hb e) (Nat.le_refl _) (c1.ns.sameBut hsb (Ne.symm hDC)) (ys' := ys ++ [v]) ⟨n', ho ▸ hl'⟩
  exact hk _ g1 _ c2 (PairedAppend (PairedImp (fun _ _ q => (S _).mono G1.le q) hz) (.cons p .nil)) G1.le (fun b o _ q e => hsb.extBut b o q (KeepsHeap G1.keeps b o e)) G1.new

theorem comp_start1 {elt it1 it2 : Expr} {x y : Str} {px py : Pos} {scope : Scope} {pos : Pos} {it acc : Value} {env : Env} {R' : Result → Shared → Prop}
    (h0 : codeAny (model G.prog G.w) A (.compLoop (.ListComp elt [⟨.Name x px, it1, [], 0⟩, ⟨.Name y py, it2, [], 0⟩] scope pos) 1 it acc env) R' s)
    (h : wpAny (model G.prog G.w) A (pyIter it) (fun it' s' => codeAny (model G.prog G.w) A (.compLoop (.ListComp elt [⟨.Name x px, it1, [], 0⟩, ⟨.Name y py, it2, [], 0⟩] scope pos) 1 it' acc env) R' s')
      (notedBy (model G.prog G.w) A env fun x s' => R' (.error x) s') s) :
    codeAny (model G.prog G.w) A (.compStart (.ListComp elt [⟨.Name x px, it1, [], 0⟩, ⟨.Name y py, it2, [], 0⟩] scope pos) 1 it acc env) R' s := by
  refine codeAny_of_tree ?_
  show wpAny _ _ ((compStart (.ListComp elt [⟨.Name x px, it1, [], 0⟩, ⟨.Name y py, it2, [], 0⟩] scope pos) 1 it acc env).onRaise (fun x => do noteFrame x env; standAt theWindowsPlace)) _ _ s
  refine wpAny_notedAt ?_
  unfold compStart
  show wpAny _ _ (ask >>= _) _ _ s
  refine wpAny_bind (wpAny_askSetting (wpAny_ite ?_))
  split
  · first
      | exact wpAny_bind (wpAny_pure (wpAny_pure (And.intro rfl h0)))
      | exact wpAny_pure (And.intro rfl h0)
  · first
      | exact wpAny_bind (wpAny_rule (wpAny_bind (wpAny_standAt (wpAny_bind (wpAny_mono h (fun it' s' h' => wpAny_pure (And.intro rfl h')) fun _ _ x => x)))))
      | (refine wpAny_bind (wpAny_rule ?_); show wpAny _ _ (standAt it2.pos >>= _) _ _ s; exact wpAny_bind (wpAny_standAt (wpAny_bind (wpAny_mono h (fun it' s' h' => wpAny_pure (And.intro rfl h')) fun _ _ x => x))))

theorem EX_comp2 {elt it1 it2 : Expr} {x y : Str} {px py : Pos} {scope : Scope} {pos : Pos} {cl : List (Str × Addr)} {R : α → VP} {xs : List α} {R2 : β → VP} {ys : α → List β} {S : γ → VP} {f : α → β → γ} {τ : Asg}
    (hA : A.handled = none) (hi : IX G A env σ it1 R xs) (hz : (xs.flatMap fun a => (ys a).map (f a)).length ≤ sizeLine)
    (hclos : closureFor scope env = pure cl) (hcell : ∀ y ∈ scope.names, y.2 ≠ .cell) (hkind : scope.kind = .function)
    (hnames : ∀ y ∈ scope.names, y.2 = .local → scope.names.lookup y.1 = some .local) (hx : scope.names.lookup x = some .local) (hy : scope.names.lookup y = some .local) (hxy : x ≠ y)
    (hτ : ∀ C, ∀ q ∈ τ, Cry G env (compEnvC scope cl C env) σ q)
    (hi2 : ∀ C, ∀ a ∈ xs, IX G A (compEnvC scope cl C env) ((x, R a) :: τ) it2 R2 (ys a))
    (he : ∀ C, ∀ a ∈ xs, ∀ b ∈ ys a, EX G A (compEnvC scope cl C env) ((y, R2 b) :: (x, R a) :: τ) elt (S (f a b)))
    (hs : ∀ x, foldedSetIterable it1 env x = pure x := by intro _; rfl) (hs2 : ∀ C x, foldedSetIterable it2 (compEnvC scope cl C env) x = pure x := by intro _ _; rfl) :
    EX G A env σ (.ListComp elt [⟨.Name x px, it1, [], 0⟩, ⟨.Name y py, it2, [], 0⟩] scope pos) (vList S (xs.flatMap fun a => (ys a).map (f a))) := fun g s E ev => by
  refine raw ev.bs ?_
  rw [eval_ListComp]
  refine wpAny_comprehension_free (use := none) rfl hs hclos hkind hnames (wpAny_mono (hi g s E ev) (fun xv s1 h1 => wpAny_mono h1 (fun it s2 h2 => ?_) fun _ _ e => e) fun _ _ e => e)
  obtain ⟨g2, I, fp, wr, Pi, St, rfl, S2, K⟩ := h2
  refine wpAny_newObj_type (wpAny_newFunctionEnv hcell (by intro y hy; simp at hy) (fun h₁ hns₁ hsb₁ => ?_) hkind)
  dsimp only at hns₁ hsb₁ ⊢
  generalize hH2 : s2.heap.push { cls := .type "list", dict := none, data := .seq ([] : List Value).toArray } = H2 at hns₁ hsb₁ ⊢
  have hC : H2.objs.size = s2.heap.objs.size + 1 := by rw [← hH2, Heap.size_push]
  have hDC : s2.heap.objs.size ≠ H2.objs.size := by rw [hC]; exact Nat.ne_of_lt (Nat.lt_succ_self _)
  have old : ∀ b o, s2.heap.get? b = some o → h₁.get? b = some o := fun b o e => by
    have hb := Heap.lt_size e
    exact hsb₁.extBut b o (by rw [hC]; exact Nat.ne_of_lt (Nat.lt_succ_of_lt hb)) (Heap.get?_push_of_some _ (hH2 ▸ Heap.get?_push_of_some _ e))
  have hacc : h₁.get? s2.heap.objs.size = some (listObj [] 0) := hsb₁.extBut _ _ hDC (Heap.get?_push_of_some _ (hH2 ▸ Heap.get?_push_size _ rfl))
  have nn : ∀ b, s2.heap.objs.size ≤ b → s2.heap.get? b = none := fun b hb => by
    cases e : s2.heap.get? b with
    | none => rfl
    | some o => exact absurd (Heap.lt_size e) (Nat.not_lt.mpr hb)
  have hD2 := nn s2.heap.objs.size (Nat.le_refl _)
  have hC2 := nn H2.objs.size (by rw [hC]; exact Nat.le_succ _)
  have hD0 := noneOfKeeps S2.keeps hD2
  have hC0 := noneOfKeeps S2.keeps hC2
  obtain ⟨hh, tt, e2, _⟩ := S2.keeps
  generalize hD : s2.heap.objs.size = D at *
  generalize hCC : H2.objs.size = C at *
  change codeAny _ A (.compStart _ 0 (.ref I) (.ref D) (compEnvC scope cl C env)) _ _
  have c0 : Cs s g C D { s2 with heap := h₁, toks := s2.toks + ([] : List (Str × Value)).length } g2 [] (fun x => ([] : List (Str × Value)).reverse.lookup x) := by
    refine ⟨⟨h₁, _, by rw [e2]⟩, fun b o e => old b o (KeepsHeap S2.keeps b o e), Nat.le_trans S2.toks (Nat.le_add_right _ _), S2.le, fun b o e => old b o (S2.bs.on b o e), Nat.le_trans S2.bs.tk (Nat.le_add_right _ _), S2.new, hns₁, ⟨0, hacc⟩, ?_, ?_⟩
    · exact notOb S2.bs hC2
    · exact notOb S2.bs hD2
  have hlw : (compEnvC scope cl C env).kindOf x = some .local := lookup_relabel_local hx
  have hlw2 : (compEnvC scope cl C env).kindOf y = some .local := lookup_relabel_local hy
  have hpp : ((compEnvC scope cl C env).scope.kind == .class || ((compEnvC scope cl C env).scope.kind == .module && (compEnvC scope cl C env).locals != (compEnvC scope cl C env).globals)) = false := by simp [compEnvC, relabel, hkind]
  have evC : ∀ {s' g' ys' m'}, Cs s g C D s' g' ys' m' → Ev G env g' s' σ := fun c => ⟨ev.fn, c.bs ev.bs, fun z P h => let ⟨v, r, p⟩ := ev.var z P h; ⟨v, r.keeps c.k0, P.mono c.le p⟩⟩
  have loop : codeAny (model G.prog G.w) A (.compLoop (.ListComp elt [⟨.Name x px, it1, [], 0⟩, ⟨.Name y py, it2, [], 0⟩] scope pos) 0 (.ref I) (.ref D) (compEnvC scope cl C env))
      (compPost (model G.prog G.w) A E none (Raw g s (vList S (xs.flatMap fun a => (ys a).map (f a)))) (.ref D) C) { s2 with heap := h₁, toks := s2.toks + ([] : List (Str × Value)).length } := by
    refine comp_loop (G := G) (e := .ListComp elt [⟨.Name x px, it1, [], 0⟩, ⟨.Name y py, it2, [], 0⟩] scope pos) (cenv := compEnvC scope cl C env)
      (body := fun acc env k => eval it2 env >>= fun xv => standAt it2.pos >>= fun _ => foldedSetIterable it2 env xv >>= fun xv => holding [xv] (pyIter xv) >>= fun i2 => runOwn (.compStart (.ListComp elt [⟨.Name x px, it1, [], 0⟩, ⟨.Name y py, it2, [], 0⟩] scope pos) 1 i2 acc env) env >>= fun _ => k) (R := R) (xs := xs) (S := S) (fun i => (xs.take i).flatMap fun a => (ys a).map (f a)) (fun _ _ => True)
      (fun it acc env => compTurn_outer elt it1 it2 x y px py scope pos it acc env) rfl rfl rfl hlw hpp ev.bs hC0 hD0 hDC K.walks c0 (K.walks.frame _ _ _ K.start fun b _ o e => old b o e) (fun b hb => ?_) K.ex K.fps K.item .nil trivial (fun _ _ _ _ _ => trivial) (fun _ _ _ _ => trivial) ?_ ?_
    · obtain ⟨w1, w2⟩ := K.wrs b hb
      obtain ⟨o, e⟩ := K.ex _ _ K.start b hb
      refine ⟨w1, w2, fun q => ?_, fun q => ?_⟩
      · rw [show b = C from q, hC2] at e; cases e
      · rw [q, hD2] at e; cases e
    · intro i a ha s3 g3 m3 ys3 v k Q' E' c3 hm3 p3 _ hz3 hk
      have ham : a ∈ xs := List.mem_of_getElem? ha
      have hlen : ((xs.take i).flatMap fun a => (ys a).map (f a)).length + (ys a).length ≤ (xs.flatMap fun a => (ys a).map (f a)).length := by
        have e : xs = xs.take i ++ a :: xs.drop (i + 1) := by
          rw [List.getElem?_eq_some_iff] at ha; obtain ⟨h, rfl⟩ := ha; simp
        conv => rhs; rw [e]
        simp
      have hnext : ((xs.take (i + 1)).flatMap fun a => (ys a).map (f a)) = ((xs.take i).flatMap fun a => (ys a).map (f a)) ++ (ys a).map (f a) := by
        rw [List.take_add_one, ha]; simp
      have ev3 : Ev G (compEnvC scope cl C env) g3 s3 ((x, R a) :: τ) := (evC c3).comp hkind c3.ns hm3 hlw p3 (hτ C)
      refine wpAny_bind (wpAny_mono (hi2 C a ham g3 s3 E' ev3) (fun xv s4 h4 => wpAny_bind (wpAny_standAt (wpAny_bind (wpAny_of_eq (hs2 C xv) (wpAny_bind (wpAny_holding (wpAny_mono h4 (fun it' s5 h5 => ?_) fun _ _ e => e))))))) fun _ _ e => e)
      obtain ⟨g5, I', fp', wr', Pi', St', rfl, S5, K'⟩ := h5
      have c5 := c3.step S5
      have wr5 : ∀ b ∈ wr', s.heap.get? b = none ∧ (∀ o, ¬ g5.ob b o) ∧ b ≠ C ∧ b ≠ D := fun b hb => by
        obtain ⟨w1, w2⟩ := K'.wrs b hb
        refine ⟨?_, w2, fun q => ?_, fun q => ?_⟩
        · cases e : s.heap.get? b with
          | none => rfl
          | some o => rw [c3.k0 b o e] at w1; cases w1
        · obtain ⟨o, _, _, e, _⟩ := c3.ns; have e' : s3.heap.get? C = some o := e; rw [show b = C from q] at w1; rw [w1] at e'; cases e'
        · obtain ⟨n, e⟩ := c3.acc; rw [q] at w1; rw [w1] at e; cases e
      have inner : codeAny (model G.prog G.w) A (.compLoop (.ListComp elt [⟨.Name x px, it1, [], 0⟩, ⟨.Name y py, it2, [], 0⟩] scope pos) 1 (.ref I') (.ref D) (compEnvC scope cl C env))
          (fun r s' => match r with | .ok fl => wpAny (model G.prog G.w) A k Q' E' s' | .error e => cameBackBy (model G.prog G.w) A (compEnvC scope cl C env) E' e s') s5 := by
        refine comp_loop (G := G) (e := .ListComp elt [⟨.Name x px, it1, [], 0⟩, ⟨.Name y py, it2, [], 0⟩] scope pos) (cenv := compEnvC scope cl C env)
          (body := fun acc env k => (eval elt env >>= fun x => call (.builtin "list.append") [acc, x] >>= fun _ => pure ()) >>= fun _ => k) (R := R2) (xs := ys a) (S := S) (fun j => ((xs.take i).flatMap fun a => (ys a).map (f a)) ++ ((ys a).take j).map (f a))
          (fun g m => ∃ v, m x = some v ∧ (R a).p g v)
          (fun it acc env => compTurn_inner elt it1 it2 x y px py scope pos it acc env) rfl rfl rfl hlw2 hpp ev.bs hC0 hD0 hDC K'.walks c5 K'.start wr5 K'.ex K'.fps K'.item
          (by simpa using PairedImp (fun _ _ q => (S _).mono S5.le q) hz3) ⟨v, hm3, (R a).mono S5.le p3⟩ (fun _ _ _ l ⟨v, h, p⟩ => ⟨v, h, (R a).mono l p⟩) (fun _ _ _ ⟨v, h, p⟩ => ⟨v, by simp [hxy, h], p⟩) ?_ ?_
        · intro j b hb s6 g6 m6 ys6 u k' Q'' E'' c6 hm6 p6 ⟨vx, hx6, px6⟩ hz6 hk6
          have hbm : b ∈ ys a := List.mem_of_getElem? hb
          have ev6 : Ev G (compEnvC scope cl C env) g6 s6 ((y, R2 b) :: (x, R a) :: τ) := by
            have e0 := (evC c6).comp hkind c6.ns hx6 hlw px6 (hτ C)
            refine ⟨e0.fn, e0.bs, fun z P h => ?_⟩
            rcases List.mem_cons.mp h with q | h
            · cases q; exact ⟨u, .loc hlw2 _ c6.ns hm6, p6⟩
            · exact e0.var z P h
          have hlb : j < (ys a).length := (List.getElem?_eq_some_iff.mp hb).1
          refine emit_ok (zs := ((xs.take i).flatMap fun a => (ys a).map (f a)) ++ ((ys a).take j).map (f a)) ev.bs hD0 hDC ?_ c6 ev6 (he C a ham b hbm) hz6 fun s7 g7 ys7 c7 hz7 le7 k7 n7 => ?_
          · simp only [List.length_append, List.length_map, List.length_take]; omega
          · refine hk6 s7 g7 m6 ys7 c7 ⟨vx, hx6, (R a).mono le7 px6⟩ ?_ le7 k7 n7
            rw [List.take_add_one, hb]
            simpa using hz7
        · intro s6 g6 m6 ys6 c6 hm6 hz6 le6 k6 n6
          refine hk s6 g6 m6 ys6 c6 trivial ?_ (S5.le.trans le6) (fun b o q1 q2 e => k6 b o (fun q => by rw [(K'.wrs b q).1] at e; cases e) q1 q2 (KeepsHeap S5.keeps b o e)) (fun b o q => (n6 b o q).elim (S5.new b o) fun z => .inr (noneOfKeeps S5.keeps z))
          rw [hnext]
          simpa using hz6
      refine wpAny_bind (wpAny_runOwn (codeAny_mono (comp_start1 inner (K'.walks.self 0 _ _ _ K'.start inner)) fun r s' h => ?_))
      cases r with
      | ok fl => exact h
      | error e => exact h
    · intro s' g' m' ys' c' _ hz' _ _ _
      rw [List.take_length] at hz'
      refine ⟨m', c'.ns, fun h'' hs'' => ?_⟩
      obtain ⟨n, ha⟩ := c'.acc
      obtain ⟨h, tk, rfl⟩ := c'.same
      have hd'' : h''.get? D = some (listObj ys' n) := hs''.extBut _ _ hDC ha
      refine ⟨VAdd g' D (listObj ys' n), ⟨h'', tk, rfl, fun b o e => hs''.extBut b o (fun q => by rw [show b = C from q, hC0] at e; cases e) (c'.k0 b o e)⟩, c'.le.trans (VAdd.le _ _ _), ?_, ?_, .inr c'.tk, D, ys', n, rfl, VAdd.here _ _ _, ?_⟩
      · rintro b o (q | ⟨rfl, rfl⟩)
        · exact hs''.extBut b o (fun e => c'.nC o (e ▸ q)) (c'.on b o q)
        · exact hd''
      · rintro b o (q | ⟨rfl, rfl⟩)
        · exact c'.new b o q
        · exact .inr hD0
      · exact PairedImp (fun _ _ q => (S _).mono (VAdd.le _ _ _) q) hz'
  exact codeAny_compStart_list loop (K.walks.self 0 _ _ _ (K.walks.frame _ _ _ K.start fun b _ o e => old b o e) loop)
end
end Mine

end

section
open PySem PySem.W PyProof.Rows
set_option linter.unusedVariables false
namespace Mine
section
variable {G : Gv} {A : Around} {env : Env} {σ σ' : Asg} {τ τ' : Own} {P Q R : VP} {α β : Type} {s₀ s s' : Shared} {g₀ g g' : View}

def putI (kvs : List (Str × Int)) (k : Str) (i : Int) : List (Str × Int) := if kvs.any (fun kv => kv.1 = k) then kvs.map (fun kv => if kv.1 = k then (kv.1, i) else kv) else kvs ++ [(k, i)]
def getI (kvs : List (Str × Int)) (k : Str) : Option Int := (kvs.find? fun kv => kv.1 = k).map (·.2)
theorem kvOk_any {l : List (Str × Value)} {kvs : List (Str × Int)} {k : Str} (h : Paired kvOk l kvs) : l.any (fun kv => kv.1 = k) = kvs.any (fun kv => kv.1 = k) := by
  induction h with
  | nil => rfl
  | cons a _ ih => simp only [List.any_cons, ih, a.1]
theorem kvOk_map {k : Str} {i : Int} {t : Tok} {l : List (Str × Value)} {kvs : List (Str × Int)} (h : Paired kvOk l kvs) : Paired kvOk (l.map fun kv => if kv.1 = k then (kv.1, .int i t) else kv) (kvs.map fun kv => if kv.1 = k then (kv.1, i) else kv) := by
  induction h with
  | nil => exact .nil
  | @cons a b l l' hab _ ih =>
    refine .cons ?_ ih
    obtain ⟨a1, a2⟩ := a
    obtain ⟨b1, b2⟩ := b
    obtain ⟨h1, h2⟩ := hab
    dsimp only at h1
    subst h1
    by_cases q : a1 = k
    · simp only [q, if_true]; exact ⟨rfl, t, rfl⟩
    · simp only [q, if_false]; exact ⟨rfl, h2⟩
theorem kvOk_stored {l : List (Str × Value)} {kvs : List (Str × Int)} {k : Str} {i : Int} {t : Tok} (h : Paired kvOk l kvs) : Paired kvOk (stored l k (.int i t)) (putI kvs k i) := by
  unfold stored putI
  rw [kvOk_any h]
  split
  · exact kvOk_map h
  · exact PairedAppend h (.cons ⟨rfl, t, rfl⟩ .nil)
theorem kvOk_value {l : List (Str × Value)} {kvs : List (Str × Int)} {k : Str} (h : Paired kvOk l kvs) : (valueAt l k = none ∧ getI kvs k = none) ∨ ∃ i t, valueAt l k = some (.int i t) ∧ getI kvs k = some i := by
  unfold valueAt getI
  induction h with
  | nil => exact .inl ⟨rfl, rfl⟩
  | @cons a b l l' hab _ ih =>
    obtain ⟨a1, a2⟩ := a
    obtain ⟨b1, b2⟩ := b
    obtain ⟨h1, t, h2⟩ := hab
    dsimp only at h1 h2
    subst h1 h2
    by_cases e : a1 = k
    · exact .inr ⟨b2, t, by simp [List.find?, e], by simp [List.find?, e]⟩
    · simpa [List.find?, e] using ih
theorem dictOf {kvs : List (Str × Int)} {v : Value} (B : Bs G g s) (h : (vDict G kvs).p g v) : ∃ a o l, v = .ref a ∧ (a == sysModules) = false ∧ g.ob a o ∧ s.heap.get? a = some o ∧ o.IsDictOf (PySem.strKind G.prog G.w) l ∧ s.heap.DictOf (PySem.strKind G.prog G.w) a l ∧ Paired kvOk l kvs := by
  obtain ⟨a, o, rfl, hn, ho, l, hl, hp⟩ := h
  exact ⟨a, o, l, rfl, by simpa using hn, ho, B.on a o ho, hl, Heap.dictOf_iff.mpr ⟨o, B.on a o ho, hl⟩, hp⟩
theorem op_in {kvs : List (Str × Int)} {k : Str} : Op2 G A (compareOp .In) (vStr k) (vDict G kvs) (vBool (getI kvs k).isSome) := by
  rintro g s E _ u B ⟨t, rfl⟩ h
  obtain ⟨a, o, l, rfl, hn, ho, hg, hl, hd, hp⟩ := dictOf B h
  refine wpAny_in_of (PySem.strKind_is _ _ k t) hn hd.mapOf (.tok B ?_)
  rcases kvOk_value (k := k) hp with ⟨e1, e2⟩ | ⟨i, t, e1, e2⟩ <;> rw [e1, e2] <;> rfl
theorem op_itemD {value slice : Expr} {kvs : List (Str × Int)} {k : Str} {i : Int} (hi : getI kvs k = some i) (hs : ∀ o i, subscripted slice false o i = operate [o, i] (getItem o i) := by intro _ _; rfl) :
    Op2 G A (subscriptTail value slice) (vDict G kvs) (vStr k) (vInt i) := by
  rintro g s E u _ B h ⟨t, rfl⟩
  obtain ⟨a, o, l, rfl, hn, ho, hg, hl, hd, hp⟩ := dictOf B h
  rcases kvOk_value (k := k) hp with ⟨e1, e2⟩ | ⟨i', t', e1, e2⟩
  · rw [e2] at hi; cases hi
  · rw [e2] at hi; cases hi
    exact tail_any hd.typeIs slot_dict_getitem.lookup (wpAny_getItem_of (PySem.strKind_is _ _ k t) hd.mapOf e1 (.tok B ⟨_, rfl⟩)) (hs _ _)
theorem S1_ownDict {x : Str} {pos pos' lpos : Pos} (hk : Kd env x) (hσ : σ' = del x σ)
    (hs : swapsWith (.Dict [] [] lpos) (some (.Name x pos')) pos.line env = pure false := by rfl) : S1 G A env σ τ (.Assign [.Name x pos'] (.Dict [] [] lpos) pos) σ' (some (x, oDict G [])) := fun s₀ g₀ g s E F => by
  refine wpAny_Assign_Name (wpAny_Dict_empty ?_) hs
  refine F.pushStore (C := oDict G []) hk rfl ⟨[], ?_, .nil⟩ hσ
  obtain ⟨o, ho, hd⟩ := Heap.dictOf_iff.mp (Heap.DictOf.new (knd := PySem.strKind G.prog G.w) s.heap)
  rw [Heap.get?_push_size _ rfl] at ho
  cases ho
  exact hd
/-- x[i] = value, x the dict under construction -/
theorem S1_setOwn {x : Str} {kvs : List (Str × Int)} {k : Str} {n : Int} {e i : Expr} {p1 spos pos : Pos} (he : EX G A env σ e (vInt n)) (hi : EX G A env σ i (vStr k)) (hz : kvs.length ≤ sizeLine)
    (hd : (x == ("__debug__" : Str)) = false := by decide) (hs : swapsWith e (some (.Subscript (.Name x p1) i spos)) pos.line env = pure false := by rfl) :
    S1 G A env σ (some (x, oDict G kvs)) (.Assign [.Subscript (.Name x p1) i spos] e pos) σ (some (x, oDict G (putI kvs k n))) := fun s₀ g₀ g s E F => by
  refine wpAny_Assign_Subscript (he.then F.ev fun v g1 s1 G1 e1 pv => ?_) hs
  have F1 := F.step G1
  obtain ⟨D, o, r, h1, h2, h3, h4, h5⟩ := F1.own x _ rfl
  refine wpAny_Name (r.load F1.ev.fn ?_) hd
  refine hi.then F1.ev fun iv g2 s2 G2 e2 pi => ?_
  have F2 := F1.step G2
  obtain ⟨D', o', r', h1', h2', h3', h4', l, hl, hp⟩ := F2.own x _ rfl
  obtain rfl : D = D' := by have := (r.keeps (KeepsHeap G2.keeps)).unique r'; cases this; rfl
  obtain ⟨t, rfl⟩ := pi
  obtain ⟨u, rfl⟩ := pv
  refine wpAny_setItem_pairs (hsz := by rw [hp.length]; exact hz) (PySem.strKind_is _ _ k t) (Heap.dictOf_iff.mpr ⟨o', h1', hl⟩) fun h' hm hsb => ⟨rfl, g2, ?_⟩
  obtain ⟨o2, ho2, hd2⟩ := Heap.dictOf_iff.mp hm
  exact F2.ownStep r' hsb ho2 (Nat.le_succ _) ⟨_, hd2, kvOk_stored hp⟩
/-- x[i] += value -/
theorem S1_augOwn {x : Str} {kvs : List (Str × Int)} {k : Str} {n b : Int} {e i : Expr} {p1 spos pos : Pos} (he : EX G A env σ e (vInt n)) (hi : EX G A env σ i (vStr k)) (hb : getI kvs k = some b) (hz : kvs.length ≤ sizeLine)
    (hd : (x == ("__debug__" : Str)) = false := by decide) (ha : ∀ ov iv new, augStore i ov iv new = (do holding [new, ov, iv] (setItem ov iv new); release [new, ov, iv] []; pure .next) := by intros; rfl) :
    S1 G A env σ (some (x, oDict G kvs)) (.AugAssign (.Subscript (.Name x p1) i spos) .Add e pos) σ (some (x, oDict G (putI kvs k (b + n)))) := fun s₀ g₀ g s E F => by
  obtain ⟨D, o, r, h1, h2, h3, h4, h5⟩ := F.own x _ rfl
  refine wpAny_AugAssign_SubscriptAny (wpAny_Name (r.load F.ev.fn ?_) hd) ha
  refine hi.then F.ev fun iv g2 s2 G2 e2 pi => ?_
  have F2 := F.step G2
  obtain ⟨D', o', r', h1', h2', h3', h4', l, hl, hp⟩ := F2.own x _ rfl
  obtain rfl : D = D' := by have := (r.keeps (KeepsHeap G2.keeps)).unique r'; cases this; rfl
  obtain ⟨t, rfl⟩ := pi
  have hdo : s2.heap.DictOf (PySem.strKind G.prog G.w) D l := Heap.dictOf_iff.mpr ⟨o', h1', hl⟩
  rcases kvOk_value (k := k) hp with ⟨e1, e2⟩ | ⟨i', t', e1, e2⟩
  · rw [e2] at hb; cases hb
  rw [e2] at hb; cases hb
  refine wpAny_getItem_of (PySem.strKind_is _ _ k t) hdo.mapOf e1 ?_
  have F3 := F2.step (.same F2.ev.bs (keepsTok s2 (s2.toks + 1)) (Nat.le_succ _))
  refine he.then F3.ev fun v g4 s4 G4 e4 pv => ?_
  have F4 := F3.step G4
  obtain ⟨u, rfl⟩ := pv
  refine PyProof.Rows.iadd_int ?_
  have F5 := F4.step (.same F4.ev.bs (keepsTok s4 (s4.toks + 1)) (Nat.le_succ _))
  obtain ⟨D', o5, r5, q1, q2, q3, q4, l5, hl5, hp5⟩ := F5.own x _ rfl
  have r4 : RD env s4.heap x (.ref D) := r'.keeps (KeepsHeap G4.keeps)
  obtain rfl : D = D' := by have := r4.unique r5; cases this; rfl
  refine wpAny_setItem_pairs (hsz := by rw [hp5.length]; exact hz) (PySem.strKind_is _ _ k t) (Heap.dictOf_iff.mpr ⟨o5, q1, hl5⟩) fun h' hm hsb => ⟨rfl, g4, ?_⟩
  obtain ⟨o6, ho6, hd6⟩ := Heap.dictOf_iff.mp hm
  exact F5.ownStep r5 hsb ho6 (Nat.le_succ _) ⟨_, hd6, kvOk_stored hp5⟩
end
end Mine

end

section
open PySem PySem.W PyProof.Rows
set_option linter.unusedVariables false
namespace Mine
section
variable {G : Gv} {A : Around} {env : Env} {σ σ' : Asg} {τ τ' : Own} {P Q R : VP} {α β : Type} {s₀ s s' : Shared} {g₀ g g' : View}

theorem dictAt {kvs : List (Str × Int)} {v : Value} (B : Bs G g s) (h : (vDict G kvs).p g v) : ∃ a o l es ep, v = .ref a ∧ (a == sysModules) = false ∧ g.ob a o ∧ s.heap.get? a = some o ∧ (o.ExactDict ∧ o.data = .dict es ep ∧ KeysOf (PySem.strKind G.prog G.w) es ∧ Pairs (PySem.strKind G.prog G.w) es.toList l ∧ (l.map (·.1)).Nodup) ∧ Paired kvOk l kvs := by
  obtain ⟨a, o, rfl, hn, ho, l, ⟨es, ep, h1⟩, hp⟩ := h
  exact ⟨a, o, l, es, ep, rfl, by simpa using hn, ho, B.on a o ho, h1, hp⟩
theorem IX_dict (hA : A.handled = none) {iter : Expr} {kvs : List (Str × Int)} (h : EX G A env σ iter (vDict G kvs)) : IX G A env σ iter vStr (kvs.map (·.1)) := fun g s E ev =>
  h.then ev fun v g1 s1 G1 e1 hv => by
    obtain ⟨a, o, l, es, ep, rfl, hn, ho, hget, hd, pa⟩ := dictAt e1.bs hv
    have hAt : s1.heap.DictAt (PySem.strKind G.prog G.w) a l ep := ⟨o, es, hget, hd⟩
    refine wpAny_pyIter_dict hn hAt ?_
    have hnn : s1.heap.get? s1.heap.objs.size = none := fresh_none _
    have hlt : a < s1.heap.objs.size := Heap.lt_size hget
    have K := stpPush e1.bs { cls := .type "dict_keyiterator", data := .fields #[.ref a, .int 0 0, .int l.length 0, .int ep 0] } s1.toks (Nat.le_refl _)
    have W := Walks.dictKeys (prog := G.prog) (w := G.w) (knd := PySem.strKind G.prog G.w) hA s1.heap.objs.size a (Nat.ne_of_lt hlt) l ep
    have hlen : l.length = (kvs.map (·.1)).length := by rw [pa.length, List.length_map]
    have W' := W
    rw [hlen] at W'
    refine ⟨g1, _, _, _, _, _, rfl, G1.trans K, ⟨W', ⟨⟨_, Heap.get?_push_size _ rfl, rfl, by rw [← hlen]; rfl⟩, ?_⟩, ?_, ?_, ?_, ?_, ?_⟩⟩
    · exact ⟨o, es, Heap.get?_push_of_some _ hget, hd⟩
    · intro b hb
      obtain rfl : b = s1.heap.objs.size := by simpa using hb
      exact ⟨noneOfKeeps G1.keeps hnn, notOb e1.bs hnn⟩
    · rintro i h ⟨⟨o, ho, _⟩, _⟩ b hb
      obtain rfl : b = s1.heap.objs.size := by simpa using hb
      exact ⟨o, ho⟩
    · intro b hb
      have e : (s1.heap.push { cls := .type "dict_keyiterator", data := .fields #[.ref a, .int 0 0, .int l.length 0, .int ep 0] }).objs.size = s1.heap.objs.size + 1 := Heap.size_push ..
      rcases List.mem_cons.mp hb with q | hb
      · show b < (s1.heap.push _).objs.size; rw [e, q]; exact Nat.lt_succ_self _
      · have q : b = a := by simpa using hb
        show b < (s1.heap.push _).objs.size; rw [e, q]; exact Nat.lt_succ_of_lt hlt
    · intro b hb
      rcases List.mem_cons.mp hb with rfl | hb
      · exact .inl (by simp)
      · obtain rfl : b = a := by simpa using hb
        exact .inr ⟨_, ho⟩
    · rintro i v ⟨k, x, hx, hk⟩
      obtain ⟨t, rfl⟩ := Value.isStrOf_shape hk
      obtain ⟨y, hy, hky⟩ := PairedAt' pa hx
      refine ⟨k, ?_, t, rfl⟩
      rw [List.getElem?_map, hy]; exact congrArg some hky.1.symm

def vItems (G : Gv) (kvs : List (Str × Int)) : VP :=
  ⟨fun g v => ∃ w a, v = .ref w ∧ g.ob w { cls := .type "dict_items", data := .fields #[.ref a] } ∧ (vDict G kvs).p g (.ref a), fun l ⟨w, a, e, h, p⟩ => ⟨w, a, e, l.ob _ _ h, (vDict _ _).mono l p⟩⟩
theorem EX_items {o : Expr} {apos pos : Pos} {kvs : List (Str × Int)} (h : EX G A env σ o (vDict G kvs)) (hbase : attributeBase o "items" env (eval o env) = eval o env := by rfl) (hline : (apos.endLine == pos.line) = true := by rfl) :
    EX G A env σ (.Call (.Attribute o "items" apos) [] [] pos) (vItems G kvs) := fun g s E ev => by
  refine wpAny_Call_method0_late hbase hline (h.then ev fun v g1 s1 G1 e1 hv => ?_)
  have hv' := hv
  obtain ⟨a, ob, l, rfl, hn, ho, hget, hl, hd, pa⟩ := dictOf e1.bs hv
  have hplain : ∃ ob, s1.heap.get? a = some ob ∧ ob.dict = none := ⟨ob, hget, by obtain ⟨es, ep, hx, _⟩ := hl; exact hx.2.1⟩
  refine ⟨"dict", _, PySem.F.plainAttrs_dict, PySem.F.slot_dict_items, PySem.F.type_dict_items, hd.typeIs, fun b e => by cases e; exact hplain, ?_⟩
  refine Calls.callWith_builtin rfl (PySem.evalArgs_none ?_)
  show wpAny _ _ (call (.builtin "dict.items") [.ref a] []) _ _ _
  refine call_meetsIn PySem.F.slot_dict_items hd.typeIs PySem.F.entry_dict_items (PySem.F.args_dict_items_1 _) (meets_dict_items (PySem.strKind G.prog G.w) a hn) ⟨⟨l, hd⟩, ?_⟩
  have key : Raw g1 s1 (vItems G kvs) (.ref s1.heap.objs.size) { s1 with heap := s1.heap.push { cls := .type "dict_items", data := .fields #[.ref a] }, toks := s1.toks } :=
    .push e1.bs rfl ⟨_, a, rfl, VAdd.here _ _ _, (vDict G kvs).mono (VAdd.le _ _ _) hv'⟩
  exact (key.out e1.bs (Nat.le_refl _)).go G1

theorem S1_forItems (hA : A.handled = none) {xk xv : Str} {pk pv pt pos : Pos} {x1 : Nat} {iter : Expr} {body : List Stmt} {kvs : List (Str × Int)} (S : Nat → Asg) (T : Nat → Own) (hi : EX G A env σ iter (vItems G kvs)) (hk : Kd env xk) (hv : Kd env xv)
    (h0 : ∀ q ∈ S 0, q ∈ σ) (hT0 : T 0 = τ) (hTk : ∀ i y C, T i = some (y, C) → y ≠ xk ∧ y ≠ xv)
    (hb : ∀ i k n, kvs[i]? = some (k, n) → SN G A env ((xv, vInt n) :: del xv ((xk, vStr k) :: del xk (S i))) (T i) body (S (i + 1)) (T (i + 1)))
    (hs : ∀ x, foldedSetIterable iter env x = pure x := by intro _; rfl) : S1 G A env σ τ (.For (.Tuple [.Name xk pk, .Name xv pv] x1 pt) iter body [] pos) (S kvs.length) (T kvs.length) := fun s₀ g₀ g s E F => by
  refine wpAny_For (hi.then F.ev fun xvv g1 s1 G1 e1 hxv => ?_) hs
  obtain ⟨vw, a, rfl, hvw, hva⟩ := hxv
  obtain ⟨a', o, l, es, ep, e', hn, ho, hget, hd, pa⟩ := dictAt e1.bs hva
  cases e'
  have hAt : ∀ {g' s'}, VLe g1 g' → Bs G g' s' → s'.heap.DictAt (PySem.strKind G.prog G.w) a l ep := fun le B => ⟨o, es, B.on _ _ (le.ob _ _ ho), hd⟩
  have hlen : l.length = kvs.length := pa.length
  refine wpAny_pyIter_items (knd := PySem.strKind G.prog G.w) ⟨_, e1.bs.on _ _ hvw, rfl, rfl⟩ (hAt (VLe.refl _) e1.bs) ?_
  have hnn : s1.heap.get? s1.heap.objs.size = none := fresh_none _
  have F1 := (F.step G1).sub h0
  have F2 := F1.step (stpPush F1.ev.bs { cls := .type "dict_itemiterator", data := .fields #[.none, .bool false, .ref a, .int 0 0, .int l.length 0, .int ep 0, .none, .none] } s1.toks (Nat.le_refl _))
  have hit2 : IsItemIter ({ s1 with heap := s1.heap.push { cls := .type "dict_itemiterator", data := .fields #[.none, .bool false, .ref a, .int 0 0, .int l.length 0, .int ep 0, .none, .none] } } : Shared).heap s1.heap.objs.size a 0 l.length ep .none .none := Heap.get?_push_size _ rfl
  have d2 : Dis env s₀ g1 ({ s1 with heap := s1.heap.push { cls := .type "dict_itemiterator", data := .fields #[.none, .bool false, .ref a, .int 0 0, .int l.length 0, .int ep 0, .none, .none] } } : Shared) (T 0) s1.heap.objs.size := by
    have w1 : s.heap.get? s1.heap.objs.size = none := noneOfKeeps G1.keeps hnn
    refine ⟨noneOfKeeps F.keeps w1, fun hm => ?_, notOb e1.bs hnn, ⟨_, hit2⟩, fun x C e r => ?_⟩
    · rcases hm with q | ⟨n, hm⟩
      · obtain ⟨m, o, _, _, e, _⟩ := F.fr.ns; rw [← q, w1] at e; cases e
      · obtain ⟨v, o, e, _⟩ := F.fr.cells n _ hm; rw [w1] at e; cases e
    · obtain ⟨D, o, r', e', _⟩ := F.own x C (hT0 ▸ e)
      have := ((r'.keeps (KeepsHeap G1.keeps)).keeps (KeepsHeap (keepsPush s1 _ s1.toks))).unique r
      cases this
      rw [w1] at e'; cases e'
  generalize hI : s1.heap.objs.size = I at *
  generalize ({ s1 with heap := s1.heap.push { cls := .type "dict_itemiterator", data := .fields #[.none, .bool false, .ref a, .int 0 0, .int l.length 0, .int ep 0, .none, .none] } } : Shared) = s2 at *
  refine codeAny_forLoop_any (fun k s' => ∃ i g' ok ov, i ≤ l.length ∧ k = l.length + 1 - i ∧ IsItemIter s'.heap I a i l.length ep ok ov ∧ VLe g1 g' ∧ Fg G env s₀ g₀ (S i) (T i) g' s' ∧ Dis env s₀ g' s' (T i) I) ?_ (l.length + 1)
    ⟨0, g1, .none, .none, Nat.zero_le _, rfl, hit2, VLe.refl _, by rw [hT0]; exact F2, d2⟩
  rintro k s' ⟨i, g', ok, ov, hi', rfl, hst, hle, F', hd'⟩
  cases hx : l[i]? with
  | none =>
    obtain rfl : i = l.length := Nat.le_antisymm hi' (by simpa using hx)
    refine wpAny_with_toks (n := s'.toks) (Nat.le_refl _) (wpAny_pyNext_items_end hA hst (hAt hle F'.ev.bs) hx fun h1 hk1 ht1 => wpAny_execs_nil ⟨rfl, g', ?_⟩)
    rw [← hlen]
    exact (F'.moved (wr := [I]) (fun b hb => by obtain rfl : b = I := by simpa using hb
                                                exact hd') (fun b o hb e => hk1 b o (fun q => hb (by simp [q])) e) (Nat.le_refl _)).1
  | some kv =>
    obtain ⟨key0, vv⟩ := kv
    have hlt : i < l.length := (List.getElem?_eq_some_iff.mp hx).1
    obtain ⟨y, hy, hky⟩ := PairedAt' pa hx
    obtain ⟨k0, n0⟩ := y
    obtain ⟨hk1, t1, hk2⟩ := hky
    dsimp only at hk1 hk2
    subst hk1 hk2
    have hIH : I < s'.heap.objs.size := Heap.lt_size hst
    refine wpAny_pyNext_items_item hst (hAt hle F'.ev.bs) hx fun key h1 hkey heo ht1 hz1 hk1 => ?_
    obtain ⟨tk, rfl⟩ := Value.isStrOf_shape hkey
    refine wpAny_letOwnedTupleGo_items heo fun h2 he2 hs2 => ?_
    replace hs2 : Heap.SameBut I h1 h2 := hs2
    have ht2 : h2.IsTuple s'.heap.objs.size #[.str key0 tk, .int n0 t1] := ⟨_, (hs2.2 _ (Nat.ne_of_gt hIH)).trans ht1, rfl, _, rfl⟩
    have hz2 : h2.objs.size = s'.heap.objs.size + 1 := hs2.1.trans hz1
    refine wpAny_assign_Tuple hA ht2 rfl rfl fun h3 hx3 => ?_
    replace hx3 : Heap.ExtBut h2.objs.size h2 h3 := hx3
    have old3 : ∀ b o, b < s'.heap.objs.size → h2.get? b = some o → h3.get? b = some o := fun b o hb x => hx3 b o (by rw [hz2]; exact Nat.ne_of_lt (Nat.lt_succ_of_lt hb)) x
    have up3 : ∀ b o, b ∉ [I] → s'.heap.get? b = some o → h3.get? b = some o := fun b o hb x => old3 b o (Heap.lt_size x) (hs2.extBut b o (fun q => hb (by simp [q])) (hk1 b o (fun q => hb (by simp [q])) x))
    have hit3 : IsItemIter h3 I a (i + 1) l.length ep (.str key0 tk) (.int n0 t1) := old3 I _ hIH he2
    obtain ⟨F1', rd1⟩ := F'.moved (wr := [I]) (fun b hb => by obtain rfl : b = I := by simpa using hb
                                                              exact hd') up3 (Nat.le_refl _)
    show wpAny _ _ (do holding [.int n0 t1] (assign (.Name xk pk) env (.str key0 tk)); do holding [] (assign (.Name xv pv) env (.int n0 t1)); pure ()) _ _ _
    refine wpAny_bind (wpAny_holding (wpAny_assign_Name (F1'.store (τ' := T i) (P := vStr key0) hk ⟨tk, rfl⟩ (fun y C e => ⟨e, (hTk i y C e).1⟩) fun s3 F3 t3 k3 rd3 => ?_)))
    refine wpAny_bind (wpAny_holding (wpAny_assign_Name (F3.store (τ' := T i) (P := vInt n0) hv ⟨t1, rfl⟩ (fun y C e => ⟨e, (hTk i y C e).2⟩) fun s4 F4 t4 k4 rd4 => wpAny_pure ?_)))
    obtain ⟨sb, Fb, kb, back⟩ := F4.rebase
    have own4 : ∀ y C, T i = some (y, C) → ¬ RD env s4.heap y (.ref I) := fun y C e r => by
      obtain ⟨D, o, r', _⟩ := F'.own y C e
      have := (rd4 y _ (hTk i y C e).2 (rd3 y _ (hTk i y C e).1 (rd1 _ _ r'))).unique r
      cases this
      exact hd'.own y C e r'
    have eb := kb I _ hd'.nmut own4 (k4 I _ hd'.nmut (k3 I _ hd'.nmut hit3))
    refine wpAny_mono (hb i key0 n0 hy sb g' g' s4 _ Fb) (fun fl s5 ⟨efl, g5, F5⟩ => ?_) fun _ _ e => e
    subst efl
    refine ⟨l.length + 1 - (i + 1), by omega, i + 1, g5, _, _, hlt, rfl, KeepsHeap F5.keeps I _ eb, hle.trans F5.le, back _ _ _ _ F5, hd'.h0, hd'.nmut, fun o' h' => ?_, ⟨_, KeepsHeap F5.keeps I _ eb⟩, fun y C e r => ?_⟩
    · rcases F5.new I o' h' with q | q
      · exact hd'.ob o' q
      · rw [eb] at q; cases q
    · obtain ⟨D, o', r', _, _, hn, _⟩ := F5.own y C e
      have := r'.unique r
      cases this
      rw [eb] at hn; cases hn
end
end Mine

end

section
open PySem PySem.W PyProof.Rows
set_option linter.unusedVariables false
namespace Mine
section
variable {G : Gv} {A : Around} {env : Env} {σ σ' : Asg} {τ τ' : Own} {P Q R : VP} {α β : Type} {s₀ s s' : Shared} {g₀ g g' : View}

-- many stores
def stσ : List (Str × VP) → Asg → Asg
  | [], σ => σ
  | q :: r, σ => stσ r (q :: del q.1 σ)
theorem all0 {α : Type} {p : α → Prop} : ∀ q ∈ ([] : List α), p q := fun _ h => nomatch h
theorem all1 {α : Type} {p : α → Prop} {a : α} {l : List α} (h : p a) (t : ∀ q ∈ l, p q) : ∀ q ∈ a :: l, p q := fun q hq => (List.mem_cons.mp hq).elim (fun e => e ▸ h) (t q)
theorem all1h {α : Type} {p : α → Prop} {a : α} {l : List α} (h : ∀ q ∈ a :: l, p q) : p a ∧ ∀ q ∈ l, p q := ⟨h _ (.head _), fun q hq => h q (.tail _ hq)⟩
/-- a way to store into a name -/
def Stores (M : Model) (A : Around) (env : Env) (E : Value → Shared → Prop) (f : Value → Sem Unit) (q : Str × VP) : Prop := ∀ v, ∀ (Q : Unit → Shared → Prop) (s : Shared), wpAny M A (storeName env q.1 v) Q E s → wpAny M A (f v) Q E s
theorem Fg.assigns {M : Model} {E : Value → Shared → Prop} (xs : List (Str × VP)) : ∀ {fs : List (Value → Sem Unit)} {vs : List Value} {σ : Asg} {s : Shared}, Fg G env s₀ g₀ σ τ g s → Paired (fun v (q : Str × VP) => q.2.p g v) vs xs →
    (∀ q ∈ xs, Kd env q.1) → Paired (Stores M A env E) fs xs → (∀ q ∈ xs, ∀ y C, τ = some (y, C) → y ≠ q.1) →
    wpAny M A (assignInOrder fs vs) (fun _ s' => ∃ g', Fg G env s₀ g₀ (stσ xs σ) τ g' s') E s := by
  induction xs with
  | nil => intro fs vs σ s F hv _ hf _; cases hv; cases hf; exact wpAny_pure ⟨g, F⟩
  | cons q xs ih =>
    intro fs vs σ s F hv hk hf ho
    cases hv with
    | cons p ps =>
      cases hf with
      | @cons f _ fs _ hf hfs =>
        obtain ⟨hk1, hk2⟩ := all1h hk
        obtain ⟨ho1, ho2⟩ := all1h ho
        refine wpAny_bind (wpAny_holding (hf _ _ _ (F.store (τ' := τ) hk1 p (fun y C e => ⟨e, ho1 y C e⟩) fun s1 F1 _ _ _ => ?_)))
        exact ih F1 ps hk2 hfs ho2
/-- a, b, .. = a tuple -/
theorem S1_tup (hA : A.handled = none) {elts : List Expr} {k : Nat} {tpos pos : Pos} {e : Expr} {xs : List (Str × VP)} (h : EX G A env σ e (vTup (xs.map (·.2)))) (hσ : σ' = stσ xs σ) (hk : ∀ q ∈ xs, Kd env q.1) (ho : ∀ q ∈ xs, ∀ y C, τ = some (y, C) → y ≠ q.1)
    (hf : ∀ (M : Model) (E : Value → Shared → Prop), Paired (Stores M A env E) ((assignEach elts env).map (·.2)) xs)
    (hn : (assignEach elts env).length = xs.length := by rfl) (hstar : (assignEach elts env).findIdx? (·.1) = none := by rfl)
    (hs : swapsWithSole [.Tuple elts k tpos] e pos.line env = pure false := by rfl) (hw : swappedStores [.Tuple elts k tpos] e env = pure none := by rfl) :
    S1 G A env σ τ (.Assign [.Tuple elts k tpos] e pos) σ' τ := fun s₀ g₀ g s E F => by
  refine Assign_Tuple (h.then F.ev fun v g1 s1 G1 e1 hv => ?_) hs hw
  obtain ⟨a, vs, n, rfl, ht, pa⟩ := hv
  have F1 := F.step G1
  refine wpAny_assign_Tuple hA (items := vs.toArray) ⟨_, e1.bs.on _ _ ht, rfl, n, rfl⟩ (by rw [hn, List.size_toArray, pa.length, List.length_map]) hstar fun h' hx => ?_
  have kk : ∀ b o, s1.heap.get? b = some o → h'.get? b = some o := fun b o e => hx b o (Nat.ne_of_lt (Heap.lt_size e)) e
  have F2 := F1.step (.same (s' := { s1 with heap := h' }) F1.ev.bs ⟨h', s1.toks, rfl, kk⟩ (Nat.le_refl _))
  refine wpAny_mono (Fg.assigns xs F2 (vs := vs.toArray.toList) (PairedMap (f := fun q : Str × VP => q.2) (by simpa using pa)) hk (hf _ _) ho) (fun _ s' ⟨g', F'⟩ => ⟨rfl, g', hσ ▸ F'⟩) fun _ _ x => x
theorem nm {M : Model} {E : Value → Shared → Prop} {x : Str} {P : VP} {p : Pos} : Stores M A env E (assign (.Name x p) env) (x, P) := fun _ _ _ h => wpAny_assign_Name h
theorem nmB {M : Model} {E : Value → Shared → Prop} {x : Str} {P : VP} : Stores M A env E (fun v => bindName env x v) (x, P) := fun _ _ _ h => bindName_ h
/-- x, y = (a, b): the two stores are done the other way round -/
theorem S1_swap2 (hA : A.handled = none) {elts : List Expr} {k : Nat} {tpos pos : Pos} {e : Expr} {x y : Str} (h : EX G A env σ e (vTup [P, Q])) (hσ : σ' = (x, P) :: del x ((y, Q) :: del y σ)) (hx : Kd env x) (hy : Kd env y) (ho : ∀ z C, τ = some (z, C) → z ≠ x ∧ z ≠ y)
    (hs : swapsWithSole [.Tuple elts k tpos] e pos.line env = pure false := by rfl) (hw : swappedStores [.Tuple elts k tpos] e env = pure (some [x, y]) := by rfl) :
    S1 G A env σ τ (.Assign [.Tuple elts k tpos] e pos) σ' τ := fun s₀ g₀ g s E F => by
  refine Assign_Tuple_swapped (h.then F.ev fun v g1 s1 G1 e1 hv => ?_) hs hw
  obtain ⟨a, vs, n, rfl, ht, pa⟩ := hv
  obtain ⟨v1, v2, rfl, p1, p2⟩ := two_of pa
  have F1 := F.step G1
  have hT : IsTup s1.heap a #[v1, v2] := tupObj_isTup e1.bs ht
  rw [show ([x, y] : List Str).length = (#[v1, v2] : Array Value).size from rfl]
  refine unpackItems_tuple hA hT fun h' hx' => ?_
  have kk : ∀ b o, s1.heap.get? b = some o → h'.get? b = some o := fun b o e => hx' b o (Nat.ne_of_lt (Heap.lt_size e)) e
  have F2 := F1.step (.same (s' := { s1 with heap := h' }) F1.ev.bs ⟨h', s1.toks, rfl, kk⟩ (Nat.le_refl _))
  show wpAny _ _ (assignInOrder [fun v => bindName env y v, fun v => bindName env x v] [v2, v1]) _ _ _
  exact wpAny_mono (Fg.assigns [(y, Q), (x, P)] F2 (.cons p2 (.cons p1 .nil)) (all1 hy (all1 hx all0)) (.cons nmB (.cons nmB .nil)) (all1 (fun z C e => (ho z C e).2) (all1 (fun z C e => (ho z C e).1) all0)))
    (fun _ s' ⟨g', F'⟩ => ⟨rfl, g', hσ ▸ F'⟩) fun _ _ x => x
/-- x = y = z = value -/
theorem S1_three {x y z : Str} {px py pz pos : Pos} {e : Expr} (h : EX G A env σ e P) (hσ : σ' = stσ [(x, P), (y, P), (z, P)] σ) (hx : Kd env x) (hy : Kd env y) (hz : Kd env z) (ho : ∀ u C, τ = some (u, C) → u ≠ x ∧ u ≠ y ∧ u ≠ z)
    (he : (assignEach [.Name x px, .Name y py, .Name z pz] env).map (·.2) = [assign (.Name x px) env, assign (.Name y py) env, assign (.Name z pz) env] := by rfl) (hw : swappedStores [.Name x px, .Name y py, .Name z pz] e env = pure none := by rfl) :
    S1 G A env σ τ (.Assign [.Name x px, .Name y py, .Name z pz] e pos) σ' τ := fun s₀ g₀ g s E F => by
  refine wpAny_Assign_three (h.then F.ev fun v g1 s1 G1 e1 hv => ?_) he hw
  have F1 := F.step G1
  refine wpAny_assign_Name (F1.store (τ' := τ) hx hv (fun u C e => ⟨e, (ho u C e).1⟩) fun s2 F2 _ _ _ => ?_)
  refine wpAny_assign_Name (F2.store (τ' := τ) hy hv (fun u C e => ⟨e, (ho u C e).2.1⟩) fun s3 F3 _ _ _ => ?_)
  refine wpAny_assign_Name (F3.store (τ' := τ) hz hv (fun u C e => ⟨e, (ho u C e).2.2⟩) fun s4 F4 _ _ _ => ⟨rfl, g1, ?_⟩)
  rw [hσ]; exact F4
theorem cx_isTuple {n : Int} : CX G A (.builtin "isinstance") [vInt n, vIs (.type "tuple")] (vBool false) := by
  intro g s E vs B h
  obtain ⟨v, u, rfl, ⟨t, rfl⟩, e⟩ := two_of h
  have e' : u = .type "tuple" := e
  subst e'
  exact PySem.IsiPair.int_tuple (.tok B rfl)
end
end Mine

end

section
open PySem PySem.W PyProof.Rows
set_option linter.unusedVariables false
namespace Mine
section
variable {G : Gv} {A : Around} {env : Env} {σ σ' : Asg} {τ τ' : Own} {P Q R : VP} {α β : Type} {s₀ s s' : Shared} {g₀ g g' : View}

theorem PairedTake {α β : Type} {F : α → β → Prop} : ∀ {l₁ : List α} {l₂ : List β} (n : Nat), Paired F l₁ l₂ → Paired F (l₁.take n) (l₂.take n)
  | _, _, 0, _ => by rw [List.take_zero, List.take_zero]; exact .nil
  | _, _, n + 1, .nil => .nil
  | _, _, n + 1, .cons a b => .cons a (PairedTake n b)
theorem PairedDrop {α β : Type} {F : α → β → Prop} : ∀ {l₁ : List α} {l₂ : List β} (n : Nat), Paired F l₁ l₂ → Paired F (l₁.drop n) (l₂.drop n)
  | _, _, 0, h => h
  | _, _, n + 1, .nil => .nil
  | _, _, n + 1, .cons a b => PairedDrop n b
theorem EX_slice {value : Expr} {lower upper : Option Expr} {p pos : Pos} {R : α → VP} {xs ys : List α} {lo hi : Option Int} (hv : EX G A env σ value (vList R xs)) (hz : xs.length ≤ sizeLine)
    (hl : ∀ (g : View) (s : Shared) (E : Value → Shared → Prop), Ev G env g s σ → wpAny (model G.prog G.w) A (evalPart lower env) (fun v s' => IsPart v lo ∧ Stp G g s g s') E s)
    (hu : ∀ (g : View) (s : Shared) (E : Value → Shared → Prop), Ev G env g s σ → wpAny (model G.prog G.w) A (evalPart upper env) (fun v s' => IsPart v hi ∧ Stp G g s g s') E s)
    (hp : ∀ (F : Value → α → Prop) (vs : List Value), Paired F vs xs → Paired F (slicePick vs.toArray lo hi none).toList ys)
    (hs : ∀ o i, subscripted (.Slice lower upper none p) false (.ref o) (.ref i) = operate [.ref i, .ref o] (getItem (.ref o) (.ref i)) := by intro _ _; with_unfolding_all rfl) : EX G A env σ (.Subscript value (.Slice lower upper none p) pos) (vList R ys) := fun g s E ev => by
  refine Subscript_ (hv.then ev fun v g1 s1 G1 e1 pv => ?_)
  obtain ⟨a, vs, n, rfl, hob, pa⟩ := pv
  refine wpAny_Slice (wpAny_mono (hl g1 s1 E e1) (fun vl s2 ⟨q2, G2⟩ => ?_) fun _ _ x => x)
  have e2 := e1.grow G2
  refine wpAny_mono (hu g1 s2 E e2) (fun vu s3 ⟨q3, G3⟩ => ?_) fun _ _ x => x
  have e3 := e2.grow G3
  rw [evalPart_none]
  refine wpAny_pure ?_
  have hL := listObj_isList e3.bs hob
  refine tail_any (ops := [.ref s3.heap.objs.size, .ref a]) (hL.push _).typeIs list_getitem_lookup (wpAny_getItem_list_slice (hL.push _) (Heap.IsSliceOf.new ..) q2 q3 .none (by simp) ?_ (by rw [List.size_toArray, pa.length]; exact hz)) (hs _ _)
  have S1 := stpPush e3.bs { cls := .type "slice", data := .fields #[vl, vu, .none] } s3.toks (Nat.le_refl _)
  have key : Raw g1 { s3 with heap := s3.heap.push { cls := .type "slice", data := .fields #[vl, vu, .none] } } (vList R ys) (.ref (s3.heap.push { cls := .type "slice", data := .fields #[vl, vu, .none] }).objs.size)
      { s3 with heap := (s3.heap.push { cls := .type "slice", data := .fields #[vl, vu, .none] }).push { cls := .type "list", data := .seq (slicePick vs.toArray lo hi none) } } :=
    Raw.push S1.bs rfl ⟨_, (slicePick vs.toArray lo hi none).toList, 0, rfl, .inr ⟨rfl, by simp [listObj]⟩, hp _ _ (PairedImp (fun _ _ z => (R _).mono (VAdd.le g1 _ _) z) pa)⟩
  exact (((key.out S1.bs (Nat.le_refl _)).go S1).go G3).go G2 |>.go G1
theorem part_none : ∀ (g : View) (s : Shared) (E : Value → Shared → Prop), Ev G env g s σ → wpAny (model G.prog G.w) A (evalPart none env) (fun v s' => IsPart v none ∧ Stp G g s g s') E s := fun g s E ev => by
  rw [evalPart_none]; exact wpAny_pure ⟨.none, .refl ev.bs⟩
theorem part_int {e : Expr} {i : Int} (h : EX G A env σ e (vInt i)) : ∀ (g : View) (s : Shared) (E : Value → Shared → Prop), Ev G env g s σ → wpAny (model G.prog G.w) A (evalPart (some e) env) (fun v s' => IsPart v (some i) ∧ Stp G g s g s') E s := fun g s E ev => by
  rw [evalPart_some]
  exact wpAny_mono (h g s E ev) (fun v s' ⟨g', S, t, e⟩ => ⟨e ▸ .int i t, .same ev.bs S.keeps S.toks⟩) fun _ _ x => x
theorem EX_upto {value e : Expr} {p pos : Pos} {R : α → VP} {xs : List α} {b : Nat} (hv : EX G A env σ value (vList R xs)) (hz : xs.length ≤ sizeLine) (he : EX G A env σ e (vInt b))
    (hs : ∀ o i, subscripted (.Slice none (some e) none p) false (.ref o) (.ref i) = operate [.ref i, .ref o] (getItem (.ref o) (.ref i)) := by intro _ _; with_unfolding_all rfl) : EX G A env σ (.Subscript value (.Slice none (some e) none p) pos) (vList R (xs.take b)) :=
  EX_slice hv hz part_none (part_int he) (fun F vs h => by rw [slicePick_upto']; simpa using PairedTake b h) hs
theorem EX_from {value e : Expr} {p pos : Pos} {R : α → VP} {xs : List α} {b : Nat} (hv : EX G A env σ value (vList R xs)) (hz : xs.length ≤ sizeLine) (he : EX G A env σ e (vInt b))
    (hs : ∀ o i, subscripted (.Slice (some e) none none p) false (.ref o) (.ref i) = operate [.ref i, .ref o] (getItem (.ref o) (.ref i)) := by intro _ _; with_unfolding_all rfl) : EX G A env σ (.Subscript value (.Slice (some e) none none p) pos) (vList R (xs.drop b)) :=
  EX_slice hv hz (part_int he) part_none (fun F vs h => by rw [slicePick_from']; simpa using PairedDrop b h) hs
theorem EX_but1 {value e : Expr} {p pos : Pos} {R : α → VP} {xs : List α} (hv : EX G A env σ value (vList R xs)) (hz : xs.length ≤ sizeLine) (he : EX G A env σ e (vInt (-1)))
    (hs : ∀ o i, subscripted (.Slice none (some e) none p) false (.ref o) (.ref i) = operate [.ref i, .ref o] (getItem (.ref o) (.ref i)) := by intro _ _; with_unfolding_all rfl) : EX G A env σ (.Subscript value (.Slice none (some e) none p) pos) (vList R (xs.take (xs.length - 1))) :=
  EX_slice hv hz part_none (part_int he) (fun F vs h => by
    have := slicePick_butLast vs.toArray 1 (by omega)
    rw [show (-1 : Int) = -((1 : Nat) : Int) by rfl, this]
    simpa [h.length] using PairedTake (xs.length - 1) h) hs

-- str
theorem strVals {l : List (Str × Tok)} {ys : List Str} {g : View} (h : l.map (·.1) = ys) : Paired (fun v x => (vStr x).p g v) (strValues l) ys := by
  subst h
  induction l with
  | nil => exact .nil
  | cons a r ih => exact .cons ⟨_, rfl⟩ ih
open Builtin Builtin.Str in
theorem cx_split {x y : Str} (hy : (y.length == 0) = false) (hsz : x.length ≤ sizeLine) (hsz2 : (partsBetween x (occurrences x y 0 x.length (x.length + 1)) y.length).length ≤ sizeLine) :
    CX G A (.builtin "str.split") [vStr x, vStr y] (vList vStr (Txt.split x y)) := by
  intro g s E vs B h
  obtain ⟨v, u', rfl, ⟨t, rfl⟩, ⟨u, rfl⟩⟩ := two_of h
  have fin : ∀ (l : List (Str × Tok)) (tk : Tok), l.map (·.1) = Txt.split x y → Raw g s (vList vStr (Txt.split x y)) (.ref s.heap.objs.size) { s with heap := s.heap.push { cls := .type "list", data := .seq (strValues l).toArray }, toks := tk } := fun l tk e =>
    .push B rfl ⟨_, strValues l, 0, rfl, VAdd.here _ _ _, strVals e⟩
  refine raw B ?_
  by_cases hlong : (decide (x.length < y.length) || decide (strKind x < strKind y)) = true
  · refine (call_meets F.slot_str_split (typeIs_str _ _ _) F.entry_str_split (F.args_str_split_2 _ _) (meets_str_split_cannot_occur x y t u hlong) ?_)
    exact fin [(x, t)] s.toks (by unfold Txt.split; rw [if_pos hlong]; rfl)
  have hlong' := eq_false_of_ne_true hlong
  by_cases hnot : (occurrences x y 0 x.length (x.length + 1)).isEmpty = true
  · refine (call_meets F.slot_str_split (typeIs_str _ _ _) F.entry_str_split (F.args_str_split_2 _ _) (meets_str_split_not_found x y t u hlong' hy hnot) ?_)
    exact fin [(x, t)] s.toks (by unfold Txt.split; rw [if_neg hlong, if_pos hnot]; rfl)
  · refine (call_meets F.slot_str_split (typeIs_str _ _ _) F.entry_str_split (F.args_str_split_2 _ _) (meets_str_split_sep x y t u hlong' hy (eq_false_of_ne_true hnot) hsz hsz2) ?_)
    have e := strsFrom_eq s.toks (partsBetween x (occurrences x y 0 x.length (x.length + 1)) y.length)
    exact e ▸ fin (numbered s.toks _) _ (by unfold Txt.split; rw [if_neg hlong, if_neg hnot]; exact numbered_texts _ _)
def ch (c : Nat) : Str := ⟨#[c]⟩
theorem IX_str (hA : A.handled = none) {iter : Expr} {x : Str} (h : EX G A env σ iter (vStr x)) : IX G A env σ iter (fun c => vStr (ch c)) x.cps.toList := fun g s E ev =>
  h.then ev fun v g1 s1 G1 e1 hv => by
    obtain ⟨t, rfl⟩ := hv
    have hnn : s1.heap.get? s1.heap.objs.size = none := fresh_none _
    have fin : ∀ (T : String) (o : Obj), Walks G.prog G.w A s1.heap.objs.size [s1.heap.objs.size] [s1.heap.objs.size] x.cps.size (SignAt x) (fun i h => h.IsStrIter s1.heap.objs.size T x t i) →
        (s1.heap.push o).IsStrIter s1.heap.objs.size T x t 0 → ∃ g2 I fp wr Pi St, Value.ref s1.heap.objs.size = .ref I ∧ Stp G g s g2 { s1 with heap := s1.heap.push o } ∧ ItOk G A g s g2 { s1 with heap := s1.heap.push o } I fp wr Pi St (fun c => vStr (ch c)) x.cps.toList := by
      intro T o W hst
      rw [show x.cps.size = x.cps.toList.length by simp] at W
      have K := stpPush e1.bs o s1.toks (Nat.le_refl _)
      refine ⟨g1, _, _, _, _, _, rfl, G1.trans K, ⟨W, hst, ?_, ?_, ?_, ?_, ?_⟩⟩
      · intro b hb
        obtain rfl : b = s1.heap.objs.size := by simpa using hb
        exact ⟨noneOfKeeps G1.keeps hnn, notOb e1.bs hnn⟩
      · rintro i h ⟨o, ho, _⟩ b hb
        obtain rfl : b = s1.heap.objs.size := by simpa using hb
        exact ⟨o, ho⟩
      · intro b hb
        obtain rfl : b = s1.heap.objs.size := by simpa using hb
        show _ < (s1.heap.push _).objs.size; rw [Heap.size_push]; exact Nat.lt_succ_self _
      · intro b hb; exact .inl hb
      · rintro i v ⟨c, u, hc, rfl⟩
        exact ⟨c, by simpa using hc, u, rfl⟩
    cases ha : x.cps.all (· < 128)
    · exact wpAny_pyIter_wide ha (fin _ _ (Walks.strWide hA _ x t) ⟨_, Heap.get?_push_size _ rfl, rfl, rfl⟩)
    · exact wpAny_pyIter_ascii ha (fin _ _ (Walks.strAscii hA _ x t) ⟨_, Heap.get?_push_size _ rfl, rfl, rfl⟩)
end
end Mine

end

section
open PySem PySem.W PyProof.Rows
set_option linter.unusedVariables false
namespace Mine
section
variable {G : Gv} {A : Around} {env : Env} {σ σ' : Asg} {τ τ' : Own} {P Q R : VP} {α β : Type} {s₀ s s' : Shared} {g₀ g g' : View}

/-- a store into the frame's own names, made at the end of a comprehension -/
theorem Fg.storedW {h' : Heap} {tk : Tok} {x : Str} {v : Value} {wr : List Addr} {m : Str → Option Value} (F : Fg G env s₀ g₀ σ τ g s) (hx : env.kindOf x = some .local) (hn : s.heap.Ns env.locals m) (hn' : h'.Ns env.locals (fun z => if z = x then some v else m z))
    (hd : ∀ b ∈ wr, Dis env s₀ g s τ b) (kk : ∀ b o, b ≠ env.locals → b ∉ wr → s.heap.get? b = some o → h'.get? b = some o) (ht : s.toks ≤ tk) (le : VLe g g') (hg' : ∀ b o, g'.ob b o → g.ob b o ∨ (s.heap.get? b = none ∧ h'.get? b = some o)) (htk : g'.tk ≤ tk) (p : P.p g' v)
    (hτ : ∀ y C, τ' = some (y, C) → τ = some (y, C) ∧ y ≠ x) : Fg G env s₀ g₀ ((x, P) :: del x σ) τ' g' { s with heap := h', toks := tk } := by
  obtain ⟨ng, nb⟩ := glNe F
  have hM : Mut env env.locals := .inl rfl
  have gn := F.fr.out _ hM
  have kp : ∀ b o, s₀.heap.get? b = some o → h'.get? b = some o := fun b o e => kk b o (fun q => by rw [q, gn.1] at e; cases e) (fun q => by rw [(hd b q).h0] at e; cases e) (KeepsHeap F.keeps b o e)
  have kG : ∀ b, (∃ o, s₀.heap.get? b = some o) → ∀ o, s.heap.get? b = some o → h'.get? b = some o := fun b ⟨o', e'⟩ o e => kk b o (fun q => by rw [q, gn.1] at e'; cases e') (fun q => by rw [(hd b q).h0] at e'; cases e') e
  have kC : ∀ n c, (n, c) ∈ env.cells → ∀ o, s.heap.get? c = some o → h'.get? c = some o := fun n c hc o e => kk c o (F.fr.above n c hc) (fun q => (hd c q).nmut (.inr ⟨n, hc⟩)) e
  have ry : ∀ y u, y ≠ x → RD env s.heap y u → RD env h' y u := by
    intro y u hne r
    cases r with
    | loc hk m' hm' e =>
      have := nsUnique hn hm'
      subst this
      exact .loc hk _ hn' (by simp [hne, e])
    | cell hk c hc' hv => exact .cell hk c hc' (let ⟨o, e, d⟩ := hv; ⟨o, kC _ c (mem_of_lookup hc') o e, d⟩)
    | glob hk m' hm' e => exact .glob hk m' (hm'.at' (kG _ F.fr.gl)) e
    | blt hk m' hm' e mb hb' hv => exact .blt hk m' (hm'.at' (kG _ F.fr.gl)) e mb (hb'.at' (kG _ F.fr.bl)) hv
  have alive : ∀ b o, s.heap.get? b = none → g.ob b o → False := fun b o e q => by rw [F.ev.bs.on b o q] at e; cases e
  obtain ⟨hh, tt, hs, _⟩ := F.keeps
  refine ⟨⟨F.ev.fn, ⟨fun b o h => (hg' b o h).elim (fun q => kk b o (fun e => gn.2 o (e ▸ q)) (fun e => (hd b e).ob o q) (F.ev.bs.on b o q)) (·.2), F.wd.keeps kp, htk, Nat.lt_of_lt_of_le F.ev.bs.pos le.tk⟩, fun y Q hq => ?_⟩,
    F.wd, ⟨h', tk, by rw [hs], kp⟩, Nat.le_trans F.toks ht, F.le.trans le, fun b o h => (hg' b o h).elim (F.new b o) (fun q => .inr (noneOfKeeps F.keeps q.1)),
    ⟨⟨_, hn'⟩, fun n c hc => let ⟨v, o, e, d⟩ := F.fr.cells n c hc; ⟨v, o, kC n c hc o e, d⟩, fun b hb => ⟨(F.fr.out b hb).1, fun o h => (hg' b o h).elim ((F.fr.out b hb).2 o) fun q => ?_⟩, F.fr.apart, F.fr.above, F.fr.gl, F.fr.bl⟩, fun y C e => ?_⟩
  · rcases List.mem_cons.mp hq with e | hq
    · cases e; exact ⟨v, .loc hx _ hn' (by simp), p⟩
    · obtain ⟨hm, hne⟩ := mem_del hq
      obtain ⟨u, r, q⟩ := F.ev.var y Q hm
      exact ⟨u, ry y u hne r, Q.mono le q⟩
  · rcases hb with q' | ⟨n, hb⟩
    · obtain ⟨m, o, _, _, e, _⟩ := F.fr.ns; rw [← q', q.1] at e; cases e
    · obtain ⟨v, o, e, _⟩ := F.fr.cells n b hb; rw [q.1] at e; cases e
  · obtain ⟨e1, e2⟩ := hτ y C e
    obtain ⟨D, o, r, h1, h2, h3, h4, h5⟩ := F.own y C e1
    refine ⟨D, o, ry y _ e2 r, kk D o (fun q => h4 (q ▸ hM)) (fun q => (hd D q).own y C e1 r) h1, fun o' q => (hg' D o' q).elim (h2 o') fun z => ?_, h3, h4, C.mono le h5⟩
    rw [z.1] at h1; cases h1
theorem S1_assignComp {elt iter : Expr} {x y : Str} {px py : Pos} {scope : Scope} {pos spos : Pos} {cl : List (Str × Addr)} {R : α → VP} {xs : List α} {S : β → VP} {f : α → β} {τc : Asg}
    (hi : IX G A env σ iter R xs) (hz : xs.length ≤ sizeLine) (inj : Inj R) (rflat : ∀ x, Flat (R x)) (flat : ∀ y, Flat (S y))
    (hclos : closureFor scope env = pure cl) (hcell : ∀ y ∈ scope.names, y.2 ≠ .cell) (hkind : scope.kind = .function)
    (hnames : ∀ y ∈ scope.names, y.2 = .local → scope.names.lookup y.1 = some .local) (hx : scope.names.lookup x = some .local)
    (hτ : ∀ C, ∀ q ∈ τc, Cry G env (compEnvC scope cl C env) σ q)
    (he : ∀ C, ∀ a ∈ xs, EX G A (compEnvC scope cl C env) ((x, R a) :: τc) elt (S (f a)))
    (hy : env.kindOf y = some .local) (hσ : σ' = (y, vList S (xs.map f)) :: del y σ) (hτo : ∀ z C, τ' = some (z, C) → τ = some (z, C) ∧ z ≠ y)
    (hsw : swapsWith (.ListComp elt [⟨.Name x px, iter, [], 0⟩] scope pos) (some (.Name y py)) spos.line env = pure true := by rfl)
    (hs : ∀ x, foldedSetIterable iter env x = pure x := by intro _; rfl) :
    S1 G A env σ τ (.Assign [.Name y py] (.ListComp elt [⟨.Name x px, iter, [], 0⟩] scope pos) spos) σ' τ' := fun s₀ g₀ g s E F => by
  refine wpAny_with_toks (n := s.toks) (Nat.le_refl _) (wpAny_Assign_ListComp_free (fun _ => true) (fun v y => ∃ a, a ∈ xs ∧ (∃ g, (R a).p g v) ∧ ∀ g, (S (f a)).p g y) hsw hclos hcell hkind hnames hx hy (by rw [F.ev.fn]; rfl)
    (wpAny_mono (hi g s (fun _ _ => False) F.ev) (fun xv s1 h1 => wpAny_mono h1 (fun it s2 h2 => ?_) fun _ _ e => e.elim) fun _ _ e => e.elim) hs)
  obtain ⟨g2, I, fp, wr, Pi, St, rfl, S2, K⟩ := h2
  have F2 := F.step S2
  have d2 : ∀ b ∈ wr, Dis env s₀ g2 s2 τ b := fun b hb => by
    obtain ⟨w1, w2⟩ := K.wrs b hb
    refine ⟨noneOfKeeps F.keeps w1, fun hm => ?_, w2, K.ex _ _ K.start b hb, fun x C e r => ?_⟩
    · rcases hm with rfl | ⟨n, hm⟩
      · obtain ⟨m, o, _, _, e, _⟩ := F.fr.ns; rw [w1] at e; cases e
      · obtain ⟨v, o, e, _⟩ := F.fr.cells n b hm; rw [w1] at e; cases e
    · obtain ⟨D, o, r', e', _⟩ := F.own x C e
      have := (r'.keeps (KeepsHeap S2.keeps)).unique r
      cases this
      rw [w1] at e'; cases e'
  obtain ⟨m, hm0⟩ := F.fr.ns
  have hm := hm0.keeps (KeepsHeap S2.keeps)
  refine ⟨I, fp, wr, xs.length, Pi, St, m, rfl, K.walks, hz, K.start, K.lt, fun h => (d2 _ h).nmut (.inl rfl), hm, ⟨?_, ?_⟩, ?_⟩
  · intro C i v s3 m3 E' hC hP hn hm hk ht
    exact wpAny_tests_nil ⟨rfl, KeepsRefl _⟩
  · intro C i v s3 m3 E' hC hP _ hn hm hk ht
    obtain ⟨a, ha, pa⟩ := K.item i v hP
    have ham : a ∈ xs := List.mem_of_getElem? ha
    have ev3 : Ev G env g2 s3 σ := F.ev.over S2 hk (fun b hb => ⟨(K.wrs b hb).1, (K.wrs b hb).2⟩) ht
    have ev4 : Ev G (compEnvC scope cl C env) g2 s3 ((x, R a) :: τc) := ev3.comp hkind hn hm (lookup_relabel_local hx) pa (hτ C)
    exact (he C a ham).then ev4 fun y g4 s4 S4 e4 p4 => ⟨⟨a, ham, ⟨g2, pa⟩, fun g => flat _ _ _ _ p4⟩, S4.keeps⟩
  · intro D h' tk ys vs hD hl hpl hlen hPs hF hns hk
    intro htk
    obtain ⟨n, hpl⟩ := hpl
    have hob : (⟨.type "list", none, .seq ys n, #[]⟩ : Obj) = listObj ys.toList n := by simp [listObj]
    have hg2 : ∀ b o, g2.ob b o → g.ob b o ∨ (s.heap.get? b = none ∧ h'.get? b = some o) := fun b o q => (S2.new b o q).imp id fun z => ⟨z, hk b o (fun e => (F2.fr.out b (.inl e)).2 o q) (fun e => (K.wrs b e).2 o q) (S2.bs.on b o q)⟩
    have hob2 : ∀ b o, g.ob b o → g2.ob b o := S2.le.ob
    obtain ⟨hh, tt, e2, _⟩ := S2.keeps
    have hst : ({ s2 with heap := h', toks := tk } : Shared) = { s with heap := h', toks := tk } := by rw [e2]
    rw [hst]
    refine ⟨rfl, ⟨(VAdd g2 D (listObj ys.toList n)).ob, g.tk⟩, hσ ▸ F.storedW (wr := []) hy hm0 hns (fun _ h => nomatch h) (fun b o hb _ e => hk b o hb (fun q => by rw [(K.wrs b q).1] at e; cases e) (KeepsHeap S2.keeps b o e)) htk
      ⟨fun b o q => .inl (hob2 b o q), Nat.le_refl _⟩ ?_ (Nat.le_trans F.ev.bs.tk htk) ⟨D, ys.toList, n, rfl, VAdd.here _ _ _, ?_⟩ hτo⟩
    · rintro b o (q | ⟨rfl, rfl⟩)
      · exact hg2 b o q
      · exact .inr ⟨noneOfKeeps S2.keeps hD, hob ▸ hpl⟩
    · have hF' : Paired (fun v y => ∃ a, a ∈ xs ∧ (∃ g, (R a).p g v) ∧ ∀ g, (S (f a)).p g y) vs ys.toList := by
        rwa [List.filter_eq_self.mpr fun _ _ => rfl] at hF
      refine pairedOfAt (by rw [← hF'.length, hlen, List.length_map]) fun n y b hy hb => ?_
      obtain ⟨v, hv, a, _, ⟨g', pa⟩, q⟩ := PairedAt hF' hy
      obtain ⟨x', hx', px⟩ := K.item n v (hPs n v hv)
      obtain rfl : a = x' := inj g' v a x' pa (by exact rflat _ _ _ _ px)
      rw [List.getElem?_map, hx'] at hb
      cases hb
      exact q _
end
end Mine

end

section
set_option maxRecDepth 20000
open PySem PySem.Sre
namespace Mine
def code2 : Array Nat := #[14, 9, 4, 1, 2, 16, 10, 16, 13, 0, 7, 7, 16, 13, 16, 10, 15, 18, 5, 16, 10, 15, 13, 11, 16, 13, 5, 5, 0, 16, 10, 1, 15, 2, 0, 1]
def code1 : Array Nat := #[14, 4, 0, 1, 1, 6, 1, 16, 46, 1]

/-- the machine comes to m' -/
def Ru (m m' : M) : Prop := ∃ n, n ≤ 1000000 ∧ M.runFor n m = m'
def RuN (n : Nat) (m m' : M) : Prop := M.runFor n m = m'
theorem RuN.step {n : Nat} {m m1 m' : M} (h : m.outcome = none) (e : m.step = m1) (r : RuN n m1 m') : RuN (n + 1) m m' := by
  unfold RuN M.runFor; rw [h]; simp only [Option.isSome_none, Bool.false_eq_true, if_false]; rw [e]; exact r
theorem RuN.refl (m : M) : RuN 0 m m := rfl
theorem RuN.trans {n k : Nat} {a b c : M} (x : RuN n a b) (y : RuN k b c) : RuN (n + k) a c := by
  induction n generalizing a with
  | zero =>
    have : a = b := x
    subst this; rw [Nat.zero_add]; exact y
  | succ n ih =>
    unfold RuN M.runFor at x
    by_cases h : a.outcome.isSome = true
    · rw [if_pos h] at x; subst x
      unfold RuN at *
      have : ∀ j, M.runFor j a = a := fun j => by cases j with
        | zero => rfl
        | succ j => unfold M.runFor; rw [if_pos h]
      rw [this] at y ⊢; exact y
    · rw [if_neg h] at x
      have := ih x
      rw [Nat.add_right_comm]
      unfold RuN M.runFor; rw [if_neg h]; exact this

/-- one sign read -/
theorem step_yes {m : M} (h1 : m.outcome = none) (h2 : m.answer = none) (h3 : m.pc < m.code.size) (h4 : ops[m.word 0]? = some .LITERAL) (hp : m.pos < m.lim) (hc : m.text.getD m.pos 0 = m.code.getD (m.pc + 1) 0) :
    m.step = { m with seen := m.seen.add (m.word 0), pc := m.pc + 2, pos := m.pos + 1 } := by
  unfold M.step
  rw [h1, h2]
  simp only [Option.isSome_none, Bool.false_eq_true, if_false, h3, if_true]
  unfold M.exec
  rw [h4]
  dsimp only
  rw [if_neg (by omega)]
  have h4' : ops[m.code.getD m.pc 0]? = some .LITERAL := h4
  unfold accepts itemWidth
  rw [h4']
  dsimp only
  rw [hc]
  simp only [beq_self_eq_true]
  rw [h1, h2]
theorem step_no {m : M} (h1 : m.outcome = none) (h2 : m.answer = none) (h3 : m.pc < m.code.size) (h4 : ops[m.word 0]? = some .LITERAL) (hp : m.lim ≤ m.pos ∨ m.text.getD m.pos 0 ≠ m.code.getD (m.pc + 1) 0) :
    m.step = { m with seen := m.seen.add (m.word 0), answer := some false } := by
  unfold M.step
  rw [h1, h2]
  simp only [Option.isSome_none, Bool.false_eq_true, if_false, h3, if_true]
  unfold M.exec
  rw [h4]
  dsimp only
  by_cases hl : m.lim ≤ m.pos
  · rw [if_pos hl]; simp [M.say, h1]
  · rw [if_neg hl]
    have hc := hp.resolve_left hl
    have h4' : ops[m.code.getD m.pc 0]? = some .LITERAL := h4
    unfold accepts
    rw [h4']
    dsimp only
    rw [beq_false_of_ne hc]
    simp [M.say, h1]

def mk2 (text : Array Nat) (lim lastStart start pc pos handed : Nat) (outermost : Bool) (frames : List Sre.Frame) (weight : Nat) (answer : Option Bool) (seen : Seen) : M :=
  { code := code2, text, lim, start, lastStart, pc, pos, handed, outermost, marks := #[], frames, weight, answer, seen }
def fNS (pc s : Nat) (first : Bool) : Sre.Frame := { wait := .nextStart, pc, pos := s, outermost := first }
def fNB (pc s : Nat) (first : Bool) : Sre.Frame := { wait := .nextBranch, pc, pos := s, outermost := first }

def Matched (m : M) (b e : Nat) : Prop := (match m.outcome with | some .matched => True | _ => False) ∧ m.start = b ∧ m.handed = e
theorem go_end {text : Array Nat} {lim ls s e : Nat} {first : Bool} {seen : Seen} {pc pa : Nat} : ∃ m', RuN 4 (mk2 text lim ls s 35 e pa first [fNB pc s first, fNS 10 s first] 2 none seen) m' ∧ Matched m' s e := by
  refine ⟨_, RuN.step rfl (m1 := mk2 text lim ls s 35 e e first [fNB pc s first, fNS 10 s first] 2 (some true) (seen.add 1)) ?_ (RuN.step rfl rfl (RuN.step rfl rfl (RuN.step rfl rfl (RuN.refl _)))), trivial, rfl, rfl⟩
  cases first <;> rfl
theorem RuN.ex {n k : Nat} {a b : M} {P : M → Prop} (x : RuN n a b) (y : ∃ m', RuN k b m' ∧ P m') : ∃ m', RuN (n + k) a m' ∧ P m' := let ⟨m', h, p⟩ := y; ⟨m', x.trans h, p⟩
theorem go_lf {text : Array Nat} {lim ls s : Nat} {first : Bool} {seen : Seen} (hs : s < lim) (hc : text.getD s 0 = 10) :
    ∃ m', RuN 9 (mk2 text lim ls s 10 s s first [fNS 10 s first] 1 none seen) m' ∧ Matched m' s (s + 1) := by
  refine RuN.ex (n := 5) (b := mk2 text lim ls s 35 (s + 1) s first [fNB 18 s first, fNS 10 s first] 2 none ((((seen.add 7).add 16).add 16).add 15)) ?_ go_end
  refine RuN.step (m1 := mk2 text lim ls s 12 s s first [fNB 11 s first, fNS 10 s first] 2 none (seen.add 7)) rfl rfl ?_
  refine RuN.step rfl (step_no rfl rfl (by show 12 < 36; decide) rfl (.inr (by show text.getD s 0 ≠ 13; rw [hc]; decide))) ?_
  refine RuN.step (m1 := mk2 text lim ls s 19 s s first [fNB 18 s first, fNS 10 s first] 2 none ((seen.add 7).add 16)) rfl rfl ?_
  refine RuN.step rfl (step_yes rfl rfl (by show 19 < 36; decide) rfl hs hc) ?_
  refine RuN.step (m1 := mk2 text lim ls s 35 (s + 1) s first [fNB 18 s first, fNS 10 s first] 2 none ((((seen.add 7).add 16).add 16).add 15)) rfl rfl ?_
  exact RuN.refl _
theorem go_crlf {text : Array Nat} {lim ls s : Nat} {first : Bool} {seen : Seen} (hs : s + 1 < lim) (hc : text.getD s 0 = 13) (hc' : text.getD (s + 1) 0 = 10) :
    ∃ m', RuN 8 (mk2 text lim ls s 10 s s first [fNS 10 s first] 1 none seen) m' ∧ Matched m' s (s + 2) := by
  refine RuN.ex (n := 4) (b := mk2 text lim ls s 35 (s + 2) s first [fNB 11 s first, fNS 10 s first] 2 none ((((seen.add 7).add 16).add 16).add 15)) ?_ go_end
  refine RuN.step (m1 := mk2 text lim ls s 12 s s first [fNB 11 s first, fNS 10 s first] 2 none (seen.add 7)) rfl rfl ?_
  refine RuN.step rfl (step_yes rfl rfl (by show 12 < 36; decide) rfl (by show s < lim; omega) hc) ?_
  refine RuN.step rfl (step_yes rfl rfl (by show 14 < 36; decide) rfl hs hc') ?_
  refine RuN.step (m1 := mk2 text lim ls s 35 (s + 2) s first [fNB 11 s first, fNS 10 s first] 2 none ((((seen.add 7).add 16).add 16).add 15)) rfl rfl ?_
  exact RuN.refl _
def fLN (s : Nat) (first : Bool) : Sre.Frame := { wait := .lookNot, pc := 26, pos := s, outermost := first }
theorem go_cr {text : Array Nat} {lim ls s : Nat} {first : Bool} {seen : Seen} (hs : s < lim) (hc : text.getD s 0 = 13) (hc' : lim ≤ s + 1 ∨ text.getD (s + 1) 0 ≠ 10) :
    ∃ m', RuN 15 (mk2 text lim ls s 10 s s first [fNS 10 s first] 1 none seen) m' ∧ Matched m' s (s + 1) := by
  refine RuN.ex (n := 11) (b := mk2 text lim ls s 35 (s + 1) (s + 1) first [fNB 23 s first, fNS 10 s first] 2 none ((((((((seen.add 7).add 16).add 16).add 16).add 16).add 5).add 16).add 15)) ?_ go_end
  refine RuN.step (m1 := mk2 text lim ls s 12 s s first [fNB 11 s first, fNS 10 s first] 2 none (seen.add 7)) rfl rfl ?_
  refine RuN.step rfl (step_yes rfl rfl (by show 12 < 36; decide) rfl hs hc) ?_
  refine RuN.step rfl (step_no rfl rfl (by show 14 < 36; decide) rfl hc') ?_
  refine RuN.step (m1 := mk2 text lim ls s 19 s s first [fNB 18 s first, fNS 10 s first] 2 none (((seen.add 7).add 16).add 16)) rfl rfl ?_
  refine RuN.step rfl (step_no rfl rfl (by show 19 < 36; decide) rfl (.inr (by show text.getD s 0 ≠ 10; rw [hc]; decide))) ?_
  refine RuN.step (m1 := mk2 text lim ls s 24 s s first [fNB 23 s first, fNS 10 s first] 2 none ((((seen.add 7).add 16).add 16).add 16)) rfl rfl ?_
  refine RuN.step rfl (step_yes rfl rfl (by show 24 < 36; decide) rfl hs hc) ?_
  refine RuN.step (m1 := mk2 text lim ls s 29 (s + 1) (s + 1) false [fLN (s + 1) first, fNB 23 s first, fNS 10 s first] 3 none ((((((seen.add 7).add 16).add 16).add 16).add 16).add 5)) rfl rfl ?_
  refine RuN.step rfl (step_no rfl rfl (by show 29 < 36; decide) rfl hc') ?_
  refine RuN.step (m1 := mk2 text lim ls s 32 (s + 1) (s + 1) first [fNB 23 s first, fNS 10 s first] 2 none (((((((seen.add 7).add 16).add 16).add 16).add 16).add 5).add 16)) rfl rfl ?_
  refine RuN.step (m1 := mk2 text lim ls s 35 (s + 1) (s + 1) first [fNB 23 s first, fNS 10 s first] 2 none ((((((((seen.add 7).add 16).add 16).add 16).add 16).add 5).add 16).add 15)) rfl rfl ?_
  exact RuN.refl _
end Mine

end

section
set_option maxRecDepth 20000
open PySem PySem.Sre
namespace Mine
def Failed (m : M) : Prop := match m.outcome with | some .failed => True | _ => False
def EolAt (text : Array Nat) (s e : Nat) : Prop :=
  (text.getD s 0 = 10 ∧ e = s + 1) ∨ (text.getD s 0 = 13 ∧ s + 1 < text.size ∧ text.getD (s + 1) 0 = 10 ∧ e = s + 2) ∨ (text.getD s 0 = 13 ∧ (text.size ≤ s + 1 ∨ text.getD (s + 1) 0 ≠ 10) ∧ e = s + 1)
theorem inSet2 (c : Nat) (seen : Seen) : ∃ seen', inSet code2 c 36 5 true seen = .ok (c == 10 || c == 13, seen') := by
  have e : inSet code2 c 36 5 true seen = if c == 10 then .ok (true, seen.add 16) else if c == 13 then .ok (true, (seen.add 16).add 16) else .ok (false, ((seen.add 16).add 16).add 0) := rfl
  rw [e]
  cases h1 : c == 10 <;> cases h2 : c == 13 <;> simp
theorem admitted2 {m : M} (hc : m.code = code2) {t : Nat} (ht : t < m.lim) (hin : m.text.getD t 0 = 10 ∨ m.text.getD t 0 = 13) : ∀ (fuel s : Nat) (seen : Seen), s ≤ t → t - s < fuel → (∀ i, s ≤ i → i < t → m.text.getD i 0 ≠ 10 ∧ m.text.getD i 0 ≠ 13) →
    ∃ seen', M.admitted m fuel s seen = .ok (some t, seen')
  | 0, s, seen, h1, h2, _ => absurd h2 (Nat.not_lt_zero _)
  | fuel + 1, s, seen, h1, h2, h3 => by
    unfold M.admitted
    rw [if_neg (by omega)]
    obtain ⟨seen', e⟩ := inSet2 (m.text.getD s 0) seen
    rw [hc, show code2.size = 36 from rfl, e]
    by_cases hst : s = t
    · subst hst
      have : (m.text.getD s 0 == 10 || m.text.getD s 0 == 13) = true := by rcases hin with h | h <;> simp [h]
      rw [this]; exact ⟨_, rfl⟩
    · have h := h3 s (Nat.le_refl _) (by omega)
      have : (m.text.getD s 0 == 10 || m.text.getD s 0 == 13) = false := by rw [beq_false_of_ne h.1, beq_false_of_ne h.2]; rfl
      rw [this]
      exact admitted2 hc ht hin fuel (s + 1) seen' (by omega) (by omega) fun i hi hi' => h3 i (by omega) hi'
theorem admitted2n {m : M} (hc : m.code = code2) : ∀ (fuel s : Nat) (seen : Seen), m.lim - s < fuel → (∀ i, s ≤ i → i < m.lim → m.text.getD i 0 ≠ 10 ∧ m.text.getD i 0 ≠ 13) →
    ∃ seen', M.admitted m fuel s seen = .ok (none, seen')
  | 0, s, seen, h2, _ => absurd h2 (Nat.not_lt_zero _)
  | fuel + 1, s, seen, h2, h3 => by
    unfold M.admitted
    by_cases hl : s ≥ m.lim
    · rw [if_pos hl]; exact ⟨_, rfl⟩
    · rw [if_neg hl]
      obtain ⟨seen', e⟩ := inSet2 (m.text.getD s 0) seen
      rw [hc, show code2.size = 36 from rfl, e]
      have h := h3 s (Nat.le_refl _) (by omega)
      have : (m.text.getD s 0 == 10 || m.text.getD s 0 == 13) = false := by rw [beq_false_of_ne h.1, beq_false_of_ne h.2]; rfl
      rw [this]
      exact admitted2n hc fuel (s + 1) seen' (by omega) fun i hi hi' => h3 i (by omega) hi'

def start2 (text : Array Nat) (start : Nat) (ma : Bool) : M :=
  { code := code2, text, lim := text.size, start, pc := 10, pos := start, handed := start, marks := #[], mustAdvance := ma, seen := ({} : Seen).add 14 }
theorem forSearch2 (text : Array Nat) (start : Nat) (ma : Bool) : forSearch code2 text 0 start text.size ma = if start > text.size || text.size - start < 1 then (start2 text start ma).say false else M.attemptFrom { start2 text start ma with lastStart := text.size } start true := rfl
theorem search2_some {text : Array Nat} {start s e : Nat} (h1 : start ≤ s) (h2 : s < text.size) (h3 : ∀ i, start ≤ i → i < s → text.getD i 0 ≠ 10 ∧ text.getD i 0 ≠ 13) (h4 : EolAt text s e) :
    ∃ n, n ≤ 20 ∧ ∃ m', RuN n (forSearch code2 text 0 start text.size false) m' ∧ Matched m' s e := by
  rw [forSearch2, if_neg (by simp; omega)]
  have hin : text.getD s 0 = 10 ∨ text.getD s 0 = 13 := by rcases h4 with h | h | h <;> simp [h.1]
  obtain ⟨seen', ea⟩ := admitted2 (m := { start2 text start false with lastStart := text.size }) rfl h2 hin (text.size + 1 - start) start (({} : Seen).add 14) h1 (by omega) h3
  have e1 : M.attemptFrom { start2 text start false with lastStart := text.size } start true = mk2 text text.size text.size s 10 s s true [fNS 10 s true] 1 none seen' := by
    unfold M.attemptFrom
    rw [show (!M.hasFirstSet { start2 text start false with lastStart := text.size }) = false from rfl]
    simp only [Bool.false_eq_true, if_false]
    have : M.admitted { start2 text start false with lastStart := text.size } (({ start2 text start false with lastStart := text.size } : M).lim + 1 - start) start ({ start2 text start false with lastStart := text.size } : M).seen = .ok (some s, seen') := ea
    rw [this]
    rfl
  rw [e1]
  rcases h4 with ⟨hc, rfl⟩ | ⟨hc, hl, hc', rfl⟩ | ⟨hc, hc', rfl⟩
  · exact ⟨9, by omega, go_lf h2 hc⟩
  · exact ⟨8, by omega, go_crlf hl hc hc'⟩
  · exact ⟨15, by omega, go_cr h2 hc hc'⟩
theorem say_failed {m : M} (h1 : m.outcome = none) (h2 : m.frames = []) : ∃ m', RuN 1 (m.say false) m' ∧ Failed m' := by
  refine ⟨_, RuN.step h1 rfl (RuN.refl _), ?_⟩
  unfold M.step Failed
  simp [M.say, h1, h2]
theorem search2_none {text : Array Nat} {start : Nat} (h3 : ∀ i, start ≤ i → i < text.size → text.getD i 0 ≠ 10 ∧ text.getD i 0 ≠ 13) :
    ∃ n, n ≤ 20 ∧ ∃ m', RuN n (forSearch code2 text 0 start text.size false) m' ∧ Failed m' := by
  rw [forSearch2]
  split
  · exact ⟨1, by omega, say_failed rfl rfl⟩
  · rename_i hcond
    have hcond' : start < text.size := by simp at hcond; omega
    obtain ⟨seen', ea⟩ := admitted2n (m := { start2 text start false with lastStart := text.size }) rfl (text.size + 1 - start) start (({} : Seen).add 14) (by show text.size - start < _; omega) h3
    have e1 : M.attemptFrom { start2 text start false with lastStart := text.size } start true = M.say { start2 text start false with lastStart := text.size, seen := seen' } false := by
      unfold M.attemptFrom
      rw [show (!M.hasFirstSet { start2 text start false with lastStart := text.size }) = false from rfl]
      simp only [Bool.false_eq_true, if_false]
      have : M.admitted { start2 text start false with lastStart := text.size } (({ start2 text start false with lastStart := text.size } : M).lim + 1 - start) start ({ start2 text start false with lastStart := text.size } : M).seen = .ok (none, seen') := ea
      rw [this]
    rw [e1]
    exact ⟨1, by omega, say_failed rfl rfl⟩

-- the pattern of a leading dot
def mk1 (text : Array Nat) (lim ls start pc pos handed : Nat) (ma outermost : Bool) (frames : List Sre.Frame) (weight : Nat) (answer : Option Bool) (seen : Seen) : M :=
  { code := code1, text, lim, start, lastStart := ls, mustAdvance := ma, pc, pos, handed, outermost, marks := #[], frames, weight, answer, seen }
theorem step_at {m : M} {b : Bool} (h1 : m.outcome = none) (h2 : m.answer = none) (h3 : m.pc < m.code.size) (h4 : ops[m.word 0]? = some .AT) (h5 : m.word 1 = 1) (hb : (m.pos == 0 || m.text.getD (m.pos - 1) 0 == 10) = b) :
    m.step = if b then { m with seen := (m.seen.add (m.word 0)).add 44, pc := m.pc + 2 } else { m with seen := (m.seen.add (m.word 0)).add 44, answer := some false } := by
  unfold M.step
  rw [h1, h2]
  simp only [Option.isSome_none, Bool.false_eq_true, if_false, h3, if_true]
  unfold M.exec
  rw [h4]
  dsimp only
  have e : ∀ m' : M, m'.word 1 = 1 → m'.pos = m.pos → m'.text = m.text → m'.isAt (m'.word 1) = .ok b := fun m' e1 e2 e3 => by rw [e1]; unfold M.isAt; rw [e2, e3, ← hb]; rfl
  have h5' : ({ m with seen := m.seen.add (m.word 0) } : M).word 1 = 1 := h5
  rw [e _ h5' rfl rfl]
  dsimp only
  rw [h5']
  cases b <;> simp [M.say, h1, h2]
/-- an attempt at s -/
def at1 (text : Array Nat) (s : Nat) (ma first : Bool) (seen : Seen) : M := mk1 text text.size text.size s 5 s s ma first [fNS 5 s first] 1 none seen
def Bol (text : Array Nat) (s : Nat) : Bool := s == 0 || text.getD (s - 1) 0 == 10
theorem at1_at {text : Array Nat} {s : Nat} {first : Bool} {seen : Seen} {b : Bool} (hb : Bol text s = b) : (at1 text s false first seen).step =
    if b then mk1 text text.size text.size s 7 s s false first [fNS 5 s first] 1 none ((seen.add 6).add 44) else mk1 text text.size text.size s 5 s s false first [fNS 5 s first] 1 (some false) ((seen.add 6).add 44) :=
  step_at (m := at1 text s false first seen) rfl rfl (by show 5 < 10; decide) rfl rfl hb
theorem at1_fin {text : Array Nat} {s e pa : Nat} {first : Bool} {seen : Seen} : ∃ m', RuN 3 (mk1 text text.size text.size s 9 e pa false first [fNS 5 s first] 1 none seen) m' ∧ Matched m' s e := by
  refine ⟨_, RuN.step rfl (m1 := mk1 text text.size text.size s 9 e e false first [fNS 5 s first] 1 (some true) (seen.add 1)) ?_ (RuN.step rfl rfl (RuN.step rfl rfl (RuN.refl _))), trivial, rfl, rfl⟩
  cases first <;> rfl
theorem at1_yes {text : Array Nat} {s : Nat} {first : Bool} {seen : Seen} (hs : s < text.size) (hb : Bol text s = true) (hc : text.getD s 0 = 46) : ∃ m', RuN 5 (at1 text s false first seen) m' ∧ Matched m' s (s + 1) := by
  refine RuN.ex (n := 2) (b := mk1 text text.size text.size s 9 (s + 1) s false first [fNS 5 s first] 1 none (((seen.add 6).add 44).add 16)) ?_ at1_fin
  refine RuN.step (m1 := mk1 text text.size text.size s 7 s s false first [fNS 5 s first] 1 none ((seen.add 6).add 44)) rfl (by rw [at1_at hb]; rfl) ?_
  exact RuN.step rfl (step_yes rfl rfl (by show 7 < 10; decide) rfl hs hc) (RuN.refl _)
theorem at1_next {text : Array Nat} {s : Nat} {first : Bool} {seen : Seen} {pc pos handed : Nat} (hs : s < text.size) : 
    RuN 1 (mk1 text text.size text.size s pc pos handed false first [fNS 5 s first] 1 (some false) seen) (at1 text (s + 1) false false seen) := by
  refine RuN.step rfl ?_ (RuN.refl _)
  have e : (mk1 text text.size text.size s pc pos handed false first [fNS 5 s first] 1 (some false) seen).step =
      if s < text.size then M.attemptFrom { mk1 text text.size text.size s 5 s handed false first [] 0 none seen with mustAdvance := false } (s + 1) false else M.say (mk1 text text.size text.size s 5 s handed false first [] 0 none seen) false := rfl
  rw [e, if_pos hs]; rfl
theorem at1_no {text : Array Nat} {s : Nat} {first : Bool} {seen : Seen} (hs : s < text.size) (hn : Bol text s = false ∨ text.getD s 0 ≠ 46) : ∃ n seen', n ≤ 3 ∧ RuN n (at1 text s false first seen) (at1 text (s + 1) false false seen') := by
  cases hb : Bol text s with
  | false => 
    exact ⟨2, _, by omega, RuN.step (m1 := mk1 text text.size text.size s 5 s s false first [fNS 5 s first] 1 (some false) ((seen.add 6).add 44)) rfl (by rw [at1_at hb]; rfl) (at1_next hs)⟩
  | true =>
    have hc : text.getD s 0 ≠ 46 := hn.resolve_left (by rw [hb]; simp)
    exact ⟨3, _, by omega, RuN.step (m1 := mk1 text text.size text.size s 7 s s false first [fNS 5 s first] 1 none ((seen.add 6).add 44)) rfl (by rw [at1_at hb]; rfl)
      (RuN.step rfl (step_no rfl rfl (by show 7 < 10; decide) rfl (.inr hc)) (at1_next (pc := 7) (seen := ((seen.add 6).add 44).add 16) hs))⟩
theorem at1_stop {text : Array Nat} {first : Bool} {seen : Seen} {pc pos handed : Nat} : 
    ∃ m', RuN 2 (mk1 text text.size text.size text.size pc pos handed false first [fNS 5 text.size first] 1 (some false) seen) m' ∧ Failed m' := by
  have e : (mk1 text text.size text.size text.size pc pos handed false first [fNS 5 text.size first] 1 (some false) seen).step =
      if text.size < text.size then M.attemptFrom { mk1 text text.size text.size text.size 5 text.size handed false first [] 0 none seen with mustAdvance := false } (text.size + 1) false else M.say (mk1 text text.size text.size text.size 5 text.size handed false first [] 0 none seen) false := rfl
  rw [if_neg (Nat.lt_irrefl _)] at e
  obtain ⟨m', r, f⟩ := say_failed (m := mk1 text text.size text.size text.size 5 text.size handed false first [] 0 none seen) rfl rfl
  exact ⟨m', RuN.step rfl e r, f⟩
theorem at1_end {text : Array Nat} {first : Bool} {seen : Seen} : ∃ n m', n ≤ 4 ∧ RuN n (at1 text text.size false first seen) m' ∧ Failed m' := by
  cases hb : Bol text text.size with
  | false => 
    obtain ⟨m', r, f⟩ := at1_stop (text := text) (first := first) (seen := (seen.add 6).add 44) (pc := 5) (pos := text.size) (handed := text.size)
    exact ⟨3, m', by omega, RuN.step rfl (by rw [at1_at hb]; rfl) r, f⟩
  | true =>
    obtain ⟨m', r, f⟩ := at1_stop (text := text) (first := first) (seen := ((seen.add 6).add 44).add 16) (pc := 7) (pos := text.size) (handed := text.size)
    exact ⟨4, m', by omega, RuN.step (m1 := mk1 text text.size text.size text.size 7 text.size text.size false first [fNS 5 text.size first] 1 none ((seen.add 6).add 44)) rfl (by rw [at1_at hb]; rfl)
      (RuN.step rfl (step_no rfl rfl (by show 7 < 10; decide) rfl (.inl (Nat.le_refl _))) r), f⟩
def start1 (text : Array Nat) (start : Nat) (ma : Bool) : M :=
  { code := code1, text, lim := text.size, start, pc := 5, pos := start, handed := start, marks := #[], mustAdvance := ma, seen := ({} : Seen).add 14 }
theorem forSearch1 (text : Array Nat) (start : Nat) (ma : Bool) : forSearch code1 text 0 start text.size ma = if start > text.size || text.size - start < 1 then (start1 text start ma).say false else M.attemptFrom { start1 text start ma with lastStart := text.size } start true := rfl
theorem at1_some {text : Array Nat} {s : Nat} (h2 : s < text.size) (hb : Bol text s = true) (hc : text.getD s 0 = 46) : ∀ (k start : Nat) (first : Bool) (seen : Seen), start + k = s → (∀ i, start ≤ i → i < s → Bol text i = false ∨ text.getD i 0 ≠ 46) →
    ∃ n, n ≤ 5 + 3 * k ∧ ∃ m', RuN n (at1 text start false first seen) m' ∧ Matched m' s (s + 1)
  | 0, start, first, seen, h, _ => by
    obtain rfl : start = s := by omega
    exact ⟨5, by omega, at1_yes h2 hb hc⟩
  | k + 1, start, first, seen, h, h3 => by
    obtain ⟨n, seen', hn, r⟩ := at1_no (text := text) (s := start) (first := first) (seen := seen) (by omega) (h3 start (Nat.le_refl _) (by omega))
    obtain ⟨n', hn', m', r', p⟩ := at1_some h2 hb hc k (start + 1) false seen' (by omega) fun i hi hi' => h3 i (by omega) hi'
    exact ⟨n + n', by omega, m', r.trans r', p⟩
theorem at1_none {text : Array Nat} : ∀ (k start : Nat) (first : Bool) (seen : Seen), start + k = text.size → (∀ i, start ≤ i → i < text.size → Bol text i = false ∨ text.getD i 0 ≠ 46) →
    ∃ n, n ≤ 5 + 3 * k ∧ ∃ m', RuN n (at1 text start false first seen) m' ∧ Failed m'
  | 0, start, first, seen, h, _ => by
    obtain rfl : start = text.size := by omega
    obtain ⟨n, m', hn, r, f⟩ := at1_end (text := text) (first := first) (seen := seen)
    exact ⟨n, by omega, m', r, f⟩
  | k + 1, start, first, seen, h, h3 => by
    obtain ⟨n, seen', hn, r⟩ := at1_no (text := text) (s := start) (first := first) (seen := seen) (by omega) (h3 start (Nat.le_refl _) (by omega))
    obtain ⟨n', hn', m', r', p⟩ := at1_none k (start + 1) false seen' (by omega) fun i hi hi' => h3 i (by omega) hi'
    exact ⟨n + n', by omega, m', r.trans r', p⟩
theorem search1_some {text : Array Nat} {start s : Nat} (h1 : start ≤ s) (h2 : s < text.size) (h3 : ∀ i, start ≤ i → i < s → Bol text i = false ∨ text.getD i 0 ≠ 46) (hb : Bol text s = true) (hc : text.getD s 0 = 46) :
    ∃ n, n ≤ 5 + 3 * text.size ∧ ∃ m', RuN n (forSearch code1 text 0 start text.size false) m' ∧ Matched m' s (s + 1) := by
  rw [forSearch1, if_neg (by simp; omega)]
  have e1 : M.attemptFrom { start1 text start false with lastStart := text.size } start true = at1 text start false true (({} : Seen).add 14) := rfl
  rw [e1]
  obtain ⟨n, hn, m', r, p⟩ := at1_some h2 hb hc (s - start) start true (({} : Seen).add 14) (by omega) h3
  exact ⟨n, by omega, m', r, p⟩
theorem search1_none {text : Array Nat} {start : Nat} (h3 : ∀ i, start ≤ i → i < text.size → Bol text i = false ∨ text.getD i 0 ≠ 46) :
    ∃ n, n ≤ 5 + 3 * text.size ∧ ∃ m', RuN n (forSearch code1 text 0 start text.size false) m' ∧ Failed m' := by
  rw [forSearch1]
  split
  · exact ⟨1, by omega, say_failed rfl rfl⟩
  · rename_i hcond
    have hcond' : start < text.size := by simp at hcond; omega
    have e1 : M.attemptFrom { start1 text start false with lastStart := text.size } start true = at1 text start false true (({} : Seen).add 14) := rfl
    rw [e1]
    obtain ⟨n, hn, m', r, p⟩ := at1_none (text := text) (text.size - start) start true (({} : Seen).add 14) (by omega) h3
    exact ⟨n, by omega, m', r, p⟩
end Mine

end

section
open PySem PySem.W PyProof.Rows PySem.Builtin.Re
set_option linter.unusedVariables false
set_option maxRecDepth 100000
namespace Mine
theorem slot_re_sub : Slot "re.Pattern" "sub" "re.Pattern.sub" :=
  .of (owner := "re.Pattern") (n := "sub") (by rw [typeLookup_type, builtinLookup_eq_fast]; kernel_rfl) (by decide +kernel) (by decide +kernel) (by decide +kernel)
    (by first | exact .inl (by decide +kernel) | exact .inr (by decide +kernel)) (by rw [isSubtype_type]; kernel_rfl)
theorem type_re_sub : typeOf (.builtin "re.Pattern.sub") = pure (.type "method_descriptor") := by show builtinType _ = _; rw [builtinType_eq_fast]; kernel_rfl
theorem entry_re_sub : entryFor table "re.Pattern.sub" = some Builtin.«re.Pattern.sub» := entryFor_of_tree (by kernel_rfl)
theorem entry_re_loop : entryFor table "re.Pattern.sub.loop" = some Builtin.«re.Pattern.sub.loop» := entryFor_of_tree (by kernel_rfl)
theorem quiet_re_loop (args : Args) : (Code.builtin "re.Pattern.sub.loop" args).quiet = true := Code.quiet_builtin args (by decide +kernel)
theorem plainAttrs_re : PlainAttrs "re.Pattern" :=
  ⟨⟨"object.__getattribute__", by rw [typeLookup_type, builtinLookup_eq_fast]; kernel_rfl, by decide +kernel⟩, by rw [typeLookup_type, builtinLookup_eq_fast]; kernel_rfl⟩
theorem args_re_sub (a b c : Value) : argsOk "re.Pattern.sub" ⟨[a, b, c], []⟩ := by unfold argsOk; kernel_rfl

theorem runFor_add (a b : Nat) (m : Sre.M) : Sre.M.runFor (a + b) m = Sre.M.runFor b (Sre.M.runFor a m) := by
  induction a generalizing m with
  | zero => rw [Nat.zero_add]; rfl
  | succ a ih =>
    rw [Nat.add_right_comm]
    by_cases h : m.outcome.isSome = true
    · have fix : ∀ j, Sre.M.runFor j m = m := fun j => by cases j with
        | zero => rfl
        | succ j => unfold Sre.M.runFor; rw [if_pos h]
      rw [fix, fix, fix]
    · conv => lhs; unfold Sre.M.runFor
      conv => rhs; arg 2; unfold Sre.M.runFor
      rw [if_neg h, if_neg h, ih]
theorem runFor_fix {m : Sre.M} (h : m.outcome.isSome = true) (j : Nat) : Sre.M.runFor j m = m := by
  cases j with
  | zero => rfl
  | succ j => unfold Sre.M.runFor; rw [if_pos h]
section
variable {M : Model} {A : Around} {E : Value → Shared → Prop} {s : Shared}
theorem drive_ok {m' : Sre.M} (hm : m'.outcome.isSome = true) {Q : Sre.M → Shared → Prop} (hQ : Q m' s) : ∀ (turns n : Nat) (m : Sre.M), 1 ≤ turns → n ≤ 4 * turns → RuN n m m' → wpAny M A (reDrive turns m) Q E s
  | 0, n, m, h, _, _ => absurd h (by omega)
  | turns + 1, n, m, h1, h2, r => by
    unfold reDrive
    show wpAny M A (if (Sre.M.runFor 4 m).outcome.isSome then pure (Sre.M.runFor 4 m) else do rule "sre.turn"; reDrive turns (Sre.M.runFor 4 m)) Q E s
    by_cases hn : n ≤ 4
    · have e : Sre.M.runFor 4 m = m' := by
        rw [show 4 = n + (4 - n) by omega, runFor_add, show Sre.M.runFor n m = m' from r, runFor_fix hm]
      rw [e, if_pos hm]; exact wpAny_pure hQ
    · have e : Sre.M.runFor (n - 4) (Sre.M.runFor 4 m) = m' := by
        rw [← runFor_add, show 4 + (n - 4) = n by omega]; exact r
      by_cases ho : (Sre.M.runFor 4 m).outcome.isSome = true
      · rw [if_pos ho]
        rw [runFor_fix ho] at e
        rw [e]; exact wpAny_pure hQ
      · rw [if_neg ho]
        refine wpAny_bind (wpAny_rule ?_)
        exact drive_ok hm hQ turns (n - 4) _ (by omega) (by omega) e
theorem rules_ok {c : Nat → Bool} {nm : Nat → String} {Q : PUnit → Shared → Prop} (hQ : Q ⟨⟩ s) : ∀ l : List Nat, wpAny M A (forIn l PUnit.unit fun i _ => (if c i then do rule (nm i); pure (ForInStep.yield PUnit.unit) else pure (ForInStep.yield PUnit.unit) : Sem (ForInStep PUnit))) Q E s
  | [] => by rw [List.forIn_nil]; exact wpAny_pure hQ
  | a :: l => by
    rw [List.forIn_cons]
    refine wpAny_bind ?_
    split
    · exact wpAny_bind (wpAny_rule (wpAny_pure (rules_ok hQ l)))
    · exact wpAny_pure (rules_ok hQ l)
theorem run_matched {m m' : Sre.M} {n b e : Nat} (hn : n ≤ 1000000) (r : RuN n m m') (hm : Matched m' b e) {Q : Option Sre.M → Shared → Prop} (hQ : Q (some m') s) : wpAny M A (reRunToEnd m) Q E s := by
  obtain ⟨ho, _, _⟩ := hm
  have ho' : m'.outcome = some .matched := by
    cases h : m'.outcome with
    | none => rw [h] at ho; exact ho.elim
    | some o => cases o <;> rw [h] at ho <;> first | rfl | exact ho.elim
  unfold reRunToEnd
  refine wpAny_bind (drive_ok (by rw [ho']; rfl) ?_ (2 ^ 64) n m (by decide) (by omega) r)
  refine wpAny_bind (rules_ok (c := fun i => m'.seen.has i) (nm := fun i => Sre.names.getD i "") ?_ _)
  rw [ho']
  exact wpAny_pure hQ
theorem run_failed {m m' : Sre.M} {n : Nat} (hn : n ≤ 1000000) (r : RuN n m m') (hm : Failed m') {Q : Option Sre.M → Shared → Prop} (hQ : Q none s) : wpAny M A (reRunToEnd m) Q E s := by
  have ho' : m'.outcome = some .failed := by
    unfold Failed at hm
    cases h : m'.outcome with
    | none => rw [h] at hm; exact hm.elim
    | some o => cases o <;> rw [h] at hm <;> first | rfl | exact hm.elim
  unfold reRunToEnd
  refine wpAny_bind (drive_ok (by rw [ho']; rfl) ?_ (2 ^ 64) n m (by decide) (by omega) r)
  refine wpAny_bind (rules_ok (c := fun i => m'.seen.has i) (nm := fun i => Sre.names.getD i "") ?_ _)
  rw [ho']
  exact wpAny_pure hQ
end
end Mine

end

section
open PySem PySem.W PyProof.Rows PySem.Builtin.Re
set_option linter.unusedVariables false
set_option maxRecDepth 100000
namespace Mine
def NxM (code text : Array Nat) (start s e : Nat) : Prop := ∃ n, n ≤ 1000000 ∧ ∃ m', RuN n (Sre.forSearch code text 0 start text.size false) m' ∧ Matched m' s e
def NxF (code text : Array Nat) (start : Nat) : Prop := ∃ n, n ≤ 1000000 ∧ ∃ m', RuN n (Sre.forSearch code text 0 start text.size false) m' ∧ Failed m'
def Finder (code text : Array Nat) (repl : List Nat) (F : Nat → List Nat) : Prop :=
  ∀ start, start ≤ text.size → (NxF code text start ∧ F start = text.toList.drop start) ∨ ∃ s e, NxM code text start s e ∧ start ≤ s ∧ s < e ∧ e ≤ text.size ∧ F start = (text.toList.drop start).take (s - start) ++ repl ++ F e
/-- a compiled pattern of a str, without groups -/
structure PatAt (h : Heap) (a : Addr) (code : Array Nat) : Prop where
  fs : ∃ o x0 x1 x3 x4 ac, h.get? a = some o ∧ o.cls = .type "re.Pattern" ∧ o.dict = none ∧ o.data = .fields #[x0, x1, .int 0 0, x3, x4, .ref ac, .int 0 0] ∧ ∃ oc items n, h.get? ac = some oc ∧ oc.data = .seq items n ∧ (items.map reRawOf).map (·.toNat) = code
theorem PatAt.keeps {h h' : Heap} {a : Addr} {code : Array Nat} (x : PatAt h a code) (k : ∀ b o, h.get? b = some o → h'.get? b = some o) : PatAt h' a code :=
  let ⟨o, x0, x1, x3, x4, ac, e, c, d, f, oc, items, n, e', r⟩ := x.fs; ⟨o, x0, x1, x3, x4, ac, k _ _ e, c, d, f, oc, items, n, k _ _ e', r⟩
section
variable {M : Model} {A : Around} {E : Value → Shared → Prop} {s : Shared}
theorem wp_rawItems {ac : Addr} {oc : Obj} {items : Array Value} {n : Nat} {Q : Array Int → Shared → Prop} (e : s.heap.get? ac = some oc) (hd : oc.data = .seq items n) (h : Q (items.map reRawOf) s) : wpAny M A (reRawItems (.ref ac)) Q E s := by
  unfold reRawItems
  exact wpAny_bind (wpAny_seqItems e hd (wpAny_pure h))
theorem wp_target {a : Addr} {code : Array Nat} {x : Str} {t : Tok} {Q : ReTarget → Shared → Prop} (p : PatAt s.heap a code) (h : Q { pattern := .ref a, string := .str x t, code, text := x.cps, kind := 0, groups := 0, pos := 0, lim := x.cps.size } s) :
    wpAny M A (reWholeTarget (.ref a) (.str x t)) Q E s := by
  obtain ⟨o, x0, x1, x3, x4, ac, e, c, d, f, oc, items, n, e', f', r⟩ := p.fs
  unfold reWholeTarget
  refine wpAny_bind (wpAny_fieldsOf e f ?_)
  refine wpAny_bind ?_
  show wpAny M A (reTextOf (.str x t)) _ E s
  unfold reTextOf
  refine wpAny_bind (wpAny_pure ?_)
  refine wpAny_pure ?_
  show wpAny M A (reNoCollectionInside (.str x t) 0 >>= _) Q E s
  refine wpAny_bind (wpAny_pure ?_)
  refine wpAny_bind (wp_rawItems e' f' (wpAny_pure ?_))
  rw [← r] at h
  exact h
end
def catS (l : List Str) : List Nat := l.flatMap fun x => x.cps.toList

theorem catS_append (a b : List Str) : catS (a ++ b) = catS a ++ catS b := by simp [catS]
theorem glued_cat : ∀ (l : List Str) (acc : Array Nat), (l.foldl (fun acc p => acc ++ (#[] : Array Nat) ++ p.cps) acc) = acc ++ (catS l).toArray
  | [], acc => by simp [catS]
  | x :: l, acc => by
    rw [List.foldl_cons, glued_cat l]
    apply Array.toList_inj.mp
    simp [catS]
theorem join_cat (l : List Str) : Txt.join "" l = ⟨(catS l).toArray⟩ := by
  have e0 : ("" : Str).cps = #[] := by decide
  unfold Txt.join Builtin.Str.glued
  cases l with
  | nil => simp [catS, Str.empty]
  | cons x l =>
    simp only [List.drop_succ_cons, List.drop_zero, List.headD_cons, e0]
    rw [glued_cat]
    simp [catS]
section
variable {M : Model} {A : Around} {E : Value → Shared → Prop} {s : Shared} {α : Type}
theorem wp_push {P : Addr} {acc : List (Str × Tok)} {c : Nat} {x : Str} {t : Tok} {Q : Unit → Shared → Prop} (hP : s.heap.get? P = some (listObj (strValues acc) c)) (hz : acc.length ≤ 100000)
    (h : ∀ h' c', h'.get? P = some (listObj (strValues (acc ++ [(x, t)])) c') → Heap.SameBut P s.heap h' → Q () { s with heap := h' }) : wpAny M A (updateSeq P (·.push (.str x t))) Q E s := by
  have e : sizeLine = 16777216 := by decide
  have hl : (strValues acc).length = acc.length := by simp [strValues]
  refine wpAny_updateSeq (xs := (strValues acc).toArray) (n := c) hP rfl (h _ (c + 1) ?_ (Heap.SameBut.update ..)) (by rw [List.size_toArray, hl, e]; omega) (by rw [Array.size_push, List.size_toArray, hl, e]; omega)
  have e1 : Obj.mapSeq (·.push (Value.str x t)) (listObj (strValues acc) c) = listObj (strValues (acc ++ [(x, t)])) (c + 1) := by
    rw [listObj, Obj.mapSeq_push_plain]; simp [listObj, strValues]
  rw [Heap.get?_update_self _ hP (by rw [e1]; rfl), e1]
theorem wp_piece {P : Addr} {acc : List (Str × Tok)} {c : Nat} {text : Array Nat} {b e : Nat} {K : PUnit → Sem α} {Q : α → Shared → Prop} (hP : s.heap.get? P = some (listObj (strValues acc) c)) (hz : acc.length ≤ 100000) (hsz : text.size ≤ 10000) (hbe : b ≤ e) (he : e ≤ text.size)
    (h : ∀ h' tk acc' c', h'.get? P = some (listObj (strValues acc') c') → (∀ b o, b ≠ P → s.heap.get? b = some o → h'.get? b = some o) → catS (acc'.map (·.1)) = catS (acc.map (·.1)) ++ (text.toList.drop b).take (e - b) → acc'.length ≤ acc.length + 1 →
      wpAny M A (K ⟨⟩) Q E { s with heap := h', toks := tk }) :
    wpAny M A (if b < e then (reSlice text 0 b e >>= fun x => updateSeq P (fun xs => xs.push x) >>= fun r => K r) else K ⟨⟩) Q E s := by
  split
  · refine wpAny_bind (wpAny_mkStr (wpAny_bind (wp_push (s := { s with toks := s.toks + 1 }) hP hz fun h' c' hP' hsb => ?_)) ?_)
    · refine h h' (s.toks + 1) _ c' hP' (fun b o hb e => hsb.extBut b o hb e) ?_ (by simp)
      rw [List.map_append, catS_append]
      simp [catS, List.extract_eq_drop_take]
    · have e1 : sizeLine = 16777216 := by decide
      show (text.extract b e).size ≤ sizeLine
      rw [Array.size_extract, e1]; omega
  · have : b = e := by omega
    subst this
    exact h s.heap s.toks acc c hP (fun _ _ _ e => e) (by simp) (by omega)
end
section
variable {prog : Program} {w : World} {A : Around} {R : Result → Shared → Prop}
theorem sub_loop {a P : Addr} {code text : Array Nat} {repl : Str} {t u : Tok} {F : Nat → List Nat} {s0 : Shared} (fin : Finder code text repl.cps.toList F) (hsz : text.size ≤ 10000) (hp0 : PatAt s0.heap a code) (hP0 : s0.heap.get? P = none) :
    ∀ (k start nn : Nat) (acc : List (Str × Tok)) (c : Nat) (s : Shared), text.size - start < k → start ≤ text.size → (∀ b o, s0.heap.get? b = some o → s.heap.get? b = some o) → s.heap.get? P = some (listObj (strValues acc) c) →
    (catS (acc.map (·.1))).length + (F start).length ≤ 100000 → acc.length ≤ 2 * start →
    (∀ h' v tk, (∀ b o, b ≠ P → s.heap.get? b = some o → h'.get? b = some o) → R (.ok (.ret (.str ⟨(catS (acc.map (·.1)) ++ F start).toArray⟩ v))) { s with heap := h', toks := tk }) →
    codeAny (model prog w) A (.builtin "re.Pattern.sub.loop" ⟨[.ref a, .str ⟨text⟩ t, .str repl u, rawInt 0, rawInt 0, rawInt nn, rawInt start, rawInt start, .bool false, .ref P, .bool false], []⟩) R s := by
  intro k
  induction k with
  | zero => intro start nn acc c s hk; exact absurd hk (Nat.not_lt_zero _)
  | succ k ih =>
    intro start nn acc c s hk hst k0 hP hlen hal hR
    refine codeAny_builtin entry_re_loop ?_
    show wpAny _ _ (reWholeTarget (.ref a) (.str ⟨text⟩ t) >>= _) _ _ s
    refine wpAny_bind (wp_target (hp0.keeps k0) ?_)
    show wpAny _ _ (reLiteralCannotBeTurned (.str repl u) >>= _) _ _ s
    refine wpAny_bind (wpAny_pure ?_)
    show wpAny _ _ (reNextFound _ (start : Int).toNat false >>= _) _ _ s
    simp only [Int.toNat_natCast]
    rcases fin start hst with ⟨⟨n, hn, m', r, f⟩, hF⟩ | ⟨b, e, ⟨n, hn, m', r, f⟩, h1, h2, h3, hF⟩
    · refine wpAny_bind (run_failed hn r f ?_)
      refine wp_piece (text := text) (b := start) (e := text.size) hP (by omega) hsz hst (Nat.le_refl _) fun h' tk acc' c' hP' kk hcat hal' => ?_
      have hcatF : catS (acc'.map (·.1)) = catS (acc.map (·.1)) ++ F start := by rw [hcat, hF, List.take_of_length_le (by simp)]
      refine wpAny_bind (wpAny_mkStr ?_ ?_)
      · refine wpAny_bind (wpAny_seqItems (s := { { s with heap := h', toks := tk } with toks := tk + 1 }) hP' rfl ?_)
        cases hacc : acc' with
        | nil =>
          subst hacc
          refine wpAny_pure ?_
          show R (.ok (.ret (.str ⟨text.extract 0 0⟩ tk))) _
          have : (⟨text.extract 0 0⟩ : Str) = ⟨(catS (acc.map (·.1)) ++ F start).toArray⟩ := by
            rw [← hcatF]; simp [catS]
          rw [this]
          exact hR h' tk (tk + 1) kk
        | cons p q =>
          rw [← hacc]
          have hne : (((some (strValues acc').toArray).getD #[]).isEmpty) = false := by rw [hacc]; simp [strValues]
          show wpAny _ _ (if ((some (strValues acc').toArray).getD #[]).isEmpty = true then _ else (call (.builtin "str.join") [.str ⟨text.extract 0 0⟩ tk, .ref P] >>= fun text => ret text)) _ _ _
          rw [hne]
          simp only [Bool.false_eq_true, if_false]
          have hl : ({ { s with heap := h', toks := tk } with toks := tk + 1 } : Shared).heap.IsList P (strValues acc').toArray := ⟨_, hP', rfl, _, rfl⟩
          have hsum : ((acc'.map (·.1)).map (·.length)).sum = (catS (acc'.map (·.1))).length := by
            simp [catS, List.length_flatMap, Str.length, Function.comp_def]
          have he : (⟨text.extract 0 0⟩ : Str) = "" := by
            have e0 : ("" : Str) = ⟨#[]⟩ := by decide
            rw [e0]; simp
          rw [he]
          refine wpAny_bind (join_list hl (ys := acc'.map (·.1)) ?_ ?_ fun t' k' => ?_)
          · exact strs_are (g := ⟨fun _ _ => False, 0⟩) (by simpa using strVals (l := acc') rfl)
          · rw [hsum, hcatF, show ("" : Str).length = 0 by decide]
            simp only [List.length_append, Nat.mul_zero, Nat.add_zero]; omega
          · rw [join_cat, hcatF]
            exact wpAny_pure (hR h' t' k' kk)
      · have e1 : sizeLine = 16777216 := by decide
        show (text.extract 0 0).size ≤ sizeLine
        rw [Array.size_extract, e1]; omega
    · refine wpAny_bind (run_matched hn r f ?_)
      obtain ⟨_, fb, fe⟩ := f
      subst fb fe
      refine wp_piece (text := text) (b := start) (e := m'.start) hP (by omega) hsz h1 (by omega) fun h' tk acc' c' hP' kk hcat hal' => ?_
      show wpAny _ _ (pure (Value.str repl u) >>= _) _ _ _
      refine wpAny_bind (wpAny_pure ?_)
      show wpAny _ _ (if (Value.str repl u != Value.none) = true then (updateSeq P (·.push (.str repl u)) >>= fun _ => _) else _) _ _ _
      rw [if_pos (by rfl)]
      refine wpAny_bind (wp_push (s := { s with heap := h', toks := tk }) hP' (by omega) fun h2' c2 hP2 hsb => ?_)
      refine wpAny_pure ⟨quiet_re_loop _, ?_⟩
      have hne : (m'.handed == m'.start) = false := beq_false_of_ne (by omega)
      rw [hne]
      have hcat2 : catS ((acc' ++ [(repl, u)]).map (·.1)) = catS (acc.map (·.1)) ++ ((text.toList.drop start).take (m'.start - start) ++ repl.cps.toList) := by
        rw [List.map_append, catS_append, hcat]; simp [catS]
      have hfin : catS ((acc' ++ [(repl, u)]).map (·.1)) ++ F m'.handed = catS (acc.map (·.1)) ++ F start := by
        rw [hcat2, hF]; simp
      have kk2 : ∀ b o, b ≠ P → s.heap.get? b = some o → h2'.get? b = some o := fun b o hb e => hsb.extBut b o hb (kk b o hb e)
      have := ih m'.handed (nn + 1) (acc' ++ [(repl, u)]) c2 { s with heap := h2', toks := tk } (by omega) h3 (fun b o e => kk2 b o (fun q => by rw [q, hP0] at e; cases e) (k0 b o e)) hP2
        (by rw [← List.length_append, hfin, List.length_append]; exact hlen) (by rw [List.length_append]; simp only [List.length_cons, List.length_nil]; omega)
        (fun h'' v tk' kk' => by rw [hfin]; exact hR h'' v tk' fun b o hb e => kk' b o hb (kk2 b o hb e))
      exact this
end
end Mine

end

section
open PySem PySem.W PyProof.Rows PySem.Builtin.Re
set_option linter.unusedVariables false
set_option maxRecDepth 100000
namespace Mine
theorem no_str_call : typeLookup (.type "str") "__call__" = pure none := by rw [typeLookup_type, builtinLookup_eq_fast]; kernel_rfl
theorem named_sub (a b : Value) : reNamed "re.Pattern.sub" "sub" ["repl", "string", "count"] 2 [a, b] [] = pure [some a, some b, none] := by
  unfold reNamed; rfl
section
variable {G : Gv} {A : Around}
theorem cx_sub {a : Addr} {code : Array Nat} {repl x : Str} {F : Nat → List Nat} (hp : ∀ h, G.K.In h → PatAt h a code) (fin : Finder code x.cps repl.cps.toList F) (hr : repl.cps.contains 92 = false) (hsz : x.cps.size ≤ 10000) (hF : (F 0).length ≤ 100000) :
    CX G A (.builtin "re.Pattern.sub") [vIs (.ref a), vStr repl, vStr x] (vStr ⟨(F 0).toArray⟩) := by
  intro g s E vs B h
  obtain ⟨v1, v2, v3, rfl, h1, ⟨u, rfl⟩, ⟨t, rfl⟩⟩ := three_of h
  obtain rfl : v1 = .ref a := h1
  have hpat := hp _ B.wd.k
  obtain ⟨o, x0, x1, x3, x4, ac, e, c, d, _⟩ := hpat.fs
  refine raw B (wpAny_call (codeAny_call_builtin slot_re_sub.plain entry_re_sub (slot_re_sub.check _ _ _ _ _ _ _ _ (⟨o, e, c⟩ : s.TypeIs (.ref a) "re.Pattern") (args_re_sub _ _ _) ?_)))
  show wpAny _ _ (reNamed "re.Pattern.sub" "sub" ["repl", "string", "count"] 2 [.str repl u, .str x t] [] >>= _) _ _ s
  rw [named_sub]
  refine wpAny_bind (wpAny_pure ?_)
  show wpAny _ _ (pure (0 : Int) >>= _) _ _ s
  refine wpAny_bind (wpAny_pure ?_)
  refine wpAny_bind (wpAny_specialOf (typeIs_str s repl u) no_str_call ?_)
  show wpAny _ _ (asStr? (.str repl u) >>= _) _ _ s
  refine wpAny_bind (wpAny_pure ?_)
  show wpAny _ _ (pure (!repl.cps.contains 92) >>= _) _ _ s
  rw [hr]
  refine wpAny_bind (wpAny_pure ?_)
  show wpAny _ _ (pure ((Value.str repl u, (0 : Int)) : Value × Int) >>= _) _ _ s
  refine wpAny_bind (wpAny_pure ?_)
  refine wpAny_bind (wpAny_holding (wp_target hpat ?_))
  show wpAny _ _ (newList [] >>= _) _ _ s
  refine wpAny_bind (wpAny_newObj_type (wpAny_pure ⟨quiet_re_loop _, ?_⟩))
  have hn : s.heap.get? s.heap.objs.size = none := fresh_none _
  refine sub_loop (P := s.heap.objs.size) (F := F) (s0 := s) fin hsz hpat hn (x.cps.size + 1) 0 0 [] 0 _ (by omega) (Nat.zero_le _) (fun b o e => Heap.get?_push_of_some _ e) (Heap.get?_push_size _ rfl) (by simpa [catS] using hF) (by simp) fun h' v tk kk => ?_
  have hk : ∀ b o, s.heap.get? b = some o → h'.get? b = some o := fun b o e => kk b o (fun q => by rw [q, hn] at e; cases e) (Heap.get?_push_of_some _ e)
  exact .same B ⟨h', tk, rfl, hk⟩ ⟨v, by simp [catS]⟩
end
end Mine

end

section
open PySem PySem.W PyProof.Rows PySem.Builtin.Re
set_option linter.unusedVariables false
namespace Mine
def eolS : Bool → List Nat → List Nat
  | _, [] => []
  | cr, c :: r => if c = 10 then (if cr = true then eolS false r else 13 :: 10 :: eolS false r) else if c = 13 then 13 :: 10 :: eolS true r else c :: eolS false r
theorem eolS_true {r : List Nat} (h : ∀ r', r ≠ 10 :: r') : eolS true r = eolS false r := by
  cases r with
  | nil => rfl
  | cons c r =>
    have : c ≠ 10 := fun e => h r (by rw [e])
    simp only [eolS, if_neg this]
def eolL (l : List Nat) : List Nat := eolS false l
theorem eolL_cons (c : Nat) (r : List Nat) : eolL (c :: r) = if c = 10 then 13 :: 10 :: eolL r else if c = 13 then 13 :: 10 :: eolS true r else c :: eolL r := rfl
def dotL : Bool → List Nat → List Nat
  | _, [] => []
  | b, c :: r => if b = true ∧ c = 46 then 46 :: 46 :: dotL false r else c :: dotL (c == 10) r
theorem drop_cons {text : Array Nat} {s : Nat} (h : s < text.size) : text.toList.drop s = text.getD s 0 :: text.toList.drop (s + 1) := by
  rw [List.drop_eq_getElem_cons (by simpa using h)]
  simp [Array.getD, h]
theorem scan {text : Array Nat} {F : Nat → List Nat} {hit : Nat → Bool} (h0 : F text.size = []) (h1 : ∀ s, s < text.size → hit s = false → F s = text.getD s 0 :: F (s + 1)) : ∀ (k start : Nat), start + k = text.size →
    ((∀ i, start ≤ i → i < text.size → hit i = false) ∧ F start = text.toList.drop start) ∨ ∃ s, start ≤ s ∧ s < text.size ∧ hit s = true ∧ (∀ i, start ≤ i → i < s → hit i = false) ∧ F start = (text.toList.drop start).take (s - start) ++ F s
  | 0, start, h => .inl ⟨fun i hi hi' => by omega, by
      obtain rfl : start = text.size := by omega
      rw [h0, List.drop_eq_nil_of_le (by simp)]⟩
  | k + 1, start, h => by
    have hlt : start < text.size := by omega
    cases hh : hit start with
    | true => exact .inr ⟨start, Nat.le_refl _, hlt, hh, fun i hi hi' => by omega, by simp⟩
    | false =>
      have e := h1 start hlt hh
      rcases scan h0 h1 k (start + 1) (by omega) with ⟨a, b⟩ | ⟨s, a, b, c, d, f⟩
      · refine .inl ⟨fun i hi hi' => ?_, by rw [e, b, ← drop_cons hlt]⟩
        by_cases q : i = start
        · rw [q]; exact hh
        · exact a i (by omega) hi'
      · refine .inr ⟨s, by omega, b, c, fun i hi hi' => ?_, ?_⟩
        · by_cases q : i = start
          · rw [q]; exact hh
          · exact d i (by omega) hi'
        · rw [e, f, drop_cons hlt, show s - start = (s - (start + 1)) + 1 by omega, List.take_succ_cons]; rfl
def isEol (text : Array Nat) (i : Nat) : Bool := text.getD i 0 == 10 || text.getD i 0 == 13
theorem fin2 (text : Array Nat) : Finder code2 text [13, 10] fun i => eolL (text.toList.drop i) := fun start hst => by
  have h1 : ∀ s, s < text.size → isEol text s = false → eolL (text.toList.drop s) = text.getD s 0 :: eolL (text.toList.drop (s + 1)) := fun s hs hh => by
    unfold isEol at hh
    simp only [Bool.or_eq_false_iff, beq_eq_false_iff_ne] at hh
    rw [drop_cons hs, eolL_cons, if_neg hh.1, if_neg hh.2]
  rcases scan (F := fun i => eolL (text.toList.drop i)) (hit := isEol text) (by rw [List.drop_eq_nil_of_le (by simp)]; rfl) h1 (text.size - start) start (by omega) with ⟨a, b⟩ | ⟨s, a, b, c, d, f⟩
  · refine .inl ⟨?_, b⟩
    obtain ⟨n, hn, m', r, p⟩ := search2_none (text := text) (start := start) fun i hi hi' => by
      have := a i hi hi'
      unfold isEol at this
      simpa only [Bool.or_eq_false_iff, beq_eq_false_iff_ne] using this
    exact ⟨n, by omega, m', r, p⟩
  · have d' : ∀ i, start ≤ i → i < s → text.getD i 0 ≠ 10 ∧ text.getD i 0 ≠ 13 := fun i hi hi' => by
      have := d i hi hi'
      unfold isEol at this
      simpa only [Bool.or_eq_false_iff, beq_eq_false_iff_ne] using this
    have fin : ∀ e, EolAt text s e → e ≤ text.size → s < e → eolL (text.toList.drop s) = [13, 10] ++ eolL (text.toList.drop e) → (NxF code2 text start ∧ eolL (text.toList.drop start) = text.toList.drop start) ∨
        ∃ s e, NxM code2 text start s e ∧ start ≤ s ∧ s < e ∧ e ≤ text.size ∧ eolL (text.toList.drop start) = (text.toList.drop start).take (s - start) ++ [13, 10] ++ eolL (text.toList.drop e) := fun e h1 h2 h3 h4 => by
      obtain ⟨n, hn, m', r, p⟩ := search2_some a b d' h1
      exact .inr ⟨s, e, ⟨n, by omega, m', r, p⟩, a, h3, h2, by rw [f, h4, List.append_assoc]⟩
    have hdrop := drop_cons b
    by_cases c10 : text.getD s 0 = 10
    · exact fin (s + 1) (.inl ⟨c10, rfl⟩) b (by omega) (by rw [hdrop, eolL_cons, if_pos c10]; rfl)
    · have c13 : text.getD s 0 = 13 := by
        unfold isEol at c
        simp only [Bool.or_eq_true, beq_iff_eq] at c
        exact c.resolve_left c10
      by_cases hn : s + 1 < text.size ∧ text.getD (s + 1) 0 = 10
      · refine fin (s + 2) (.inr (.inl ⟨c13, hn.1, hn.2, rfl⟩)) (by omega) (by omega) ?_
        rw [hdrop, eolL_cons, if_neg c10, if_pos c13, drop_cons hn.1, hn.2]; rfl
      · refine fin (s + 1) (.inr (.inr ⟨c13, ?_, rfl⟩)) b (by omega) ?_
        · by_cases q : s + 1 < text.size
          · exact .inr fun e => hn ⟨q, e⟩
          · exact .inl (by omega)
        · rw [hdrop, eolL_cons, if_neg c10, if_pos c13, eolS_true]
          · rfl
          · intro r' e
            by_cases q : s + 1 < text.size
            · rw [drop_cons q] at e
              injection e with e1 e2
              exact hn ⟨q, e1⟩
            · rw [List.drop_eq_nil_of_le (by simp; omega)] at e; cases e
def isDot (text : Array Nat) (i : Nat) : Bool := Bol text i && text.getD i 0 == 46
theorem bol_succ {text : Array Nat} {s : Nat} : Bol text (s + 1) = (text.getD s 0 == 10) := by unfold Bol; simp
theorem fin1 (text : Array Nat) (hz : text.size ≤ 10000) : Finder code1 text [46, 46] fun i => dotL (Bol text i) (text.toList.drop i) := fun start hst => by
  have hit : ∀ i, isDot text i = false → Bol text i = false ∨ text.getD i 0 ≠ 46 := fun i h => by
    unfold isDot at h
    simpa only [Bool.and_eq_false_iff, beq_eq_false_iff_ne] using h
  have h1 : ∀ s, s < text.size → isDot text s = false → dotL (Bol text s) (text.toList.drop s) = text.getD s 0 :: dotL (Bol text (s + 1)) (text.toList.drop (s + 1)) := fun s hs hh => by
    rw [drop_cons hs, dotL, if_neg (fun q => by rcases hit s hh with h | h; · rw [q.1] at h; cases h
                                                · exact h q.2), bol_succ]
  rcases scan (F := fun i => dotL (Bol text i) (text.toList.drop i)) (hit := isDot text) (by show dotL _ (text.toList.drop text.size) = []; rw [List.drop_eq_nil_of_le (by simp)]; cases Bol text text.size <;> rfl) h1 (text.size - start) start (by omega) with ⟨a, b⟩ | ⟨s, a, b, c, d, f⟩
  · obtain ⟨n, hn, m', r, p⟩ := search1_none (text := text) (start := start) fun i hi hi' => hit i (a i hi hi')
    exact .inl ⟨⟨n, by omega, m', r, p⟩, b⟩
  · unfold isDot at c
    simp only [Bool.and_eq_true, beq_iff_eq] at c
    obtain ⟨n, hn, m', r, p⟩ := search1_some a b (fun i hi hi' => hit i (d i hi hi')) c.1 c.2
    refine .inr ⟨s, s + 1, ⟨n, by omega, m', r, p⟩, a, by omega, b, ?_⟩
    show dotL (Bol text start) (text.toList.drop start) = _
    rw [f, drop_cons b, dotL, if_pos c]
    simp only [bol_succ, c.2]
    simp
theorem eolS_len : ∀ (b : Bool) (l : List Nat), (eolS b l).length ≤ 2 * l.length
  | b, [] => by simp [eolS]
  | b, c :: r => by
    have h1 := eolS_len false r
    have h2 := eolS_len true r
    rw [eolS]
    split
    · split <;> simp only [List.length_cons] <;> omega
    · split <;> simp only [List.length_cons] <;> omega
theorem dotL_len : ∀ (b : Bool) (l : List Nat), (dotL b l).length ≤ 2 * l.length
  | b, [] => by simp [dotL]
  | b, c :: r => by
    rw [dotL]
    split
    · have := dotL_len false r; simp only [List.length_cons]; omega
    · have := dotL_len (c == 10) r; simp only [List.length_cons]; omega
/-- what quotedata gives -/
def quoteL (l : List Nat) : List Nat := dotL true (eolL l)
end Mine

end

section
open PySem PySem.W PyProof.Rows
set_option linter.unusedVariables false
namespace Mine
section
variable {G : Gv} {A : Around} {env : Env} {σ σ' : Asg} {τ τ' : Own} {P Q R : VP} {α β : Type} {s₀ s s' : Shared} {g₀ g g' : View}

def Gx (G : Gv) (l : List (Addr × Obj)) : Gv := { G with X := l ++ G.X }
theorem Wd.more {h : Heap} {l : List (Addr × Obj)} (x : Wd G h) (hl : ∀ p ∈ l, h.get? p.1 = some p.2) : Wd (Gx G l) h :=
  ⟨x.nolimit, x.sysm, x.digits, x.g, x.b, x.k, fun p hp => (List.mem_append.mp hp).elim (hl p) (x.x p)⟩
theorem Wd.fewer {h : Heap} {l : List (Addr × Obj)} (x : Wd (Gx G l) h) : Wd G h := ⟨x.nolimit, x.sysm, x.digits, x.g, x.b, x.k, fun p hp => x.x p (List.mem_append.mpr (.inr hp))⟩
theorem Wd.extra {h : Heap} {l : List (Addr × Obj)} (x : Wd (Gx G l) h) : ∀ p ∈ l, h.get? p.1 = some p.2 := fun p hp => x.x p (List.mem_append.mpr (.inl hp))
theorem Fg.more {l : List (Addr × Obj)} (F : Fg G env s₀ g₀ σ τ g s) (hl : ∀ p ∈ l, s₀.heap.get? p.1 = some p.2) : Fg (Gx G l) env s₀ g₀ σ τ g s :=
  ⟨⟨F.ev.fn, ⟨F.ev.bs.on, F.ev.bs.wd.more fun p hp => KeepsHeap F.keeps _ _ (hl p hp), F.ev.bs.tk, F.ev.bs.pos⟩, F.ev.var⟩, F.wd.more hl, F.keeps, F.toks, F.le, F.new, F.fr, F.own⟩
theorem Fg.fewer {l : List (Addr × Obj)} (F : Fg (Gx G l) env s₀ g₀ σ τ g s) : Fg G env s₀ g₀ σ τ g s :=
  ⟨⟨F.ev.fn, ⟨F.ev.bs.on, F.ev.bs.wd.fewer, F.ev.bs.tk, F.ev.bs.pos⟩, F.ev.var⟩, F.wd.fewer, F.keeps, F.toks, F.le, F.new, F.fr, F.own⟩

/-- an object that is no part of what the frame speaks of is changed: the base moves with it -/
theorem Fg.setD {sC : Shared} {D : Addr} {od od' : Obj} {h' : Heap} {tk : Tok} (F : Fg G env s₀ g₀ σ τ g s) (wC : Wd G sC.heap) (hC : sC.heap.get? D = none) (kC : ∀ b o, sC.heap.get? b = some o → s₀.heap.get? b = some o)
    (hgl : ∃ o, sC.heap.get? env.globals = some o) (hbl : ∃ o, sC.heap.get? env.builtins = some o) (hD : s₀.heap.get? D = some od) (ng : ∀ o, ¬ g₀.ob D o) (hsb : Heap.SameBut D s.heap h') (hD' : h'.get? D = some od') (hf : od'.isFreed = false) (ht : s.toks ≤ tk) :
    ∃ s₀', Fg G env s₀' g₀ σ τ g { s with heap := h', toks := tk } ∧ s₀'.heap.get? D = some od' ∧ (∀ b o, b ≠ D → s₀.heap.get? b = some o → s₀'.heap.get? b = some o) ∧ (∀ b, s₀'.heap.get? b = none → s₀.heap.get? b = none) ∧ s₀'.toks = s₀.toks ∧ ∃ hh, s₀' = { s₀ with heap := hh } := by
  have kk : ∀ b o, b ≠ D → s.heap.get? b = some o → h'.get? b = some o := fun b o hb e => hsb.extBut b o hb e
  have sb : Heap.SameBut D s₀.heap (s₀.heap.update D fun _ => od') := Heap.SameBut.update ..
  have k0 : ∀ b o, b ≠ D → s₀.heap.get? b = some o → (s₀.heap.update D fun _ => od').get? b = some o := fun b o hb e => sb.extBut b o hb e
  have hD0 : (s₀.heap.update D fun _ => od').get? D = some od' := Heap.get?_update_self _ hD hf
  have n0 : ∀ b, s₀.heap.get? b = none → (s₀.heap.update D fun _ => od').get? b = none := fun b e => by
    have hb : b ≠ D := fun q => by rw [q, hD] at e; cases e
    rw [sb.2 b hb]; exact e
  have n1 : ∀ b, (s₀.heap.update D fun _ => od').get? b = none → s₀.heap.get? b = none := fun b e => by
    by_cases hb : b = D
    · rw [hb, hD0] at e; cases e
    · rw [sb.2 b hb] at e; exact e
  have ne0 : ∀ b, s₀.heap.get? b = none → b ≠ D := fun b e q => by rw [q, hD] at e; cases e
  have neC : ∀ b o, sC.heap.get? b = some o → b ≠ D := fun b o e q => by rw [q, hC] at e; cases e
  have ngD : ∀ o, ¬ g.ob D o := fun o q => (F.new D o q).elim (ng o) fun e => by rw [hD] at e; cases e
  have mne : ∀ b, Mut env b → b ≠ D := fun b hb => ne0 b (F.fr.out b hb).1
  have gne : env.globals ≠ D := let ⟨o, e⟩ := hgl; neC _ o e
  have bne : env.builtins ≠ D := let ⟨o, e⟩ := hbl; neC _ o e
  have rd : ∀ x v, RD env s.heap x v → RD env h' x v := by
    intro x v r
    cases r with
    | loc hk m hn hm => exact .loc hk m (hn.sameBut hsb (mne _ (.inl rfl))) hm
    | cell hk c hc hv => exact .cell hk c hc (hv.sameBut hsb (mne _ (.inr ⟨_, mem_of_lookup hc⟩)))
    | glob hk m hn hm => exact .glob hk m (hn.sameBut hsb gne) hm
    | blt hk m hn hm mb hb hv => exact .blt hk m (hn.sameBut hsb gne) hm mb (hb.sameBut hsb bne) hv
  obtain ⟨hh, tt, hs, _⟩ := F.keeps
  refine ⟨{ s₀ with heap := s₀.heap.update D fun _ => od' }, ⟨⟨F.ev.fn, ⟨fun b o h => kk b o (fun q => ngD o (q ▸ h)) (F.ev.bs.on b o h), wC.keeps fun b o e => kk b o (neC b o e) (KeepsHeap F.keeps b o (kC b o e)), Nat.le_trans F.ev.bs.tk ht, F.ev.bs.pos⟩,
      fun y Q hq => let ⟨u, r, q⟩ := F.ev.var y Q hq; ⟨u, rd _ _ r, q⟩⟩, wC.keeps fun b o e => k0 b o (neC b o e) (kC b o e), ⟨h', tk, by rw [hs], fun b o e => ?_⟩, Nat.le_trans F.toks ht, F.le, fun b o h => (F.new b o h).imp id fun e => n0 b e,
      ⟨let ⟨m, hn⟩ := F.fr.ns; ⟨m, hn.sameBut hsb (mne _ (.inl rfl))⟩, fun n c hc => let ⟨v, hv⟩ := F.fr.cells n c hc; ⟨v, hv.sameBut hsb (mne _ (.inr ⟨n, hc⟩))⟩, fun b hb => ⟨n0 b (F.fr.out b hb).1, (F.fr.out b hb).2⟩, F.fr.apart, F.fr.above,
        let ⟨o, e⟩ := F.fr.gl; ⟨o, k0 _ o gne e⟩, let ⟨o, e⟩ := F.fr.bl; ⟨o, k0 _ o bne e⟩⟩, fun x C e => ?_⟩, hD0, k0, n1, rfl, _, rfl⟩
  · by_cases hb : b = D
    · subst hb; rw [hD0] at e; cases e; exact hD'
    · have e' : s₀.heap.get? b = some o := by rw [← sb.2 b hb]; exact e
      exact kk b o hb (KeepsHeap F.keeps b o e')
  · obtain ⟨D', o, r, h1, h2, h3, h4, h5⟩ := F.own x C e
    exact ⟨D', o, rd _ _ r, kk _ _ (ne0 _ h3) h1, h2, n0 _ h3, h4, h5⟩

-- instances
/-- what the dict of an object of a class holds -/
def InD (g : View) (od : Obj) (l : List (Str × VP)) : Prop := ∃ es n, od = PySem.W.dictOf es n ∧ es.length ≤ 100 ∧ Paired (fun (e : DictEntry) (q : Str × VP) => (∃ t, e.key = .str q.1 t) ∧ q.2.p g e.val ∧ handedIn e.val = true) es l
theorem InD.mono {od : Obj} {l : List (Str × VP)} (le : VLe g g') (h : InD g od l) : InD g' od l := let ⟨es, n, e, z, p⟩ := h; ⟨es, n, e, z, PairedImp (fun _ q ⟨a, b, c⟩ => ⟨a, q.2.mono le b, c⟩) p⟩
theorem InD.look {od : Obj} {l : List (Str × VP)} {name : Str} (h : InD g od l) (hn : (name, P) ∈ l) (hd : (l.map (·.1)).Nodup) : ∃ v, lookIn name od = some (some v) ∧ P.p g v ∧ handedIn v = true := by
  obtain ⟨es, n, rfl, hz, p⟩ := h
  have key : ∃ e, es.find? (·.key.isStr name) = some e ∧ P.p g e.val ∧ handedIn e.val = true := by
    clear hz n
    induction p with
    | nil => cases hn
    | @cons e q es l he _ ih =>
      obtain ⟨⟨t, hk⟩, hp, hh⟩ := he
      simp only [List.map_cons, List.nodup_cons] at hd
      rcases List.mem_cons.mp hn with q' | hn
      · subst q'
        exact ⟨e, by rw [List.find?_cons_of_pos]; rw [hk]; simp [Value.isStr], hp, hh⟩
      · obtain ⟨e', h1, h2⟩ := ih hn hd.2
        refine ⟨e', ?_, h2⟩
        rw [List.find?_cons_of_neg, h1]
        rw [hk]
        have : name ≠ q.1 := fun z => hd.1 (z ▸ List.mem_map.mpr ⟨_, hn, rfl⟩)
        simp [Value.isStr]
        exact fun z => this z.symm
  obtain ⟨e, h1, h2, h3⟩ := key
  exact ⟨e.val, by show (match es.toArray.toList.find? _ with | some e => _ | none => _) = _; rw [List.toList_toArray, h1], h2, h3⟩

theorem putL_len (name : Str) (hsh : Int) (key v : Value) : ∀ es : List DictEntry, (putL name hsh key v es).length ≤ es.length + 1
  | [] => by simp [putL]
  | e :: r => by
    have := putL_len name hsh key v r
    unfold putL
    split <;> simp only [List.length_cons] <;> omega
theorem getL_noRef {name : Str} {es : List DictEntry} (hl : (getL name es).isSome = true) : (!es.toArray.any (·.key.isStr name) && es.toArray.any (·.refKey)) = false := by
  simp only [List.any_toArray]
  cases h1 : es.any (·.key.isStr name) with
  | true => rfl
  | false =>
    have hf : es.find? (·.key.isStr name) = none := List.find?_eq_none.mpr fun e he => by simpa using List.any_eq_false.mp h1 e he
    unfold getL at hl
    rw [hf] at hl
    cases h2 : es.any (·.refKey) with
    | false => rfl
    | true => simp [h2] at hl
theorem osa_mine {prog : Program} {w : World} {R : Result → Shared → Prop} {K : Frag} {x C dx : Addr} {es : List DictEntry} {n : Nat} {sl : Array (Option Value)} {name : Str} {v : Value} {tk : Tok} (X : K.In s.heap)
    (I : InstAt s.heap x ⟨.ref C, some dx, .plain, sl⟩ C (some (PySem.W.dictOf es n))) (hp : plainOver K C = true) (ht : takerIn K C name = some none) (hh : hasDictIn K C = true)
    (hl : (getL name es).isSome = true) (hz : es.length ≤ 900)
    (h : ∀ h', Heap.SameBut dx s.heap h' → h'.get? dx = some (PySem.W.dictOf (putL name (PyData.keyHash w.params name) (.str name s.toks) v es) (putN name es n)) → R (.ok (.ret .none)) { s with heap := h', toks := s.toks + 1 }) :
    codeAny (model prog w) A (.call (.builtin "object.__setattr__") ⟨[.ref x, .str name tk, v], []⟩) R s := by
  refine osa_open X I hp ht fun b => ?_
  obtain ⟨cd, hc, hd'⟩ := any_some hh
  obtain ⟨hx, hcl, hn, D⟩ := I
  have D : s.heap.get? dx = some (PySem.W.dictOf es n) := D
  have e := putName_dict name (PyData.keyHash w.params name) (.str name s.toks) v es n
  have hlen := putL_len name (PyData.keyHash w.params name) (.str name s.toks) v es
  have D' : (s.heap.update dx (Obj.putName name (PyData.keyHash w.params name) (.str name s.toks) v)).get? dx = some (PySem.W.dictOf (putL name (PyData.keyHash w.params name) (.str name s.toks) v es) (putN name es n)) := by
    rw [Heap.get?_update_self _ D (by rw [e]; rfl), e]
  refine wpAny_bind (wpAny_pure (wpAny_bind (wpAny_bind (wpAny_loadPart hx (wpAny_bind ((looks_clsIn X hc).here ?_))))))
  rw [hd']
  refine wpAny_pure (a := some dx) (wpAny_bind (wpAny_pure (wpAny_bind ?_)))
  unfold nsSet
  refine wpAny_bind (wpAny_bind (wpAny_askSetting (wpAny_pure (wpAny_bind (wpAny_mkText (wpAny_bind (wpAny_loadPart D ?_)))))))
  dsimp only
  rw [aRefKeyMayBeTheName_at, getL_noRef hl]
  refine wpAny_updatePart D ?_
  refine wpAny_bind (wpAny_lookBehind D' (pastItsLine_dict (by rw [List.size_toArray, sizeLine_eq]; omega)) ?_)
  exact wpAny_pure (h _ (Heap.SameBut.update ..) D')
theorem wp_setattr {prog : Program} {w : World} {E : Value → Shared → Prop} {K : Frag} {x C dx : Addr} {es : List DictEntry} {n : Nat} {sl : Array (Option Value)} {name : Str} {v : Value} {Q : Unit → Shared → Prop} (X : K.In s.heap)
    (I : InstAt s.heap x ⟨.ref C, some dx, .plain, sl⟩ C (some (PySem.W.dictOf es n))) (hs : findIn K (.ref C) "__setattr__" = some (some (.builtin "object.__setattr__"))) (hp : plainOver K C = true) (ht : takerIn K C name = some none) (hh : hasDictIn K C = true)
    (hl : (getL name es).isSome = true) (hz : es.length ≤ 900)
    (h : ∀ h', Heap.SameBut dx s.heap h' → h'.get? dx = some (PySem.W.dictOf (putL name (PyData.keyHash w.params name) (.str name (s.toks + 1)) v es) (putN name es n)) → Q () { s with heap := h', toks := s.toks + 2 }) :
    wpAny (model prog w) A (setAttr (.ref x) name v) Q E s :=
  set_plain X I hs (osa_mine (s := { s with toks := s.toks + 1 }) X I hp ht hh hl hz fun h' a b => h h' a b)
end
end Mine

end

section
open PySem PySem.W PyProof.Rows
set_option linter.unusedVariables false
namespace Mine
section
variable {G : Gv} {A : Around} {env : Env} {σ σ' : Asg} {τ τ' : Own} {P Q R : VP} {α β : Type} {s₀ s s' : Shared} {g₀ g g' : View}

theorem InD.fresh {od : Obj} {l : List (Str × VP)} {name : Str} (h : InD g od l) (hn : name ∉ l.map (·.1)) : ∃ es n, od = PySem.W.dictOf es n ∧ es.length ≤ 100 ∧ (getL name es).isSome = true ∧ lookIn name od = some none ∧
    (∀ v hsh tk, P.p g v → handedIn v = true → es.length < 100 → InD g (PySem.W.dictOf (putL name hsh (.str name tk) v es) (putN name es n)) (l ++ [(name, P)])) := by
  obtain ⟨es, n, rfl, hz, p⟩ := h
  have hf : es.find? (·.key.isStr name) = none ∧ es.any (·.refKey) = false ∧ ∀ hsh tk v, putL name hsh (.str name tk) v es = es ++ [⟨hsh, .str name tk, v⟩] := by
    clear hz n
    induction p with
    | nil => exact ⟨rfl, rfl, fun _ _ _ => rfl⟩
    | @cons e q es l he _ ih =>
      obtain ⟨⟨t, hk⟩, hp, hh⟩ := he
      simp only [List.map_cons, List.mem_cons, not_or] at hn
      obtain ⟨i1, i2, i3⟩ := ih hn.2
      have hne : e.key.isStr name = false := by
        rw [hk]
        simp [Value.isStr]
        exact fun z => hn.1 z.symm
      refine ⟨by rw [List.find?_cons_of_neg (by rw [hne]; simp), i1], ?_, fun hsh tk v => ?_⟩
      · rw [List.any_cons, i2]; simp [DictEntry.refKey, hk]
      · rw [putL, hne]; simp only [Bool.false_eq_true, if_false]; rw [i3]; rfl
  have hg : getL name es = some none := by unfold getL; rw [hf.1, hf.2.1]; rfl
  refine ⟨es, n, rfl, hz, by rw [hg]; rfl, ?_, fun v hsh tk pv hh hl => ⟨_, _, rfl, ?_, ?_⟩⟩
  · rw [lookIn_dict, hg]
  · rw [hf.2.2]; simp; omega
  · rw [hf.2.2]; exact PairedAppend p (.cons ⟨⟨tk, rfl⟩, pv, hh⟩ .nil)

/-- what is asked of the class for a plain store of an attribute, or a plain read -/
structure ClsOk (K : Frag) (C : Addr) : Prop where
  hs : findIn K (.ref C) "__setattr__" = some (some (.builtin "object.__setattr__"))
  hp : plainOver K C = true
  hh : hasDictIn K C = true
  hga : findIn K (.ref C) "__getattribute__" = some (some (.builtin "object.__getattribute__"))
theorem EX_selfattr {D X C : Addr} {od : Obj} {name x : Str} {v : Value} {np pos : Pos} {l : List (Addr × Obj)} (ok : ClsOk G.K C) (hl : (D, od) ∈ l) (hX : (X, instObj C D) ∈ l) (hx : (x, vIs (.ref X)) ∈ σ) (ha : findIn G.K (.ref C) name = some none)
    (hk : lookIn name od = some (some v)) (hh : handedIn v = true) (hv : ∀ g, P.p g v) (hd : (x == ("__debug__" : Str)) = false := by decide) : EX (Gx G l) A env σ (.Attribute (.Name x np) name pos) P := fun g s E ev => by
  refine Attribute_name ((EX_name hx hd).then ev fun o g1 s1 G1 e1 p => ?_)
  obtain rfl : o = .ref X := p
  have w := e1.bs.wd.extra
  refine get_value (K := G.K) e1.bs.wd.k (I := ⟨w _ hX, rfl, rfl, w _ hl⟩) ok.hga (findObj_own ok.hh ha rfl hk) hh ?_
  exact ⟨g1, G1.trans (.same e1.bs (keepsTok s1 _) (Nat.le_succ _)), hv g1⟩
def vInst (C : Addr) (l : List (Str × VP)) : VP :=
  ⟨fun g v => ∃ X D od, v = .ref X ∧ g.ob X (instObj C D) ∧ g.ob D od ∧ InD g od l, fun le ⟨X, D, od, e, a, b, c⟩ => ⟨X, D, od, e, le.ob _ _ a, le.ob _ _ b, c.mono le⟩⟩
theorem EX_attr {C : Addr} {name x : Str} {np pos : Pos} {l : List (Str × VP)} (ok : ClsOk G.K C) (hx : (x, vInst C l) ∈ σ) (ha : findIn G.K (.ref C) name = some none) (hl : (name, P) ∈ l) (hnod : (l.map (·.1)).Nodup) (hd : (x == ("__debug__" : Str)) = false := by decide) :
    EX G A env σ (.Attribute (.Name x np) name pos) P := fun g s E ev => by
  refine Attribute_name ((EX_name hx hd).then ev fun o g1 s1 G1 e1 p => ?_)
  obtain ⟨X, D, od, rfl, h1, h2, h3⟩ := p
  obtain ⟨v, hv, pv, hh⟩ := h3.look hl hnod
  refine get_value (K := G.K) e1.bs.wd.k (I := ⟨e1.bs.on _ _ h1, rfl, rfl, e1.bs.on _ _ h2⟩) ok.hga (findObj_own ok.hh ha rfl hv) hh ?_
  exact ⟨g1, G1.trans (.same e1.bs (keepsTok s1 _) (Nat.le_succ _)), pv⟩
theorem EX_clsattr {C : Addr} {mc v : Value} {name x : Str} {np pos : Pos} (hx : (x, vIs (.ref C)) ∈ σ) (hr : readsIn G.K C mc = true) (e : findCls G.K (.ref C) mc name = some (.val v)) (hh : handedIn v = true) (hd : (x == ("__debug__" : Str)) = false := by decide) :
    EX G A env σ (.Attribute (.Name x np) name pos) (vIs v) := fun g s E ev => by
  refine Attribute_name ((EX_name hx hd).then ev fun o g1 s1 G1 e1 p => ?_)
  obtain rfl : o = .ref C := p
  exact cls_value e1.bs.wd.k hr e hh ⟨g1, G1.trans (.same e1.bs (keepsTok s1 _) (Nat.le_succ _)), rfl⟩

/-- the frame while it fills such an object's dict -/
structure Fi (G : Gv) (env : Env) (sC : Shared) (g₀ : View) (X C D : Addr) (lst : List (Str × VP)) (σ : Asg) (τ : Own) (g : View) (s : Shared) : Prop where
  wC : Wd G sC.heap
  hC : sC.heap.get? D = none
  hX : sC.heap.get? X = none
  ng : ∀ o, ¬ g₀.ob D o
  gl : ∃ o, sC.heap.get? env.globals = some o
  bl : ∃ o, sC.heap.get? env.builtins = some o
  XD : X ≠ D
  base : ∃ s₀ od, Fg G env s₀ g₀ σ τ g s ∧ (∀ b o, sC.heap.get? b = some o → s₀.heap.get? b = some o) ∧ s₀.heap.get? D = some od ∧ s₀.heap.get? X = some (instObj C D) ∧ InD g od lst ∧ (∀ b, s₀.heap.get? b = none → sC.heap.get? b = none) ∧ (∃ h t, s₀ = { sC with heap := h, toks := t }) ∧ sC.toks ≤ s₀.toks
theorem Stp.fewer {l : List (Addr × Obj)} (S : Stp (Gx G l) g s g' s') : Stp G g s g' s' := ⟨S.keeps, S.toks, S.le, ⟨S.bs.on, S.bs.wd.fewer, S.bs.tk, S.bs.pos⟩, S.new⟩
theorem Fg.notOwn {D : Addr} {od : Obj} (F : Fg G env s₀ g₀ σ τ g s) (hD : s₀.heap.get? D = some od) : ¬ Mut env D ∧ ∀ x C, τ = some (x, C) → ¬ RD env s.heap x (.ref D) := by
  refine ⟨fun h => ?_, fun x C e r => ?_⟩
  · rw [(F.fr.out D h).1] at hD; cases hD
  · obtain ⟨D', o, r', h1, h2, h3, _⟩ := F.own x C e
    have := r'.unique r
    cases this
    rw [h3] at hD; cases hD
/-- a statement that leaves that object alone -/
theorem Fi.stmt {sC : Shared} {X C D : Addr} {lst : List (Str × VP)} {st : Stmt} {E : Value → Shared → Prop} (F : Fi G env sC g₀ X C D lst σ τ g s) (h : ∀ od, InD g od lst → S1 (Gx G [(D, od), (X, instObj C D)]) A env σ τ st σ' τ') :
    wpAny (model G.prog G.w) A (exec st env) (fun fl s' => fl = .next ∧ ∃ g', Fi G env sC g₀ X C D lst σ' τ' g' s' ∧ VLe g g') E s := by
  obtain ⟨s₀, od, Fb, k0, hD, hX, hI, n0, sm, tk⟩ := F.base
  obtain ⟨s1, Fr, kb, back⟩ := Fb.rebase
  obtain ⟨m1, o1⟩ := Fb.notOwn hD
  obtain ⟨m2, o2⟩ := Fb.notOwn hX
  have Fm := Fr.more (l := [(D, od), (X, instObj C D)]) (all1 (kb D od m1 o1 (KeepsHeap Fb.keeps _ _ hD)) (all1 (kb X _ m2 o2 (KeepsHeap Fb.keeps _ _ hX)) all0))
  refine wpAny_mono (h od hI s1 g g s E Fm) (fun fl s' ⟨e, g', F'⟩ => ⟨e, g', ⟨F.wC, F.hC, F.hX, F.ng, F.gl, F.bl, F.XD, s₀, od, back _ _ _ _ F'.fewer, k0, hD, hX, hI.mono F'.le, n0, sm, tk⟩, F'.le⟩) fun _ _ x => x
/-- self.name = e -/
theorem Fi.setattr {sC : Shared} {X C D : Addr} {lst : List (Str × VP)} {name x : Str} {e : Expr} {np apos pos : Pos} {E : Value → Shared → Prop} (F : Fi G env sC g₀ X C D lst σ τ g s) (ok : ClsOk G.K C) (ht : takerIn G.K C name = some none)
    (h : ∀ od, InD g od lst → EX (Gx G [(D, od), (X, instObj C D)]) A env σ e P) (hand : ∀ g v, P.p g v → handedIn v = true) (hx : (x, vIs (.ref X)) ∈ σ) (hn : name ∉ lst.map (·.1)) (hz : lst.length < 50) (hd : (x == ("__debug__" : Str)) = false := by decide)
    (hs : swapsWith e (some (.Attribute (.Name x np) name apos)) pos.line env = pure false := by rfl) :
    wpAny (model G.prog G.w) A (exec (.Assign [.Attribute (.Name x np) name apos] e pos) env) (fun fl s' => fl = .next ∧ ∃ g', Fi G env sC g₀ X C D (lst ++ [(name, P)]) σ τ g' s' ∧ VLe g g') E s := by
  obtain ⟨s₀, od, Fb, k0, hD, hX, hI, n0, sm, tk⟩ := F.base
  have Fm := Fb.more (l := [(D, od), (X, instObj C D)]) (all1 hD (all1 hX all0))
  refine plainObj_wpAny_Assign_Attribute (wpAny_mono (h od hI g s E Fm.ev) (fun v s1 ⟨g1, S, pv⟩ => ?_) fun _ _ x => x) hs
  have S := S.fewer
  have F1 := Fb.step S
  refine (EX_name hx hd).then F1.ev fun o g2 s2 G2 e2 p => ?_
  obtain rfl : o = .ref X := p
  have F2 := F1.step G2
  have hI2 := (hI.mono S.le).mono G2.le
  have pv2 := P.mono G2.le pv
  obtain ⟨es, n, rfl, hes, hgl, hlk, hput⟩ := hI2.fresh (P := P) hn
  have hlen : es.length = lst.length := by obtain ⟨es', n', e', _, p'⟩ := hI2; cases e'; exact p'.length
  have hD2 := KeepsHeap F2.keeps _ _ hD
  have hX2 := KeepsHeap F2.keeps _ _ hX
  refine wp_setattr (K := G.K) F2.ev.bs.wd.k (C := C) (dx := D) ⟨hX2, rfl, rfl, hD2⟩ ok.hs ok.hp ht ok.hh hgl (by omega) fun h' hsb hD' => ⟨rfl, ?_⟩
  obtain ⟨s₀', F3, q1, q2, q3, q4, hh, q5⟩ := F2.setD F.wC F.hC k0 F.gl F.bl hD F.ng hsb hD' rfl (Nat.le_add_right _ 2)
  refine ⟨g2, ⟨F.wC, F.hC, F.hX, F.ng, F.gl, F.bl, F.XD, s₀', _, F3, fun b o e => q2 b o (fun q => by rw [q, F.hC] at e; cases e) (k0 b o e), q1, q2 X _ F.XD hX, hput v _ _ pv2 (hand _ _ pv2) (by omega), fun b e => n0 b (q3 b e), ?_, ?_⟩, S.le.trans G2.le⟩
  · obtain ⟨ha, ta, rfl⟩ := sm; exact ⟨hh, ta, by rw [q5]⟩
  · rw [q4]; exact tk
end
end Mine

end

section
open PySem PySem.W PyProof.Rows
set_option linter.unusedVariables false
namespace Mine
section
variable {G : Gv} {A : Around} {env : Env} {σ σ' : Asg} {τ τ' : Own} {P Q R : VP} {α β : Type} {s₀ s s' : Shared} {g₀ g g' : View}

variable (G A env σ) in
/-- an expression that gives a new list, which nothing else holds -/
def EXN (e : Expr) (R : α → VP) (xs : List α) : Prop :=
  ∀ (g : View) (s : Shared) (E : Value → Shared → Prop), Ev G env g s σ → wpAny (model G.prog G.w) A (eval e env) (fun v s' => Keeps s s' ∧ s.toks ≤ s'.toks ∧ ∃ a vs n, v = .ref a ∧ s.heap.get? a = none ∧ s'.heap.get? a = some (listObj vs n) ∧ ∀ g, Paired (fun v x => (R x).p g v) vs xs) E s
theorem EXN_cat {l r : Expr} {pos : Pos} {R : α → VP} {xs ys : List α} (fl : ∀ x, Flat (R x)) (hl : EX G A env σ l (vList R xs)) (hr : EX G A env σ r (vList R ys)) (h : xs.length + ys.length ≤ sizeLine) : EXN G A env σ (.BinOp l .Add r pos) R (xs ++ ys) := fun g s E ev => by
  refine wpAny_with_toks (n := s.toks) (Nat.le_refl _) (wpAny_BinOp (hl.then ev fun v1 g1 s1 G1 e1 p => hr.then e1 fun v2 g2 s2 G2 e2 q => ?_))
  obtain ⟨l1, vs, n, rfl, hl1, pa⟩ := p
  obtain ⟨l2, vs2, n2, rfl, hl2, pb⟩ := q
  have ho := e2.bs.on _ _ (G2.le.ob _ _ hl1)
  have ho2 := e2.bs.on _ _ hl2
  have hsz : vs.toArray.size + vs2.toArray.size ≤ sizeLine := by
    rw [List.size_toArray, List.size_toArray, pa.length, pb.length]; exact h
  refine concat_meets ⟨_, ho, rfl⟩ ⟨_, ho2, rfl⟩ noFill_list_add seq_list_add PySem.F.slot_list_add PySem.F.entry_list_add (PySem.F.args_list_add_2 _ _)
    (list_addW l1 l2 vs.toArray vs2.toArray n n2 none none #[] #[] hsz) ⟨ho, ho2, fun htk => ?_⟩
  have K := KeepsTrans (KeepsTrans G1.keeps G2.keeps) (keepsPush s2 { cls := .type "list", data := .seq (vs.toArray ++ vs2.toArray) } s2.toks)
  refine ⟨K, htk, s2.heap.objs.size, vs ++ vs2, 0, rfl, noneOfKeeps (KeepsTrans G1.keeps G2.keeps) (fresh_none _), ?_, fun g => PairedAppend (PairedImp (fun _ _ z => fl _ _ _ _ z) pa) (PairedImp (fun _ _ z => fl _ _ _ _ z) pb)⟩
  have e : listObj (vs ++ vs2) 0 = { cls := .type "list", data := .seq (vs.toArray ++ vs2.toArray) } := by simp [listObj]
  rw [e]
  exact Heap.get?_push_size _ rfl
/-- x = a new list, made while x itself may be read -/
theorem S1_ownNew {x : Str} {e : Expr} {pos pos' : Pos} {C : OP} {R : α → VP} {xs : List α} (h : EXN G A env ((x, C.vp) :: σ) e R xs) (hk : Kd env x) (hσ : σ' = del x σ)
    (hs : swapsWith e (some (.Name x pos')) pos.line env = pure false := by rfl) : S1 G A env σ (some (x, C)) (.Assign [.Name x pos'] e pos) σ' (some (x, oList R xs)) := fun s₀ g₀ g s E F => by
  obtain ⟨gz, ev, _, _⟩ := F.fz
  refine wpAny_Assign_Name (wpAny_mono (h gz s E ev) (fun v s1 ⟨K, ht, a, vs, n, e1, hn, ha, p⟩ => ?_) fun _ _ x => x) hs
  subst e1
  have F1 := F.step (.same F.ev.bs K ht)
  have hmut : ¬ Mut env a := fun h => by
    rcases h with h | ⟨m, h⟩
    · obtain ⟨m', o', _, _, e, _⟩ := F.fr.ns; rw [← h, hn] at e; cases e
    · obtain ⟨v, o', e, _⟩ := F.fr.cells m _ h; rw [hn] at e; cases e
  refine F1.store (τ' := none) (P := vIs (.ref a)) hk rfl (fun _ _ e => nomatch e) fun s' F2 _ k2 _ => ⟨rfl, g, ?_⟩
  rw [hσ]
  exact F2.mkOwn (k2 _ _ hmut ha) (notOb F.ev.bs hn) (noneOfKeeps F.keeps hn) hmut ⟨vs, n, rfl, p _⟩
theorem mapSeq_plain (f : Array Value → Array Value) (vs : List Value) (n : Nat) : ∃ n', Obj.mapSeq f (listObj vs n) = listObj (f vs.toArray).toList n' := by
  unfold Obj.mapSeq listObj
  exact ⟨_, by simp; rfl⟩
theorem wp_setItemL {prog : Program} {w : World} {E : Value → Shared → Prop} {l : Addr} {vs : List Value} {n : Nat} {k : Int} {t : Tok} {v : Value} {Q : Unit → Shared → Prop} (hl : s.heap.get? l = some (listObj vs n)) (h0 : 0 ≤ k) (hfit : k < 2 ^ 63) (hn : k < vs.length)
    (hQ : ∀ h' n', h'.get? l = some (listObj (vs.set k.toNat v) n') → Heap.SameBut l s.heap h' → Q () { s with heap := h' }) : wpAny (model prog w) A (setItem (.ref l) (.int k t) v) Q E s := by
  obtain ⟨n', hm⟩ := mapSeq_plain (·.setIfInBounds k.toNat v) vs n
  have hfin : (s.heap.update l (Obj.mapSeq (·.setIfInBounds k.toNat v))).get? l = some (listObj (vs.set k.toNat v) n') := by
    rw [Heap.get?_update_self _ hl (by rw [hm]; rfl), hm]; simp
  exact ki_setAt (items := vs.toArray) (n := n) hl h0 hfit (by simpa using hn) (hQ _ n' hfin (Heap.SameBut.update ..))
theorem PairedSet {F : Value → α → Prop} : ∀ {vs : List Value} {xs : List α} (i : Nat) {v : Value} {x : α}, Paired F vs xs → F v x → Paired F (vs.set i v) (xs.set i x)
  | _, _, _, _, _, .nil, _ => .nil
  | _, _, 0, _, _, .cons a b, h => .cons h b
  | _, _, i + 1, _, _, .cons a b, h => .cons a (PairedSet i b h)
/-- x[i] = value, x the list under construction -/
theorem S1_setOwnL {x : Str} {R : α → VP} {xs : List α} {y : α} {k : Int} {e i : Expr} {p1 spos pos : Pos} (he : EX G A env ((x, (oList R xs).vp) :: σ) e (R y)) (fl : Flat (R y)) (hi : EX G A env σ i (vInt k)) (h0 : 0 ≤ k) (hn : k < xs.length) (hz : xs.length ≤ 1000)
    (hd : (x == ("__debug__" : Str)) = false := by decide) (hs : swapsWith e (some (.Subscript (.Name x p1) i spos)) pos.line env = pure false := by rfl) :
    S1 G A env σ (some (x, oList R xs)) (.Assign [.Subscript (.Name x p1) i spos] e pos) σ (some (x, oList R (xs.set k.toNat y))) := fun s₀ g₀ g s E F => by
  refine wpAny_Assign_Subscript (F.fzEX he fl fun v s1 G1 pv => ?_) hs
  have F1 := F.step G1
  obtain ⟨D, o, r, h1, h2, h3, h4, h5⟩ := F1.own x _ rfl
  refine wpAny_Name (r.load F1.ev.fn ?_) hd
  refine hi.then F1.ev fun iv g2 s2 G2 e2 pi => ?_
  have F2 := F1.step G2
  obtain ⟨D', o', r', h1', h2', h3', h4', vs, n, rfl, pa⟩ := F2.own x _ rfl
  obtain rfl : D = D' := by have := (r.keeps (KeepsHeap G2.keeps)).unique r'; cases this; rfl
  obtain ⟨t, rfl⟩ := pi
  refine wp_setItemL h1' h0 (by omega) (by rw [pa.length]; exact hn) fun h' n' hm hsb => ⟨rfl, g2, ?_⟩
  exact F2.ownStep r' hsb hm (Nat.le_refl _) ⟨_, n', rfl, PairedSet _ pa ((R y).mono G2.le pv)⟩
end
end Mine

end

section
open PySem PySem.W PyProof.Rows
set_option linter.unusedVariables false
namespace Mine
theorem wgt_tc (C : Addr) (vs : List Value) (kw : List (Str × Value)) : (Code.builtin "type.__call__" ⟨.ref C :: vs, kw⟩).weight = 1 := by kernel_rfl
theorem cun_tc (args : Args) : (Code.builtin "type.__call__" args).cUnits = 1 := by kernel_rfl
theorem Rm.under {n : Nat} {A : Around} (r : Rm (n + 1) A) (C : Addr) (vs : List Value) (kw : List (Str × Value)) : Rm n (A.under (.builtin "type.__call__" ⟨.ref C :: vs, kw⟩)) :=
  ⟨r.h, by show A.depth + _ + n < _; rw [wgt_tc]; have := r.d; omega, by show A.units + _ + 10 * n < _; rw [cun_tc]; have := r.u; omega⟩
section
variable {G : Gv} {A : Around} {env : Env} {σ σ' : Asg} {τ τ' : Own} {P Q R : VP} {α β : Type} {s₀ s s' : Shared} {g₀ g g' : View}

theorem code_def {a : Addr} {fd : FuncData} {body : List Stmt} {R : Result → Shared → Prop} {vs : List Value} (D : DefOf G a fd body) (hroom : A.depth < recursionLimit) (params : List Str) (Ps : List VP) (Γ : List (Str × Value))
    (hlen : params.length = Ps.length) (hnod : params.Nodup) (h1 : fd.params.posonlyargs = []) (h2 : fd.params.args.map (·.arg) = params) (h3 : fd.params.vararg = none) (h4 : fd.params.kwonlyargs = []) (h5 : fd.params.kwarg = none) (h6 : fd.defaults = .none)
    (hkind : ∀ x ∈ params, fd.scope.names.lookup x = some .local ∨ fd.scope.names.lookup x = some .cell) (hΓ : ∀ q ∈ Γ, GlOk G fd q) (B : Bs G g s) (pa : Paired (fun v (x : VP) => x.p g v) vs Ps)
    (hb : ∀ L s1, Fg G (callEnvC fd L a) s g (params.zip Ps ++ Γ.map glv) none g s1 → (∃ o, s.heap.get? (callEnvC fd L a).globals = some o) → (∃ o, s.heap.get? (callEnvC fd L a).builtins = some o) →
      wpAny (model G.prog G.w) (A.deeper (callEnvC fd L a)) (execs body (callEnvC fd L a)) (fun f s' => R (.ok (.ret (match f with | .ret v => v | _ => .none))) s') (fun _ _ => False) s1) :
    codeAny (model G.prog G.w) A (.call (.ref a) ⟨vs, []⟩) R s := by
  obtain ⟨o, ho, hd⟩ := D.ob
  have ho' := B.wd.k a o ho
  have hvl : vs.length = params.length := by rw [pa.length, hlen]
  have hnz : ((params.zip vs).map (·.1)) = params := by
    rw [List.map_fst_zip]; omega
  refine codeAny_call_function hroom ho' hd D.co D.gen D.body (codeRec_of B.wd.k D.code) ?_
  rw [bindPlain h1 h2 h3 h4 h5 h6 hnod hvl, D.clo]
  refine wpAny_pure (wpAny_with_toks (n := s.toks) (Nat.le_refl _) (wpAny_newFunctionEnv_cells D.kind ?_ fun env he s1 x htk => ?_))
  · rintro ⟨y, v⟩ hy
    have hy' : y ∈ params := hnz ▸ List.mem_map.mpr ⟨_, hy, rfl⟩
    rcases hkind y hy' with h | h
    · exact .inl h
    · exact .inr ⟨h, cellsFrom_has _ _ _ _ (.inl h)⟩
  · subst he
    change InCallC s (callEnvC fd s.heap.objs.size a).locals (bindL (callEnvC fd s.heap.objs.size a).kindOf (params.zip vs) fun _ => none) (callEnvC fd s.heap.objs.size a).cells (bindC (callEnvC fd s.heap.objs.size a).kindOf (params.zip vs) fun _ => none) s1 at x
    refine ⟨B.wd.nolimit.keeps x.toInCall.keep, codeAny_func ?_⟩
    change wpAny _ (A.deeper (callEnvC fd s.heap.objs.size a)) (execs body (callEnvC fd s.heap.objs.size a)) _ _ s1
    have hb' := hb s.heap.objs.size
    have hge : (callEnvC fd s.heap.objs.size a).globals = mainGlobals := D.gl
    have hbe : (callEnvC fd s.heap.objs.size a).builtins = builtinsNs := D.bl
    have hko : ∀ x, (callEnvC fd s.heap.objs.size a).kindOf x = fd.scope.names.lookup x := fun _ => rfl
    have hkd : (callEnvC fd s.heap.objs.size a).scope.kind = .function := D.kind
    have hcn : ((callEnvC fd s.heap.objs.size a).cells.map (·.1)).Nodup := cellsFrom_nod _ _ _ D.nod (by simp) (by simp)
    have hch : ∀ y, fd.scope.names.lookup y = some .cell → ((callEnvC fd s.heap.objs.size a).cells.lookup y).isSome = true := fun y h => cellsFrom_has _ _ _ _ (.inl h)
    generalize callEnvC fd s.heap.objs.size a = env at x hb' hge hbe hko hkd hcn hch
    obtain ⟨h1, tk, rfl, hk1⟩ := x.done
    have K : Keeps s { s with heap := h1, toks := tk } := ⟨h1, tk, rfl, hk1⟩
    have S : Stp G g s g { s with heap := h1, toks := tk } := .same B K htk
    have nn : ∀ b, s.heap.objs.size ≤ b → s.heap.get? b = none := fun b hb => by
      cases e : s.heap.get? b with
      | none => rfl
      | some o => exact absurd (Heap.lt_size e) (Nat.not_lt.mpr hb)
    have hgl : ∃ o, s.heap.get? env.globals = some o := by rw [hge]; obtain ⟨o, _, _, e, _⟩ := B.wd.g; exact ⟨o, e⟩
    have hbl : ∃ o, s.heap.get? env.builtins = some o := by rw [hbe]; obtain ⟨o, _, _, e, _⟩ := B.wd.b; exact ⟨o, e⟩
    have F : Fg G env s g (params.zip Ps ++ Γ.map glv) none g { s with heap := h1, toks := tk } := by
      refine ⟨⟨hkd, S.bs, fun y Q hq => ?_⟩, B.wd, K, htk, VLe.refl g, fun _ _ h => .inl h, ⟨⟨_, x.toInCall.ns⟩, fun n c hc => ⟨_, x.cell n c (lookup_of_nod hcn hc)⟩, fun b hb => ?_, x.apart, fun n c hc => Nat.ne_of_gt (x.above n c hc), hgl, hbl⟩, fun _ _ e => nomatch e⟩
      · rcases List.mem_append.mp hq with hq | hq
        · obtain ⟨v, hv, pv⟩ := zipMem pa hq
          have hy' : y ∈ params := hnz ▸ List.mem_map.mpr ⟨_, hv, rfl⟩
          refine ⟨v, ?_, pv⟩
          rcases hkind y hy' with h | h
          · exact .loc ((hko y).trans h) _ x.toInCall.ns (bindL_has ((hko y).trans h) (by rw [hnz]; exact hnod) hv)
          · cases hc : env.cells.lookup y with
            | none =>
              have := hch y h
              rw [hc] at this; cases this
            | some c => exact .cell ((hko y).trans h) c hc (bindC_has ((hko y).trans h) (by rw [hnz]; exact hnod) hv ▸ x.cell y c hc)
        · obtain ⟨q, hm, e⟩ := List.mem_map.mp hq
          cases e
          obtain ⟨h1, h2⟩ := hΓ q hm
          refine ⟨q.2, ?_, rfl⟩
          rcases h2 with h2 | ⟨h2, h3⟩
          · exact .glob ((hko _).trans h1) _ (hge ▸ S.bs.wd.g) h2
          · exact .blt ((hko _).trans h1) _ (hge ▸ S.bs.wd.g) h2 _ (hbe ▸ S.bs.wd.b) h3
      · have hnone : s.heap.get? b = none := by
          rcases hb with rfl | ⟨n, hb⟩
          · exact nn _ x.toInCall.fresh
          · exact nn _ (Nat.le_trans x.toInCall.fresh (Nat.le_of_lt (x.above n b hb)))
        exact ⟨hnone, notOb B hnone⟩
    exact wpAny_mono (hb' _ F hgl hbl) (fun f s' h => h) fun _ _ h => h.elim

theorem CX_make {C fI : Addr} {fd : FuncData} {body : List Stmt} {lst : List (Str × VP)} (Df : DefOf G fI fd body) (mk : makesIn G.K C = true) (hi : findIn G.K (.ref C) "__init__" = some (some (.ref fI))) (hf : typeIn G.K (.ref fI) = some (.type "function"))
    {nr : Nat} (hA : Rm (nr + 1) A) (params : List Str) (Ps : List VP) (Γ : List (Str × Value))
    (hlen : params.length = Ps.length) (hnod : ((("self" : Str) :: params).Nodup)) (h1 : fd.params.posonlyargs = []) (h2 : fd.params.args.map (·.arg) = ("self" : Str) :: params) (h3 : fd.params.vararg = none) (h4 : fd.params.kwonlyargs = []) (h5 : fd.params.kwarg = none) (h6 : fd.defaults = .none)
    (hkind : ∀ x ∈ ("self" : Str) :: params, fd.scope.names.lookup x = some .local ∨ fd.scope.names.lookup x = some .cell) (hΓ : ∀ q ∈ Γ, GlOk G fd q)
    (hb : ∀ A', Rm nr A' → ∀ L X D sC g s, Fi G (callEnvC fd L fI) sC g X C D [] (("self", vIs (.ref X)) :: (params.zip Ps ++ Γ.map glv)) none g s →
      wpAny (model G.prog G.w) (A'.deeper (callEnvC fd L fI)) (execs body (callEnvC fd L fI)) (fun f s' => f = .next ∧ ∃ g' σ' τ', Fi G (callEnvC fd L fI) sC g X C D lst σ' τ' g' s' ∧ VLe g g') (fun _ _ => False) s) :
    CX G A (.ref C) Ps (vInst C lst) := fun g s E vs B pa => by
  have key : ∀ s : Shared, Bs G g s → codeAny (model G.prog G.w) A (.call (.ref C) ⟨vs, []⟩) (fun r s' => match r with | .ok (.ret v) => Out G g s (vInst C lst) v s' | .ok _ => False | .error e => E e s') s := by
    rintro ⟨h, gs, d, tk, os⟩ B
    refine make_core (makes_of B.wd.k mk) (looks_findIn B.wd.k hi) (fun self => bind_fn B.wd.k self hf) (.inl rfl) ?_
    have hA' := hA.under C vs []
    generalize A.under (.builtin "type.__call__" ⟨.ref C :: vs, []⟩) = A' at hA' ⊢
    have nD : h.get? h.objs.size = none := fresh_none _
    have nX : h.get? (h.objs.size + 1) = none := by
      cases e : h.get? (h.objs.size + 1) with
      | none => rfl
      | some o => exact absurd (Heap.lt_size e) (Nat.not_lt.mpr (Nat.le_succ _))
    have k2 : ∀ b o, h.get? b = some o → ((h.push emptyDict).push (instObj C h.objs.size)).get? b = some o := fun b o e => Heap.get?_push_of_some _ (Heap.get?_push_of_some _ e)
    have gD : ((h.push emptyDict).push (instObj C h.objs.size)).get? h.objs.size = some emptyDict := Heap.get?_push_of_some _ (Heap.get?_push_size _ rfl)
    have gX : ((h.push emptyDict).push (instObj C h.objs.size)).get? (h.objs.size + 1) = some (instObj C h.objs.size) := by
      have := Heap.get?_push_size (h.push emptyDict) (o := instObj C h.objs.size) rfl
      rwa [Heap.size_push] at this
    have n2 : ∀ b, ((h.push emptyDict).push (instObj C h.objs.size)).get? b = none → h.get? b = none := fun b e => by
      cases q : h.get? b with
      | none => rfl
      | some o => rw [k2 b o q] at e; cases e
    have hXD : h.objs.size + 1 ≠ h.objs.size := Nat.succ_ne_self _
    generalize hDD : h.objs.size = D at *
    generalize hXX : D + 1 = X at *
    have S2 : Stp G g ⟨h, gs, d, tk, os⟩ (VAdd g X (instObj C D)) ⟨(h.push emptyDict).push (instObj C D), gs, d, tk, os⟩ := by
      refine ⟨⟨_, tk, rfl, k2⟩, Nat.le_refl _, VAdd.le _ _ _, ⟨?_, B.wd.keeps k2, B.tk, B.pos⟩, ?_⟩
      · rintro b o (q | ⟨rfl, rfl⟩)
        · exact k2 b o (B.on b o q)
        · exact gX
      · rintro b o (q | ⟨rfl, rfl⟩)
        · exact .inl q
        · exact .inr nX
    refine codeAny_mono (code_def (R := fun r s' => match r with | .ok (.ret v) => v = .none ∧ Out G g ⟨h, gs, d, tk, os⟩ (vInst C lst) (.ref X) s' | _ => False) Df (by have := hA'.d; omega) (("self" : Str) :: params) (vIs (.ref X) :: Ps) Γ (by simp [hlen]) hnod h1 h2 h3 h4 h5 h6 hkind hΓ S2.bs (.cons rfl (PairedImp (fun _ x z => x.mono S2.le z) pa)) fun L s1 F _ _ => ?_) fun r s' z => ?_
    · have hge : (callEnvC fd L fI).globals = mainGlobals := Df.gl
      have hbe : (callEnvC fd L fI).builtins = builtinsNs := Df.bl
      have ngX : ∀ o, ¬ (VAdd g X (instObj C D)).ob D o := by
        rintro o (q | ⟨q, _⟩)
        · have := B.on D o q; rw [show (Shared.heap ⟨h, gs, d, tk, os⟩) = h from rfl, nD] at this; cases this
        · exact hXD q.symm
      have F0 : Fi G (callEnvC fd L fI) ⟨h, gs, d, tk, os⟩ (VAdd g X (instObj C D)) X C D [] (("self", vIs (.ref X)) :: (params.zip Ps ++ Γ.map glv)) none (VAdd g X (instObj C D)) s1 :=
        ⟨B.wd, nD, nX, ngX, by rw [hge]; obtain ⟨o, _, _, e, _⟩ := B.wd.g; exact ⟨o, e⟩, by rw [hbe]; obtain ⟨o, _, _, e, _⟩ := B.wd.b; exact ⟨o, e⟩, hXD, _, emptyDict, F, k2, gD, gX, ⟨[], 0, rfl, by simp, .nil⟩, n2, ⟨_, _, rfl⟩, Nat.le_refl _⟩
      refine wpAny_mono (hb A' hA' L X D _ _ s1 F0) (fun f s' ⟨ef, g', σ', τ', F', le'⟩ => ?_) fun _ _ x => x
      subst ef
      refine ⟨rfl, ?_⟩
      obtain ⟨s₀, od, Fb, k0, hD0, hX0, hI, n0, ⟨hh, tt, e0⟩, t0⟩ := F'.base
      have hD' := KeepsHeap Fb.keeps _ _ hD0
      have K1 : Keeps ⟨h, gs, d, tk, os⟩ s₀ := by
        subst e0
        exact ⟨hh, tt, rfl, k0⟩
      refine ⟨VAdd g' D od, ⟨KeepsTrans K1 Fb.keeps, Nat.le_trans t0 Fb.toks, ((VAdd.le _ _ _).trans le').trans (VAdd.le _ _ _), ⟨?_, Fb.ev.bs.wd, Fb.ev.bs.tk, Fb.ev.bs.pos⟩, ?_⟩, X, D, od, rfl, .inl (le'.ob _ _ (VAdd.here _ _ _)), VAdd.here _ _ _, hI.mono (VAdd.le _ _ _)⟩
      · rintro b o (q | ⟨rfl, rfl⟩)
        · exact Fb.ev.bs.on b o q
        · exact hD'
      · rintro b o (q | ⟨rfl, rfl⟩)
        · rcases Fb.new b o q with q | q
          · rcases q with q | ⟨rfl, rfl⟩
            · exact .inl q
            · exact .inr nX
          · exact .inr (n0 b q)
        · exact .inr nD
    · cases r with
      | error e => exact z.elim
      | ok f => cases f <;> first | exact z | exact z.elim
  exact wpAny_call (key s B)
end
end Mine

end

section
open PySem PySem.W PyProof.Rows
set_option linter.unusedVariables false
namespace Mine
section
variable {G : Gv} {A : Around} {env : Env} {σ σ' : Asg} {τ τ' : Own} {P Q R : VP} {α β : Type} {s₀ s s' : Shared} {g₀ g g' : View}
theorem merged_one {k : Str} {v : Value} : merged ([] : List (Str × Value)) [(k, v)] = [(k, v)] := rfl
theorem EX_dict1 {ke ve : Expr} {pos : Pos} {k : Str} {n : Int} (hk : EX G A env σ ke (vStr k)) (hv : EX G A env σ ve (vInt n)) : EX G A env σ (.Dict [some ke] [ve] pos) (vDict G [(k, n)]) := fun g s E ev => by
  refine wpAny_with_toks (n := s.toks) (Nat.le_refl _) (wpAny_Dict_walk (knd := PySem.strKind G.prog G.w) rfl rfl (by simp) (by simp) (pairTrees_cons_walk ?_))
  have hn : s.heap.get? s.heap.objs.size = none := fresh_none _
  have S0 := stpPush ev.bs { cls := .type "dict", data := .dict #[] } s.toks (Nat.le_refl _)
  have ev0 := ev.grow S0
  have hD0 : (Shared.heap { s with heap := s.heap.push { cls := .type "dict", data := .dict #[] } }).DictOf (PySem.strKind G.prog G.w) s.heap.objs.size [] := Heap.DictOf.new s.heap
  refine hk.then ev0 fun kv g1 s1 G1 e1 pk => hv.then e1 fun vv g2 s2 G2 e2 pv => pairTrees_nil_walk ?_
  obtain ⟨t, rfl⟩ := pk
  obtain ⟨u, rfl⟩ := pv
  have K := KeepsTrans G1.keeps G2.keeps
  refine ⟨[(k, .int n u)], ⟨PySem.strKind_is _ _ k t, rfl, trivial⟩, hD0.keep (KeepsHeap K), fun h' hd hsb htk => ?_⟩
  obtain ⟨o, ho, hdo⟩ := Heap.dictOf_iff.mp hd
  have kk : ∀ b o, s.heap.get? b = some o → h'.get? b = some o := fun b o e => hsb.extBut b o (fun q => by rw [q, hn] at e; cases e) (KeepsHeap K b o (Heap.get?_push_of_some _ e))
  have ng2 : ∀ o, ¬ g2.ob s.heap.objs.size o := fun o q => by
    have hsome : ∃ o, (Shared.heap { s with heap := s.heap.push { cls := .type "dict", data := .dict #[] } }).get? s.heap.objs.size = some o := ⟨_, Heap.get?_push_size _ rfl⟩
    obtain ⟨o1, e1'⟩ := hsome
    rcases G2.new _ o q with q | q
    · rcases G1.new _ o q with q | q
      · exact notOb ev.bs hn o q
      · rw [e1'] at q; cases q
    · rw [KeepsHeap G1.keeps _ _ e1'] at q; cases q
  obtain ⟨hh, tt, e2', _⟩ := (KeepsTrans S0.keeps K)
  have hns : s.heap.objs.size ≠ sysModules := noSys ev.bs.wd hn
  refine ⟨⟨(VAdd g2 s.heap.objs.size o).ob, g.tk⟩, ⟨⟨h', _, by rw [e2'], kk⟩, htk, ⟨fun b o q => .inl (G2.le.ob b o (G1.le.ob b o q)), Nat.le_refl _⟩, ⟨?_, ev.bs.wd.keeps kk, Nat.le_trans ev.bs.tk htk, ev.bs.pos⟩, ?_⟩, s.heap.objs.size, o, rfl, hns, VAdd.here _ _ _, _, hdo, .cons ⟨rfl, u, rfl⟩ .nil⟩
  · rintro b o' (q | ⟨rfl, rfl⟩)
    · exact hsb.extBut b o' (fun e => ng2 o' (e ▸ q)) (e2.bs.on b o' q)
    · exact ho
  · rintro b o' (q | ⟨rfl, rfl⟩)
    · rcases G2.new b o' q with q | q
      · rcases G1.new b o' q with q | q
        · exact .inl q
        · exact .inr (noneOfKeeps S0.keeps q)
      · exact .inr (noneOfKeeps S0.keeps (noneOfKeeps G1.keeps q))
    · exact .inr hn
theorem cx_lenT {Ps : List VP} (hz : Ps.length ≤ 100000) : CX G A (.builtin "len") [vTup Ps] (vInt Ps.length) := by
  intro g s E vs B h
  obtain ⟨v, rfl, a, us, n, rfl, hl, pa⟩ := one_of h
  have e := pa.length
  refine raw B (len_tuple (tupObj_isTup B hl) (by rw [List.size_toArray]; omega) ?_)
  rw [List.size_toArray, e]
  exact .tok B ⟨_, rfl⟩
end
end Mine

end

section
open PySem PySem.W PyProof.Rows
set_option linter.unusedVariables false
set_option maxRecDepth 100000
namespace Mine
/-- `y == x` answers b, in one program and one world -/
def EqIn (prog : Program) (w : World) (A : Around) (s : Shared) (y x : Value) (b : Bool) : Prop := ∀ (E : Value → Shared → Prop) (Q : Bool → Shared → Prop), Q b s → wpAny (model prog w) A (eqBool y x) Q E s
/-- two tuples that are alike item for item do not differ -/
theorem tuple_same {prog : Program} {w : World} {a c : Addr} {xs ys : Array Value} {k k' : Nat} (hz : xs.size = ys.size) :
    MeetsIn prog w (Builtin.«tuple.__ne__» ⟨[.ref a, .ref c], []⟩) (fun A R s =>
      (s.heap.get? a = some { cls := .type "tuple", data := .seq xs k } ∧ s.heap.get? c = some { cls := .type "tuple", data := .seq ys k' }) ∧
      (∀ p ∈ xs.toList.zip ys.toList, EqIn prog w A.in1 s p.1 p.2 true) ∧ R (.ok (.ret (.bool false))) s) :=
  .of_wp fun A R s ⟨⟨ha, hc⟩, he, hR⟩ => by
    have sub := AutoSeq1.sub_tuple_tuple
    wp_walk using wpAny_loadPart' ha, wpAny_loadPart' hc, wpAny_forIn_list _ (fun rest b s' => b.1 = none ∧ s' = s ∧ ∀ p ∈ rest, p ∈ xs.toList.zip ys.toList) _
    case turn =>
      rintro ⟨y, x⟩ rest b s' ⟨hn, rfl, hin⟩
      refine wpAny_bind (he _ (hin _ (.head _)) _ _ ?_)
      wp_walk
      exact ⟨rfl, rfl, fun p hp => hin p (.tail _ hp)⟩
    case fin =>
      rintro ⟨b1, b2⟩ s' ⟨hn, rfl, -⟩
      cases hn
      wp_walk
      exact ⟨_, rfl, by simpa [Builtin.Tuple.tupleCompareSizes, hz] using hR⟩
    case h => exact ⟨rfl, rfl, fun p hp => hp⟩
end Mine

end

section
open PySem PySem.W PyProof.Rows
set_option linter.unusedVariables false
set_option maxRecDepth 100000
set_option maxHeartbeats 0
namespace Mine
noncomputable section
abbrev KK := hd.heap_39
structure Wo (G : Gv) (P : Params) : Prop where
  k : G.K = KK P
  g : ∀ n v, nsIn (KK P) mainGlobals n = some (some v) → G.mg n = some v
  n : ∀ n, nsIn (KK P) mainGlobals n = some none → G.mg n = none
  b : ∀ x : Str, x ≠ "__name__" → G.mb x = bootBuiltins x
theorem Wo.look {G : Gv} {P : Params} (W : Wo G P) {a : Addr} {o : Obj} (h : (KK P).lookup a = some o) : G.K.lookup a = some o := by rw [W.k]; exact h

def fdOf (P : Params) (a : Addr) : FuncData := match (KK P).lookup a with
  | some ⟨_, _, .func fd, _⟩ => fd
  | _ => default
def bodyOf (P : Params) (a : Addr) : List Stmt := match (fdOf P a).body with
  | .stmts b => b
  | _ => []
def envOf' (P : Params) (a : Addr) (L : Addr) : Env := callEnvC (fdOf P a) L a

theorem defOf {G : Gv} {P : Params} (W : Wo G P) (a : Addr) (hob : ∃ o, (KK P).lookup a = some o ∧ o.data = .func (fdOf P a)) (hc : codeIn (KK P) (fdOf P a).code (fdOf P a).qualname = true) (hb : (fdOf P a).body = .stmts (bodyOf P a))
  (clo : (fdOf P a).closure = [])
  (gl : (fdOf P a).globals = mainGlobals)
  (bl : (fdOf P a).builtins = builtinsNs)
  (co : (fdOf P a).scope.isCoroutine = false)
  (gen : (fdOf P a).scope.isGenerator = false)
  (kind : (fdOf P a).scope.kind = .function)
  (nod : decide (((fdOf P a).scope.names.map (·.1)).Nodup) = true) : DefOf G a (fdOf P a) (bodyOf P a) :=
  ⟨W.k ▸ hob, W.k ▸ hc, hb, clo, gl, bl, co, gen, kind, of_decide_eq_true nod⟩

section
variable {σ : Asg} {q a0 a1 a2 a3 a4 a5 a6 a7 a8 a9 a10 a11 : Str × VP}
theorem m0 : q ∈ q :: σ := .head _
theorem m1 : q ∈ a0 :: q :: σ := .tail _ m0
theorem m2 : q ∈ a0 :: a1 :: q :: σ := .tail _ m1
theorem m3 : q ∈ a0 :: a1 :: a2 :: q :: σ := .tail _ m2
theorem m4 : q ∈ a0 :: a1 :: a2 :: a3 :: q :: σ := .tail _ m3
theorem m5 : q ∈ a0 :: a1 :: a2 :: a3 :: a4 :: q :: σ := .tail _ m4
theorem m6 : q ∈ a0 :: a1 :: a2 :: a3 :: a4 :: a5 :: q :: σ := .tail _ m5
theorem m7 : q ∈ a0 :: a1 :: a2 :: a3 :: a4 :: a5 :: a6 :: q :: σ := .tail _ m6
theorem m8 : q ∈ a0 :: a1 :: a2 :: a3 :: a4 :: a5 :: a6 :: a7 :: q :: σ := .tail _ m7
theorem m9 : q ∈ a0 :: a1 :: a2 :: a3 :: a4 :: a5 :: a6 :: a7 :: a8 :: q :: σ := .tail _ m8
theorem m10 : q ∈ a0 :: a1 :: a2 :: a3 :: a4 :: a5 :: a6 :: a7 :: a8 :: a9 :: q :: σ := .tail _ m9
theorem m11 : q ∈ a0 :: a1 :: a2 :: a3 :: a4 :: a5 :: a6 :: a7 :: a8 :: a9 :: a10 :: q :: σ := .tail _ m10
theorem m12 : q ∈ a0 :: a1 :: a2 :: a3 :: a4 :: a5 :: a6 :: a7 :: a8 :: a9 :: a10 :: a11 :: q :: σ := .tail _ m11
theorem sub0 : ∀ q ∈ ([] : Asg), q ∈ σ := fun _ h => nomatch h
theorem sub1 {l : Asg} (h : a0 ∈ σ) (t : ∀ q ∈ l, q ∈ σ) : ∀ q ∈ a0 :: l, q ∈ σ := fun q hq => (List.mem_cons.mp hq).elim (fun e => e ▸ h) (t q)
theorem car0 {G : Gv} {env cenv : Env} : ∀ q ∈ ([] : Asg), Cry G env cenv σ q := fun _ h => nomatch h
theorem car1 {G : Gv} {env cenv : Env} {l : Asg} (h : a0 ∈ σ) (c : Carry env cenv a0.1) (t : ∀ q ∈ l, Cry G env cenv σ q) : ∀ q ∈ a0 :: l, Cry G env cenv σ q :=
  fun q hq => (List.mem_cons.mp hq).elim (fun e => e ▸ .inl ⟨h, c⟩) (t q)
theorem carG {G : Gv} {env cenv : Env} {l : Asg} (c : CarryG G cenv a0) (t : ∀ q ∈ l, Cry G env cenv σ q) : ∀ q ∈ a0 :: l, Cry G env cenv σ q :=
  fun q hq => (List.mem_cons.mp hq).elim (fun e => e ▸ .inr c) (t q)
end
section
variable {G : Gv} {P : Params} {fd : FuncData} {l : List (Str × Value)}
theorem gl0 : ∀ q ∈ ([] : List (Str × Value)), GlOk G fd q := fun _ h => nomatch h
theorem gl1 {p : Str × Value} (h : GlOk G fd p) (t : ∀ q ∈ l, GlOk G fd q) : ∀ q ∈ p :: l, GlOk G fd q := fun q hq => (List.mem_cons.mp hq).elim (fun e => e ▸ h) (t q)
theorem glB (W : Wo G P) {x : Str} {v : Value} (h : fd.scope.names.lookup x = some .globalImplicit) (h1 : nsIn (KK P) mainGlobals x = some none) (h2 : x ≠ "__name__") (h3 : bootBuiltins x = some v) : GlOk G fd (x, v) :=
  ⟨h, .inr ⟨W.n x h1, (W.b x h2).trans h3⟩⟩
theorem glG (W : Wo G P) {x : Str} {v : Value} (h : fd.scope.names.lookup x = some .globalImplicit) (h1 : nsIn (KK P) mainGlobals x = some (some v)) : GlOk G fd (x, v) := ⟨h, .inl (W.g x v h1)⟩
theorem pk0 {p : Str → Prop} : ∀ x ∈ ([] : List Str), p x := fun _ h => nomatch h
theorem pk1 {p : Str → Prop} {x : Str} {l : List Str} (h : p x) (t : ∀ x ∈ l, p x) : ∀ y ∈ x :: l, p y := fun q hq => (List.mem_cons.mp hq).elim (fun e => e ▸ h) (t q)
end
theorem d_factorial {G : Gv} {P : Params} (W : Wo G P) : DefOf G 142 (fdOf P 142) (bodyOf P 142) := defOf W 142 ⟨_, rfl, rfl⟩ rfl rfl rfl rfl rfl rfl rfl rfl rfl
end
end Mine

end

section
open PySem PySem.W PyProof.Rows
set_option linter.unusedVariables false
set_option maxRecDepth 100000
set_option maxHeartbeats 0
namespace Mine
noncomputable section
variable {G : Gv} {A : Around} {P : Params}

theorem rng_get {a : Int} {n i : Nat} {x : Int} (h : (rng a n)[i]? = some x) : i < n ∧ x = a + i := by
  unfold rng at h
  rw [List.getElem?_map] at h
  by_cases hi : i < n
  · rw [List.getElem?_range hi] at h; cases h; exact ⟨hi, rfl⟩
  · rw [List.getElem?_eq_none (by simp; omega)] at h; cases h

def facI : Nat → Int
  | 0 => 1
  | n + 1 => facI n * ((n : Int) + 1)
theorem facI_le : ∀ n : Nat, n ≤ 5 → (facI n).natAbs ≤ 120 := by decide
/-- the product 2 * .. * (i + 1) -/
theorem c_factorial (W : Wo G P) {n : Nat} (hn : n ≤ 5) (hA : Rm 1 A) : CX G A (.ref 142) [vInt n] (vInt (facI n)) := by
  refine CX_def (d_factorial W) (by have := hA.d; omega) ["n"] _ [("range", .type "range")] rfl (by decide) rfl rfl rfl rfl rfl rfl ?_ ?_ fun L => ?_
  · exact pk1 (.inl rfl) pk0
  · exact gl1 (glB W rfl rfl (by decide) rfl) gl0
  · have hA' : Rm 0 (A.deeper (envOf' P 142 L)) := hA.deeper _
    change SR G (A.deeper (envOf' P 142 L)) (envOf' P 142 L) _ none (bodyOf P 142) _
    refine SR_cons (σ1 := [("made", vInt 1), ("n", vInt n), ("range", vIs (.type "range"))]) (τ1 := none) (S1_assign EX_int (.inl rfl) rfl nofun) ?_
    refine SR_cons (S1_for (fun i => [("made", vInt (facI (i + 1)))]) (fun _ => none)
      (IX_range2 hA'.h (.tail _ (.tail _ (.head _))) EX_int (EX_bin (EX_name (.tail _ (.head _))) EX_int op_add) (by omega) (by omega) (by omega) (by omega))
      (.inl rfl) (fun q hq => by rcases List.mem_singleton.mp hq with rfl; exact .head _) rfl nofun (fun i x hx => ?_)) ?_
    · obtain ⟨hi, rfl⟩ := rng_get hx
      have hb := facI_le (i + 1) (by omega)
      refine SN_one (S1.sub (S1_assign (τ' := none) (EX_bin (EX_name (.tail _ (.head _))) (EX_name (.head _)) (op_mul (a := facI (i + 1)) (b := 2 + i) (by omega))) (.inl rfl) rfl nofun) ?_)
      intro q hq
      rcases List.mem_singleton.mp hq with rfl
      rw [show facI (i + 1 + 1) = facI (i + 1) * (2 + i) by show facI (i+1) * (((i + 1 : Nat) : Int) + 1) = _; congr 1; omega]
      exact .head _
    · rw [rng_len]
      have e : facI (((n : Int) + 1 - 2).toNat + 1) = facI n := by
        by_cases h0 : n = 0
        · subst h0; rfl
        · congr 1; omega
      rw [e]
      exact SR_ret (EX_name (.head _))
end
end Mine

end

section
open PySem PySem.W PyProof.Rows
set_option linter.unusedVariables false
set_option maxRecDepth 100000
set_option maxHeartbeats 0
namespace Mine
noncomputable section
variable {G : Gv} {A : Around} {P : Params}

theorem rng_mem {a x : Int} {n : Nat} (h : x ∈ rng a n) : a ≤ x ∧ x < a + n := by
  obtain ⟨i, hi⟩ := List.mem_iff_getElem?.mp h
  have := rng_get hi; omega
def it (l : List Int) (i : Int) : Int := l.getD i.toNat 0
theorem it_get {l : List Int} {i : Int} (h0 : 0 ≤ i) (h : i < l.length) : l[i.toNat]? = some (it l i) := by
  unfold it
  rw [List.getD_eq_getElem?_getD, List.getElem?_eq_getElem (by omega)]; rfl
def rowW : Nat → List Int
  | 0 => [1]
  | j + 1 => [1] ++ (rng 0 j).map (fun i => it (rowW j) i + it (rowW j) (i + 1)) ++ [1]
theorem rowW_len : ∀ j, (rowW j).length = j + 1
  | 0 => rfl
  | j + 1 => by simp [rowW, rng]
theorem rowW_le : ∀ j : Nat, j ≤ 5 → ∀ i : Nat, i ≤ 5 → (it (rowW j) i).natAbs ≤ 10 := by decide
def momM (xs : List Int) : Nat → List Int
  | 0 => [1]
  | j + 1 => momM xs j ++ [((rng 0 (j + 1)).map fun i => it (rowW j) i * it xs i * it (momM xs j) (j - i)).sum]
theorem momM_len (xs : List Int) : ∀ j, (momM xs j).length = j + 1
  | 0 => rfl
  | j + 1 => by simp [momM, momM_len xs j]
theorem small {n : Nat} (h : n ≤ 1000) : n ≤ sizeLine := by
  have : sizeLine = 16777216 := by decide
  omega

theorem d_moments (W : Wo G P) : DefOf G 147 (fdOf P 147) (bodyOf P 147) := defOf W 147 ⟨_, rfl, rfl⟩ rfl rfl rfl rfl rfl rfl rfl rfl rfl

theorem c_moments (W : Wo G P) {xs : List Int} (hn : xs.length ≤ 6) (hx : ∀ x ∈ xs, x.natAbs ≤ 20) (hA : Rm 1 A) : CX G A (.ref 147) [vList vInt xs] (vList vInt (momM xs xs.length)) := by
  refine CX_def (d_moments W) (by have := hA.d; omega) ["kappas"] _ [("range", .type "range"), ("len", .builtin "len"), ("sum", .builtin "sum")] rfl (by decide) rfl rfl rfl rfl rfl rfl ?_ ?_ fun L => ?_
  · exact pk1 (.inr rfl) pk0
  · exact gl1 (glB W rfl rfl (by decide) rfl) (gl1 (glB W rfl rfl (by decide) rfl) (gl1 (glB W rfl rfl (by decide) rfl) gl0))
  · have hA' : Rm 0 (A.deeper (envOf' P 147 L)) := hA.deeper _
    change SR G (A.deeper (envOf' P 147 L)) (envOf' P 147 L) [("kappas", vList vInt xs), ("range", vIs (.type "range")), ("len", vIs (.builtin "len")), ("sum", vIs (.builtin "sum"))] none (bodyOf P 147) _
    refine SR_cons (σ1 := [("kappas", vList vInt xs), ("range", vIs (.type "range")), ("len", vIs (.builtin "len")), ("sum", vIs (.builtin "sum"))]) (S1_ownList (xs := [1]) (AX_one EX_int) (.inr ⟨rfl, _, rfl⟩) rfl) ?_
    refine SR_cons (σ1 := [("row", vList vInt [1]), ("kappas", vList vInt xs), ("range", vIs (.type "range")), ("len", vIs (.builtin "len")), ("sum", vIs (.builtin "sum"))]) (τ1 := some ("moments", oList vInt [1]))
      (S1_assign (EX_list (xs := [1]) (AX_one EX_int)) (.inr ⟨rfl, _, rfl⟩) rfl (fun _ _ e => by cases e; exact ⟨rfl, by decide⟩)) ?_
    refine SR_cons (S1_for (fun j => [("row", vList vInt (rowW j)), ("kappas", vList vInt xs), ("range", vIs (.type "range")), ("sum", vIs (.builtin "sum"))]) (fun j => some ("moments", oList vInt (momM xs j)))
      (IX_range1 hA'.h m2 (EX_callB m3 (AX_one (EX_name m1)) (cx_len (small (by omega)))) (by omega) (by omega))
      (.inr ⟨rfl, _, rfl⟩) (sub1 m0 (sub1 m1 (sub1 m2 (sub1 m4 sub0)))) rfl (fun _ _ _ e => by cases e; decide) (fun j x hj => ?_)) ?_
    · obtain ⟨hj, rfl⟩ := rng_get hj
      rw [Int.zero_add]
      change SN G (A.deeper (envOf' P 147 L)) (envOf' P 147 L) [("j", vInt j), ("row", vList vInt (rowW j)), ("kappas", vList vInt xs), ("range", vIs (.type "range")), ("sum", vIs (.builtin "sum"))] _ _ _ _
      refine SN_cons (σ1 := [("j", vInt j), ("row", vList vInt (rowW j)), ("kappas", vList vInt xs), ("range", vIs (.type "range")), ("sum", vIs (.builtin "sum"))]) (τ1 := some ("moments", oList vInt (momM xs (j + 1))))
        (S1_append (EX_callB m5 (AX_one (EX_comp (f := fun i => it (rowW j) i * it xs i * it (momM xs j) (j - i))
          (τ := [("moments", (oList vInt (momM xs j)).vp), ("row", vList vInt (rowW j)), ("kappas", vList vInt xs), ("j", vInt j)]) (IX_range1 hA'.h m4 (EX_bin (EX_name m1) EX_int op_add) (by omega) (by omega)) ?_ inj_int flat_int flat_int
          rfl ?_ rfl ?_ rfl (fun C => ?_) (fun C a ha => ?_))) (cx_sum hA'.h)) (flat_int _) ?_) ?_
      · rw [rng_len]; exact small (by omega)
      · decide
      · decide
      · exact car1 m0 (.inl ⟨rfl, rfl, rfl⟩) (car1 m2 (.inl ⟨rfl, rfl, rfl⟩) (car1 m3 (.inl ⟨rfl, rfl, rfl⟩) (car1 m1 (.inl ⟨rfl, rfl, rfl⟩) car0)))
      · have ha' := rng_mem ha
        have hl := momM_len xs j
        have hr := rowW_len j
        have hb := rowW_le j (by omega) a.toNat (by omega)
        rw [Int.toNat_of_nonneg (by omega)] at hb
        have hxa : (it xs a).natAbs ≤ 20 := hx _ (List.mem_of_getElem? (it_get ha'.1 (by omega)))
        have hm : (it (rowW j) a * it xs a).natAbs ≤ 10 * 20 := by rw [Int.natAbs_mul]; exact Nat.mul_le_mul hb hxa
        refine EX_bin (EX_bin (EX_sub (EX_name m2) (EX_name m0) (op_item ha'.1 (it_get ha'.1 (by omega)) (small (by omega)))) (EX_sub (EX_name m3) (EX_name m0) (op_item ha'.1 (it_get ha'.1 (by omega)) (small (by omega)))) (op_mul (by omega)))
          (EX_sub ((EX_name m1).imp oList_vp) (EX_bin (EX_name m4) (EX_name m0) op_sub) (op_item (by omega) (it_get (by omega) (by omega)) (small (by omega)))) (op_mul (by omega))
      · rw [momM_len]; exact small (n := j + 1 + 1) (by omega)
      · refine SN_one (S1.sub (S1_assign (τ' := some ("moments", oList vInt (momM xs (j + 1)))) (EX_bin (EX_bin (EX_list (xs := [1]) (AX_one EX_int)) (EX_comp (f := fun i => it (rowW j) i + it (rowW j) (i + 1))
          (τ := [("row", vList vInt (rowW j))]) (IX_range1 hA'.h m3 (EX_name m0) (by omega) (by omega)) ?_ inj_int flat_int flat_int
          rfl ?_ rfl ?_ rfl (fun C => ?_) (fun C a ha => ?_)) (op_catL ?_)) (EX_list (xs := [1]) (AX_one EX_int)) (op_catL ?_)) (.inr ⟨rfl, _, rfl⟩) rfl (fun _ _ e => by cases e; exact ⟨rfl, by decide⟩)) ?_)
        · rw [rng_len]; exact small (by omega)
        · decide
        · decide
        · exact car1 m1 (.inl ⟨rfl, rfl, rfl⟩) car0
        · have ha' := rng_mem ha
          have hr := rowW_len j
          exact EX_bin (EX_sub (EX_name m1) (EX_name m0) (op_item ha'.1 (it_get ha'.1 (by omega)) (small (by omega)))) (EX_sub (EX_name m1) (EX_bin (EX_name m0) EX_int op_add) (op_item (by omega) (it_get (by omega) (by omega)) (small (by omega)))) op_add
        · rw [List.length_map, rng_len]; exact small (n := 1 + _) (by omega)
        · rw [List.length_append, List.length_map, rng_len]; exact small (n := 1 + _ + 1) (by omega)
        · exact sub1 m0 (sub1 m2 (sub1 m3 (sub1 m4 sub0)))
    · rw [rng_len]
      exact SR_retOwn ((EX_name (.head _)).imp oList_vp)
end
end Mine

end

section
open PySem PySem.W PyProof.Rows
set_option linter.unusedVariables false
set_option maxRecDepth 100000
set_option maxHeartbeats 0
namespace Mine
noncomputable section
variable {G : Gv} {A : Around} {P : Params}
theorem SR_ifT {env : Env} {σ : Asg} {τ : Own} {P : VP} {t : Expr} {b o rest : List Stmt} {pos : Pos} (ht : TX G A env σ t true) (h : SR G A env σ τ b P) : SR G A env σ τ (.If t b o pos :: rest) P := fun s₀ g₀ g s E F =>
  wpAny_execs_cons (wpAny_If (ht.then F.ev fun g1 s1 G1 _ => by
    rw [if_pos rfl]
    exact wpAny_mono (h s₀ g₀ g1 s1 E (F.step G1)) (fun fl s' ⟨v, e, o⟩ => by subst e; exact ⟨v, rfl, o⟩) fun _ _ x => x))

def rises : Nat → Int → Int → List (List Int)
  | 0, _, _ => [[]]
  | n + 1, t, l => if t = 0 then [[]] else (rng l (t + 1 - l).toNat).flatMap fun k => (rises n (t - k) k).map fun r => [k] ++ r
theorem rises_len : ∀ n : Nat, n ≤ 5 → ∀ t : Nat, t ≤ 5 → ∀ l : Nat, l ≤ 6 → (rises n t l).length ≤ 100 ∧ ∀ r ∈ rises n t l, r.length ≤ 5 := by decide
theorem d_rises (W : Wo G P) : DefOf G 152 (fdOf P 152) (bodyOf P 152) := defOf W 152 ⟨_, rfl, rfl⟩ rfl rfl rfl rfl rfl rfl rfl rfl rfl

theorem c_rises (W : Wo G P) : ∀ (n : Nat) {A : Around} {t l : Nat}, n ≤ 5 → t ≤ n → 1 ≤ l → l ≤ 6 → Rm (n + 1) A → CX G A (.ref 152) [vInt t, vInt l] (vList (vList vInt) (rises n t l))
  | n, A, t, l, hn, ht, hl, hl', hA => by
    refine CX_def (d_rises W) (by have := hA.d; omega) ["total", "least"] _ [("range", .type "range")] rfl (by decide) rfl rfl rfl rfl rfl rfl (pk1 (.inr rfl) (pk1 (.inl rfl) pk0))
      (gl1 (glB W rfl rfl (by decide) rfl) gl0) fun L => ?_
    have hA' : Rm n (A.deeper (envOf' P 152 L)) := hA.deeper _
    change SR G (A.deeper (envOf' P 152 L)) (envOf' P 152 L) [("total", vInt t), ("least", vInt l), ("range", vIs (.type "range"))] none (bodyOf P 152) _
    by_cases h0 : t = 0
    · subst h0
      have e : rises n ((0 : Nat) : Int) l = [[]] := by cases n <;> rfl
      rw [e]
      exact SR_ifT (TX_cmp (EX_name m0) EX_int op_eq) (SR_ret (EX_list (xs := [[]]) (AX_one (EX_list (xs := []) AX_nil))))
    · obtain ⟨n, rfl⟩ : ∃ k, n = k + 1 := ⟨n - 1, by omega⟩
      have hne : ((t : Int) == 0) = false := by simp; omega
      refine SR_cons (σ1 := [("total", vInt t), ("least", vInt l), ("range", vIs (.type "range"))]) (τ1 := none) (S1_ifF (TX_cmp (EX_name m0) EX_int (hne ▸ op_eq)) SN_nil) ?_
      have hlen := rises_len (n + 1) hn t (by omega) l hl'
      have e : rises (n + 1) t l = (rng l ((t : Int) + 1 - l).toNat).flatMap fun k => (rises n (t - k) k).map fun r => [k] ++ r := by
        rw [rises, if_neg (by omega)]
      rw [e] at hlen ⊢
      refine SR_ret (EX_comp2 (f := fun k r => [k] ++ r) (ys := fun k => rises n (t - k) k) (R2 := vList vInt) (τ := [("total", vInt t), ("_law_rises", vIs (.ref 152))]) hA'.h (IX_range2 hA'.h m2 (EX_name m1) (EX_bin (EX_name m0) EX_int op_add) (by omega) (by omega) (by omega) (by omega))
        (small (by omega)) rfl ?_ rfl ?_ rfl rfl (by decide) (fun C => car1 m0 (.inl ⟨rfl, rfl, rfl⟩) (carG ⟨_, rfl, rfl, rfl, rfl, .inl (W.g _ _ rfl)⟩ car0)) (fun C k hk => ?_) (fun C k hk r hr => ?_))
      · decide
      · decide
      · have hk' := rng_mem hk
        obtain ⟨k, rfl⟩ : ∃ j : Nat, k = j := ⟨k.toNat, by omega⟩
        have hc := c_rises W n (A := A.deeper (envOf' P 152 L)) (t := t - k) (l := k) (by omega) (by omega) (by omega) (by omega) hA'
        rw [show (((t - k : Nat)) : Int) = (t : Int) - (k : Int) by omega] at hc
        exact IX_list hA'.h (EX_call m2 (W.look rfl) rfl (AX_two (EX_bin (EX_name m1) (EX_name m0) op_sub) (EX_name m0)) hc)
      · have hk' := rng_mem hk
        obtain ⟨k, rfl⟩ : ∃ j : Nat, k = j := ⟨k.toNat, by omega⟩
        have hr5 := (rises_len n (by omega) (t - k) (by omega) k (by omega)).2
        rw [show (((t - k : Nat)) : Int) = (t : Int) - (k : Int) by omega] at hr5
        exact EX_bin (EX_list (xs := [(k : Int)]) (AX_one (EX_name m1)) (small (n := 1) (by omega))) (EX_name m0) (op_catL (small (n := 1 + _) (by have := hr5 r hr; omega)))
end
end Mine

end

section
open PySem PySem.W PyProof.Rows
set_option linter.unusedVariables false
set_option maxRecDepth 100000
set_option maxHeartbeats 0
namespace Mine
noncomputable section
variable {G : Gv} {A : Around} {P : Params}

theorem foldl_take {α β : Type} (f : β → α → β) (b : β) {xs : List α} {i : Nat} {x : α} (h : xs[i]? = some x) : (xs.take (i + 1)).foldl f b = f ((xs.take i).foldl f b) x := by
  rw [List.take_add_one, h]; simp
def rowKey (k : Int) : Str := Txt.mul " " k ++ "\t"
def keyF (rows : List Int) : Str := Txt.join "" (rows.map rowKey)
def way1 (t : Nat) (rows : List Int) (i : Nat) : Int := (rows.take i).foldl (fun w (k : Int) => w.fdiv (facI k.toNat)) (facI t)
def way2 (t : Nat) (rows : List Int) (i : Nat) : Int := ((rng 1 t).take i).foldl (fun w (k : Int) => w.fdiv (facI (rows.count k))) (way1 t rows rows.length)
def typesT (t : Nat) (i : Nat) : List (Str × Int) := ((rises t t 1).take i).foldl (fun tb rows => putI tb (keyF rows) (way2 t rows t)) []
def typesF (t : Nat) : List (Str × Int) := typesT t (rises t t 1).length
theorem rises_ok : ∀ t : Nat, t ≤ 5 → (rises t t 1).length ≤ 100 ∧ ∀ rows ∈ rises t t 1, rows.length ≤ 5 ∧ (∀ k ∈ rows, 1 ≤ k ∧ k ≤ 5) ∧ (rows.map fun k => (rowKey k).length).sum ≤ 100 := by decide
theorem typesT_len (t : Nat) : ∀ i, (typesT t i).length ≤ i := by
  intro i
  unfold typesT
  have key : ∀ (l : List (List Int)) (tb : List (Str × Int)), (l.foldl (fun tb rows => putI tb (keyF rows) (way2 t rows t)) tb).length ≤ tb.length + l.length := by
    intro l
    induction l with
    | nil => intro tb; simp
    | cons a r ih =>
      intro tb
      have h1 := ih (putI tb (keyF a) (way2 t a t))
      have h2 : (putI tb (keyF a) (way2 t a t)).length ≤ tb.length + 1 := by
        unfold putI; split <;> simp
      simp only [List.foldl_cons, List.length_cons]; omega
  have := key ((rises t t 1).take i) []
  simp only [List.length_nil, List.length_take] at this
  omega
theorem d_types (W : Wo G P) : DefOf G 157 (fdOf P 157) (bodyOf P 157) := defOf W 157 ⟨_, rfl, rfl⟩ rfl rfl rfl rfl rfl rfl rfl rfl rfl
abbrev gTypes : Asg := [("_law_rises", vIs (.ref 152)), ("_law_factorial", vIs (.ref 142)), ("range", vIs (.type "range"))]
theorem facI_ne : ∀ n : Nat, n ≤ 5 → facI n ≠ 0 ∧ (facI n).natAbs < 1073741824 := by decide

theorem mul_len : ∀ k : Nat, k ≤ 6 → (Txt.mul " " k).length + ("\t" : Str).length ≤ 100 := by decide
theorem c_types (W : Wo G P) {t : Nat} (ht : t ≤ 5) (hA : Rm 7 A) : CX G A (.ref 157) [vInt t] (vDict G (typesF t)) := by
  refine CX_def (d_types W) (by have := hA.d; omega) ["total"] _ [("_law_rises", .ref 152), ("_law_factorial", .ref 142), ("range", .type "range")] rfl (by decide) rfl rfl rfl rfl rfl rfl (pk1 (.inl rfl) pk0)
    (gl1 (glG W rfl rfl) (gl1 (glG W rfl rfl) (gl1 (glB W rfl rfl (by decide) rfl) gl0))) fun L => ?_
  have hA' : Rm 6 (A.deeper (envOf' P 157 L)) := hA.deeper _
  have hrk := (rises_ok t ht)
  change SR G (A.deeper (envOf' P 157 L)) (envOf' P 157 L) (("total", vInt t) :: gTypes) none (bodyOf P 157) _
  refine SR_cons (σ1 := ("total", vInt t) :: gTypes) (S1_ownDict (.inl rfl) rfl) ?_
  refine SR_cons (S1_for (fun _ => ("total", vInt t) :: gTypes) (fun i => some ("table", oDict G (typesT t i)))
    (IX_list hA'.h (EX_call m1 (W.look rfl) rfl (AX_two (EX_name m0) EX_int) (c_rises W t (A := A.deeper (envOf' P 157 L)) (t := t) (l := 1) ht (Nat.le_refl _) (by omega) (by omega) (hA'.less (by omega)))))
    (.inl rfl) (fun q h => h) rfl (fun _ _ _ e => by cases e; decide) (fun i rows hi => ?_)) (SR_retOwn (EX_name m0))
  obtain ⟨hr1, hr2, hr3⟩ := hrk.2 rows (List.mem_of_getElem? hi)
  change SN G (A.deeper (envOf' P 157 L)) (envOf' P 157 L) (("rows", vList vInt rows) :: ("total", vInt t) :: gTypes) _ _ _ _
  have hfac : ∀ n : Nat, n ≤ 5 → CX G (A.deeper (envOf' P 157 L)) (.ref 142) [vInt n] (vInt (facI n)) := fun n hn => c_factorial W hn (hA'.less (by omega))
  refine SN_cons (σ1 := ("ways", vInt (facI t)) :: ("rows", vList vInt rows) :: ("total", vInt t) :: gTypes) (τ1 := some ("table", oDict G (typesT t i)))
    (S1_assign (EX_call m3 (W.look rfl) rfl (AX_one (EX_name m1)) (hfac t ht)) (.inl rfl) rfl (fun _ _ e => by cases e; exact ⟨rfl, by decide⟩)) ?_
  refine SN_cons (S1_for (fun i => ("ways", vInt (way1 t rows i)) :: ("rows", vList vInt rows) :: ("total", vInt t) :: gTypes) (fun _ => some ("table", oDict G (typesT t i)))
    (IX_list hA'.h (EX_name m1)) (.inl rfl) (fun q h => h) rfl (fun _ _ _ e => by cases e; decide) (fun j k hj => ?_)) ?_
  · obtain ⟨hk1, hk2⟩ := hr2 k (List.mem_of_getElem? hj)
    have hf := facI_ne k.toNat (by omega)
    have hc := hfac k.toNat (by omega)
    rw [Int.toNat_of_nonneg (by omega)] at hc
    refine SN_one (S1.sub (S1_assign (τ' := some ("table", oDict G (typesT t i))) (EX_bin (EX_name m1) (EX_call m5 (W.look rfl) rfl (AX_one (EX_name m0)) hc) (op_fdiv (a := way1 t rows j) hf.1 hf.2)) (.inl rfl) rfl (fun _ _ e => by cases e; exact ⟨rfl, by decide⟩)) ?_)
    rw [show way1 t rows (j + 1) = (way1 t rows j).fdiv (facI k.toNat) from foldl_take _ _ hj]
    exact sub1 m0 (sub1 m2 (sub1 m3 (sub1 m4 (sub1 m5 (sub1 m6 sub0)))))
  refine SN_cons (S1_for (fun i => ("ways", vInt (way2 t rows i)) :: ("rows", vList vInt rows) :: ("total", vInt t) :: gTypes) (fun _ => some ("table", oDict G (typesT t i)))
    (IX_range2 hA'.h m5 EX_int (EX_bin (EX_name m2) EX_int op_add) (by omega) (by omega) (by omega) (by omega)) (.inl rfl) (fun q h => h) rfl (fun _ _ _ e => by cases e; decide) (fun j k hj => ?_)) ?_
  · have hc' : rows.count k ≤ 5 := Nat.le_trans List.count_le_length hr1
    have hf := facI_ne (rows.count k) hc'
    have hj' : (rng 1 t)[j]? = some k := by rw [← hj]; congr 2; omega
    refine SN_one (S1.sub (S1_assign (τ' := some ("table", oDict G (typesT t i))) (EX_bin (EX_name m1) (EX_call m5 (W.look rfl) rfl (AX_one (EX_method PySem.F.plainAttrs_list PySem.F.slot_list_count PySem.F.type_list_count (EX_name m2) isLst (AX_one (EX_name m0)) cx_count)) (hfac _ hc')) (op_fdiv (a := way2 t rows j) hf.1 hf.2)) (.inl rfl) rfl (fun _ _ e => by cases e; exact ⟨rfl, by decide⟩)) ?_)
    rw [show way2 t rows (j + 1) = (way2 t rows j).fdiv (facI (rows.count k)) from foldl_take _ _ hj']
    exact sub1 m0 (sub1 m2 (sub1 m3 (sub1 m4 (sub1 m5 (sub1 m6 sub0)))))
  rw [rng_len, show ((t : Int) + 1 - 1).toNat = t by omega]
  rw [show typesT t (i + 1) = putI (typesT t i) (keyF rows) (way2 t rows t) from foldl_take _ _ hi]
  refine SN_one (S1.sub (S1_setOwn (EX_name m0) (EX_methodS PySem.F.slot_str_join PySem.F.type_str_join EX_str (AX_one (EX_comp (f := rowKey) (τ := []) (IX_list hA'.h (EX_name m1)) (small (by omega)) inj_int flat_int flat_str
    rfl ?_ rfl ?_ rfl (fun C => car0) (fun C k hk => ?_))) (cx_join ?_)) (small (Nat.le_trans (typesT_len t i) ?_))) (fun q h => .tail _ (.tail _ h)))
  · decide
  · decide
  · obtain ⟨hk1, hk2⟩ := hr2 k hk
    have hm := mul_len k.toNat (by omega)
    rw [Int.toNat_of_nonneg (by omega)] at hm
    exact EX_bin (EX_bin EX_str (EX_name m0) (op_rep (by decide) (by omega) (by omega))) EX_str (op_cat (small (by omega)))
  · have e : (rows.map rowKey).map (·.length) = rows.map fun k => (rowKey k).length := by simp
    rw [e]
    have : ("" : Str).length = 0 := by decide
    rw [this]; omega
  · have h1 : i < (rises t t 1).length := (List.getElem?_eq_some_iff.mp hi).1
    omega
end
end Mine

end

section
open PySem PySem.W PyProof.Rows
set_option linter.unusedVariables false
set_option maxRecDepth 100000
set_option maxHeartbeats 0
namespace Mine
noncomputable section
variable {G : Gv} {A : Around} {P : Params}

def addQ (tb : List (Str × Int)) (q : Str × Int) : List (Str × Int) := match getI tb q.1 with
  | some b => putI tb q.1 (b + q.2)
  | none => putI tb q.1 q.2
def putQ (tb : List (Str × Int)) (q : Str × Int) : List (Str × Int) := putI tb q.1 q.2
def copyT (kvs : List (Str × Int)) (i : Nat) : List (Str × Int) := (kvs.take i).foldl putQ []
def addT (k1 k2 : List (Str × Int)) (i : Nat) : List (Str × Int) := (k2.take i).foldl addQ (copyT k1 k1.length)
def addF (k1 k2 : List (Str × Int)) : List (Str × Int) := addT k1 k2 k2.length
theorem putI_len (tb : List (Str × Int)) (k : Str) (i : Int) : (putI tb k i).length ≤ tb.length + 1 := by unfold putI; split <;> simp
theorem addQ_len (tb : List (Str × Int)) (q : Str × Int) : (addQ tb q).length ≤ tb.length + 1 := by unfold addQ; split <;> exact putI_len ..
theorem foldlQ_len (f : List (Str × Int) → Str × Int → List (Str × Int)) (h : ∀ tb q, (f tb q).length ≤ tb.length + 1) : ∀ (l : List (Str × Int)) tb, (l.foldl f tb).length ≤ tb.length + l.length
  | [], tb => by simp
  | a :: r, tb => by
    have h1 := foldlQ_len f h r (f tb a)
    have h2 := h tb a
    simp only [List.foldl_cons, List.length_cons]; omega
theorem copyT_len (kvs : List (Str × Int)) (i : Nat) : (copyT kvs i).length ≤ kvs.length := by
  have := foldlQ_len putQ (fun tb q => putI_len ..) (kvs.take i) []
  simp only [List.length_nil, List.length_take] at this
  unfold copyT; omega
theorem addT_len (k1 k2 : List (Str × Int)) (i : Nat) : (addT k1 k2 i).length ≤ k1.length + k2.length := by
  have := foldlQ_len addQ addQ_len (k2.take i) (copyT k1 k1.length)
  have h2 := copyT_len k1 k1.length
  simp only [List.length_take] at this
  unfold addT; omega

theorem d_addc (W : Wo G P) : DefOf G 52 (fdOf P 52) (bodyOf P 52) := defOf W 52 ⟨_, rfl, rfl⟩ rfl rfl rfl rfl rfl rfl rfl rfl rfl
abbrev gAddc : Asg := [("isinstance", vIs (.builtin "isinstance")), ("tuple", vIs (.type "tuple"))]
theorem c_addc (W : Wo G P) {k1 k2 : List (Str × Int)} (h1 : k1.length ≤ 400) (h2 : k2.length ≤ 400) (hA : Rm 1 A) : CX G A (.ref 52) [vDict G k1, vDict G k2] (vDict G (addF k1 k2)) := by
  refine CX_def (d_addc W) (by have := hA.d; omega) ["target", "source"] _ [("isinstance", .builtin "isinstance"), ("tuple", .type "tuple")] rfl (by decide) rfl rfl rfl rfl rfl rfl (pk1 (.inl rfl) (pk1 (.inl rfl) pk0))
    (gl1 (glB W rfl rfl (by decide) rfl) (gl1 (glB W rfl rfl (by decide) rfl) gl0)) fun L => ?_
  have hA' : Rm 0 (A.deeper (envOf' P 52 L)) := hA.deeper _
  change SR G (A.deeper (envOf' P 52 L)) (envOf' P 52 L) (("target", vDict G k1) :: ("source", vDict G k2) :: gAddc) none (bodyOf P 52) _
  refine SR_cons (σ1 := ("target", vDict G k1) :: ("source", vDict G k2) :: gAddc) (S1_ownDict (.inl rfl) rfl) ?_
  refine SR_cons (S1_forItems hA'.h (fun _ => ("source", vDict G k2) :: gAddc) (fun i => some ("new_callers", oDict G (copyT k1 i))) (EX_items (EX_name m0)) (.inl rfl) (.inl rfl) (fun q h => .tail _ h) rfl
    (fun _ _ _ e => by cases e; exact ⟨by decide, by decide⟩) (fun i k n hi => ?_)) ?_
  · rw [show copyT k1 (i + 1) = putI (copyT k1 i) k n from foldl_take _ _ hi]
    have := copyT_len k1 i
    exact SN_one (S1.sub (S1_setOwn (EX_name m0) (EX_name m1) (small (by omega))) (fun q h => .tail _ (.tail _ h)))
  refine SR_cons (S1_forItems hA'.h (fun _ => gAddc) (fun i => some ("new_callers", oDict G (addT k1 k2 i))) (EX_items (EX_name m0)) (.inl rfl) (.inl rfl) (fun q h => .tail _ h) rfl
    (fun _ _ _ e => by cases e; exact ⟨by decide, by decide⟩) (fun i k n hi => ?_)) (SR_retOwn (EX_name m0))
  rw [show addT k1 k2 (i + 1) = addQ (addT k1 k2 i) (k, n) from foldl_take _ _ hi]
  have hlen := addT_len k1 k2 i
  unfold addQ
  cases hg : getI (addT k1 k2 i) k with
  | some b =>
    have ht := op_in (G := G) (A := A.deeper (envOf' P 52 L)) (kvs := addT k1 k2 i) (k := k)
    rw [hg] at ht
    refine SN_one (S1_ifTZ (TX_cmp (EX_name m2) (EX_name m0) ht) (SN_one (S1_ifF (TX_of (EX_callB m2 (AX_two (EX_name m0) (EX_name m3)) cx_isTuple)) (SN_one (S1.sub (S1_augOwn (EX_name m0) (EX_name m1) hg (small (by omega))) (fun q h => .tail _ (.tail _ h)))))))
  | none =>
    have ht := op_in (G := G) (A := A.deeper (envOf' P 52 L)) (kvs := addT k1 k2 i) (k := k)
    rw [hg] at ht
    refine SN_one (S1_ifFZ (TX_cmp (EX_name m2) (EX_name m0) ht) (SN_one (S1.sub (S1_setOwn (EX_name m0) (EX_name m1) (small (by omega))) (fun q h => .tail _ (.tail _ h)))))

theorem d_addf (W : Wo G P) : DefOf G 45 (fdOf P 45) (bodyOf P 45) := defOf W 45 ⟨_, rfl, rfl⟩ rfl rfl rfl rfl rfl rfl rfl rfl rfl
/-- an entry of the profile -/
structure Ent where
  a : Int
  b : Int
  c : Int
  d : Int
  t : List (Str × Int)
def vEnt (G : Gv) (e : Ent) : VP := vTup [vInt e.a, vInt e.b, vInt e.c, vInt e.d, vDict G e.t]
def entAdd (e f : Ent) : Ent := ⟨f.a + e.a, f.b + e.b, f.c + e.c, f.d + e.d, addF e.t f.t⟩
theorem c_addf (W : Wo G P) {e f : Ent} (h1 : e.t.length ≤ 400) (h2 : f.t.length ≤ 400) (hA : Rm 2 A) : CX G A (.ref 45) [vEnt G e, vEnt G f] (vEnt G (entAdd e f)) := by
  refine CX_def (d_addf W) (by have := hA.d; omega) ["target", "source"] _ [("add_callers", .ref 52)] rfl (by decide) rfl rfl rfl rfl rfl rfl (pk1 (.inl rfl) (pk1 (.inl rfl) pk0))
    (gl1 (glG W rfl rfl) gl0) fun L => ?_
  have hA' : Rm 1 (A.deeper (envOf' P 45 L)) := hA.deeper _
  change SR G (A.deeper (envOf' P 45 L)) (envOf' P 45 L) [("target", vEnt G e), ("source", vEnt G f), ("add_callers", vIs (.ref 52))] none (bodyOf P 45) _
  have kd : ∀ x, (envOf' P 45 L).kindOf x = some .local → Kd (envOf' P 45 L) x := fun _ h => .inl h
  refine SR_cons (τ1 := none) (σ1 := [("callers", vDict G f.t), ("ct", vInt f.d), ("tt", vInt f.c), ("nc", vInt f.b), ("cc", vInt f.a), ("target", vEnt G e), ("source", vEnt G f), ("add_callers", vIs (.ref 52))])
    (S1_tup hA'.h (xs := [("cc", vInt f.a), ("nc", vInt f.b), ("tt", vInt f.c), ("ct", vInt f.d), ("callers", vDict G f.t)]) (EX_name m1) rfl
    (all1 (kd _ rfl) (all1 (kd _ rfl) (all1 (kd _ rfl) (all1 (kd _ rfl) (all1 (kd _ rfl) all0))))) (fun _ _ _ _ h => nomatch h) (fun _ _ => .cons nm (.cons nm (.cons nm (.cons nm (.cons nm .nil)))))) ?_
  refine SR_cons (τ1 := none) (σ1 := [("t_callers", vDict G e.t), ("t_ct", vInt e.d), ("t_tt", vInt e.c), ("t_nc", vInt e.b), ("t_cc", vInt e.a), ("callers", vDict G f.t), ("ct", vInt f.d), ("tt", vInt f.c), ("nc", vInt f.b), ("cc", vInt f.a), ("target", vEnt G e), ("source", vEnt G f), ("add_callers", vIs (.ref 52))])
    (S1_tup hA'.h (xs := [("t_cc", vInt e.a), ("t_nc", vInt e.b), ("t_tt", vInt e.c), ("t_ct", vInt e.d), ("t_callers", vDict G e.t)]) (EX_name m5) rfl
    (all1 (kd _ rfl) (all1 (kd _ rfl) (all1 (kd _ rfl) (all1 (kd _ rfl) (all1 (kd _ rfl) all0))))) (fun _ _ _ _ h => nomatch h) (fun _ _ => .cons nm (.cons nm (.cons nm (.cons nm (.cons nm .nil)))))) ?_
  refine SR_ret (EX_tuple (AX_cons (EX_bin (EX_name m9) (EX_name m4) op_add) (AX_cons (EX_bin (EX_name m8) (EX_name m3) op_add) (AX_cons (EX_bin (EX_name m7) (EX_name m2) op_add) (AX_cons (EX_bin (EX_name m6) (EX_name m1) op_add) (AX_one
    (EX_call m12 (W.look rfl) rfl (AX_two (EX_name m0) (EX_name m5)) (c_addc W h1 h2 hA'))))))) (small (n := 5) (by omega)))
end
end Mine

end

section
open PySem PySem.W PyProof.Rows
set_option linter.unusedVariables false
set_option maxRecDepth 100000
set_option maxHeartbeats 0
namespace Mine
noncomputable section
variable {G : Gv} {A : Around} {P : Params}
theorem pat1 (W : Wo G P) : ∀ h, G.K.In h → PatAt h 57 code1 := fun h X => ⟨_, _, _, _, _, 56, X _ _ (W.look rfl), rfl, rfl, rfl, _, _, _, X _ _ (W.look rfl), rfl, by decide +kernel⟩
theorem pat2 (W : Wo G P) : ∀ h, G.K.In h → PatAt h 62 code2 := fun h X => ⟨_, _, _, _, _, 61, X _ _ (W.look rfl), rfl, rfl, rfl, _, _, _, X _ _ (W.look rfl), rfl, by decide +kernel⟩
theorem isPat (W : Wo G P) {a : Addr} {code : Array Nat} (hp : ∀ h, G.K.In h → PatAt h a code) : ∀ g (s : Shared) v, Bs G g s → (vIs (.ref a)).p g v → s.TypeIs v "re.Pattern" ∧ (∀ b, v = .ref b → ∃ ob, s.heap.get? b = some ob ∧ ob.dict = none) := fun g s v B h => by
  obtain rfl : v = .ref a := h
  obtain ⟨o, x0, x1, x3, x4, ac, e, c, d, _⟩ := (hp _ B.wd.k).fs
  exact ⟨⟨o, e, c⟩, fun b q => by cases q; exact ⟨o, e, d⟩⟩
theorem d_quote (W : Wo G P) : DefOf G 69 (fdOf P 69) (bodyOf P 69) := defOf W 69 ⟨_, rfl, rfl⟩ rfl rfl rfl rfl rfl rfl rfl rfl rfl
def quoteS (x : Str) : Str := ⟨(quoteL x.cps.toList).toArray⟩
theorem c_quote (W : Wo G P) {x : Str} (hx : x.cps.size ≤ 1000) (hA : Rm 1 A) : CX G A (.ref 69) [vStr x] (vStr (quoteS x)) := by
  refine CX_def (d_quote W) (by have := hA.d; omega) ["data"] _ [("_twin_re_1", .ref 57), ("_twin_re_2", .ref 62), ("CRLF", .str "\x0d\n" 380)] rfl (by decide) rfl rfl rfl rfl rfl rfl (pk1 (.inl rfl) pk0)
    (gl1 (glG W rfl rfl) (gl1 (glG W rfl rfl) (gl1 (glG W rfl rfl) gl0))) fun L => ?_
  have hA' : Rm 0 (A.deeper (envOf' P 69 L)) := hA.deeper _
  change SR G (A.deeper (envOf' P 69 L)) (envOf' P 69 L) [("data", vStr x), ("_twin_re_1", vIs (.ref 57)), ("_twin_re_2", vIs (.ref 62)), ("CRLF", vIs (.str "\x0d\n" 380))] none (bodyOf P 69) _
  have l1 := eolS_len false x.cps.toList
  have l2 := dotL_len true (eolL x.cps.toList)
  have e0 : x.cps.toList.length = x.cps.size := by simp
  unfold eolL at l2
  have h2 := cx_sub (G := G) (A := A.deeper (envOf' P 69 L)) (repl := "\x0d\n") (x := x) (pat2 W) (fin2 x.cps) (by decide +kernel) (by omega) (by show (eolL (x.cps.toList.drop 0)).length ≤ _; rw [List.drop_zero]; unfold eolL; omega)
  have h1 := cx_sub (G := G) (A := A.deeper (envOf' P 69 L)) (repl := "..") (x := ⟨(eolL (x.cps.toList.drop 0)).toArray⟩) (pat1 W) (fin1 _ (by rw [List.size_toArray, List.drop_zero]; unfold eolL; omega)) (by decide +kernel) (by rw [List.size_toArray, List.drop_zero]; unfold eolL; omega)
    (by simp only [List.drop_zero]; unfold eolL; show (dotL true _).length ≤ _; omega)
  refine SR_ret ((EX_method plainAttrs_re slot_re_sub type_re_sub (EX_name m1) (isPat W (pat1 W)) (AX_two EX_str (EX_method plainAttrs_re slot_re_sub type_re_sub (EX_name m2) (isPat W (pat2 W)) (AX_two ((EX_name m3).imp (Q := vStr "\x0d\n") fun g v h => ⟨380, h⟩) (EX_name m0)) h2)) h1).imp fun g v h => ?_)
  simpa [quoteS, quoteL, Bol] using h
end
end Mine

end

section
open PySem PySem.W PyProof.Rows
set_option linter.unusedVariables false
set_option maxRecDepth 100000
set_option maxHeartbeats 0
namespace Mine
noncomputable section
variable {G : Gv} {A : Around} {P : Params}
theorem EX_replace {env : Env} {σ : Asg} {o e : Expr} {x y z : Str} {kk : Nat} {apos cpos pos : Pos} (ho : EX G A env σ o (vStr x)) (he : EX G A env σ e (vStrT y)) (hyz : (y == z) = false) (hb : x.length + (x.length + 1) * z.length ≤ 16777216)
    (hbase : attributeBase o "replace" env (eval o env) = eval o env := by rfl)
    (hfew : ((backTo pos (starEach [e, .Constant (.str z) kk cpos] env)).all (fun x => !x.1) && (backToKw pos (keywordEach [] env)).all (fun x => x.1.isSome)
      && decide (([e, .Constant (.str z) kk cpos] : List Expr).length + ([] : List Keyword).length + (if ([] : List Keyword).isEmpty then 0 else 1) < 30)) = true := by rfl)
    (hline : (apos.endLine == pos.line) = true := by rfl) (he2 : backTo pos (starEach [e, .Constant (.str z) kk cpos] env) = [(false, eval e env), (false, eval (.Constant (.str z) kk cpos) env)] := by rfl) :
    EX G A env σ (.Call (.Attribute o "replace" apos) [e, .Constant (.str z) kk cpos] [] pos) (vStr (Txt.replace x y z)) := fun g s E ev =>
  wpAny_Call_method_late hbase hfew hline rfl (ho.then ev fun v g1 s1 G1 e1 hv => by
    obtain ⟨t1, t2⟩ := isStr g1 s1 v e1.bs hv
    refine ⟨"str", _, PySem.F.plainAttrs_str, PySem.F.slot_str_replace, PySem.F.type_str_replace, t1, t2, ?_⟩
    rw [he2]
    obtain ⟨t0, rfl⟩ := hv
    refine Calls.callWith_builtin rfl (Calls.evalArgs_plain (Calls.spliced_cons (he.then e1 fun v1 g2 s2 G2 e2 h1 => Calls.spliced_cons (Calls.Constant_str (Calls.spliced_nil ?_)))))
    obtain ⟨t, rfl, h0, ht⟩ := h1
    have ht2 := e2.bs.tk
    have B3 : Bs G g2 { s2 with toks := s2.toks + 1 } := ⟨e2.bs.on, e2.bs.wd, Nat.le_succ_of_le e2.bs.tk, e2.bs.pos⟩
    refine wpAny_mono (ax_replace (x := x) (y := y) (z := z) (t := t0) (u := t) (v := s2.toks) B3 (Nat.ne_of_gt h0) (Nat.ne_of_gt (Nat.lt_of_lt_of_le e2.bs.pos ht2)) (Nat.ne_of_lt (Nat.lt_of_lt_of_le ht ht2)) hyz hb) (fun r s4 o => ?_) fun _ _ x => x
    exact ((o.go (.same e2.bs (keepsTok s2 _) (Nat.le_succ _))).go G2).go G1)

theorem EX_ifS {env : Env} {σ : Asg} {t a b : Expr} {pos : Pos} {c : Bool} {x y : Str} (ht : TX G A env σ t c) (ha : EX G A env σ a (vStr x)) (hb : EX G A env σ b (vStr y)) : EX G A env σ (.IfExp t a b pos) (vStr (if c then x else y)) := by
  cases c with
  | true => exact EX_ifexp_true ht ha
  | false => exact EX_ifexp_false ht hb
def getS (l : List Str) (i : Int) : Str := l.getD i.toNat ""
theorem getS_get {l : List Str} {i : Int} (h0 : 0 ≤ i) (h : i < l.length) : l[i.toNat]? = some (getS l i) := by
  unfold getS
  rw [List.getD_eq_getElem?_getD, List.getElem?_eq_getElem (by omega)]; rfl
/-- the mail, row for row -/
def mailT (rows : List Str) (bare : Int) (mark : Str) (ends : List Str) : Nat → Str
  | 0 => ""
  | i + 1 => mailT rows bare mark ends i ++ (if (i : Int) == bare then ("" : Str) else mark) ++ getS rows i ++ getS ends i
def s1F (rows : List Str) (bare : Int) (mark : Str) (ends : List Str) : Str := Txt.replace (quoteS (mailT rows bare mark ends rows.length)) mark ""
def s2F (rows : List Str) (bare : Int) (mark : Str) (ends : List Str) : Str := Txt.replace (s1F rows bare mark ends) "." " "
def sentF (rows : List Str) (bare : Int) (mark : Str) (ends : List Str) : Str := Txt.replace (s2F rows bare mark ends) "\x0d\n" "\t"
structure SentOk (rows : List Str) (bare : Int) (mark : Str) (ends : List Str) : Prop where
  n : rows.length ≤ ends.length
  n6 : ends.length ≤ 6
  mk1 : (mark == "") = false ∧ mark.length ≤ 5
  r : ∀ x ∈ rows, x.length ≤ 10
  e : ∀ x ∈ ends, x.length ≤ 5
  a : (s1F rows bare mark ends).length ≤ 1000
  b : (s2F rows bare mark ends).length ≤ 1000
theorem sl (a b : Str) : (a ++ b).length = a.length + b.length := strLen_append a b
theorem mailT_len {rows : List Str} {bare : Int} {mark : Str} {ends : List Str} (h : SentOk rows bare mark ends) : ∀ i, i ≤ rows.length → (mailT rows bare mark ends i).length ≤ 20 * i
  | 0, _ => by show ("" : Str).length ≤ 0; decide
  | i + 1, hi => by
    have ih := mailT_len h i (by omega)
    have h1 := h.r _ (List.mem_of_getElem? (getS_get (l := rows) (i := i) (by omega) (by omega)))
    have h2 := h.e _ (List.mem_of_getElem? (getS_get (l := ends) (i := i) (by omega) (by have := h.n; omega)))
    have h3 : (if (i : Int) == bare then ("" : Str) else mark).length ≤ 5 := by
      split
      · decide
      · exact h.mk1.2
    rw [mailT, sl, sl, sl]; omega
theorem d_sent (W : Wo G P) : DefOf G 164 (fdOf P 164) (bodyOf P 164) := defOf W 164 ⟨_, rfl, rfl⟩ rfl rfl rfl rfl rfl rfl rfl rfl rfl
abbrev gSent : Asg := [("range", vIs (.type "range")), ("len", vIs (.builtin "len")), ("quotedata", vIs (.ref 69))]
theorem c_sent (W : Wo G P) {rows ends : List Str} {bare : Int} {mark : Str} (ok : SentOk rows bare mark ends) (hA : Rm 2 A) : CX G A (.ref 164) [vList vStr rows, vInt bare, vStrT mark, vList vStr ends] (vStr (sentF rows bare mark ends)) := by
  refine CX_def (d_sent W) (by have := hA.d; omega) ["rows", "bare", "mark", "ends"] _ [("range", .type "range"), ("len", .builtin "len"), ("quotedata", .ref 69)] rfl (by decide) rfl rfl rfl rfl rfl rfl (pk1 (.inl rfl) (pk1 (.inl rfl) (pk1 (.inl rfl) (pk1 (.inl rfl) pk0))))
    (gl1 (glB W rfl rfl (by decide) rfl) (gl1 (glB W rfl rfl (by decide) rfl) (gl1 (glG W rfl rfl) gl0))) fun L => ?_
  have hA' : Rm 1 (A.deeper (envOf' P 164 L)) := hA.deeper _
  have hn := ok.n
  have hn6 := ok.n6
  change SR G (A.deeper (envOf' P 164 L)) (envOf' P 164 L) (("rows", vList vStr rows) :: ("bare", vInt bare) :: ("mark", vStrT mark) :: ("ends", vList vStr ends) :: gSent) none (bodyOf P 164) _
  refine SR_cons (τ1 := none) (σ1 := ("mail", vStr "") :: ("rows", vList vStr rows) :: ("bare", vInt bare) :: ("mark", vStrT mark) :: ("ends", vList vStr ends) :: gSent) (S1_assign EX_str (.inl rfl) rfl nofun) ?_
  refine SR_cons (S1_for (fun i => ("mail", vStr (mailT rows bare mark ends i)) :: ("rows", vList vStr rows) :: ("bare", vInt bare) :: ("mark", vStrT mark) :: ("ends", vList vStr ends) :: gSent) (fun _ => none)
    (IX_range1 hA'.h m5 (EX_callB m6 (AX_one (EX_name m1)) (cx_len (small (by omega)))) (by omega) (by omega)) (.inl rfl) (fun q h => h) rfl nofun (fun i k hi => ?_)) ?_
  · obtain ⟨hi, rfl⟩ := rng_get hi
    rw [Int.zero_add]
    have hl := mailT_len ok i (by omega)
    have hr := getS_get (l := rows) (i := i) (by omega) (by omega)
    have he := getS_get (l := ends) (i := i) (by omega) (by omega)
    have h1 := ok.r _ (List.mem_of_getElem? hr)
    have h2 := ok.e _ (List.mem_of_getElem? he)
    have h3 : (if (i : Int) == bare then ("" : Str) else mark).length ≤ 5 := by
      split
      · decide
      · exact ok.mk1.2
    have hmod : (i : Int).fmod ends.length = i := by rw [Int.fmod_eq_emod_of_nonneg _ (by omega), Int.emod_eq_of_lt (by omega) (by omega)]
    change SN G (A.deeper (envOf' P 164 L)) (envOf' P 164 L) (("k", vInt i) :: ("mail", vStr (mailT rows bare mark ends i)) :: ("rows", vList vStr rows) :: ("bare", vInt bare) :: ("mark", vStrT mark) :: ("ends", vList vStr ends) :: gSent) _ _ _ _
    have hm := (op_mod (G := G) (A := A.deeper (envOf' P 164 L)) (a := i) (b := ends.length) (by omega))
    rw [hmod] at hm
    refine SN_one (S1.sub (S1_assign (τ' := none) (EX_bin (EX_bin (EX_bin (EX_name m1) (EX_ifS (TX_cmp (EX_name m0) (EX_name m3) op_eq) EX_str ((EX_name m4).imp vStr_of_T)) (op_cat (small (by omega)))) (EX_sub (EX_name m2) (EX_name m0) (op_item (by omega) hr (small (by omega)))) (op_cat (small (by rw [sl]; omega))))
      (EX_sub (EX_name m5) (EX_bin (EX_name m0) (EX_callB m7 (AX_one (EX_name m5)) (cx_len (small (by omega)))) hm) (op_item (by omega) he (small (by omega)))) (op_cat (small (by rw [sl, sl]; omega)))) (.inl rfl) rfl nofun) ?_)
    exact sub1 m0 (sub1 m2 (sub1 m3 (sub1 m4 (sub1 m5 (sub1 m6 (sub1 m7 (sub1 m8 sub0)))))))
  rw [rng_len, Int.toNat_natCast]
  have hl := mailT_len ok rows.length (Nat.le_refl _)
  have hq : (quoteS (mailT rows bare mark ends rows.length)).length ≤ 1000 := by
    have l1 := eolS_len false (mailT rows bare mark ends rows.length).cps.toList
    have l2 := dotL_len true (eolL (mailT rows bare mark ends rows.length).cps.toList)
    have e0 : (mailT rows bare mark ends rows.length).cps.toList.length = (mailT rows bare mark ends rows.length).length := by simp [Str.length]
    show (quoteL _).toArray.size ≤ 1000
    rw [List.size_toArray]
    unfold quoteL
    unfold eolL at l2 ⊢
    omega
  have z0 : ("" : Str).length = 0 := by decide
  have z1 : (" " : Str).length = 1 := by decide
  have z2 : ("\t" : Str).length = 1 := by decide
  have oa := ok.a
  have ob := ok.b
  exact SR_ret (EX_replace (EX_replace (EX_replace (EX_call m7 (W.look rfl) rfl (AX_one (EX_name m0)) (c_quote W (show (mailT rows bare mark ends rows.length).length ≤ 1000 by omega) hA')) (EX_name m3) ok.mk1.1 (by rw [z0]; omega)) EX_strT (by decide) (by
    rw [z1]; show (s1F rows bare mark ends).length + ((s1F rows bare mark ends).length + 1) * 1 ≤ _; omega)) EX_strT (by decide) (by rw [z2]; show (s2F rows bare mark ends).length + ((s2F rows bare mark ends).length + 1) * 1 ≤ _; omega))
end
end Mine

end

section
open PySem PySem.W PyProof.Rows
set_option linter.unusedVariables false
set_option maxRecDepth 100000
set_option maxHeartbeats 0
namespace Mine
noncomputable section
variable {G : Gv} {A : Around} {P : Params}
theorem EX_ifP {β : Type} {env : Env} {σ : Asg} {t a b : Expr} {pos : Pos} {c : Bool} {F : β → VP} {x y : β} (ht : TX G A env σ t c) (ha : EX G A env σ a (F x)) (hb : EX G A env σ b (F y)) : EX G A env σ (.IfExp t a b pos) (F (if c then x else y)) := by
  cases c with
  | true => exact EX_ifexp_true ht ha
  | false => exact EX_ifexp_false ht hb
def partsOf (key : Str) : List Str := (Txt.split key "\t").take ((Txt.split key "\t").length - 1)
def rowsOf (key : Str) : List Str := (partsOf key).map fun r => Txt.replace r " " "."
def longerOf (key : Str) (front : Bool) : List Str := if front then [(".": Str)] ++ rowsOf key else rowsOf key ++ [(".": Str)]
def grownT (key mark : Str) (ends : List Str) (front : Bool) (i : Nat) : List Str := [sentF (longerOf key front) (-1) mark ends] ++ (rng 0 i).map fun k => sentF (rowsOf key) k mark ends
def grownF (key mark : Str) (ends : List Str) (front : Bool) : List Str := grownT key mark ends front (rowsOf key).length
structure KeyOk (key : Str) : Prop where
  a : key.length ≤ 1000
  b : (Builtin.Str.partsBetween key (Builtin.Str.occurrences key "\t" 0 key.length (key.length + 1)) ("\t" : Str).length).length ≤ 1000
  c : (Txt.split key "\t").length ≤ 100
  d : ∀ r ∈ Txt.split key "\t", r.length ≤ 1000
theorem d_grown (W : Wo G P) : DefOf G 169 (fdOf P 169) (bodyOf P 169) := defOf W 169 ⟨_, rfl, rfl⟩ rfl rfl rfl rfl rfl rfl rfl rfl rfl
abbrev gGrown : Asg := [("_law_sent", vIs (.ref 164)), ("range", vIs (.type "range")), ("len", vIs (.builtin "len"))]
abbrev aGrown (key mark : Str) (ends : List Str) (front : Bool) : Asg := ("key", vStr key) :: ("mark", vStrT mark) :: ("ends", vList vStr ends) :: ("front", vBool front) :: gGrown
theorem c_grown (W : Wo G P) {key mark : Str} {ends : List Str} {front : Bool} (hk : KeyOk key) (h1 : SentOk (longerOf key front) (-1) mark ends) (h2 : ∀ k : Nat, k < (rowsOf key).length → SentOk (rowsOf key) k mark ends) (hA : Rm 3 A) :
    CX G A (.ref 169) [vStr key, vStrT mark, vList vStr ends, vBool front] (vList vStr (grownF key mark ends front)) := by
  refine CX_def (d_grown W) (by have := hA.d; omega) ["key", "mark", "ends", "front"] _ [("_law_sent", .ref 164), ("range", .type "range"), ("len", .builtin "len")] rfl (by decide) rfl rfl rfl rfl rfl rfl (pk1 (.inl rfl) (pk1 (.inl rfl) (pk1 (.inl rfl) (pk1 (.inl rfl) pk0))))
    (gl1 (glG W rfl rfl) (gl1 (glB W rfl rfl (by decide) rfl) (gl1 (glB W rfl rfl (by decide) rfl) gl0))) fun L => ?_
  have hA' : Rm 2 (A.deeper (envOf' P 169 L)) := hA.deeper _
  change SR G (A.deeper (envOf' P 169 L)) (envOf' P 169 L) (aGrown key mark ends front) none (bodyOf P 169) _
  have hpl : (partsOf key).length ≤ 100 := by unfold partsOf; rw [List.length_take]; have := hk.c; omega
  have hrl : (rowsOf key).length ≤ 100 := by unfold rowsOf; rw [List.length_map]; exact hpl
  refine SR_cons (τ1 := none) (σ1 := ("rows", vList vStr (rowsOf key)) :: aGrown key mark ends front)
    (S1_assignComp (f := fun r => Txt.replace r " " ".") (xs := partsOf key) (τc := []) (IX_list hA'.h (EX_but1 (EX_methodS PySem.F.slot_str_split PySem.F.type_str_split (EX_name m0) (AX_one EX_str) (cx_split (by decide) (small hk.a) (small hk.b))) (small (by have := hk.c; omega)) (EX_un EX_int op_neg)))
      (small (by omega)) inj_str flat_str flat_str rfl ?_ rfl ?_ rfl (fun C => car0) (fun C r hr => ?_) rfl rfl nofun) ?_
  · decide
  · decide
  · have hd := hk.d r (List.mem_of_mem_take hr)
    have z1 : ("." : Str).length = 1 := by decide
    exact EX_replace (EX_name m0) EX_strT (by decide) (by rw [z1]; omega)
  refine SR_cons (τ1 := none) (σ1 := ("longer", vList vStr (longerOf key front)) :: ("rows", vList vStr (rowsOf key)) :: aGrown key mark ends front)
    (S1_assign (EX_ifP (F := vList vStr) (TX_of (EX_name m4)) (EX_bin (EX_list (R := vStr) (xs := [(".": Str)]) (AX_one EX_str)) (EX_name m0) (op_catL (xs := [(".": Str)]) (ys := rowsOf key) (small (n := 1 + (rowsOf key).length) (by omega)))) (EX_bin (EX_name m0) (EX_list (R := vStr) (xs := [(".": Str)]) (AX_one EX_str)) (op_catL (xs := rowsOf key) (ys := [(".": Str)]) (small (n := (rowsOf key).length + 1) (by omega))))) (.inl rfl) rfl nofun) ?_
  have cs : ∀ {rows : List Str} {b : Int}, SentOk rows b mark ends → CX G (A.deeper (envOf' P 169 L)) (.ref 164) [vList vStr rows, vInt b, vStrT mark, vList vStr ends] (vStr (sentF rows b mark ends)) := fun h => c_sent W h hA'
  refine SR_cons (σ1 := ("longer", vList vStr (longerOf key front)) :: ("rows", vList vStr (rowsOf key)) :: aGrown key mark ends front)
    (S1_ownList (xs := [sentF (longerOf key front) (-1) mark ends]) (AX_one (EX_call m6 (W.look rfl) rfl (AX_cons (EX_name m0) (AX_cons (EX_un EX_int op_neg) (AX_two (EX_name m3) (EX_name m4)))) (cs h1))) (.inl rfl) rfl (small (n := 1) (by omega))) ?_
  refine SR_cons (S1_for (fun _ => ("rows", vList vStr (rowsOf key)) :: aGrown key mark ends front) (fun i => some ("grown", oList vStr (grownT key mark ends front i)))
    (IX_range1 hA'.h m7 (EX_callB m8 (AX_one (EX_name m1)) (cx_len (small (by omega)))) (by omega) (by omega)) (.inl rfl) (fun q h => .tail _ h) rfl (fun _ _ _ e => by cases e; decide) (fun i k hi => ?_)) ?_
  · obtain ⟨hi, rfl⟩ := rng_get hi
    rw [Int.zero_add]
    have e : grownT key mark ends front (i + 1) = grownT key mark ends front i ++ [sentF (rowsOf key) i mark ends] := by
      unfold grownT rng; rw [List.range_succ]; simp
    rw [e]
    have hgl : (grownT key mark ends front i).length = 1 + i := by simp [grownT, rng]; omega
    refine SN_one (S1.sub (S1_append (EX_call m7 (W.look rfl) rfl (AX_cons (EX_name m2) (AX_cons (EX_name m1) (AX_two (EX_name m4) (EX_name m5)))) (cs (h2 i (by omega)))) (flat_str _) ?_) (fun q h => .tail _ h))
    rw [hgl]; exact small (n := 1 + i + 1) (by omega)
  · rw [rng_len, Int.toNat_natCast]
    exact SR_retOwn ((EX_name m0).imp oList_vp)
end
end Mine

end

section
open PySem PySem.W PyProof.Rows
set_option linter.unusedVariables false
set_option maxRecDepth 100000
set_option maxHeartbeats 0
namespace Mine
noncomputable section
variable {G : Gv} {A : Around} {P : Params}
theorem clsOk (W : Wo G P) : ClsOk G.K 131 := by rw [W.k]; exact ⟨by rfl, by rfl, by rfl, by rfl⟩
theorem clsS (W : Wo G P) : ∃ t, findCls G.K (.ref 131) (.type "type") "S" = some (.val (.str " " t)) := by rw [W.k]; exact ⟨_, by rfl⟩
theorem clsT (W : Wo G P) : ∃ t, findCls G.K (.ref 131) (.type "type") "T" = some (.val (.str "\t" t)) := by rw [W.k]; exact ⟨_, by rfl⟩
theorem clsR (W : Wo G P) : readsIn G.K 131 (.type "type") = true := by rw [W.k]; rfl
theorem d_init (W : Wo G P) : DefOf G 86 (fdOf P 86) (bodyOf P 86) := defOf W 86 ⟨_, rfl, rfl⟩ rfl rfl rfl rfl rfl rfl rfl rfl rfl
theorem Wo.gx {l : List (Addr × Obj)} (W : Wo G P) : Wo (Gx G l) P := ⟨W.k, W.g, W.n, W.b⟩
/-- what Whitespace.__init__ counts -/
structure Ws where
  count : List Int
  b : Nat
  n : Nat
  nt : Nat
def wsGrow (w : Ws) : List Int := if w.count.length ≤ w.b then w.count ++ List.replicate (w.b - w.count.length + 1) 0 else w.count
def wsStep (w : Ws) (c : Nat) : Ws := if c = 32 then ⟨w.count, w.b + 1, w.n + 1, w.nt⟩ else ⟨(wsGrow w).set w.b (it (wsGrow w) w.b + 1), 0, w.n + 1, w.nt + 1⟩
def wsT (cs : List Nat) (i : Nat) : Ws := (cs.take i).foldl wsStep ⟨[], 0, 0, 0⟩
def wsF (cs : List Nat) : Ws := wsT cs cs.length
theorem wsT_ok (cs : List Nat) : ∀ i, (wsT cs i).count.length ≤ i ∧ (wsT cs i).b ≤ i
  | 0 => ⟨Nat.le_refl _, Nat.le_refl _⟩
  | i + 1 => by
    obtain ⟨h1, h2⟩ := wsT_ok cs i
    by_cases hi : i < cs.length
    · rw [show wsT cs (i + 1) = wsStep (wsT cs i) cs[i] from foldl_take _ _ (List.getElem?_eq_getElem hi)]
      unfold wsStep
      split
      · exact ⟨by dsimp only; omega, by dsimp only; omega⟩
      · refine ⟨?_, by dsimp only; omega⟩
        simp only [List.length_set, wsGrow]
        split
        · rw [List.length_append, List.length_replicate]; omega
        · omega
    · have e : wsT cs (i + 1) = wsT cs i := by unfold wsT; rw [List.take_of_length_le (by omega), List.take_of_length_le (by omega)]
      rw [e]; exact ⟨by omega, by omega⟩
abbrev lstWs (x : Str) (w : Ws) : List (Str × VP) := [("raw", vStr x), ("n", vInt w.n), ("nt", vInt w.nt), ("norm", vTup [vTup (w.count.map vInt), vInt w.b]), ("is_simple", vBool (decide ((w.count.length : Int) ≤ 1)))]
abbrev wsG (X : Addr) : Asg := [("S", vStr " "), ("T", vStr "\t"), ("self", vIs (.ref X)), ("len", vIs (.builtin "len")), ("tuple", vIs (.type "tuple"))]
abbrev wsS (X : Addr) (w : Ws) : Asg := ("b", vInt w.b) :: ("n", vInt w.n) :: ("nt", vInt w.nt) :: wsG X
def wsBody (P : Params) : List Stmt := match (bodyOf P 86)[4]? with
  | some (Stmt.For _ _ b _ _) => b
  | _ => []
theorem wsT_succ {cs : List Nat} {i c : Nat} (hi : cs[i]? = some c) : wsT cs (i + 1) = wsStep (wsT cs i) c := foldl_take _ _ hi
theorem Fg.freeze {env : Env} {s₀ s : Shared} {g₀ g : View} {σ : Asg} {x : Str} {C : OP} (F : Fg G env s₀ g₀ σ (some (x, C)) g s) : ∃ gz, Fg G env s₀ g₀ ((x, C.vp) :: σ) none gz s ∧ VLe g gz := by
  obtain ⟨D, o, r, h1, h2, h3, h4, h5⟩ := F.own x C rfl
  refine ⟨VAdd g D o, ⟨⟨F.ev.fn, ⟨?_, F.ev.bs.wd, F.ev.bs.tk, F.ev.bs.pos⟩, ?_⟩, F.wd, F.keeps, F.toks, F.le.trans (VAdd.le _ _ _), ?_, ⟨F.fr.ns, F.fr.cells, fun b hb => ⟨(F.fr.out b hb).1, ?_⟩, F.fr.apart, F.fr.above, F.fr.gl, F.fr.bl⟩, fun _ _ e => nomatch e⟩, VAdd.le _ _ _⟩
  · rintro b o' (h | ⟨rfl, rfl⟩)
    · exact F.ev.bs.on b o' h
    · exact h1
  · intro y Q hq
    rcases List.mem_cons.mp hq with e | hq
    · cases e; exact ⟨_, r, D, o, rfl, noSys F.wd h3, VAdd.here _ _ _, C.mono (VAdd.le _ _ _) h5⟩
    · obtain ⟨u, r', q⟩ := F.ev.var y Q hq
      exact ⟨u, r', Q.mono (VAdd.le _ _ _) q⟩
  · rintro b o' (h | ⟨rfl, rfl⟩)
    · exact F.new b o' h
    · exact .inr h3
  · rintro o' (h | ⟨rfl, rfl⟩)
    · exact (F.fr.out b hb).2 o' h
    · exact h4 hb
theorem Fi.freeze {env : Env} {sC s : Shared} {g₀ g : View} {X Cl D : Addr} {lst : List (Str × VP)} {σ : Asg} {x : Str} {C : OP} (F : Fi G env sC g₀ X Cl D lst σ (some (x, C)) g s) : ∃ gz, Fi G env sC g₀ X Cl D lst ((x, C.vp) :: σ) none gz s ∧ VLe g gz := by
  obtain ⟨s₀, od, Fb, k0, hD, hX, hI, n0, sm, tk⟩ := F.base
  obtain ⟨gz, Fz, le⟩ := Fb.freeze
  exact ⟨gz, ⟨F.wC, F.hC, F.hX, F.ng, F.gl, F.bl, F.XD, s₀, od, Fz, k0, hD, hX, hI.mono le, n0, sm, tk⟩, le⟩
theorem ws_body (W : Wo G P) {cs : List Nat} {L : Addr} {X : Addr} {i c : Nat} (hx : ∀ c ∈ cs, c = 32 ∨ c = 9) (hz : cs.length ≤ 100) (hA' : Rm 1 A) (hi : cs[i]? = some c) :
    SN G A (envOf' P 86 L) (("ch", vStr (ch c)) :: del "ch" (wsS X (wsT cs i))) (some ("count", oList vInt (wsT cs i).count)) (wsBody P) (wsS X (wsT cs (i + 1))) (some ("count", oList vInt (wsT cs (i + 1)).count)) := by
  obtain ⟨o1, o2⟩ := wsT_ok cs i
  have hil := (List.getElem?_eq_some_iff.mp hi).1
  rw [wsT_succ hi]
  generalize wsT cs i = w at o1 o2
  change SN G A (envOf' P 86 L) (("ch", vStr (ch c)) :: wsS X w) _ (wsBody P) _ _
  rcases hx c (List.mem_of_getElem? hi) with rfl | rfl
  · have e : wsStep w 32 = ⟨w.count, w.b + 1, w.n + 1, w.nt⟩ := by unfold wsStep; rw [if_pos rfl]
    rw [e]
    have ht := op_eqS (G := G) (A := A) (a := ch 32) (b := " ")
    rw [show (ch 32 == (" " : Str)) = true by decide] at ht
    refine SN_one (S1_ifT (TX_cmp (EX_name m0) (EX_name m4) ht) (SN_cons (S1_assign (τ' := some ("count", oList vInt w.count)) (EX_bin (EX_name m2) EX_int op_add) (.inl rfl) rfl (fun _ _ e => by cases e; exact ⟨rfl, by decide⟩))
      (SN_one (S1.sub (S1_assign (τ' := some ("count", oList vInt w.count)) (EX_bin (EX_name m2) EX_int op_add) (.inl rfl) rfl (fun _ _ e => by cases e; exact ⟨rfl, by decide⟩)) ?_))))
    exact sub1 m0 (sub1 m1 (sub1 m3 (sub1 m4 (sub1 m5 (sub1 m6 (sub1 m7 (sub1 m8 sub0)))))))
  · have e : wsStep w 9 = ⟨(wsGrow w).set w.b (it (wsGrow w) w.b + 1), 0, w.n + 1, w.nt + 1⟩ := by unfold wsStep; rw [if_neg (by decide)]
    rw [e]
    have ht := op_eqS (G := G) (A := A) (a := ch 9) (b := " ")
    rw [show (ch 9 == (" " : Str)) = false by decide] at ht
    have ht2 := op_eqS (G := G) (A := A) (a := ch 9) (b := "\t")
    rw [show (ch 9 == ("\t" : Str)) = true by decide] at ht2
    have hgl : (wsGrow w).length ≤ 200 ∧ w.b < (wsGrow w).length := by
      unfold wsGrow
      split
      · rw [List.length_append, List.length_replicate]; omega
      · omega
    refine SN_one (S1_ifF (TX_cmp (EX_name m0) (EX_name m4) ht) (SN_one (S1_ifT (TX_cmp (EX_name m0) (EX_name m5) ht2) ?_)))
    refine SN_cons (S1_assign (τ' := some ("count", oList vInt w.count)) (EX_bin (EX_name m2) EX_int op_add) (.inl rfl) rfl (fun _ _ e => by cases e; exact ⟨rfl, by decide⟩)) ?_
    refine SN_cons (S1_assign (τ' := some ("count", oList vInt w.count)) (EX_bin (EX_name m3) EX_int op_add) (.inl rfl) rfl (fun _ _ e => by cases e; exact ⟨rfl, by decide⟩)) ?_
    change SN G A (envOf' P 86 L) (("nt", vInt (w.nt + 1)) :: ("n", vInt (w.n + 1)) :: ("ch", vStr (ch 9)) :: ("b", vInt w.b) :: wsG X) _ _ _ _
    refine SN_cons (σ1 := ("nt", vInt (w.nt + 1)) :: ("n", vInt (w.n + 1)) :: ("ch", vStr (ch 9)) :: ("b", vInt w.b) :: wsG X) (τ1 := some ("count", oList vInt (wsGrow w))) ?_
      (SN_cons (S1_setOwnL (y := it (wsGrow w) w.b + 1) (k := w.b) (EX_bin (EX_sub ((EX_name m0).imp oList_vp) (EX_name m4) (op_item (by omega) (it_get (by omega) (by omega)) (small (by omega)))) EX_int op_add) (flat_int _) (EX_name m3) (by omega) (by omega) (by omega))
        (SN_one (S1.sub (S1_assign (τ' := some ("count", oList vInt ((wsGrow w).set w.b (it (wsGrow w) w.b + 1)))) EX_int (.inl rfl) rfl (fun _ _ e => by cases e; exact ⟨rfl, by decide⟩)) ?_)))
    · have hge := op_ge (G := G) (A := A) (a := w.b) (b := w.count.length)
      unfold wsGrow
      by_cases hc : w.count.length ≤ w.b
      · rw [if_pos hc]
        rw [show decide ((w.count.length : Int) ≤ (w.b : Int)) = true by simp; omega] at hge
        refine S1_ifTZ (TX_cmp (EX_name m4) (EX_callB m8 (AX_one ((EX_name m0).imp oList_vp)) (cx_len (small (by omega)))) hge) (SN_one ?_)
        have hrep := op_repL (G := G) (A := A) (R := vInt) (xs := [0]) (n := (w.b : Int) - w.count.length + 1) (by omega) (by omega) (by simp only [List.length_singleton]; omega) (by simp)
        rw [List.flatten_replicate_singleton, show ((w.b : Int) - w.count.length + 1).toNat = w.b - w.count.length + 1 by omega] at hrep
        exact S1_ownNew (EXN_cat flat_int ((EX_name m0).imp oList_vp) (EX_bin (EX_list (R := vInt) (xs := [0]) (AX_one EX_int)) (EX_bin (EX_bin (EX_name m4) (EX_callB m8 (AX_one ((EX_name m0).imp oList_vp)) (cx_len (small (by omega)))) op_sub) EX_int op_add) hrep) (small (by rw [List.length_replicate]; omega))) (.inl rfl) rfl
      · rw [if_neg hc]
        rw [show decide ((w.count.length : Int) ≤ (w.b : Int)) = false by simp; omega] at hge
        exact S1_ifFZ (TX_cmp (EX_name m4) (EX_callB m8 (AX_one ((EX_name m0).imp oList_vp)) (cx_len (small (by omega)))) hge) SN_nil
    · exact sub1 m0 (sub1 m2 (sub1 m1 (sub1 m4 (sub1 m5 (sub1 m6 (sub1 m7 (sub1 m8 sub0)))))))
theorem c_ws (W : Wo G P) {x : Str} (hx : ∀ c ∈ x.cps.toList, c = 32 ∨ c = 9) (hz : x.cps.toList.length ≤ 100) (hA : Rm 3 A) : CX G A (.ref 131) [vStr x] (vInst 131 (lstWs x (wsF x.cps.toList))) := by
  refine CX_make (d_init W) (by rw [W.k]; rfl) (by rw [W.k]; rfl) (by rw [W.k]; rfl) (nr := 2) hA ["ws"] [vStr x] [("Whitespace", .ref 131), ("len", .builtin "len"), ("tuple", .type "tuple")] rfl (by decide) rfl rfl rfl rfl rfl rfl (pk1 (.inl rfl) (pk1 (.inl rfl) pk0))
    (gl1 (glG W rfl rfl) (gl1 (glB W rfl rfl (by decide) rfl) (gl1 (glB W rfl rfl (by decide) rfl) gl0))) fun A' hA1 L X D sC g s F => ?_
  have hA' : Rm 1 (A'.deeper (envOf' P 86 L)) := hA1.deeper _
  have ok := clsOk W
  change wpAny _ (A'.deeper (envOf' P 86 L)) (execs (bodyOf P 86) (envOf' P 86 L)) _ _ s
  change Fi G (envOf' P 86 L) sC g X 131 D [] (("self", vIs (.ref X)) :: ("ws", vStr x) :: ("Whitespace", vIs (.ref 131)) :: ("len", vIs (.builtin "len")) :: ("tuple", vIs (.type "tuple")) :: []) none g s at F
  refine wpAny_execs_cons (wpAny_mono (F.setattr ok (by rw [W.k]; rfl) (fun od hI => EX_name m1) (fun g v ⟨t, e⟩ => by rw [e]; rfl) m0 (by decide) (by decide)) (fun fl s1 ⟨ef, g1, F1, le1⟩ => ?_) fun _ _ q => q)
  subst ef
  obtain ⟨tS, hS⟩ := clsS W
  obtain ⟨tT, hT⟩ := clsT W
  -- S, T
  refine wpAny_execs_cons (wpAny_mono (F1.stmt (σ' := wsG X) (τ' := none) (fun od hI => S1.sub (S1_swap2 hA'.h (EX_tuple (AX_two ((EX_clsattr m2 (clsR W.gx) hS rfl).imp (Q := vStr " ") fun g v h => ⟨tS, h⟩) ((EX_clsattr m2 (clsR W.gx) hT rfl).imp (Q := vStr "\t") fun g v h => ⟨tT, h⟩)) (small (n := 2) (by omega))) rfl (.inl rfl) (.inl rfl) nofun) ?_)) (fun fl s2 ⟨ef, g2, F2, le2⟩ => ?_) fun _ _ q => q)
  · exact sub1 m0 (sub1 m1 (sub1 m2 (sub1 m5 (sub1 m6 sub0))))
  subst ef
  refine wpAny_execs_cons (wpAny_mono (F2.stmt (σ' := wsG X) (τ' := some ("count", oList vInt [])) (fun od hI => S1_ownList (xs := []) AX_nil (.inl rfl) rfl)) (fun fl s3 ⟨ef, g3, F3, le3⟩ => ?_) fun _ _ q => q)
  subst ef
  refine wpAny_execs_cons (wpAny_mono (F3.stmt (σ' := wsS X ⟨[], 0, 0, 0⟩) (τ' := some ("count", oList vInt [])) (fun od hI => S1.sub (S1_three EX_int rfl (.inl rfl) (.inl rfl) (.inl rfl) (fun u C e => by cases e; exact ⟨by decide, by decide, by decide⟩)) ?_)) (fun fl s4 ⟨ef, g4, F4, le4⟩ => ?_) fun _ _ q => q)
  · exact sub1 m2 (sub1 m1 (sub1 m0 (sub1 m3 (sub1 m4 (sub1 m5 (sub1 m6 (sub1 m7 sub0)))))))
  subst ef
  refine wpAny_execs_cons (wpAny_mono (F4.stmt (σ' := wsS X (wsF x.cps.toList)) (τ' := some ("count", oList vInt (wsF x.cps.toList).count)) (fun od hI => ?_)) (fun fl s5 ⟨ef, g5, F5, le5⟩ => ?_) fun _ _ q => q)
  · obtain ⟨v, hv, ⟨t, rfl⟩, _⟩ := hI.look (name := "raw") (P := vStr x) (.head _) (show [("raw" : Str)].Nodup by decide)
    exact S1_for (fun i => wsS X (wsT x.cps.toList i)) (fun i => some ("count", oList vInt (wsT x.cps.toList i).count))
      (IX_str hA'.h (EX_selfattr (C := 131) (D := D) (X := X) (l := [(D, od), (X, instObj 131 D)]) (P := vStr x) ok (.head _) (.tail _ (.head _)) m5 (by rw [W.k]; rfl) hv rfl (fun g => ⟨t, rfl⟩))) (.inl rfl) (fun q h => h) rfl (fun _ _ _ e => by cases e; decide)
      (fun i c hi => ws_body W.gx hx hz hA' hi)
  subst ef
  refine wpAny_execs_cons (wpAny_mono (F5.setattr ok (by rw [W.k]; rfl) (fun od hI => EX_name m1) (fun g v ⟨t, e⟩ => by rw [e]; rfl) m5 (show ("n" : Str) ∉ [("raw" : Str)] by decide) (show 1 < 50 by decide)) (fun fl s6 ⟨ef, g6, F6, le6⟩ => ?_) fun _ _ q => q)
  subst ef
  refine wpAny_execs_cons (wpAny_mono (F6.setattr ok (by rw [W.k]; rfl) (fun od hI => EX_name m2) (fun g v ⟨t, e⟩ => by rw [e]; rfl) m5 (show ("nt" : Str) ∉ [("raw" : Str), "n"] by decide) (show 2 < 50 by decide)) (fun fl s7 ⟨ef, g7, F7, le7⟩ => ?_) fun _ _ q => q)
  subst ef
  obtain ⟨g8, F8, le8⟩ := F7.freeze
  have o1 := (wsT_ok x.cps.toList x.cps.toList.length).1
  have o1 : (wsF x.cps.toList).count.length ≤ x.cps.toList.length := o1
  refine wpAny_execs_cons (wpAny_mono (F8.setattr (P := vTup [vTup ((wsF x.cps.toList).count.map vInt), vInt (wsF x.cps.toList).b]) ok (by rw [W.k]; rfl) (fun od hI => EX_tuple (AX_two (EX_callT m8 (AX_one ((EX_name m0).imp oList_vp)) (cx_tuple (small (by omega)))) (EX_name m1)) (small (n := 2) (by omega)))
    (fun g v ⟨a, _, _, e, _⟩ => by rw [e]; rfl) m6 (show ("norm" : Str) ∉ [("raw" : Str), "n", "nt"] by decide) (show 3 < 50 by decide)) (fun fl s9 ⟨ef, g9, F9, le9⟩ => ?_) fun _ _ q => q)
  subst ef
  refine wpAny_execs_cons (wpAny_mono (F9.setattr (P := vBool (decide (((wsF x.cps.toList).count.length : Int) ≤ 1))) ok (by rw [W.k]; rfl) (fun od hI => EX_cmp (EX_callB m7 (AX_one ((EX_name m0).imp oList_vp)) (cx_len (small (by omega)))) EX_int op_le)
    (fun g v e => by rw [show v = _ from e]; rfl) m6 (show ("is_simple" : Str) ∉ [("raw" : Str), "n", "nt", "norm"] by decide) (show 4 < 50 by decide)) (fun fl s10 ⟨ef, g10, F10, le10⟩ => ?_) fun _ _ q => q)
  subst ef
  exact wpAny_execs_nil ⟨rfl, g10, _, _, F10, ((((((((le1.trans le2).trans le3).trans le4).trans le5).trans le6).trans le7).trans le8).trans le9).trans le10⟩
end
end Mine

end

section
open PySem PySem.W PyProof.Rows
set_option linter.unusedVariables false
set_option maxRecDepth 100000
set_option maxHeartbeats 0
namespace Mine
noncomputable section
variable {G : Gv} {A : Around} {P : Params}
theorem EX_cls {env : Env} {σ : Asg} {f : Str} {p pos : Pos} {e : Expr} {es : List Expr} {a : Addr} {Ps : List VP} {R : VP} (hf : (f, vIs (.ref a)) ∈ σ) (hk : keepIn G.K (.ref a) = true)
    (ha : AX G A env σ (e :: es) Ps) (hc : CX G A (.ref a) Ps R) (hdb : (f == ("__debug__" : Str)) = false := by decide) (he : starEach (e :: es) env = (false, eval e env) :: starEach es env := by rfl) (hp : (backTo pos (starEach es env)).any (·.1) = false := by rfl) :
    EX G A env σ (.Call (.Name f p) (e :: es) [] pos) R := fun g s E ev =>
  wpAny_Call_NameR ((EX_name hf hdb).then ev fun v g1 s1 G1 e1 hv => by
    obtain rfl : v = .ref a := hv
    refine callWith_K (first := []) e1.bs.wd.k hk (wpAny_mono (ha pos g1 s1 E e1) (fun vs s2 ⟨g2, G2, q⟩ => ⟨G2.bs.wd.k, ?_⟩) fun _ _ x => x) he hp
    exact wpAny_mono (hc g2 s2 E vs G2.bs q) (fun _ _ o => (o.go G2).go G1) fun _ _ x => x)
def cntK (cnt : List Int) (k : Int) : Str := Txt.mul (rowKey k) (it cnt k)
def spellF (w : Ws) : Str := Txt.join "" ((rng 0 w.count.length).map (cntK w.count)) ++ Txt.mul " " w.b
def thereT (ways : Int) (ks cnt : List Int) : Nat → Int
  | 0 => ways
  | i + 1 => thereT ways ks cnt i * (it ks i) ^ (it cnt (i + 1)).toNat
def backT (ways : Int) (nt : Nat) (ms cnt : List Int) : Nat → Int
  | 0 => ways * (-1) ^ (nt - 1) * facI (nt - 1)
  | i + 1 => backT ways nt ms cnt i * (it ms (i + 1)) ^ (it cnt (i + 1)).toNat
def entryF (lead : Str) (ways : Int) (ks ms : List Int) : Ent :=
  let w := wsF lead.cps.toList
  ⟨ways, ways * w.nt, thereT ways ks w.count (w.count.length - 1), backT ways w.nt ms w.count (w.count.length - 1), [(spellF w, ways)]⟩
structure EntOk (lead : Str) (ways : Int) (ks ms : List Int) : Prop where
  ch : ∀ c ∈ lead.cps.toList, c = 32 ∨ c = 9
  len : lead.cps.toList.length ≤ 100
  nt : 1 ≤ (wsF lead.cps.toList).nt ∧ (wsF lead.cps.toList).nt ≤ 6
  c1 : 1 ≤ (wsF lead.cps.toList).count.length ∧ (wsF lead.cps.toList).count.length ≤ 7
  cks : (wsF lead.cps.toList).count.length ≤ ks.length + 1
  cms : (wsF lead.cps.toList).count.length ≤ ms.length
  cn : ∀ x ∈ (wsF lead.cps.toList).count, 0 ≤ x ∧ x ≤ 10
  kz : ks.length ≤ 10 ∧ ∀ x ∈ ks, x.natAbs < 2 ^ 64
  mz : ms.length ≤ 10 ∧ ∀ x ∈ ms, x.natAbs < 2 ^ 64
  wz : ways.natAbs < 2 ^ 50
  th : ∀ i, i < (wsF lead.cps.toList).count.length → (thereT ways ks (wsF lead.cps.toList).count i).natAbs < 2 ^ 64
  bk : ∀ i, i < (wsF lead.cps.toList).count.length → (backT ways (wsF lead.cps.toList).nt ms (wsF lead.cps.toList).count i).natAbs < 2 ^ 64
  sp : (((rng 0 (wsF lead.cps.toList).count.length).map (cntK (wsF lead.cps.toList).count)).map (·.length)).sum ≤ 1000 ∧ (Txt.join "" ((rng 0 (wsF lead.cps.toList).count.length).map (cntK (wsF lead.cps.toList).count))).length ≤ 400 ∧ (wsF lead.cps.toList).b ≤ 100 ∧ (Txt.mul " " (wsF lead.cps.toList).b).length ≤ 400
theorem d_entry (W : Wo G P) : DefOf G 174 (fdOf P 174) (bodyOf P 174) := defOf W 174 ⟨_, rfl, rfl⟩ rfl rfl rfl rfl rfl rfl rfl rfl rfl
abbrev gEntry : Asg := [("Whitespace", vIs (.ref 131)), ("range", vIs (.type "range")), ("len", vIs (.builtin "len")), ("_law_factorial", vIs (.ref 142))]
abbrev eS (lead : Str) (ways : Int) (ks ms : List Int) (w : Ws) : Asg := ("spelled", vStr (spellF w)) :: ("behind", vInt w.b) :: ("count", vTup (w.count.map vInt)) :: ("told", vInst 131 (lstWs lead w)) :: ("ways", vInt ways) :: ("kappas", vList vInt ks) :: ("moments", vList vInt ms) :: gEntry
theorem entry_rest (W : Wo G P) {L : Addr} {lead : Str} {ways : Int} {ks ms : List Int} {w : Ws} (hA' : Rm 3 A) (k3 : 1 ≤ w.nt ∧ w.nt ≤ 6) (k4 : 1 ≤ w.count.length ∧ w.count.length ≤ 7) (k5 : w.count.length ≤ ks.length + 1) (k6 : w.count.length ≤ ms.length) (k7 : ∀ x ∈ w.count, 0 ≤ x ∧ x ≤ 10)
    (k8 : ks.length ≤ 10 ∧ ∀ x ∈ ks, x.natAbs < 2 ^ 64) (k9 : ms.length ≤ 10 ∧ ∀ x ∈ ms, x.natAbs < 2 ^ 64) (k10 : ways.natAbs < 2 ^ 50) (k11 : ∀ i, i < w.count.length → (thereT ways ks w.count i).natAbs < 2 ^ 64) (k12 : ∀ i, i < w.count.length → (backT ways w.nt ms w.count i).natAbs < 2 ^ 64) :
    SR G A (envOf' P 174 L) (eS lead ways ks ms w) none ((bodyOf P 174).drop 3) (vEnt G ⟨ways, ways * w.nt, thereT ways ks w.count (w.count.length - 1), backT ways w.nt ms w.count (w.count.length - 1), [(spellF w, ways)]⟩) := by
  have okc := clsOk W
  have hnod : ((lstWs lead w).map (·.1)).Nodup := (show [("raw" : Str), "n", "nt", "norm", "is_simple"].Nodup by decide)
  have ent : (w.nt : Int) - 1 = ((w.nt - 1 : Nat) : Int) := by omega
  have itC : ∀ {a : Int}, 0 ≤ a → a < w.count.length → ((w.count.map vInt)[a.toNat]? = some (vInt (it w.count a))) ∧ 0 ≤ it w.count a ∧ it w.count a ≤ 10 := fun {a} h0 h1 => by
    have := it_get h0 h1
    exact ⟨by rw [List.getElem?_map, this]; rfl, (k7 _ (List.mem_of_getElem? this))⟩
  have hlenT : ∀ {A : Around}, CX G A (.builtin "len") [vTup (w.count.map vInt)] (vInt w.count.length) := fun {A} => by
    have := cx_lenT (G := G) (A := A) (Ps := w.count.map vInt) (by rw [List.length_map]; omega)
    rwa [List.length_map] at this
  refine SR_cons (τ1 := none) (σ1 := ("there", vInt ways) :: eS lead ways ks ms w) (S1_assign (EX_name m4) (.inl rfl) rfl nofun) ?_
  have hpow := op_pow (G := G) (A := A) (a := -1) (n := ((w.nt - 1 : Nat) : Int)) (by omega) (by decide) (by omega)
  rw [Int.toNat_natCast] at hpow
  have hsub := op_sub (G := G) (A := A) (a := w.nt) (b := 1)
  rw [ent] at hsub
  have habs : ((-1 : Int) ^ (w.nt - 1)).natAbs = 1 := by rw [Int.natAbs_pow]; simp
  refine SR_cons (τ1 := none) (σ1 := ("back", vInt (backT ways w.nt ms w.count 0)) :: ("there", vInt ways) :: eS lead ways ks ms w)
    (S1_assign (EX_bin (EX_bin (EX_name m5) (EX_bin (EX_un EX_int op_neg) (EX_bin (EX_attr (C := 131) (P := vInt w.nt) okc m4 (by rw [W.k]; rfl) (.tail _ (.tail _ (.head _))) hnod) EX_int hsub) hpow) (op_mul (by omega)))
      (EX_call m11 (W.look rfl) rfl (AX_one (EX_bin (EX_attr (C := 131) (P := vInt w.nt) okc m4 (by rw [W.k]; rfl) (.tail _ (.tail _ (.head _))) hnod) EX_int hsub)) (c_factorial W (by omega) (hA'.less (by omega)))) (op_mul (by rw [Int.natAbs_mul, habs]; omega))) (.inl rfl) rfl nofun) ?_
  refine SR_cons (S1_for (fun i => ("back", vInt (backT ways w.nt ms w.count i)) :: ("there", vInt (thereT ways ks w.count i)) :: eS lead ways ks ms w) (fun _ => none)
    (IX_range2 hA'.h m10 EX_int (EX_callB m11 (AX_one (EX_name m4)) hlenT) (by omega) (by omega) (by omega) (by omega)) (.inl rfl) (fun q h => h) rfl nofun (fun i k hi => ?_)) ?_
  · obtain ⟨hi, rfl⟩ := rng_get hi
    have hi' : i + 1 < w.count.length := by omega
    have e1 : (1 : Int) + i = ((i + 1 : Nat) : Int) := by omega
    rw [e1]
    obtain ⟨i1, i2, i3⟩ := itC (a := ((i + 1 : Nat) : Int)) (by omega) (by omega)
    have hs2 := op_sub (G := G) (A := A) (a := ((i + 1 : Nat) : Int)) (b := 1)
    rw [show (((i + 1 : Nat) : Int)) - 1 = (i : Int) by omega] at hs2
    have hk := it_get (l := ks) (i := (i : Int)) (by omega) (by omega)
    have hm := it_get (l := ms) (i := ((i + 1 : Nat) : Int)) (by omega) (by omega)
    refine SN_cons (τ1 := none) (σ1 := ("there", vInt (thereT ways ks w.count (i + 1))) :: ("k", vInt ((i + 1 : Nat) : Int)) :: ("back", vInt (backT ways w.nt ms w.count i)) :: eS lead ways ks ms w)
      (S1_assign (EX_bin (EX_name m2) (EX_bin (EX_sub (EX_name m8) (EX_bin (EX_name m0) EX_int hs2) (op_item (by omega) hk (small (by omega)))) (EX_sub (EX_name m5) (EX_name m0) (op_itemT (by simpa using i1) (by omega))) (op_pow i2 (k8.2 _ (List.mem_of_getElem? hk)) (by omega))) (op_mul (k11 i (by omega)))) (.inl rfl) rfl nofun) ?_
    refine SN_one (S1.sub (S1_assign (τ' := none) (EX_bin (EX_name m2) (EX_bin (EX_sub (EX_name m9) (EX_name m1) (op_item (by omega) hm (small (by omega)))) (EX_sub (EX_name m5) (EX_name m1) (op_itemT (by simpa using i1) (by omega))) (op_pow i2 (k9.2 _ (List.mem_of_getElem? hm)) (by omega))) (op_mul (k12 i (by omega)))) (.inl rfl) rfl nofun) ?_)
    exact sub1 m0 (sub1 m1 (fun q h => .tail _ (.tail _ (.tail _ h))))
  rw [rng_len, show ((w.count.length : Int) - 1).toNat = w.count.length - 1 by omega]
  refine SR_ret (EX_tuple (AX_cons (EX_name m6) (AX_cons (EX_bin (EX_name m6) (EX_attr (C := 131) (P := vInt w.nt) okc m5 (by rw [W.k]; rfl) (.tail _ (.tail _ (.head _))) hnod) (op_mul (by omega))) (AX_cons (EX_name m1) (AX_cons (EX_name m0) (AX_one (EX_dict1 (EX_name m2) (EX_name m6))))))) (small (n := 5) (by omega)))
theorem c_entry (W : Wo G P) {lead : Str} {ways : Int} {ks ms : List Int} (ok : EntOk lead ways ks ms) (hA : Rm 4 A) : CX G A (.ref 174) [vStr lead, vInt ways, vList vInt ks, vList vInt ms] (vEnt G (entryF lead ways ks ms)) := by
  refine CX_def (d_entry W) (by have := hA.d; omega) ["lead", "ways", "kappas", "moments"] _ [("Whitespace", .ref 131), ("range", .type "range"), ("len", .builtin "len"), ("_law_factorial", .ref 142)] rfl (by decide) rfl rfl rfl rfl rfl rfl (pk1 (.inl rfl) (pk1 (.inl rfl) (pk1 (.inl rfl) (pk1 (.inl rfl) pk0))))
    (gl1 (glG W rfl rfl) (gl1 (glB W rfl rfl (by decide) rfl) (gl1 (glB W rfl rfl (by decide) rfl) (gl1 (glG W rfl rfl) gl0)))) fun L => ?_
  have hA' : Rm 3 (A.deeper (envOf' P 174 L)) := hA.deeper _
  obtain ⟨k1, k2, ⟨k3, k3'⟩, ⟨k4, k4'⟩, k5, k6, k7, ⟨k8, k8'⟩, ⟨k9, k9'⟩, k10, k11, k12, k13, k14, k15, k16⟩ := ok
  change SR G (A.deeper (envOf' P 174 L)) (envOf' P 174 L) (("lead", vStr lead) :: ("ways", vInt ways) :: ("kappas", vList vInt ks) :: ("moments", vList vInt ms) :: gEntry) none (bodyOf P 174) _
  have hws := c_ws (A := A.deeper (envOf' P 174 L)) W k1 k2 hA'
  unfold entryF
  generalize hw : wsF lead.cps.toList = w at *
  refine SR_cons (τ1 := none) (σ1 := ("told", vInst 131 (lstWs lead w)) :: ("lead", vStr lead) :: ("ways", vInt ways) :: ("kappas", vList vInt ks) :: ("moments", vList vInt ms) :: gEntry) (S1_assign (EX_cls m4 (by rw [W.k]; rfl) (AX_one (EX_name m0)) hws) (.inl rfl) rfl nofun) ?_
  -- count, behind = told.norm
  have okc := clsOk W
  have hnod : ((lstWs lead w).map (·.1)).Nodup := (show [("raw" : Str), "n", "nt", "norm", "is_simple"].Nodup by decide)
  refine SR_cons (τ1 := none) (σ1 := ("behind", vInt w.b) :: ("count", vTup (w.count.map vInt)) :: ("told", vInst 131 (lstWs lead w)) :: ("lead", vStr lead) :: ("ways", vInt ways) :: ("kappas", vList vInt ks) :: ("moments", vList vInt ms) :: gEntry)
    (S1_tup hA'.h (xs := [("count", vTup (w.count.map vInt)), ("behind", vInt w.b)]) (EX_attr (C := 131) okc m0 (by rw [W.k]; rfl) (.tail _ (.tail _ (.tail _ (.head _)))) hnod) rfl (all1 (.inr ⟨rfl, _, rfl⟩) (all1 (.inl rfl) all0)) (fun _ _ _ _ h => nomatch h) (fun _ _ => .cons nm (.cons nm .nil))) ?_
  have itC : ∀ {a : Int}, 0 ≤ a → a < w.count.length → ((w.count.map vInt)[a.toNat]? = some (vInt (it w.count a))) ∧ 0 ≤ it w.count a ∧ it w.count a ≤ 10 := fun {a} h0 h1 => by
    have := it_get h0 h1
    exact ⟨by rw [List.getElem?_map, this]; rfl, (k7 _ (List.mem_of_getElem? this))⟩
  have hlenT : ∀ {A : Around}, CX G A (.builtin "len") [vTup (w.count.map vInt)] (vInt w.count.length) := fun {A} => by
    have := cx_lenT (G := G) (A := A) (Ps := w.count.map vInt) (by rw [List.length_map]; omega)
    rwa [List.length_map] at this
  refine SR_cons (τ1 := none) (σ1 := ("spelled", vStr (spellF w)) :: ("behind", vInt w.b) :: ("count", vTup (w.count.map vInt)) :: ("told", vInst 131 (lstWs lead w)) :: ("ways", vInt ways) :: ("kappas", vList vInt ks) :: ("moments", vList vInt ms) :: gEntry)
    (S1.sub (S1_assign (EX_bin (EX_methodS PySem.F.slot_str_join PySem.F.type_str_join EX_str (AX_one (EX_comp (f := cntK w.count) (τ := [("count", vTup (w.count.map vInt))]) (IX_range1 hA'.h m8 (EX_callB m9 (AX_one (EX_name m1)) hlenT) (by omega) (by omega)) ?_ inj_int flat_int flat_str
      rfl ?_ rfl ?_ rfl (fun C => car1 m1 (.inl ⟨rfl, rfl, rfl⟩) car0) (fun C k hk => ?_))) (cx_join ?_)) (EX_bin EX_str (EX_name m0) (op_rep (by decide) (by omega) (by omega))) (op_cat ?_)) (.inl rfl) rfl nofun) ?_) ?_
  · rw [rng_len]; exact small (by omega)
  · decide
  · decide
  · have hk' := rng_mem hk
    obtain ⟨j, rfl⟩ : ∃ j : Nat, k = j := ⟨k.toNat, by omega⟩
    obtain ⟨i1, i2, i3⟩ := itC (a := j) (by omega) (by omega)
    have hm := mul_len j (by omega)
    refine EX_bin (EX_bin (EX_bin EX_str (EX_name m0) (op_rep (by decide) (by omega) (by omega))) EX_str (op_cat (small (by omega)))) (EX_sub (EX_name m1) (EX_name m0) (op_itemT (by simpa using i1) (by omega))) (op_rep (by rw [sl]; omega) (by omega) i2)
  · have : ("" : Str).length = 0 := by decide
    rw [this]
    simp only [Int.toNat_natCast]
    omega
  · simp only [Int.toNat_natCast]
    exact small (by omega)
  · exact sub1 m0 (sub1 m1 (sub1 m2 (sub1 m3 (sub1 m5 (sub1 m6 (sub1 m7 (sub1 m8 (sub1 m9 (sub1 m10 (sub1 m11 sub0))))))))))
  exact entry_rest W hA' ⟨k3, k3'⟩ ⟨k4, k4'⟩ k5 k6 k7 ⟨k8, k8'⟩ ⟨k9, k9'⟩ k10 k11 k12
end
end Mine

end

section
open PySem PySem.W PyProof.Rows
set_option linter.unusedVariables false
set_option maxRecDepth 100000
set_option maxHeartbeats 0
namespace Mine
noncomputable section
variable {G : Gv} {A : Around} {P : Params}
def SameT (t u : List (Str × Int)) : Prop := t.length = u.length ∧ ∀ q ∈ t, getI u q.1 = some q.2
theorem hits_of {s : Shared} {lb : List (Str × Value)} {u : List (Str × Int)} (hb : Paired kvOk lb u) {la : List (Str × Value)} {t : List (Str × Int)} (ha : Paired kvOk la t) (h : ∀ q ∈ t, getI u q.1 = some q.2) : KeqHits A s lb la true := by
  induction ha with
  | nil => exact .nil
  | @cons a b l l' hab _ ih =>
    obtain ⟨a1, a2⟩ := a
    obtain ⟨b1, b2⟩ := b
    obtain ⟨e1, t1, e2⟩ := hab
    dsimp only at e1 e2
    subst e1 e2
    have hh := h _ (.head _)
    rcases kvOk_value (k := a1) hb with ⟨q1, q2⟩ | ⟨i, t', q1, q2⟩
    · rw [q2] at hh; cases hh
    · rw [q2] at hh
      have hh : i = b2 := Option.some.inj hh
      subst hh
      have := KeqHits.hit (A := A) (s := s) (v := .int i t1) q1 (SeqAt.EqAt.int_int i t1 i t') (ih fun q hq => h q (.tail _ hq))
      simpa using this
theorem eqIn_dict {g : View} {s : Shared} {t u : List (Str × Int)} {v w : Value} (B : Bs G g s) (hv : (vDict G t).p g v) (hw : (vDict G u).p g w) (h : SameT t u) (hu : A.units + 10 < cLine) : EqIn G.prog G.w A s v w true := fun E Q hq => by
  obtain ⟨a, o, l, rfl, hn, ho, hg, hl, hd, hp⟩ := Mine.dictOf B hv
  obtain ⟨a', o', l', rfl, hn', ho', hg', hl', hd', hp'⟩ := Mine.dictOf B hw
  by_cases hab : a = a'
  · subst hab; exact SeqAt.EqAt.same _ _ _ E Q hq
  · unfold eqBool
    refine wpAny_holding ?_
    refine wpAny_ite_split (fun hab' => absurd (by have := eq_of_beq hab'; injection this) hab) (fun _ => ?_)
    refine wpAny_bind (keq_eq hn hn' hd hd' (by omega) (fun _ => hits_of hp' hp h.2) (wpAny_truthy_bool ?_))
    have hlen : l.length = l'.length := by rw [hp.length, hp'.length]; exact h.1
    rw [hlen]; simpa using hq
theorem cons_of {α : Type} {F : Value → α → Prop} {vs : List Value} {x : α} {xs : List α} (h : Paired F vs (x :: xs)) : ∃ v r, vs = v :: r ∧ F v x ∧ Paired F r xs := by
  cases h with | cons a b => exact ⟨_, _, rfl, a, b⟩
theorem intIn {s : Shared} {i j : Int} {t u : Tok} (h : i = j) : EqIn G.prog G.w A s (.int i t) (.int j u) true := fun E Q hq => by
  subst h
  have := SeqAt.EqAt.int_int (A := A) (s := s) i t i u
  rw [beq_self_eq_true] at this
  exact this _ _ E Q hq
theorem op_neEnt {e f : Ent} (ha : e.a = f.a) (hb : e.b = f.b) (hc : e.c = f.c) (hd : e.d = f.d) (ht : SameT e.t f.t) (hA : Rm 3 A) : Op2 G A (compareOp .NotEq) (vEnt G e) (vEnt G f) (vBool false) := by
  rintro g s E _ _ B ⟨l1, vs1, n1, rfl, h1, p1⟩ ⟨l2, vs2, n2, rfl, h2, p2⟩
  have g1 := B.on _ _ h1
  have g2 := B.on _ _ h2
  obtain ⟨v1, _, rfl, a1, p1⟩ := cons_of p1
  obtain ⟨v2, _, rfl, a2, p1⟩ := cons_of p1
  obtain ⟨v3, _, rfl, a3, p1⟩ := cons_of p1
  obtain ⟨v4, _, rfl, a4, p1⟩ := cons_of p1
  obtain ⟨v5, _, rfl, a5, p1⟩ := cons_of p1
  cases p1
  obtain ⟨w1, _, rfl, b1, p2⟩ := cons_of p2
  obtain ⟨w2, _, rfl, b2, p2⟩ := cons_of p2
  obtain ⟨w3, _, rfl, b3, p2⟩ := cons_of p2
  obtain ⟨w4, _, rfl, b4, p2⟩ := cons_of p2
  obtain ⟨w5, _, rfl, b5, p2⟩ := cons_of p2
  cases p2
  obtain ⟨t1, rfl⟩ := a1
  obtain ⟨t2, rfl⟩ := a2
  obtain ⟨t3, rfl⟩ := a3
  obtain ⟨t4, rfl⟩ := a4
  obtain ⟨u1, rfl⟩ := b1
  obtain ⟨u2, rfl⟩ := b2
  obtain ⟨u3, rfl⟩ := b3
  obtain ⟨u4, rfl⟩ := b4
  have hu := hA.u
  refine wpAny_richCompare_same_room (op := .NotEq) (T := "tuple") ⟨_, g1, rfl⟩ ⟨_, g2, rfl⟩ PySem.F.slot_tuple_ne (call_meetsIn PySem.F.slot_tuple_ne ⟨_, g1, rfl⟩ PySem.F.entry_tuple_ne (PySem.F.args_tuple_ne_2 _ _) (tuple_same (by rfl)) ⟨⟨g1, g2⟩, fun p hp => ?_, ?_⟩) (by omega)
  · have hin : A.in1.units = A.units + 1 := rfl
    simp only [List.zip_cons_cons, List.zip_nil_right, List.mem_cons, List.not_mem_nil, or_false] at hp
    rcases hp with rfl | rfl | rfl | rfl | rfl
    · exact intIn ha
    · exact intIn hb
    · exact intIn hc
    · exact intIn hd
    · exact eqIn_dict B a5 b5 ht (by omega)
  · exact ⟨(fun x => nomatch x), Out.here B rfl⟩
end
end Mine

end

section
open PySem PySem.W PyProof.Rows
set_option linter.unusedVariables false
set_option maxRecDepth 100000
set_option maxHeartbeats 0
namespace Mine
noncomputable section
variable {G : Gv} {A : Around} {P : Params}
def lawKs (ns : List Int) : List Int := ((ns.take 5).map fun x => x.fmod 41 - 20) ++ ([2, -1, 3, 1] : List Int).drop ns.length
def lawMark (ks : List Int) : Str := Txt.item "-a~" (ks.sum.fmod 3)
def lawEnds (ks : List Int) : List Str := ks.map fun x => getS ["\n", "\x0d", "\x0d\n"] (x.fmod 3)
section
variable (ks ms : List Int) (mark : Str) (ends : List Str)
def leadStep (ways : Int) (e : Ent) (lead : Str) : Ent := entAdd e (entryF lead ways ks ms)
def keyStep (front : Bool) (book : List (Str × Int)) (e : Ent) (key : Str) : Ent := (grownF key mark ends front).foldl (leadStep ks ms ((getI book key).getD 0)) e
def entOf (front : Bool) (book : List (Str × Int)) : Ent := (book.map (·.1)).foldl (keyStep ks ms mark ends front book) ⟨0, 0, 0, 0, []⟩
def frontOf (i : Nat) : Bool := (it ks i).fmod 2 == 0
def bookT : Nat → List (Str × Int)
  | 0 => [("", 1)]
  | i + 1 => (entOf ks ms mark ends (frontOf ks i) (bookT i)).t
end
theorem d_law (W : Wo G P) : DefOf G 179 (fdOf P 179) (bodyOf P 179) := defOf W 179 ⟨_, rfl, rfl⟩ rfl rfl rfl rfl rfl rfl rfl rfl rfl
/-- what the law's run asks of its numbers and texts at one step -/
structure StepOk (ks ms bs : List Int) (mark : Str) (ends : List Str) (i : Nat) : Prop where
  n : (bookT ks ms mark ends i).length ≤ 20
  key : ∀ key ∈ (bookT ks ms mark ends i).map (·.1), KeyOk key ∧ (rowsOf key).length ≤ 10 ∧ SentOk (longerOf key (frontOf ks i)) (-1) mark ends ∧ ∀ k : Nat, k < (rowsOf key).length → SentOk (rowsOf key) k mark ends
  lead : ∀ key ∈ (bookT ks ms mark ends i).map (·.1), ∀ lead ∈ grownF key mark ends (frontOf ks i), EntOk lead ((getI (bookT ks ms mark ends i) key).getD 0) ks ms
  a : (entOf ks ms mark ends (frontOf ks i) (bookT ks ms mark ends i)).a = it bs (i + 1)
  b : (entOf ks ms mark ends (frontOf ks i) (bookT ks ms mark ends i)).b = it bs (i + 2) - it bs (i + 1)
  c : (entOf ks ms mark ends (frontOf ks i) (bookT ks ms mark ends i)).c = it ms (i + 1)
  d : (entOf ks ms mark ends (frontOf ks i) (bookT ks ms mark ends i)).d = it ks i
  t : SameT (entOf ks ms mark ends (frontOf ks i) (bookT ks ms mark ends i)).t (typesF (i + 1))
structure LawOk (ns : List Int) : Prop where
  n : ns.length ≤ 63
  k : 4 ≤ (lawKs ns).length ∧ (lawKs ns).length ≤ 5
  z : ∀ x ∈ lawKs ns, x.natAbs ≤ 20
  st : ∀ i, i < (lawKs ns).length → StepOk (lawKs ns) (momM (lawKs ns) (lawKs ns).length) (momM (List.replicate ((lawKs ns).length + 1) 1) ((lawKs ns).length + 1)) (lawMark (lawKs ns)) (lawEnds (lawKs ns)) i
abbrev gLaw : Asg := [("len", vIs (.builtin "len")), ("sum", vIs (.builtin "sum")), ("_law_moments", vIs (.ref 147)), ("range", vIs (.type "range")), ("_law_grown", vIs (.ref 169)), ("add_func_stats", vIs (.ref 45)), ("_law_entry", vIs (.ref 174)), ("_law_types", vIs (.ref 157))]

def jBody (P : Params) : List Stmt := match (bodyOf P 179)[6]? with
  | some (Stmt.For _ _ b _ _) => b
  | _ => []
def keyBody (P : Params) : List Stmt := match (jBody P)[1]? with
  | some (Stmt.For _ _ b _ _) => b
  | _ => []
def leadBody (P : Params) : List Stmt := match (keyBody P)[0]? with
  | some (Stmt.For _ _ b _ _) => b
  | _ => []
abbrev sLaw (G : Gv) (ks ms bs : List Int) (mark : Str) (ends : List Str) (book : List (Str × Int)) : Asg :=
  ("book", vDict G book) :: ("bells", vList vInt bs) :: ("moments", vList vInt ms) :: ("ends", vList vStr ends) :: ("mark", vStrT mark) :: ("kappas", vList vInt ks) :: gLaw
theorem law_lead (W : Wo G P) {L : Addr} {ks ms bs : List Int} {mark : Str} {ends : List Str} {book : List (Str × Int)} {i : Nat} {key lead : Str} {ways : Int} {e : Ent} (hA : Rm 19 A) (hw : getI book key = some ways) (ok : EntOk lead ways ks ms) (hl : e.t.length ≤ 390) :
    SN G A (envOf' P 179 L) (("lead", vStr lead) :: ("entry", vEnt G e) :: ("key", vStr key) :: ("j", vInt ((i : Int) + 1)) :: sLaw G ks ms bs mark ends book) none (leadBody P) (("entry", vEnt G (leadStep ks ms ways e lead)) :: ("key", vStr key) :: ("j", vInt ((i : Int) + 1)) :: sLaw G ks ms bs mark ends book) none := by
  refine SN_one (S1.sub (S1_assign (τ' := none) (EX_call (Ps := [vEnt G e, vEnt G (entryF lead ways ks ms)]) (R := vEnt G (leadStep ks ms ways e lead)) (.tail _ (.tail _ (.tail _ m12))) (W.look rfl) rfl (AX_two (EX_name m1)
    (EX_call (.tail _ (.tail _ (.tail _ (.tail _ m12)))) (W.look rfl) rfl (AX_cons (EX_name m0) (AX_cons (EX_sub (EX_name m4) (EX_name m2) (op_itemD hw)) (AX_two (EX_name m9) (EX_name m6)))) (c_entry W ok (hA.less (by omega))))) (c_addf W (by omega) (by show 1 ≤ 400; omega) (hA.less (by omega)))) (.inl rfl) rfl nofun) ?_)
  exact sub1 m0 (fun q h => .tail _ (.tail _ h))
theorem getI_mem {book : List (Str × Int)} {key : Str} (h : key ∈ book.map (·.1)) : ∃ v, getI book key = some v := by
  unfold getI
  obtain ⟨q, hq, rfl⟩ := List.mem_map.mp h
  cases e : book.find? (fun kv => kv.1 = q.1) with
  | some p => exact ⟨p.2, rfl⟩
  | none => exact absurd (List.find?_eq_none.mp e q hq) (by simp)
theorem leads_len (ks ms : List Int) (ways : Int) : ∀ (l : List Str) (e : Ent), (l.foldl (leadStep ks ms ways) e).t.length ≤ e.t.length + l.length
  | [], e => by simp
  | a :: l, e => by
    have h1 := leads_len ks ms ways l (leadStep ks ms ways e a)
    have h2 : (leadStep ks ms ways e a).t.length ≤ e.t.length + 1 := addT_len e.t _ _
    simp only [List.foldl_cons, List.length_cons]; omega
theorem grown_len (key mark : Str) (ends : List Str) (front : Bool) : (grownF key mark ends front).length = (rowsOf key).length + 1 := by
  unfold grownF grownT
  rw [List.length_append, List.length_map, rng_len]; simp; omega
theorem law_key (W : Wo G P) {L : Addr} {ks ms bs : List Int} {mark : Str} {ends : List Str} {i : Nat} {key : Str} {e : Ent} (hA : Rm 19 A) (hk : i < ks.length) (hkz : ks.length ≤ 5) (ok : StepOk ks ms bs mark ends i) (hkey : key ∈ (bookT ks ms mark ends i).map (·.1)) (hl : e.t.length ≤ 300) :
    SN G A (envOf' P 179 L) (("key", vStr key) :: ("entry", vEnt G e) :: ("j", vInt ((i : Int) + 1)) :: sLaw G ks ms bs mark ends (bookT ks ms mark ends i)) none (keyBody P)
      (("entry", vEnt G (keyStep ks ms mark ends (frontOf ks i) (bookT ks ms mark ends i) e key)) :: ("j", vInt ((i : Int) + 1)) :: sLaw G ks ms bs mark ends (bookT ks ms mark ends i)) none := by
  obtain ⟨o1, o2, o3, _⟩ := ok
  obtain ⟨q1, q2, q3, q4⟩ := o2 key hkey
  obtain ⟨ways, hw⟩ := getI_mem hkey
  have o3' := o3 key hkey
  rw [hw] at o3'
  have hgl := grown_len key mark ends (frontOf ks i)
  unfold keyStep
  rw [hw]
  generalize bookT ks ms mark ends i = book at *
  have hks := it_get (l := ks) (i := (i : Int)) (by omega) (by omega)
  have hs2 := op_sub (G := G) (A := A) (a := (i : Int) + 1) (b := 1)
  rw [show (i : Int) + 1 - 1 = (i : Int) by omega] at hs2
  refine SN_one (S1.sub (S1_for (fun n => ("entry", vEnt G (((grownF key mark ends (frontOf ks i)).take n).foldl (leadStep ks ms ways) e)) :: ("key", vStr key) :: ("j", vInt ((i : Int) + 1)) :: sLaw G ks ms bs mark ends book) (fun _ => none)
    (IX_list hA.h (EX_call (.tail _ (.tail _ m11)) (W.look rfl) rfl (AX_cons (EX_name m0) (AX_cons (EX_name m7) (AX_two (EX_name m6) (EX_cmp (EX_bin (EX_sub (EX_name m8) (EX_bin (EX_name m2) EX_int hs2) (op_item (by omega) hks (small (by omega)))) EX_int (op_mod (by decide))) EX_int op_eq)))) (c_grown W q1 q3 q4 (hA.less (by omega)))))
    (.inl rfl) (sub1 m1 (sub1 m0 (fun q h => .tail _ (.tail _ h)))) rfl nofun (fun n lead hn => ?_)) ?_)
  · have hlen := leads_len ks ms ways ((grownF key mark ends (frontOf ks i)).take n) e
    rw [List.length_take] at hlen
    have hn : (grownF key mark ends (frontOf ks i))[n]? = some lead := hn
    rw [foldl_take _ _ hn]
    exact law_lead W hA hw (o3' lead (List.mem_of_getElem? hn)) (by omega)
  · rw [show List.take (grownF key mark ends ((it ks i).fmod 2 == 0)).length (grownF key mark ends (frontOf ks i)) = grownF key mark ends (frontOf ks i) from List.take_length]
    exact sub1 m0 (fun q h => .tail _ (.tail _ h))
end
end Mine

end

section
open PySem PySem.W PyProof.Rows
set_option linter.unusedVariables false
set_option maxRecDepth 100000
set_option maxHeartbeats 0
namespace Mine
noncomputable section
variable {G : Gv} {A : Around} {P : Params}
theorem EX_dict0 {env : Env} {σ : Asg} {pos : Pos} : EX G A env σ (.Dict [] [] pos) (vDict G []) := fun g s E ev => by
  have hn : s.heap.get? s.heap.objs.size = none := fresh_none _
  have hD0 : (Shared.heap { s with heap := s.heap.push { cls := .type "dict", data := .dict #[] } }).DictOf (PySem.strKind G.prog G.w) s.heap.objs.size [] := Heap.DictOf.new s.heap
  obtain ⟨o, ho, hdo⟩ := Heap.dictOf_iff.mp hD0
  have ho' : (s.heap.push { cls := .type "dict", data := .dict #[] }).get? s.heap.objs.size = some { cls := .type "dict", data := .dict #[] } := Heap.get?_push_size _ rfl
  obtain rfl : _ = o := Option.some.inj (ho'.symm.trans ho)
  refine raw ev.bs (wpAny_Dict_empty ?_)
  exact Raw.push ev.bs rfl ⟨_, _, rfl, noSys ev.bs.wd hn, VAdd.here _ _ _, _, hdo, .nil⟩
theorem keys_len (ks ms : List Int) (mark : Str) (ends : List Str) (front : Bool) (book : List (Str × Int)) : ∀ (l : List Str) (e : Ent), (∀ key ∈ l, (rowsOf key).length ≤ 10) → (l.foldl (keyStep ks ms mark ends front book) e).t.length ≤ e.t.length + 11 * l.length
  | [], e, _ => by simp
  | a :: l, e, h => by
    have h1 := keys_len ks ms mark ends front book l (keyStep ks ms mark ends front book e a) fun k hk => h k (.tail _ hk)
    have h2 := leads_len ks ms ((getI book a).getD 0) (grownF a mark ends front) e
    have h3 := grown_len a mark ends front
    have h4 := h a (.head _)
    have h5 : (keyStep ks ms mark ends front book e a).t.length ≤ e.t.length + 11 := by unfold keyStep; omega
    simp only [List.foldl_cons, List.length_cons]; omega
theorem law_step (W : Wo G P) {L : Addr} {ks ms bs : List Int} {mark : Str} {ends : List Str} {i : Nat} (hA : Rm 19 A) (hk : i < ks.length) (hkz : ks.length ≤ 5) (hms : ms.length = ks.length + 1) (hbs : bs.length = ks.length + 2) (ok : StepOk ks ms bs mark ends i) :
    SN G A (envOf' P 179 L) (("j", vInt ((i : Int) + 1)) :: sLaw G ks ms bs mark ends (bookT ks ms mark ends i)) none (jBody P)
      (sLaw G ks ms bs mark ends (bookT ks ms mark ends (i + 1))) none := by
  refine SN_cons (τ1 := none) (σ1 := ("entry", vEnt G ⟨0, 0, 0, 0, []⟩) :: ("j", vInt ((i : Int) + 1)) :: sLaw G ks ms bs mark ends (bookT ks ms mark ends i))
    (S1_assign (EX_tuple (AX_cons EX_int (AX_cons EX_int (AX_cons EX_int (AX_two EX_int EX_dict0)))) (small (n := 5) (by simp))) (.inl rfl) rfl nofun) ?_
  refine SN_cons (τ1 := none) (σ1 := ("entry", vEnt G (entOf ks ms mark ends (frontOf ks i) (bookT ks ms mark ends i))) :: ("j", vInt ((i : Int) + 1)) :: sLaw G ks ms bs mark ends (bookT ks ms mark ends i)) ?_ ?_
  · refine S1.sub (S1_for (fun n => ("entry", vEnt G ((((bookT ks ms mark ends i).map (·.1)).take n).foldl (keyStep ks ms mark ends (frontOf ks i) (bookT ks ms mark ends i)) ⟨0, 0, 0, 0, []⟩)) :: ("j", vInt ((i : Int) + 1)) :: sLaw G ks ms bs mark ends (bookT ks ms mark ends i)) (fun _ => none)
      (IX_dict hA.h (EX_name m2)) (.inl rfl) (fun q h => h) rfl nofun (fun n key hn => ?_)) ?_
    · have hmem := List.mem_of_getElem? hn
      have hlen := keys_len ks ms mark ends (frontOf ks i) (bookT ks ms mark ends i) (((bookT ks ms mark ends i).map (·.1)).take n) ⟨0, 0, 0, 0, []⟩ fun k hk => (ok.key k (List.mem_of_mem_take hk)).2.1
      have hn20 := ok.n
      have hnl := (List.getElem?_eq_some_iff.mp hn).1
      rw [List.length_map] at hnl
      rw [List.length_take, List.length_map] at hlen
      rw [foldl_take _ _ hn]
      refine law_key W hA hk hkz ok hmem ?_
      have e0 : (Ent.t ⟨0, 0, 0, 0, []⟩).length = 0 := rfl
      omega
    · unfold entOf
      rw [List.take_length]
      exact fun q h => h
  have hks := it_get (l := ks) (i := (i : Int)) (by omega) (by omega)
  have hs2 := op_sub (G := G) (A := A) (a := (i : Int) + 1) (b := 1)
  rw [show (i : Int) + 1 - 1 = (i : Int) by omega] at hs2
  have hb1 := it_get (l := bs) (i := (i : Int) + 1) (by omega) (by omega)
  have hb2 := it_get (l := bs) (i := (i : Int) + 2) (by omega) (by omega)
  have hm1 := it_get (l := ms) (i := (i : Int) + 1) (by omega) (by omega)
  have ha2 := op_add (G := G) (A := A) (a := (i : Int) + 1) (b := 1)
  rw [show (i : Int) + 1 + 1 = (i : Int) + 2 by omega] at ha2
  have hty := c_types (A := A) W (t := i + 1) (by omega) (hA.less (by omega))
  rw [show (((i + 1 : Nat) : Nat) : Int) = (i : Int) + 1 by omega] at hty
  have hb : bookT ks ms mark ends (i + 1) = (entOf ks ms mark ends (frontOf ks i) (bookT ks ms mark ends i)).t := rfl
  obtain ⟨_, _, _, o4, o5, o6, o7, o8⟩ := ok
  rw [hb]
  generalize entOf ks ms mark ends (frontOf ks i) (bookT ks ms mark ends i) = e at *
  generalize bookT ks ms mark ends i = book at *
  refine SN_cons (τ1 := none) (σ1 := ("entry", vEnt G e) :: ("j", vInt ((i : Int) + 1)) :: sLaw G ks ms bs mark ends book)
    (S1_ifF (TX_cmp (Q := vEnt G ⟨it bs ((i : Int) + 1), it bs ((i : Int) + 2) - it bs ((i : Int) + 1), it ms ((i : Int) + 1), it ks i, typesF (i + 1)⟩) (EX_name m0)
      (EX_tuple (AX_cons (EX_sub (EX_name m3) (EX_name m1) (op_item (by omega) hb1 (small (by omega)))) (AX_cons (EX_bin (EX_sub (EX_name m3) (EX_bin (EX_name m1) EX_int ha2) (op_item (by omega) hb2 (small (by omega)))) (EX_sub (EX_name m3) (EX_name m1) (op_item (by omega) hb1 (small (by omega)))) op_sub)
        (AX_cons (EX_sub (EX_name m4) (EX_name m1) (op_item (by omega) hm1 (small (by omega)))) (AX_two (EX_sub (EX_name m7) (EX_bin (EX_name m1) EX_int hs2) (op_item (by omega) hks (small (by omega))))
          (EX_call (.tail _ (.tail _ (.tail _ m12))) (W.look rfl) rfl (AX_one (EX_name m1)) hty))))) (small (n := 5) (by simp)))
      (op_neEnt o4 o5 o6 o7 o8 (hA.less (by omega)))) SN_nil) ?_
  exact SN_one (S1.sub (S1_assign (P := vDict G e.t) (τ' := none) (EX_sub (EX_name m0) EX_int (op_itemT (i := 4) rfl (by omega))) (.inl rfl) rfl nofun) (sub1 m0 (fun q h => .tail _ (.tail _ (.tail _ h)))))
end
end Mine

end

section
open PySem PySem.W PyProof.Rows
set_option linter.unusedVariables false
set_option maxRecDepth 100000
set_option maxHeartbeats 0
namespace Mine
noncomputable section
variable {G : Gv} {A : Around} {P : Params}
/-- a given list of ints, of which no more is known than its class and its items -/
def vArg (xs : List Int) : VP :=
  ⟨fun g v => ∃ a vs o n, v = .ref a ∧ g.ob a o ∧ o.cls = .type "list" ∧ o.data = .seq (List.toArray vs) n ∧ Paired (fun v x => (vInt x).p g v) vs xs,
   fun l ⟨a, vs, o, n, e, h, c, d, p⟩ => ⟨a, vs, o, n, e, l.ob _ _ h, c, d, PairedImp (fun _ _ q => (vInt _).mono l q) p⟩⟩
theorem EX_uptoA {env : Env} {σ : Asg} {value e : Expr} {p pos : Pos} {xs : List Int} {b : Nat} (hv : EX G A env σ value (vArg xs)) (hz : xs.length ≤ sizeLine) (he : EX G A env σ e (vInt b))
    (hs : ∀ o i, subscripted (.Slice none (some e) none p) false (.ref o) (.ref i) = operate [.ref i, .ref o] (getItem (.ref o) (.ref i)) := by intro _ _; with_unfolding_all rfl) : EX G A env σ (.Subscript value (.Slice none (some e) none p) pos) (vList vInt (xs.take b)) := fun g s E ev => by
  refine Subscript_ (hv.then ev fun v g1 s1 G1 e1 pv => ?_)
  obtain ⟨a, vs, o, n, rfl, hob, hc, hd, pa⟩ := pv
  refine wpAny_Slice (wpAny_mono (part_none g1 s1 E e1) (fun vl s2 ⟨q2, G2⟩ => ?_) fun _ _ x => x)
  have e2 := e1.grow G2
  refine wpAny_mono (part_int he g1 s2 E e2) (fun vu s3 ⟨q3, G3⟩ => ?_) fun _ _ x => x
  have e3 := e2.grow G3
  rw [evalPart_none]
  refine wpAny_pure ?_
  have hL : s3.heap.IsList a vs.toArray := ⟨o, e3.bs.on _ _ hob, hc, n, hd⟩
  refine tail_any (ops := [.ref s3.heap.objs.size, .ref a]) (hL.push _).typeIs list_getitem_lookup (wpAny_getItem_list_slice (hL.push _) (Heap.IsSliceOf.new ..) q2 q3 .none (by simp) ?_ (by rw [List.size_toArray, pa.length]; exact hz)) (hs _ _)
  have S1 := stpPush e3.bs { cls := .type "slice", data := .fields #[vl, vu, .none] } s3.toks (Nat.le_refl _)
  have hp : (slicePick vs.toArray none (some (b : Int)) none).toList = vs.take b := by rw [slicePick_upto']
  have key : Raw g1 { s3 with heap := s3.heap.push { cls := .type "slice", data := .fields #[vl, vu, .none] } } (vList vInt (xs.take b)) (.ref (s3.heap.push { cls := .type "slice", data := .fields #[vl, vu, .none] }).objs.size)
      { s3 with heap := (s3.heap.push { cls := .type "slice", data := .fields #[vl, vu, .none] }).push { cls := .type "list", data := .seq (slicePick vs.toArray none (some (b : Int)) none) } } :=
    Raw.push S1.bs rfl ⟨_, vs.take b, 0, rfl, .inr ⟨rfl, by rw [← hp]; simp [listObj]⟩, PairedTake b (PairedImp (fun _ _ z => (vInt _).mono (VAdd.le g1 _ _) z) pa)⟩
  exact (((key.out S1.bs (Nat.le_refl _)).go S1).go G3).go G2 |>.go G1
theorem cx_lenA {xs : List Int} (hz : xs.length ≤ sizeLine) : CX G A (.builtin "len") [vArg xs] (vInt xs.length) := by
  intro g s E vs B h
  obtain ⟨v, rfl, a, us, o, n, rfl, hl, hc, hd, pa⟩ := one_of h
  have e := pa.length
  have q : sizeLine = 16777216 := by decide
  refine raw B (Calls.call_len_list ⟨o, B.on _ _ hl, hc, n, hd⟩ (by rw [List.size_toArray]; omega) ?_)
  rw [List.size_toArray, e]
  exact .tok B ⟨_, rfl⟩
end
end Mine

end

section
open PySem PySem.W PyProof.Rows
set_option linter.unusedVariables false
set_option maxRecDepth 100000
set_option maxHeartbeats 0
namespace Mine
noncomputable section
variable {G : Gv} {A : Around} {P : Params}
theorem law_body (W : Wo G P) {ns : List Int} (ok : LawOk ns) (hA : Rm 20 A) (L : Addr) : SR G (A.deeper (envOf' P 179 L)) (envOf' P 179 L) (("script", vArg ns) :: gLaw) none (bodyOf P 179) (vBool true) := by
  have hA' : Rm 19 (A.deeper (envOf' P 179 L)) := hA.deeper _
  obtain ⟨k1, k2, k3, k4⟩ := ok
  have hfm : ∀ x : Int, 0 ≤ x.fmod 3 ∧ x.fmod 3 < 3 := fun x => by rw [Int.fmod_eq_emod_of_nonneg _ (by omega)]; omega
  refine SR_cons (τ1 := none) (σ1 := ("kappas", vList vInt (lawKs ns)) :: ("script", vArg ns) :: gLaw)
    (S1_assign (EX_bin (EX_comp (f := fun x => x.fmod 41 - 20) (xs := ns.take 5) (τ := []) (IX_list hA'.h (EX_uptoA (b := 5) (EX_name m0) (small (by omega)) EX_int)) (small (by rw [List.length_take]; omega)) inj_int flat_int flat_int rfl (by decide) rfl (by decide) rfl (fun C => car0) (fun C x hx => EX_bin (EX_bin (EX_name m0) EX_int (op_mod (by decide))) EX_int op_sub))
      (EX_from (EX_list (R := vInt) (xs := [2, -1, 3, 1]) (AX_cons EX_int (AX_cons (EX_un EX_int op_neg) (AX_two EX_int EX_int)))) (small (n := 4) (by omega)) (EX_callB m1 (AX_one (EX_name m0)) (cx_lenA (small (by omega))))) (op_catL (xs := (ns.take 5).map fun x => x.fmod 41 - 20) (ys := ([2, -1, 3, 1] : List Int).drop ns.length) (small (by rw [List.length_map, List.length_take, List.length_drop]; simp; omega)))) (.inl rfl) rfl nofun) ?_
  generalize lawKs ns = ks at *
  have hin : (Txt.charAt "-a~" (ks.sum.fmod 3)).isSome = true := by
    obtain ⟨h0, h1⟩ := hfm ks.sum
    have : ks.sum.fmod 3 = 0 ∨ ks.sum.fmod 3 = 1 ∨ ks.sum.fmod 3 = 2 := by omega
    rcases this with h | h | h <;> rw [h] <;> decide
  refine SR_cons (τ1 := none) (σ1 := ("mark", vStrT (lawMark ks)) :: ("kappas", vList vInt ks) :: ("script", vArg ns) :: gLaw)
    (S1_assign (EX_sub EX_str (EX_bin (EX_callB m3 (AX_one (EX_name m0)) (cx_sum hA'.h)) EX_int (op_mod (by decide))) (op_itemS (hfm _).1 (by have := (hfm ks.sum).2; omega) hin)) (.inl rfl) rfl nofun) ?_
  refine SR_cons (τ1 := none) (σ1 := ("ends", vList vStr (lawEnds ks)) :: ("mark", vStrT (lawMark ks)) :: ("kappas", vList vInt ks) :: ("script", vArg ns) :: gLaw)
    (S1_assignComp (f := fun x => getS ["\n", "\x0d", "\x0d\n"] (x.fmod 3)) (xs := ks) (τc := []) (IX_list hA'.h (EX_name m1)) (small (by omega)) inj_int flat_int flat_str rfl (by decide) rfl (by decide) rfl (fun C => car0) (fun C x hx => ?_) rfl rfl nofun) ?_
  · exact EX_sub (EX_list (R := vStr) (xs := ["\n", "\x0d", "\x0d\n"]) (AX_cons EX_str (AX_two EX_str EX_str))) (EX_bin (EX_name m0) EX_int (op_mod (by decide))) (op_item (hfm x).1 (getS_get (hfm x).1 (hfm x).2) (small (n := 3) (by omega)))
  refine SR_cons (τ1 := none) (σ1 := ("moments", vList vInt (momM ks ks.length)) :: ("ends", vList vStr (lawEnds ks)) :: ("mark", vStrT (lawMark ks)) :: ("kappas", vList vInt ks) :: ("script", vArg ns) :: gLaw)
    (S1_assign (EX_call m6 (W.look rfl) rfl (AX_one (EX_name m2)) (c_moments W (by omega) k3 (hA'.less (by omega)))) (.inl rfl) rfl nofun) ?_
  have hrep := op_repL (G := G) (A := A.deeper (envOf' P 179 L)) (R := vInt) (xs := [1]) (n := (ks.length : Int) + 1) (by omega) (by omega) (by simp only [List.length_singleton]; omega) (by simp)
  rw [List.flatten_replicate_singleton, show ((ks.length : Int) + 1).toNat = ks.length + 1 by omega] at hrep
  have hbl := c_moments (A := A.deeper (envOf' P 179 L)) W (xs := List.replicate (ks.length + 1) 1) (by rw [List.length_replicate]; omega) (fun x hx => by rw [List.eq_of_mem_replicate hx]; decide) (hA'.less (by omega))
  rw [List.length_replicate] at hbl
  have hmsl := momM_len ks ks.length
  have hbsl := momM_len (List.replicate (ks.length + 1) 1) (ks.length + 1)
  generalize hms : momM ks ks.length = ms at *
  generalize hbs : momM (List.replicate (ks.length + 1) 1) (ks.length + 1) = bs at *
  generalize hmk : lawMark ks = mark at *
  generalize hen : lawEnds ks = ends at *
  refine SR_cons (τ1 := none) (σ1 := ("bells", vList vInt bs) :: ("moments", vList vInt ms) :: ("ends", vList vStr ends) :: ("mark", vStrT mark) :: ("kappas", vList vInt ks) :: ("script", vArg ns) :: gLaw)
    (S1_assign (EX_call m7 (W.look rfl) rfl (AX_one (EX_bin (EX_list (R := vInt) (xs := [1]) (AX_one EX_int)) (EX_bin (EX_callB m5 (AX_one (EX_name m3)) (cx_len (small (by omega)))) EX_int op_add) hrep)) hbl) (.inl rfl) rfl nofun) ?_
  refine SR_cons (τ1 := none) (σ1 := ("book", vDict G [("", 1)]) :: ("bells", vList vInt bs) :: ("moments", vList vInt ms) :: ("ends", vList vStr ends) :: ("mark", vStrT mark) :: ("kappas", vList vInt ks) :: ("script", vArg ns) :: gLaw)
    (S1_assign (EX_dict1 EX_str EX_int) (.inl rfl) rfl nofun) ?_
  refine SR_cons (τ1 := none) (σ1 := sLaw G ks ms bs mark ends (bookT ks ms mark ends ks.length)) ?_ (SR_ret EX_bool)
  refine S1.sub (S1_for (fun n => sLaw G ks ms bs mark ends (bookT ks ms mark ends n)) (fun _ => none)
    (IX_range2 (n := 1) (m := (ks.length : Int) + 1) hA'.h m10 EX_int (EX_bin (EX_callB m7 (AX_one (EX_name m5)) (cx_len (small (by omega)))) EX_int op_add) (by omega) (by omega) (by omega) (by omega)) (.inl rfl) ?_ rfl nofun (fun n j hj => ?_)) ?_
  · exact sub1 m0 (sub1 m1 (sub1 m2 (sub1 m3 (sub1 m4 (sub1 m5 (fun q h => .tail _ (.tail _ (.tail _ (.tail _ (.tail _ (.tail _ (.tail _ h))))))))))))
  · obtain ⟨hj, rfl⟩ := rng_get hj
    rw [Int.add_comm 1 (n : Int)]
    exact law_step W (hA'.less (by omega)) (by omega) k2.2 hmsl hbsl (k4 n (by omega))
  · rw [rng_len, show ((ks.length : Int) + 1 - 1).toNat = ks.length by omega]
    exact fun q h => h
end
end Mine

end

section
open PySem PySem.W PyProof.Rows
set_option linter.unusedVariables false
set_option maxRecDepth 100000
set_option maxHeartbeats 0
namespace Mine
noncomputable section
/-- no line end within -/
def NoEnd (l : List Nat) : Prop := ∀ c ∈ l, c ≠ 10 ∧ c ≠ 13
theorem eolL_plain : ∀ (l : List Nat) (r : List Nat), NoEnd l → eolL (l ++ r) = l ++ eolL r
  | [], r, _ => rfl
  | c :: l, r, h => by
    have hc := h c (.head _)
    rw [List.cons_append, eolL_cons, if_neg hc.1, if_neg hc.2, eolL_plain l r fun x hx => h x (.tail _ hx)]
    rfl
def NoLf (r : List Nat) : Prop := ∀ r', r ≠ 10 :: r'
theorem eolL_end {e : List Nat} (he : e = [10] ∨ e = [13] ∨ e = [13, 10]) {r : List Nat} (hr : NoLf r) : eolL (e ++ r) = 13 :: 10 :: eolL r := by
  rcases he with rfl | rfl | rfl
  · rfl
  · show 13 :: 10 :: eolS true r = _
    rw [eolS_true hr]; rfl
  · rfl
theorem app_list (x y : Str) : (x ++ y).cps.toList = x.cps.toList ++ y.cps.toList := by
  show (Str.append x y).cps.toList = _
  unfold Str.append
  simp
def segL (rows : List Str) (bare : Int) (mark : Str) (i : Nat) : List Nat := (if (i : Int) == bare then ("" : Str) else mark).cps.toList ++ (getS rows i).cps.toList
def mailC (rows : List Str) (bare : Int) (mark : Str) : Nat → List Nat
  | 0 => []
  | i + 1 => mailC rows bare mark i ++ (segL rows bare mark i ++ [13, 10])
structure MailOk (rows : List Str) (mark : Str) (ends : List Str) : Prop where
  m : NoEnd mark.cps.toList
  r : ∀ i : Nat, i < rows.length → (getS rows i).cps.toList ≠ [] ∧ NoEnd (getS rows i).cps.toList
  e : ∀ i : Nat, i < rows.length → (getS ends i).cps.toList = [10] ∨ (getS ends i).cps.toList = [13] ∨ (getS ends i).cps.toList = [13, 10]
theorem mail_eol {rows : List Str} {bare : Int} {mark : Str} {ends : List Str} (ok : MailOk rows mark ends) : ∀ n : Nat, n ≤ rows.length → ∀ r, NoLf r → eolL ((mailT rows bare mark ends n).cps.toList ++ r) = mailC rows bare mark n ++ eolL r
  | 0, _, r, _ => by
    have : (mailT rows bare mark ends 0).cps.toList = [] := by show ("" : Str).cps.toList = []; decide
    rw [this]; rfl
  | n + 1, hn, r, hr => by
    have e0 : ("" : Str).cps.toList = [] := by decide
    have hs : (mailT rows bare mark ends (n + 1)).cps.toList = (mailT rows bare mark ends n).cps.toList ++ (segL rows bare mark n ++ (getS ends n).cps.toList) := by
      show (mailT rows bare mark ends n ++ (if (n : Int) == bare then ("" : Str) else mark) ++ getS rows n ++ getS ends n).cps.toList = _
      rw [app_list, app_list, app_list]
      unfold segL
      simp only [List.append_assoc]
    obtain ⟨r1, r2⟩ := ok.r n (by omega)
    have hne : NoEnd (segL rows bare mark n) := by
      intro c hc
      unfold segL at hc
      rcases List.mem_append.mp hc with h | h
      · split at h
        · rw [e0] at h; cases h
        · exact ok.m c h
      · exact r2 c h
    have hnn : segL rows bare mark n ≠ [] := by
      unfold segL
      intro h
      exact r1 (List.append_eq_nil_iff.mp h).2
    have hlf : NoLf (segL rows bare mark n ++ ((getS ends n).cps.toList ++ r)) := by
      intro r' h
      cases hsg : segL rows bare mark n with
      | nil => exact hnn hsg
      | cons c l =>
        rw [hsg, List.cons_append] at h
        injection h with h1 _
        exact (hne c (hsg ▸ .head _)).1 h1
    rw [hs, List.append_assoc, List.append_assoc, mail_eol ok n (by omega) _ hlf, eolL_plain _ _ hne, eolL_end (ok.e n (by omega)) hr]
    show _ = (mailC rows bare mark n ++ (segL rows bare mark n ++ [13, 10])) ++ eolL r
    simp only [List.append_assoc, List.cons_append, List.nil_append]
theorem mail_quote {rows : List Str} {bare : Int} {mark : Str} {ends : List Str} (ok : MailOk rows mark ends) : quoteS (mailT rows bare mark ends rows.length) = ⟨(dotL true (mailC rows bare mark rows.length)).toArray⟩ := by
  have h := mail_eol (bare := bare) ok rows.length (Nat.le_refl _) [] (fun r' h => nomatch h)
  rw [List.append_nil] at h
  have e : eolL [] = [] := rfl
  rw [e, List.append_nil] at h
  unfold quoteS quoteL
  rw [h]
/-- what is left where the mark is struck -/
def s1L (rows : List Str) (bare : Int) (mark : Str) : Str := Txt.replace ⟨(dotL true (mailC rows bare mark rows.length)).toArray⟩ mark ""
theorem s1_eq {rows : List Str} {bare : Int} {mark : Str} {ends : List Str} (ok : MailOk rows mark ends) : s1F rows bare mark ends = s1L rows bare mark := by
  unfold s1F s1L
  rw [mail_quote ok]
theorem replace_len (x y z : Str) : (Txt.replace x y z).length ≤ x.length + (x.length + 1) * z.length := by
  unfold Txt.replace
  generalize hq : Builtin.Str.occurrences x y 0 x.length (x.length + 1) = cuts
  split
  · omega
  · have hn : cuts.length ≤ x.length + 1 := hq ▸ StrLaws.occ_length_le ..
    have hx : (Builtin.Str.glued y (Builtin.Str.partsBetween x cuts y.length)).length = x.length := by rw [← hq, StrLaws.glued_between_self]
    have hp := length_partsBetween x cuts y.length
    generalize Builtin.Str.partsBetween x cuts y.length = parts at hx hp ⊢
    have hy := size_glued y parts
    have hz := size_glued z parts
    have := Nat.mul_le_mul_right z.length (show parts.length - 1 ≤ x.length + 1 by omega)
    omega
theorem mailC_len {rows : List Str} {bare : Int} {mark : Str} (hm : mark.length ≤ 5) (hr : ∀ i : Nat, i < rows.length → (getS rows i).length ≤ 10) : ∀ n : Nat, n ≤ rows.length → (mailC rows bare mark n).length ≤ 17 * n
  | 0, _ => Nat.le_refl _
  | n + 1, hn => by
    have ih := mailC_len (bare := bare) hm hr n (by omega)
    have h1 := hr n (by omega)
    have e0 : ("" : Str).length = 0 := by decide
    have h2 : (if (n : Int) == bare then ("" : Str) else mark).length ≤ 5 := by split <;> omega
    have e1 : (getS rows n).cps.toList.length = (getS rows n).length := by simp [Str.length]
    have e2 : (if (n : Int) == bare then ("" : Str) else mark).cps.toList.length = (if (n : Int) == bare then ("" : Str) else mark).length := by simp [Str.length]
    show (mailC rows bare mark n ++ (segL rows bare mark n ++ [13, 10])).length ≤ _
    unfold segL
    simp only [List.length_append, List.length_cons, List.length_nil]
    omega
theorem s1L_len {rows : List Str} {bare : Int} {mark : Str} (hm : mark.length ≤ 5) (hn : rows.length ≤ 5) (hr : ∀ i : Nat, i < rows.length → (getS rows i).length ≤ 10) : (s1L rows bare mark).length ≤ 170 := by
  have h1 := mailC_len (bare := bare) hm hr rows.length (Nat.le_refl _)
  have h2 := dotL_len true (mailC rows bare mark rows.length)
  have h3 := replace_len ⟨(dotL true (mailC rows bare mark rows.length)).toArray⟩ mark ""
  have e0 : ("" : Str).length = 0 := by decide
  have e1 : (⟨(dotL true (mailC rows bare mark rows.length)).toArray⟩ : Str).length = (dotL true (mailC rows bare mark rows.length)).length := by simp [Str.length]
  rw [e0, e1] at h3
  unfold s1L
  omega
end
end Mine

end

section
open PySem PySem.W PyProof.Rows
set_option linter.unusedVariables false
set_option maxRecDepth 100000
set_option maxHeartbeats 0
namespace Mine
noncomputable section
/-- what of a lead is asked: how often each run, the blanks behind, the tabs -/
abbrev Sig := List Int × Nat × Nat
def sigOf (lead : Str) : Sig := ((wsF lead.cps.toList).count, (wsF lead.cps.toList).b, (wsF lead.cps.toList).nt)
def spellS (s : Sig) : Str := Txt.join "" ((rng 0 s.1.length).map (cntK s.1)) ++ Txt.mul " " s.2.1
def entS (ways : Int) (ks ms : List Int) (s : Sig) : Ent := ⟨ways, ways * s.2.2, thereT ways ks s.1 (s.1.length - 1), backT ways s.2.2 ms s.1 (s.1.length - 1), [(spellS s, ways)]⟩
theorem entryF_sig (lead : Str) (ways : Int) (ks ms : List Int) : entryF lead ways ks ms = entS ways ks ms (sigOf lead) := rfl
def rowsOk (rows : List Str) (m : Nat) : Bool := decide (rows.length ≤ m) && rows.all fun x => decide (x.length ≤ 10) && !x.cps.toList.isEmpty && x.cps.toList.all fun c => c != 10 && c != 13
def leadChk (lead : Str) : Bool := (lead.cps.toList.all fun c => c == 32 || c == 9) && decide (lead.cps.toList.length ≤ 100)
/-- the sums that a lead's numbers are asked to stay below -/
def thereN (ways : Nat) (cnt : List Int) : Nat → Nat
  | 0 => ways
  | i + 1 => thereN ways cnt i * 20 ^ (it cnt (i + 1)).toNat
def backN (ways : Nat) (nt : Nat) (cnt : List Int) : Nat → Nat
  | 0 => ways * (facI (nt - 1)).natAbs
  | i + 1 => backN ways nt cnt i * (1000 ^ (i + 1)) ^ (it cnt (i + 1)).toNat
def sigChk (ways : Int) (m : Nat) (s : Sig) : Bool := decide (1 ≤ s.2.2 ∧ s.2.2 ≤ 6) && decide (1 ≤ s.1.length ∧ s.1.length ≤ 7 ∧ s.1.length ≤ m) && (s.1.all fun x => decide (0 ≤ x ∧ x ≤ 10))
  && ((List.range s.1.length).all fun i => decide (thereN ways.natAbs s.1 i < 2 ^ 64) && decide (backN ways.natAbs s.2.2 s.1 i < 2 ^ 64))
  && decide ((((rng 0 s.1.length).map (cntK s.1)).map (·.length)).sum ≤ 1000) && decide ((Txt.join "" ((rng 0 s.1.length).map (cntK s.1))).length ≤ 400) && decide (s.2.1 ≤ 100) && decide ((Txt.mul " " s.2.1).length ≤ 400)
def marks : List Str := ["-", "a", "~"]
def keyChk (key : Str) : Bool := decide (key.length ≤ 1000) && decide ((Builtin.Str.partsBetween key (Builtin.Str.occurrences key "\t" 0 key.length (key.length + 1)) ("\t" : Str).length).length ≤ 1000) && decide ((Txt.split key "\t").length ≤ 100)
  && (Txt.split key "\t").all fun r => decide (r.length ≤ 1000)
/-- the rows of dots as they are told on, the bare one longer by its dot -/
def rowsC (rows : List Str) (bare : Int) : Nat → List Nat
  | 0 => []
  | i + 1 => rowsC rows bare i ++ ((if (i : Int) == bare then [46] else []) ++ (getS rows i).cps.toList ++ [13, 10])
def rowsS (rows : List Str) (bare : Int) : Str := ⟨(rowsC rows bare rows.length).toArray⟩
def leadT (rows : List Str) (bare : Int) : Str := Txt.replace (Txt.replace (rowsS rows bare) "." " ") "\x0d\n" "\t"
def oneChk (rows : List Str) (bare : Int) (s : Sig) : Bool := (marks.all fun mark => decide (s1L rows bare mark = rowsS rows bare)) && decide (sigOf (leadT rows bare) = s) && leadChk (leadT rows bare)
theorem sent_lead {rows : List Str} {bare : Int} {mark : Str} {ends : List Str} (ok : MailOk rows mark ends) (h : s1L rows bare mark = rowsS rows bare) : sentF rows bare mark ends = leadT rows bare := by
  unfold sentF s2F leadT
  rw [s1_eq ok, h]
/-- one key of a step: how it can grow -/
def growChk (key : Str) (m : Nat) : List Sig → Bool
  | [] => false
  | s :: r => rowsOk (longerOf key true) m && rowsOk (longerOf key false) m && rowsOk (rowsOf key) m && oneChk (longerOf key true) (-1) s && oneChk (longerOf key false) (-1) s && decide (r.length = (rowsOf key).length)
    && (List.range (rowsOf key).length).all fun k => oneChk (rowsOf key) k (r.getD k ([], 0, 0))
abbrev Row := Str × Int × List Sig
def rowChk (i : Nat) (q : Row) : Bool := keyChk q.1 && q.2.2.all (sigChk q.2.1 (i + 2)) && decide (q.2.1.natAbs < 2 ^ 50) && growChk q.1 (i + 1) q.2.2
def bookOf (rows : List Row) : List (Str × Int) := rows.map fun q => (q.1, q.2.1)
def nextT (rows : List Row) : List (Str × Int) := rows.foldl (fun t q => q.2.2.foldl (fun t s => addF t [(spellS s, q.2.1)]) t) []
end
end Mine

end

section
open PySem PySem.W PyProof.Rows
set_option linter.unusedVariables false
set_option maxRecDepth 100000
set_option maxHeartbeats 0
namespace Mine
noncomputable section
/-- the book behind step i, with how each of its keys can grow -/
def RW : Nat → List Row
  | 0 => [("", 1, [([0, 1], 0, 1)])]
  | 1 => [(" \t", 1, [([0, 2], 0, 2), ([0, 0, 1], 0, 1)])]
  | 2 => [(" \t \t", 1, [([0, 3], 0, 3), ([0, 1, 1], 0, 2), ([0, 1, 1], 0, 2)]),
    ("  \t", 1, [([0, 1, 1], 0, 2), ([0, 0, 0, 1], 0, 1)])]
  | 3 => [(" \t \t \t", 1, [([0, 4], 0, 4), ([0, 2, 1], 0, 3), ([0, 2, 1], 0, 3), ([0, 2, 1], 0, 3)]),
    (" \t  \t", 3, [([0, 2, 1], 0, 3), ([0, 0, 2], 0, 2), ([0, 1, 0, 1], 0, 2)]),
    ("   \t", 1, [([0, 1, 0, 1], 0, 2), ([0, 0, 0, 0, 1], 0, 1)])]
  | _ => [(" \t \t \t \t", 1, [([0, 5], 0, 5), ([0, 3, 1], 0, 4), ([0, 3, 1], 0, 4), ([0, 3, 1], 0, 4), ([0, 3, 1], 0, 4)]),
    (" \t \t  \t", 6, [([0, 3, 1], 0, 4), ([0, 1, 2], 0, 3), ([0, 1, 2], 0, 3), ([0, 2, 0, 1], 0, 3)]),
    ("  \t  \t", 3, [([0, 1, 2], 0, 3), ([0, 0, 1, 1], 0, 2), ([0, 0, 1, 1], 0, 2)]),
    (" \t   \t", 4, [([0, 2, 0, 1], 0, 3), ([0, 0, 1, 1], 0, 2), ([0, 1, 0, 0, 1], 0, 2)]),
    ("    \t", 1, [([0, 1, 0, 0, 1], 0, 2), ([0, 0, 0, 0, 0, 1], 0, 1)])]
theorem chk0 : (RW 0).all (rowChk 0) = true := by decide +kernel
theorem chk1 : (RW 1).all (rowChk 1) = true := by decide +kernel
theorem chk2 : (RW 2).all (rowChk 2) = true := by decide +kernel
theorem chk3 : (RW 3).all (rowChk 3) = true := by decide +kernel
theorem chk4a : ((RW 4).take 2).all (rowChk 4) = true := by decide +kernel
theorem chk4b : ((RW 4).drop 2).all (rowChk 4) = true := by decide +kernel
theorem chk4 : (RW 4).all (rowChk 4) = true := by
  rw [← List.take_append_drop 2 (RW 4), List.all_append, chk4a, chk4b]
  rfl
theorem nxt0 : nextT (RW 0) = bookOf (RW 1) := by decide +kernel
theorem nxt1 : nextT (RW 1) = bookOf (RW 2) := by decide +kernel
theorem nxt2 : nextT (RW 2) = bookOf (RW 3) := by decide +kernel
theorem nxt3 : nextT (RW 3) = bookOf (RW 4) := by decide +kernel
theorem ways_ok : ∀ i : Nat, i ≤ 4 → ∀ q ∈ RW i, getI (bookOf (RW i)) q.1 = some q.2.1 := by decide +kernel
def SameB (t u : List (Str × Int)) : Bool := decide (t.length = u.length) && t.all fun q => decide (getI u q.1 = some q.2)
theorem typ : ∀ i : Nat, i ≤ 4 → SameB (nextT (RW i)) (typesF (i + 1)) = true := by decide +kernel
end
end Mine

end

section
open PySem PySem.W PyProof.Rows
set_option linter.unusedVariables false
set_option maxRecDepth 100000
set_option maxHeartbeats 0
namespace Mine
noncomputable section
theorem chkA : ∀ i : Nat, i ≤ 4 → ∀ q ∈ RW i, rowChk i q = true := fun i hi q hq => by
  have h : (RW i).all (rowChk i) = true := by
    have : i = 0 ∨ i = 1 ∨ i = 2 ∨ i = 3 ∨ i = 4 := by omega
    rcases this with rfl | rfl | rfl | rfl | rfl
    · exact chk0
    · exact chk1
    · exact chk2
    · exact chk3
    · exact chk4
  exact List.all_eq_true.mp h q hq
/-- a line end is one of three -/
def EndsOk (ends : List Str) : Prop := ∀ e ∈ ends, e ∈ (["\n", "\x0d", "\x0d\n"] : List Str)
theorem getS_mem {l : List Str} {i : Nat} (h : i < l.length) : getS l i ∈ l := List.mem_of_getElem? (getS_get (l := l) (i := (i : Int)) (by omega) (by omega))
theorem end_one {e : Str} (h : e ∈ (["\n", "\x0d", "\x0d\n"] : List Str)) : (e.cps.toList = [10] ∨ e.cps.toList = [13] ∨ e.cps.toList = [13, 10]) ∧ e.length ≤ 5 := by
  simp only [List.mem_cons, List.not_mem_nil, or_false] at h
  rcases h with rfl | rfl | rfl
  · decide +kernel
  · decide +kernel
  · decide +kernel
theorem mark_one {mark : Str} (h : mark ∈ marks) : NoEnd mark.cps.toList ∧ (mark == "") = false ∧ mark.length ≤ 5 := by
  simp only [marks, List.mem_cons, List.not_mem_nil, or_false] at h
  rcases h with rfl | rfl | rfl
  · unfold NoEnd; decide +kernel
  · unfold NoEnd; decide +kernel
  · unfold NoEnd; decide +kernel
theorem rowsOk_of {rows : List Str} {m : Nat} (h : rowsOk rows m = true) : rows.length ≤ m ∧ ∀ x ∈ rows, x.length ≤ 10 ∧ x.cps.toList ≠ [] ∧ NoEnd x.cps.toList := by
  unfold rowsOk at h
  rw [Bool.and_eq_true, List.all_eq_true] at h
  refine ⟨of_decide_eq_true h.1, fun x hx => ?_⟩
  have hh := h.2 x hx
  simp only [Bool.and_eq_true, decide_eq_true_eq, Bool.not_eq_true', List.all_eq_true, bne_iff_ne] at hh
  refine ⟨hh.1.1, fun e => ?_, fun c hc => hh.2 c hc⟩
  rw [e] at hh
  exact absurd hh.1.2 (by simp)
theorem mailOk_of {rows : List Str} {m : Nat} {mark : Str} {ends : List Str} (h : rowsOk rows m = true) (hm : mark ∈ marks) (he : EndsOk ends) (hn : m ≤ ends.length) : MailOk rows mark ends := by
  obtain ⟨h1, h2⟩ := rowsOk_of h
  refine ⟨(mark_one hm).1, fun i hi => (h2 _ (getS_mem hi)).2, fun i hi => (end_one (he _ (getS_mem (by omega)))).1⟩
theorem sentOk_of {rows : List Str} {m : Nat} {bare : Int} {mark : Str} {ends : List Str} (h : rowsOk rows m = true) (hm : mark ∈ marks) (he : EndsOk ends) (hn : m ≤ ends.length) (h5 : ends.length ≤ 5) : SentOk rows bare mark ends := by
  have k1 := mailOk_of h hm he hn
  obtain ⟨h1, h2⟩ := rowsOk_of h
  have hs := s1L_len (bare := bare) (mark_one hm).2.2 (show rows.length ≤ 5 by omega) (fun i hi => (h2 _ (getS_mem hi)).1)
  rw [← s1_eq k1] at hs
  have hs2 := replace_len (s1F rows bare mark ends) "." " "
  have e1 : (" " : Str).length = 1 := by decide
  rw [e1, Nat.mul_one] at hs2
  exact ⟨by omega, by omega, (mark_one hm).2, fun x hx => (h2 x hx).1, fun x hx => (end_one (he x hx)).2, by omega, by unfold s2F; omega⟩
theorem one_of_chk {rows : List Str} {bare : Int} {s : Sig} {m : Nat} {mark : Str} {ends : List Str} (h : rowsOk rows m = true) (hm : mark ∈ marks) (he : EndsOk ends) (hn : m ≤ ends.length) (hc : oneChk rows bare s = true) :
    sigOf (sentF rows bare mark ends) = s ∧ leadChk (sentF rows bare mark ends) = true := by
  unfold oneChk at hc
  simp only [Bool.and_eq_true, List.all_eq_true, decide_eq_true_eq] at hc
  rw [sent_lead (mailOk_of h hm he hn) (hc.1.1 mark hm)]
  exact ⟨hc.1.2, hc.2⟩
theorem grow_sig {key : Str} {m : Nat} {sigs : List Sig} {mark : Str} {ends : List Str} {front : Bool} (h : growChk key m sigs = true) (hm : mark ∈ marks) (he : EndsOk ends) (hn : m ≤ ends.length) (h5 : ends.length ≤ 5) :
    (grownF key mark ends front).map sigOf = sigs ∧ (∀ l ∈ grownF key mark ends front, leadChk l = true) ∧ rowsOk (longerOf key front) m = true ∧ rowsOk (rowsOf key) m = true := by
  cases sigs with
  | nil => exact absurd h (by simp [growChk])
  | cons s r =>
    unfold growChk at h
    simp only [Bool.and_eq_true, decide_eq_true_eq, List.all_eq_true] at h
    obtain ⟨⟨⟨⟨⟨⟨g1, g2⟩, g3⟩, g4⟩, g5⟩, g6⟩, g7⟩ := h
    have hL : rowsOk (longerOf key front) m = true := by cases front <;> assumption
    have hS : oneChk (longerOf key front) (-1) s = true := by cases front <;> assumption
    have h1 := one_of_chk hL hm he hn hS
    have hk : ∀ k : Nat, k < (rowsOf key).length → sigOf (sentF (rowsOf key) k mark ends) = r.getD k ([], 0, 0) ∧ leadChk (sentF (rowsOf key) k mark ends) = true := fun k hk => one_of_chk g3 hm he hn (g7 k (List.mem_range.mpr hk))
    unfold grownF grownT
    refine ⟨?_, ?_, hL, g3⟩
    · rw [List.map_append, List.map_map]
      show sigOf _ :: _ = _
      rw [h1.1]
      congr 1
      refine List.ext_getElem? fun i => ?_
      show ((rng 0 (rowsOf key).length).map _)[i]? = _
      rw [List.getElem?_map]
      by_cases hi : i < (rowsOf key).length
      · have e1 : (rng 0 (rowsOf key).length)[i]? = some (i : Int) := by
          unfold rng
          rw [List.getElem?_map, List.getElem?_range hi]
          simp
        rw [e1]
        show some (sigOf (sentF (rowsOf key) i mark ends)) = _
        rw [(hk i hi).1, List.getD_eq_getElem?_getD, List.getElem?_eq_getElem (by omega)]
        rfl
      · have e1 : (rng 0 (rowsOf key).length)[i]? = none := List.getElem?_eq_none (by rw [rng_len]; omega)
        rw [e1, List.getElem?_eq_none (by omega)]
        rfl
    · intro l hl
      rcases List.mem_append.mp hl with hl | hl
      · rw [List.mem_singleton.mp hl]; exact h1.2
      · obtain ⟨k, hkm, rfl⟩ := List.mem_map.mp hl
        have hkr := rng_mem hkm
        obtain ⟨a, rfl⟩ : ∃ a : Nat, k = (a : Int) := ⟨k.toNat, by omega⟩
        exact (hk a (by omega)).2
theorem keyOk_of {key : Str} (h : keyChk key = true) : KeyOk key := by
  unfold keyChk at h
  simp only [Bool.and_eq_true, decide_eq_true_eq, List.all_eq_true] at h
  exact ⟨h.1.1.1, h.1.1.2, h.1.2, h.2⟩
/-- the bounds -/
theorem there_le {ways : Int} {ks cnt : List Int} (hk : ∀ i : Nat, (it ks i).natAbs ≤ 20) : ∀ i, (thereT ways ks cnt i).natAbs ≤ thereN ways.natAbs cnt i
  | 0 => Nat.le_refl _
  | i + 1 => by
    show (thereT ways ks cnt i * (it ks i) ^ (it cnt (i + 1)).toNat).natAbs ≤ _
    rw [Int.natAbs_mul, Int.natAbs_pow]
    exact Nat.mul_le_mul (there_le hk i) (Nat.pow_le_pow_left (hk i) _)
theorem back_le {ways : Int} {nt : Nat} {ms cnt : List Int} (hm : ∀ i : Nat, (it ms i).natAbs ≤ 1000 ^ i) : ∀ i, (backT ways nt ms cnt i).natAbs ≤ backN ways.natAbs nt cnt i
  | 0 => by
    show (ways * (-1) ^ (nt - 1) * facI (nt - 1)).natAbs ≤ _
    rw [Int.natAbs_mul, Int.natAbs_mul, Int.natAbs_pow]
    show ways.natAbs * 1 ^ (nt - 1) * _ ≤ ways.natAbs * _
    rw [Nat.one_pow, Nat.mul_one]
    exact Nat.le_refl _
  | i + 1 => by
    show (backT ways nt ms cnt i * (it ms (i + 1)) ^ (it cnt (i + 1)).toNat).natAbs ≤ _
    rw [Int.natAbs_mul, Int.natAbs_pow]
    exact Nat.mul_le_mul (back_le hm i) (Nat.pow_le_pow_left (hm (i + 1)) _)
theorem sumAbs {M : Nat} : ∀ (l : List Int), (∀ x ∈ l, x.natAbs ≤ M) → l.sum.natAbs ≤ l.length * M
  | [], _ => by simp
  | a :: r, h => by
    have h1 := h a (.head _)
    have h2 := sumAbs r fun x hx => h x (.tail _ hx)
    rw [List.sum_cons, List.length_cons, Nat.succ_mul]
    have := Int.natAbs_add_le a r.sum
    omega
theorem mom_bd {xs : List Int} (hx : ∀ i : Nat, (it xs i).natAbs ≤ 20) : ∀ n : Nat, n ≤ 5 → ∀ j : Nat, (it (momM xs n) j).natAbs ≤ 1000 ^ j
  | 0, _, j => by
    cases j with
    | zero => exact (by decide : (1 : Int).natAbs ≤ 1)
    | succ j => show (0 : Int).natAbs ≤ _; exact Nat.zero_le _
  | n + 1, hn, j => by
    have ih := mom_bd hx n (by omega)
    have hl := momM_len xs n
    show (it (momM xs n ++ [_]) j).natAbs ≤ _
    by_cases hj : j < n + 1
    · have e : it (momM xs n ++ [((rng 0 (n + 1)).map fun i => it (rowW n) i * it xs i * it (momM xs n) (n - i)).sum]) j = it (momM xs n) j := by
        unfold it
        rw [List.getD_eq_getElem?_getD, List.getD_eq_getElem?_getD, List.getElem?_append_left (by simp; omega)]
      rw [e]; exact ih j
    · by_cases hj2 : j = n + 1
      · subst hj2
        have e : it (momM xs n ++ [((rng 0 (n + 1)).map fun i => it (rowW n) i * it xs i * it (momM xs n) (n - i)).sum]) ((n + 1 : Nat) : Int) = ((rng 0 (n + 1)).map fun i => it (rowW n) i * it xs i * it (momM xs n) (n - i)).sum := by
          unfold it
          rw [List.getD_eq_getElem?_getD, List.getElem?_append_right (by simp; omega)]
          simp [hl]
        rw [e]
        have hs := sumAbs (M := 200 * 1000 ^ n) ((rng 0 (n + 1)).map fun i => it (rowW n) i * it xs i * it (momM xs n) (n - i)) (fun x hx' => by
          obtain ⟨i, hi, rfl⟩ := List.mem_map.mp hx'
          have hi' := rng_mem hi
          obtain ⟨a, rfl⟩ : ∃ a : Nat, i = (a : Int) := ⟨i.toNat, by omega⟩
          have h1 := rowW_le n (by omega) a (by omega)
          have h2 := hx a
          have h3 := ih (n - a)
          rw [show ((n : Int) - (a : Int)) = ((n - a : Nat) : Int) by omega]
          rw [Int.natAbs_mul, Int.natAbs_mul]
          have h4 : (1000 : Nat) ^ (n - a) ≤ 1000 ^ n := Nat.pow_le_pow_right (by omega) (by omega)
          exact Nat.mul_le_mul (Nat.mul_le_mul h1 h2) (Nat.le_trans h3 h4))
        rw [List.length_map, rng_len] at hs
        refine Nat.le_trans hs ?_
        rw [Nat.pow_succ]
        have : (n + 1) * (200 * 1000 ^ n) ≤ 5 * (200 * 1000 ^ n) := Nat.mul_le_mul_right _ (by omega)
        omega
      · have e : it (momM xs n ++ [((rng 0 (n + 1)).map fun i => it (rowW n) i * it xs i * it (momM xs n) (n - i)).sum]) j = 0 := by
          unfold it
          rw [List.getD_eq_getElem?_getD, List.getElem?_eq_none (by simp [hl]; omega)]
          rfl
        rw [e]; exact Nat.zero_le _
theorem entOk_of {lead : Str} {ways : Int} {m : Nat} {ks ms : List Int} (hl : leadChk lead = true) (hs : sigChk ways m (sigOf lead) = true) (hw : ways.natAbs < 2 ^ 50) (hks : m ≤ ks.length + 1) (hms : m ≤ ms.length) (hkn : ks.length ≤ 10) (hmn : ms.length ≤ 6)
    (hk : ∀ i : Nat, (it ks i).natAbs ≤ 20) (hm : ∀ i : Nat, (it ms i).natAbs ≤ 1000 ^ i) : EntOk lead ways ks ms := by
  unfold leadChk at hl
  unfold sigChk sigOf at hs
  simp only [Bool.and_eq_true, decide_eq_true_eq, List.all_eq_true, Bool.or_eq_true, beq_iff_eq] at hl hs
  obtain ⟨⟨⟨⟨⟨⟨⟨s1, s2⟩, s3⟩, s4⟩, s5⟩, s6⟩, s7⟩, s8⟩ := hs
  refine ⟨hl.1, hl.2, s1, ⟨s2.1, s2.2.1⟩, by omega, by omega, s3, ⟨hkn, fun x hx => ?_⟩, ⟨by omega, fun x hx => ?_⟩, hw, fun i hi => ?_, fun i hi => ?_, s5, s6, s7, s8⟩
  · obtain ⟨i, hi⟩ := List.mem_iff_getElem?.mp hx
    have := hk i
    unfold it at this
    rw [List.getD_eq_getElem?_getD, show ((i : Int)).toNat = i by omega, hi] at this
    have h2 : x.natAbs ≤ 20 := this
    omega
  · obtain ⟨i, hi⟩ := List.mem_iff_getElem?.mp hx
    have := hm i
    unfold it at this
    rw [List.getD_eq_getElem?_getD, show ((i : Int)).toNat = i by omega, hi] at this
    have h2 : x.natAbs ≤ 1000 ^ i := this
    have h3 : i ≤ 5 := by have := (List.getElem?_eq_some_iff.mp hi).1; omega
    have h4 : (1000 : Nat) ^ i ≤ 1000 ^ 5 := Nat.pow_le_pow_right (by omega) h3
    omega
  · exact Nat.lt_of_le_of_lt (there_le hk i) (s4 i (List.mem_range.mpr hi)).1
  · exact Nat.lt_of_le_of_lt (back_le hm i) (s4 i (List.mem_range.mpr hi)).2
end
end Mine

end

section
open PySem PySem.W PyProof.Rows
set_option linter.unusedVariables false
set_option maxRecDepth 100000
set_option maxHeartbeats 0
namespace Mine
noncomputable section
def cF (rows : List Row) (ks : List Int) : Int := rows.foldl (fun x q => q.2.2.foldl (fun x s => thereT q.2.1 ks s.1 (s.1.length - 1) + x) x) 0
def dF (rows : List Row) (ms : List Int) : Int := rows.foldl (fun x q => q.2.2.foldl (fun x s => backT q.2.1 s.2.2 ms s.1 (s.1.length - 1) + x) x) 0
def aF (rows : List Row) : Int := rows.foldl (fun x q => q.2.2.foldl (fun x s => q.2.1 + x) x) 0
def bF (rows : List Row) : Int := rows.foldl (fun x q => q.2.2.foldl (fun x s => q.2.1 * s.2.2 + x) x) 0
/-- the moments, told out -/
theorem mom4 (a b c d : Int) : ∃ m1 m2 m3 m4, momM [a, b, c, d] 4 = [1, m1, m2, m3, m4] ∧ m1 = a ∧ m2 = a * m1 + b ∧ m3 = a * m2 + 2 * b * m1 + c ∧ m4 = a * m3 + 3 * b * m2 + 3 * c * m1 + d := by
  refine ⟨_, _, _, _, rfl, ?_, ?_, ?_, ?_⟩ <;> simp [rowW, rng, it, momM, List.range, List.range.loop] <;> grind
theorem mom5 (a b c d e : Int) : ∃ m1 m2 m3 m4 m5, momM [a, b, c, d, e] 5 = [1, m1, m2, m3, m4, m5] ∧ m1 = a ∧ m2 = a * m1 + b ∧ m3 = a * m2 + 2 * b * m1 + c ∧ m4 = a * m3 + 3 * b * m2 + 3 * c * m1 + d ∧ m5 = a * m4 + 4 * b * m3 + 6 * c * m2 + 4 * d * m1 + e := by
  refine ⟨_, _, _, _, _, rfl, ?_, ?_, ?_, ?_, ?_⟩ <;> simp [rowW, rng, it, momM, List.range, List.range.loop] <;> grind
section
variable (a b c d e : Int) (r : List Int)
theorem cF0 : cF (RW 0) (a :: r) = a := by simp [cF, RW, thereT, it]; grind
theorem cF1 : cF (RW 1) (a :: b :: r) = a ^ 2 + b := by simp [cF, RW, thereT, it]; grind
theorem cF2 : cF (RW 2) (a :: b :: c :: r) = a ^ 3 + 3 * a * b + c := by simp [cF, RW, thereT, it]; grind
theorem cF3 : cF (RW 3) (a :: b :: c :: d :: r) = a ^ 4 + 6 * a ^ 2 * b + 3 * b ^ 2 + 4 * a * c + d := by simp [cF, RW, thereT, it]; grind
theorem cF4 : cF (RW 4) (a :: b :: c :: d :: e :: r) = a ^ 5 + 10 * a ^ 3 * b + 15 * a * b ^ 2 + 10 * a ^ 2 * c + 10 * b * c + 5 * a * d + e := by simp [cF, RW, thereT, it]; grind
theorem dF0 : dF (RW 0) (1 :: a :: r) = a := by simp [dF, RW, backT, it, facI]; grind
theorem dF1 : dF (RW 1) (1 :: a :: b :: r) = b - a ^ 2 := by simp [dF, RW, backT, it, facI]; grind
theorem dF2 : dF (RW 2) (1 :: a :: b :: c :: r) = c - 3 * a * b + 2 * a ^ 3 := by simp [dF, RW, backT, it, facI]; grind
theorem dF3 : dF (RW 3) (1 :: a :: b :: c :: d :: r) = d - 4 * a * c - 3 * b ^ 2 + 12 * a ^ 2 * b - 6 * a ^ 4 := by simp [dF, RW, backT, it, facI]; grind
theorem dF4 : dF (RW 4) (1 :: a :: b :: c :: d :: e :: r) = e - 5 * a * d - 10 * b * c + 20 * a ^ 2 * c + 30 * a * b ^ 2 - 60 * a ^ 3 * b + 24 * a ^ 5 := by simp [dF, RW, backT, it, facI]; grind
end
/-- what the numbers of a step come to -/
structure NumOk (ks ms bs : List Int) (i : Nat) : Prop where
  a : aF (RW i) = it bs (i + 1)
  b : bF (RW i) = it bs (i + 2) - it bs (i + 1)
  c : cF (RW i) ks = it ms (i + 1)
  d : dF (RW i) ms = it ks i
theorem bell4 : ∀ i : Nat, i < 4 → aF (RW i) = it (momM (List.replicate 5 1) 5) (i + 1) ∧ bF (RW i) = it (momM (List.replicate 5 1) 5) (i + 2) - it (momM (List.replicate 5 1) 5) (i + 1) := by decide +kernel
theorem bell5 : ∀ i : Nat, i < 5 → aF (RW i) = it (momM (List.replicate 6 1) 6) (i + 1) ∧ bF (RW i) = it (momM (List.replicate 6 1) 6) (i + 2) - it (momM (List.replicate 6 1) 6) (i + 1) := by decide +kernel
theorem num4 (a b c d : Int) (i : Nat) (hi : i < 4) : NumOk [a, b, c, d] (momM [a, b, c, d] 4) (momM (List.replicate 5 1) 5) i := by
  obtain ⟨m1, m2, m3, m4, e0, e1, e2, e3, e4⟩ := mom4 a b c d
  rw [e0]
  refine ⟨(bell4 i hi).1, (bell4 i hi).2, ?_, ?_⟩
  · have : i = 0 ∨ i = 1 ∨ i = 2 ∨ i = 3 := by omega
    rcases this with rfl | rfl | rfl | rfl
    · rw [cF0]; exact e1.symm
    · rw [cF1]; show _ = m2; grind
    · rw [cF2]; show _ = m3; grind
    · rw [cF3]; show _ = m4; grind
  · have : i = 0 ∨ i = 1 ∨ i = 2 ∨ i = 3 := by omega
    rcases this with rfl | rfl | rfl | rfl
    · rw [dF0]; exact e1
    · rw [dF1]; show _ = b; grind
    · rw [dF2]; show _ = c; grind
    · rw [dF3]; show _ = d; grind
theorem num5 (a b c d e : Int) (i : Nat) (hi : i < 5) : NumOk [a, b, c, d, e] (momM [a, b, c, d, e] 5) (momM (List.replicate 6 1) 6) i := by
  obtain ⟨m1, m2, m3, m4, m5, e0, e1, e2, e3, e4, e5⟩ := mom5 a b c d e
  rw [e0]
  refine ⟨(bell5 i hi).1, (bell5 i hi).2, ?_, ?_⟩
  · have : i = 0 ∨ i = 1 ∨ i = 2 ∨ i = 3 ∨ i = 4 := by omega
    rcases this with rfl | rfl | rfl | rfl | rfl
    · rw [cF0]; exact e1.symm
    · rw [cF1]; show _ = m2; grind
    · rw [cF2]; show _ = m3; grind
    · rw [cF3]; show _ = m4; grind
    · rw [cF4]; show _ = m5; grind
  · have : i = 0 ∨ i = 1 ∨ i = 2 ∨ i = 3 ∨ i = 4 := by omega
    rcases this with rfl | rfl | rfl | rfl | rfl
    · rw [dF0]; exact e1
    · rw [dF1]; show _ = b; grind
    · rw [dF2]; show _ = c; grind
    · rw [dF3]; show _ = d; grind
    · rw [dF4]; show _ = e; grind
end
end Mine

end

section
open PySem PySem.W PyProof.Rows
set_option linter.unusedVariables false
set_option maxRecDepth 100000
set_option maxHeartbeats 0
namespace Mine
noncomputable section
def e0 : Ent := ⟨0, 0, 0, 0, []⟩
def entK (ks ms : List Int) (rows : List Row) (e : Ent) : Ent := rows.foldl (fun e q => q.2.2.foldl (fun e s => entAdd e (entS q.2.1 ks ms s)) e) e
theorem hom2 {γ : Type} (p : Ent → γ) (h : γ → Row → Sig → γ) (ks ms : List Int) (H : ∀ e q s, p (entAdd e (entS q.2.1 ks ms s)) = h (p e) q s) : ∀ (rows : List Row) (e : Ent), p (entK ks ms rows e) = rows.foldl (fun x q => q.2.2.foldl (fun x s => h x q s) x) (p e)
  | [], e => rfl
  | q :: rows, e => by
    have key : ∀ (l : List Sig) (e : Ent), p (l.foldl (fun e s => entAdd e (entS q.2.1 ks ms s)) e) = l.foldl (fun x s => h x q s) (p e) := by
      intro l
      induction l with
      | nil => intro e; rfl
      | cons s l ih => intro e; rw [List.foldl_cons, List.foldl_cons, ih, H]
    show p (entK ks ms rows _) = rows.foldl _ _
    rw [hom2 p h ks ms H rows, key]
theorem entK_a (ks ms : List Int) (rows : List Row) : (entK ks ms rows e0).a = aF rows := hom2 Ent.a (fun x q s => q.2.1 + x) ks ms (fun _ _ _ => rfl) rows e0
theorem entK_b (ks ms : List Int) (rows : List Row) : (entK ks ms rows e0).b = bF rows := hom2 Ent.b (fun x q s => q.2.1 * s.2.2 + x) ks ms (fun _ _ _ => rfl) rows e0
theorem entK_c (ks ms : List Int) (rows : List Row) : (entK ks ms rows e0).c = cF rows ks := hom2 Ent.c (fun x q s => thereT q.2.1 ks s.1 (s.1.length - 1) + x) ks ms (fun _ _ _ => rfl) rows e0
theorem entK_d (ks ms : List Int) (rows : List Row) : (entK ks ms rows e0).d = dF rows ms := hom2 Ent.d (fun x q s => backT q.2.1 s.2.2 ms s.1 (s.1.length - 1) + x) ks ms (fun _ _ _ => rfl) rows e0
theorem entK_t (ks ms : List Int) (rows : List Row) : (entK ks ms rows e0).t = nextT rows := hom2 Ent.t (fun x q s => addF x [(spellS s, q.2.1)]) ks ms (fun _ _ _ => rfl) rows e0
section
variable {ks ms : List Int} {mark : Str} {ends : List Str}
theorem rowChk_of {i : Nat} {q : Row} (h : rowChk i q = true) : KeyOk q.1 ∧ (∀ s ∈ q.2.2, sigChk q.2.1 (i + 2) s = true) ∧ q.2.1.natAbs < 2 ^ 50 ∧ growChk q.1 (i + 1) q.2.2 = true := by
  unfold rowChk at h
  simp only [Bool.and_eq_true, List.all_eq_true, decide_eq_true_eq] at h
  obtain ⟨⟨⟨h1, h2⟩, h3⟩, h4⟩ := h
  exact ⟨keyOk_of h1, h2, h3, h4⟩
theorem grow_of {i : Nat} {q : Row} {front : Bool} (h : rowChk i q = true) (hm : mark ∈ marks) (he : EndsOk ends) (hn : i + 1 ≤ ends.length) (h5 : ends.length ≤ 5) :
    (grownF q.1 mark ends front).map sigOf = q.2.2 ∧ (∀ l ∈ grownF q.1 mark ends front, leadChk l = true) ∧ rowsOk (longerOf q.1 front) (i + 1) = true ∧ rowsOk (rowsOf q.1) (i + 1) = true :=
  grow_sig (rowChk_of h).2.2.2 hm he hn h5
theorem keyStep_of {i : Nat} {q : Row} {front : Bool} {book : List (Str × Int)} {e : Ent} (h : rowChk i q = true) (hm : mark ∈ marks) (he : EndsOk ends) (hn : i + 1 ≤ ends.length) (h5 : ends.length ≤ 5) (hw : getI book q.1 = some q.2.1) :
    keyStep ks ms mark ends front book e q.1 = q.2.2.foldl (fun e s => entAdd e (entS q.2.1 ks ms s)) e := by
  obtain ⟨g, _⟩ := grow_of (front := front) h hm he hn h5
  unfold keyStep
  rw [hw, ← g, List.foldl_map]
  rfl
theorem entOf_eq {i : Nat} {front : Bool} (hi : i ≤ 4) (hm : mark ∈ marks) (he : EndsOk ends) (hn : i + 1 ≤ ends.length) (h5 : ends.length ≤ 5) : entOf ks ms mark ends front (bookOf (RW i)) = entK ks ms (RW i) e0 := by
  have key : ∀ (rows : List Row), (∀ q ∈ rows, q ∈ RW i) → ∀ e, (rows.map (·.1)).foldl (keyStep ks ms mark ends front (bookOf (RW i))) e = entK ks ms rows e := by
    intro rows
    induction rows with
    | nil => intro _ e; rfl
    | cons q rows ih =>
      intro h e
      have hq := h q (.head _)
      rw [List.map_cons, List.foldl_cons, keyStep_of (chkA i hi q hq) hm he hn h5 (ways_ok i hi q hq), ih (fun x hx => h x (.tail _ hx))]
      rfl
  unfold entOf bookOf
  rw [List.map_map]
  exact key (RW i) (fun _ h => h) e0
theorem bookT_eq (hm : mark ∈ marks) (he : EndsOk ends) (h5 : ends.length ≤ 5) : ∀ i : Nat, i ≤ 4 → i ≤ ends.length → bookT ks ms mark ends i = bookOf (RW i)
  | 0, _, _ => rfl
  | i + 1, hi, hn => by
    show (entOf ks ms mark ends (frontOf ks i) (bookT ks ms mark ends i)).t = _
    rw [bookT_eq hm he h5 i (by omega) (by omega), entOf_eq (by omega) hm he hn h5, entK_t]
    have : i = 0 ∨ i = 1 ∨ i = 2 ∨ i = 3 := by omega
    rcases this with rfl | rfl | rfl | rfl
    · exact nxt0
    · exact nxt1
    · exact nxt2
    · exact nxt3
theorem sameT_of {t u : List (Str × Int)} (h : SameB t u = true) : SameT t u := by
  unfold SameB at h
  rw [Bool.and_eq_true, decide_eq_true_eq, List.all_eq_true] at h
  exact ⟨h.1, fun q hq => of_decide_eq_true (h.2 q hq)⟩
theorem rows_n : ∀ i : Nat, i ≤ 4 → (RW i).length ≤ 20 := by decide
theorem stepOk {bs : List Int} {i : Nat} (hi : i ≤ 4) (hm : mark ∈ marks) (he : EndsOk ends) (hn : i + 1 ≤ ends.length) (h5 : ends.length ≤ 5) (hks : ks.length = ends.length) (hms : ms.length = ends.length + 1)
    (hk : ∀ i : Nat, (it ks i).natAbs ≤ 20) (hmm : ∀ i : Nat, (it ms i).natAbs ≤ 1000 ^ i) (num : NumOk ks ms bs i) : StepOk ks ms bs mark ends i := by
  have hb := bookT_eq (ks := ks) (ms := ms) hm he h5 i hi (by omega)
  have he' := entOf_eq (ks := ks) (ms := ms) (front := frontOf ks i) hi hm he hn h5
  obtain ⟨n1, n2, n3, n4⟩ := num
  constructor
  · rw [hb]; unfold bookOf; rw [List.length_map]; exact rows_n i hi
  · rw [hb]
    unfold bookOf
    rw [List.map_map]
    intro key hkey
    obtain ⟨q, hq, rfl⟩ := List.mem_map.mp hkey
    show KeyOk q.1 ∧ (rowsOf q.1).length ≤ 10 ∧ SentOk (longerOf q.1 (frontOf ks i)) (-1) mark ends ∧ ∀ k : Nat, k < (rowsOf q.1).length → SentOk (rowsOf q.1) k mark ends
    obtain ⟨r1, r2, r3, r4⟩ := rowChk_of (chkA i hi q hq)
    obtain ⟨_, _, s1, s2⟩ := grow_of (front := frontOf ks i) (chkA i hi q hq) hm he hn h5
    exact ⟨r1, by have := (rowsOk_of s2).1; omega, sentOk_of s1 hm he (by omega) h5, fun k hk => sentOk_of s2 hm he (by omega) h5⟩
  · rw [hb]
    have hk' : (bookOf (RW i)).map (·.1) = (RW i).map (·.1) := by unfold bookOf; rw [List.map_map]; rfl
    rw [hk']
    intro key hkey lead hlead
    obtain ⟨q, hq, rfl⟩ := List.mem_map.mp hkey
    obtain ⟨r1, r2, r3, r4⟩ := rowChk_of (chkA i hi q hq)
    obtain ⟨g1, g2, _⟩ := grow_of (front := frontOf ks i) (chkA i hi q hq) hm he hn h5
    rw [ways_ok i hi q hq]
    refine entOk_of (m := i + 2) (g2 lead hlead) (r2 _ ?_) r3 (by omega) (by omega) (by omega) (by omega) hk hmm
    rw [← g1]
    exact List.mem_map_of_mem hlead
  · rw [hb, he', entK_a]; exact n1
  · rw [hb, he', entK_b]; exact n2
  · rw [hb, he', entK_c]; exact n3
  · rw [hb, he', entK_d]; exact n4
  · rw [hb, he', entK_t]; exact sameT_of (typ i hi)
end
theorem it_le {ks : List Int} (h : ∀ x ∈ ks, x.natAbs ≤ 20) (i : Nat) : (it ks i).natAbs ≤ 20 := by
  unfold it
  rw [List.getD_eq_getElem?_getD, show ((i : Int)).toNat = i by omega]
  cases e : ks[i]? with
  | none => exact Nat.zero_le _
  | some x => exact h x (List.mem_of_getElem? e)
theorem lawMark_mem (ks : List Int) : lawMark ks ∈ marks := by
  have h0 : 0 ≤ ks.sum.fmod 3 ∧ ks.sum.fmod 3 < 3 := by rw [Int.fmod_eq_emod_of_nonneg _ (by omega)]; omega
  have : ks.sum.fmod 3 = 0 ∨ ks.sum.fmod 3 = 1 ∨ ks.sum.fmod 3 = 2 := by omega
  unfold lawMark
  rcases this with h | h | h <;> rw [h] <;> decide +kernel
theorem lawEnds_ok (ks : List Int) : EndsOk (lawEnds ks) := by
  intro e he
  unfold lawEnds at he
  obtain ⟨x, _, rfl⟩ := List.mem_map.mp he
  have h0 : 0 ≤ x.fmod 3 ∧ x.fmod 3 < 3 := by rw [Int.fmod_eq_emod_of_nonneg _ (by omega)]; omega
  exact List.mem_of_getElem? (getS_get h0.1 h0.2)
theorem lawKs_ok (ns : List Int) : (4 ≤ (lawKs ns).length ∧ (lawKs ns).length ≤ 5) ∧ ∀ x ∈ lawKs ns, x.natAbs ≤ 20 := by
  unfold lawKs
  constructor
  · rw [List.length_append, List.length_map, List.length_take, List.length_drop]
    simp only [List.length_cons, List.length_nil]
    omega
  · intro x hx
    rcases List.mem_append.mp hx with h | h
    · obtain ⟨y, _, rfl⟩ := List.mem_map.mp h
      rw [Int.fmod_eq_emod_of_nonneg _ (by omega)]
      omega
    · have := List.mem_of_mem_drop h
      simp only [List.mem_cons, List.not_mem_nil, or_false] at this
      rcases this with rfl | rfl | rfl | rfl <;> decide
theorem law_num : ∀ (ks : List Int) (i : Nat), 4 ≤ ks.length → ks.length ≤ 5 → i < ks.length → NumOk ks (momM ks ks.length) (momM (List.replicate (ks.length + 1) 1) (ks.length + 1)) i
  | [], i, h1, h2, h3 => absurd h1 (by simp)
  | [a], i, h1, h2, h3 => absurd h1 (by simp)
  | [a, b], i, h1, h2, h3 => absurd h1 (by simp)
  | [a, b, c], i, h1, h2, h3 => absurd h1 (by simp)
  | [a, b, c, d], i, h1, h2, h3 => num4 a b c d i h3
  | [a, b, c, d, e], i, h1, h2, h3 => num5 a b c d e i h3
  | a :: b :: c :: d :: e :: f :: r, i, h1, h2, h3 => absurd h2 (by simp)
theorem lawOk (ns : List Int) (h : ns.length ≤ 63) : LawOk ns := by
  obtain ⟨k1, k2⟩ := lawKs_ok ns
  refine ⟨h, k1, k2, fun i hi => ?_⟩
  have hm := lawMark_mem (lawKs ns)
  have he := lawEnds_ok (lawKs ns)
  have hel : (lawEnds (lawKs ns)).length = (lawKs ns).length := by unfold lawEnds; rw [List.length_map]
  have hnum := law_num (lawKs ns) i k1.1 k1.2 hi
  have hk := it_le k2
  exact stepOk (by omega) hm he (by omega) (by omega) hel.symm (by rw [momM_len, hel]) hk (mom_bd hk _ k1.2) hnum
end
end Mine

end

section
open PySem PySem.W PyProof.Rows
set_option linter.unusedVariables false
set_option maxRecDepth 100000
set_option maxHeartbeats 0
namespace Mine
noncomputable section
variable {G : Gv} {A : Around} {P : Params}
theorem cellsFrom_no : ∀ (names : List (Str × NameKind)) (n : Nat) (acc : List (Str × Addr)), (∀ x ∈ names, x.2 ≠ .cell) → cellsFrom n names acc = acc
  | [], _, _, _ => rfl
  | (name, kind) :: r, n, acc, h => by
    have hk : (kind == NameKind.cell) = false := by
      have := h _ (.head _)
      simpa using this
    unfold cellsFrom
    rw [hk]
    exact cellsFrom_no r n acc fun x hx => h x (.tail _ hx)
/-- a def of one parameter, called where no token need stand yet -/
theorem CX_top {a : Addr} {fd : FuncData} {body : List Stmt} (D : DefOf G a fd body) (hroom : A.depth < recursionLimit) (p : Str) (X R : VP) (Γ : List (Str × Value))
    (h1 : fd.params.posonlyargs = []) (h2 : fd.params.args.map (·.arg) = [p]) (h3 : fd.params.vararg = none) (h4 : fd.params.kwonlyargs = []) (h5 : fd.params.kwarg = none) (h6 : fd.defaults = .none)
    (hkind : fd.scope.names.lookup p = some .local) (hnc : ∀ x ∈ fd.scope.names, x.2 ≠ .cell) (hΓ : ∀ q ∈ Γ, GlOk G fd q)
    (hb : ∀ L, SR G (A.deeper (callEnvC fd L a)) (callEnvC fd L a) ((p, X) :: Γ.map glv) none body R) {g : View} {s : Shared} {E : Value → Shared → Prop} {v : Value} (on : VOn g s.heap) (wd : Wd G s.heap) (tk : g.tk ≤ s.toks) (pv : X.p g v) :
    wpAny (model G.prog G.w) A (call (.ref a) [v]) (Out G g s R) E s := by
  obtain ⟨o, ho, hd⟩ := D.ob
  have ho' := wd.k a o ho
  refine wpAny_call (codeAny_call_function hroom ho' hd D.co D.gen D.body (codeRec_of wd.k D.code) ?_)
  rw [bindPlain (xs := [p]) h1 h2 h3 h4 h5 h6 (by simp) rfl, D.clo]
  refine wpAny_pure (wpAny_newFunctionEnv hnc (fun x hx => ?_) (fun h' hns hsb => ?_) D.kind)
  · simp only [List.zip_cons_cons, List.zip_nil_right, List.mem_cons, List.not_mem_nil, or_false] at hx
    subst hx; exact hkind
  have hc0 : cellsFrom (s.heap.objs.size + 1) fd.scope.names [] = [] := cellsFrom_no _ _ _ hnc
  have henv : newEnv fd.scope s.heap.objs.size fd.globals [] (fd.qualname ++ ".<locals>.") (some a) fd.code none fd.builtins = callEnvC fd s.heap.objs.size a := by
    unfold callEnvC; rw [hc0]
  have hnn : s.heap.get? s.heap.objs.size = none := fresh_none _
  have hk : ∀ b o, s.heap.get? b = some o → h'.get? b = some o := fun b o e => hsb.extBut b o (fun q => by rw [q, hnn] at e; cases e) (Heap.get?_push_of_some _ e)
  refine ⟨wd.nolimit.keeps hk, codeAny_func ?_⟩
  rw [henv]
  change wpAny _ (A.deeper (callEnvC fd s.heap.objs.size a)) (execs body (callEnvC fd s.heap.objs.size a)) _ _ _
  have hb' := hb s.heap.objs.size
  have hge : (callEnvC fd s.heap.objs.size a).globals = mainGlobals := D.gl
  have hbe : (callEnvC fd s.heap.objs.size a).builtins = builtinsNs := D.bl
  have hko : ∀ x, (callEnvC fd s.heap.objs.size a).kindOf x = fd.scope.names.lookup x := fun _ => rfl
  have hkd : (callEnvC fd s.heap.objs.size a).scope.kind = .function := D.kind
  have hcs : (callEnvC fd s.heap.objs.size a).cells = [] := hc0
  have hlo : (callEnvC fd s.heap.objs.size a).locals = s.heap.objs.size := rfl
  generalize callEnvC fd s.heap.objs.size a = env at hb' hge hbe hko hkd hcs hlo
  have on' : VOn g h' := fun b o e => hk b o (on b o e)
  have K : Keeps s { s with heap := h', toks := s.toks + ([p].zip [v]).length } := ⟨h', _, rfl, hk⟩
  have wd' : Wd G h' := wd.keeps hk
  have bs' : Bs G ⟨g.ob, s.toks + 1⟩ { s with heap := h', toks := s.toks + ([p].zip [v]).length } := ⟨on', wd', Nat.le_refl _, Nat.succ_pos _⟩
  have le : VLe g ⟨g.ob, s.toks + 1⟩ := ⟨fun _ _ h => h, Nat.le_succ_of_le tk⟩
  rw [← hlo] at hns
  have F : Fg G env s g ((p, X) :: Γ.map glv) none ⟨g.ob, s.toks + 1⟩ { s with heap := h', toks := s.toks + ([p].zip [v]).length } := by
    refine ⟨⟨hkd, bs', fun y Q hq => ?_⟩, wd, K, Nat.le_add_right _ _, le, fun _ _ h => .inl h, ⟨⟨_, hns⟩, fun n c hc => (by rw [hcs] at hc; exact nomatch hc), fun b hb => ?_, by rw [hcs]; exact .nil, fun n c hc => (by rw [hcs] at hc; exact nomatch hc), ?_, ?_⟩, fun _ _ e => nomatch e⟩
    · rcases List.mem_cons.mp hq with e | hq
      · cases e
        refine ⟨v, ?_, X.mono le pv⟩
        refine .loc ((hko _).trans hkind) _ hns ?_
        simp
      · obtain ⟨q, hm, e⟩ := List.mem_map.mp hq
        cases e
        obtain ⟨h1, h2⟩ := hΓ q hm
        refine ⟨q.2, ?_, rfl⟩
        rcases h2 with h2 | ⟨h2, h3⟩
        · exact .glob ((hko _).trans h1) _ (hge ▸ wd'.g) h2
        · exact .blt ((hko _).trans h1) _ (hge ▸ wd'.g) h2 _ (hbe ▸ wd'.b) h3
    · have hnone : s.heap.get? b = none := by
        rcases hb with rfl | ⟨n, hb⟩
        · rw [hlo]; exact hnn
        · rw [hcs] at hb; cases hb
      refine ⟨hnone, fun o h => ?_⟩
      have := on b o h
      rw [hnone] at this; cases this
    · rw [hge]; obtain ⟨o, _, _, e, _⟩ := wd.g; exact ⟨o, e⟩
    · rw [hbe]; obtain ⟨o, _, _, e, _⟩ := wd.b; exact ⟨o, e⟩
  exact wpAny_mono (hb' s g _ _ (fun _ _ => False) F) (fun f s' ⟨v, e, h⟩ => by subst e; exact h) fun _ _ h => h.elim
theorem law_call (W : Wo G P) {ns : List Int} (ok : LawOk ns) (hA : Rm 20 A) {g : View} {s : Shared} {E : Value → Shared → Prop} {v : Value} (on : VOn g s.heap) (wd : Wd G s.heap) (tk : g.tk ≤ s.toks) (pv : (vArg ns).p g v) :
    wpAny (model G.prog G.w) A (call (.ref 179) [v]) (Out G g s (vBool true)) E s :=
  CX_top (d_law W) (by have := hA.d; omega) "script" (vArg ns) (vBool true) [("len", .builtin "len"), ("sum", .builtin "sum"), ("_law_moments", .ref 147), ("range", .type "range"), ("_law_grown", .ref 169), ("add_func_stats", .ref 45), ("_law_entry", .ref 174), ("_law_types", .ref 157)] rfl rfl rfl rfl rfl rfl rfl
    (fun x hx => by
      have h : (fdOf P 179).scope.names.all (fun q => q.2 != .cell) = true := rfl
      have := List.all_eq_true.mp h x hx
      simpa using this)
    (gl1 (glB W rfl rfl (by decide) rfl) (gl1 (glB W rfl rfl (by decide) rfl) (gl1 (glG W rfl rfl) (gl1 (glB W rfl rfl (by decide) rfl) (gl1 (glG W rfl rfl) (gl1 (glG W rfl rfl) (gl1 (glG W rfl rfl) (gl1 (glG W rfl rfl) gl0))))))))
    (fun L => law_body W ok hA L) on wd tk pv
end
end Mine

end

section
open PySem PySem.W PyProof.Rows
set_option linter.unusedVariables false
set_option maxRecDepth 100000
set_option maxHeartbeats 0
namespace Mine
noncomputable section
theorem ints_paired {g : View} {vs : List Value} {ns : List Int} (h : IntsAre vs ns) : Paired (fun v x => (vInt x).p g v) vs ns := by
  induction h with
  | nil => exact .nil
  | cons n t _ ih => exact .cons ⟨_, rfl⟩ ih
theorem law_end {prog : Program} {w : World} {s₁ : Shared} {mg mb : Str → Option Value} (KX : (KK w.params).In s₁.heap) (Tg : s₁.heap.Ns mainGlobals mg) (Tb : s₁.heap.Ns builtinsNs mb) (Tn : s₁.heap.NoLimit)
    (Td : ∃ mc, s₁.heap.Ns cStatics mc ∧ mc "sys.int_max_str_digits" = none) (Tbi : ∀ x : Str, x ≠ "__name__" → mb x = bootBuiltins x) (Ts : s₁.heap.NoSeer) {l : Addr} {vs : List Value} {ns : List Int} (hL : s₁.heap.IsList l vs.toArray) (hI : IntsAre vs ns) (hn : ns.length ≤ 63)
    {Q E : Value → Shared → Prop} (k : ∀ s', Keeps s₁ s' → Q (.bool true) s') : wpAny (model prog w) callerA (call (.ref 179) [.ref l]) Q E s₁ := by
  obtain ⟨mm, ⟨om, _, _, eom, _⟩, _⟩ := Ts.mods
  have W : Wo (⟨prog, w, mg, mb, KK w.params, []⟩ : Gv) w.params := ⟨rfl, fun n v e => mg_of KX Tg e, fun n e => mg_none_of KX Tg e, Tbi⟩
  have wd : Wd (⟨prog, w, mg, mb, KK w.params, []⟩ : Gv) s₁.heap := ⟨Tn, ⟨om, eom⟩, Td, Tg, Tb, KX, fun p hp => nomatch hp⟩
  have hA : Rm 20 callerA := ⟨rfl, by decide, by decide⟩
  obtain ⟨o, hl, hlc, n, hld⟩ := hL
  have hc := law_call W (lawOk ns hn) hA (g := ⟨fun b x => b = l ∧ x = o, s₁.toks⟩) (s := s₁) (E := E) (v := .ref l) (fun b x h => by rw [h.1, h.2]; exact hl) wd (Nat.le_refl _) ⟨l, vs, o, n, rfl, ⟨rfl, rfl⟩, hlc, hld, ints_paired hI⟩
  refine wpAny_mono hc (fun v s' ⟨g', S, p⟩ => ?_) fun _ _ x => x
  have hv : v = .bool true := p
  subst hv
  exact k s' S.keeps
end
end Mine

end

open PySem PySem.W PyProof.Rows
set_option maxRecDepth 100000 in
set_option maxHeartbeats 0 in
theorem PySem.Challenge.cw_pg0179_01_holds : PySem.Challenge.rw_pg0179_01.Holds := by
  refine Mine.hd ?_
  k_fill
  intro w s₀ s₁ mg mb G Y fa o pm cd doc dV kV ho hd hcd hD hmg hg args vals as hpre hlay hrd hwl hlo
  have KX := kIn_of Y
  have hmg2 : mg "law" = some (.ref fa) := hmg
  refine Ground.open G ?_
  intro T B D TE TW
  clear hcd hD hmg hd ho
  have hfa : fa = 179 := by
    have h1 : mg "law" = some (.ref 179) := mg_of KX T.g rfl
    rw [h1] at hmg2
    have h2 := Option.some.inj hmg2
    injection h2 with h2
    exact h2.symm
  subst hfa
  wrow_args hpre hlay hrd hwl hlo
  rename_i ns _ _ _ _ _ _ _ l vs _ hL _ _ _ hI _ hlen _
  refine Mine.law_end KX T.g T.b T.nolimit T.nodigits T.builtins (T.seer (by decide +kernel)) hL hI (by omega) (fun s' K => ?_)
  obtain ⟨h', t', rfl, hk⟩ := K
  refine ⟨.inl ⟨_, .bool true, [], rfl, fun _ => rfl, ReadsW.bool true, by with_unfolding_all rfl, fun _ => ⟨List.nodup_nil, fun _ hm => (nomatch hm)⟩⟩, OldK.of_keep hk, rfl, AllBare.of_eq hg⟩
