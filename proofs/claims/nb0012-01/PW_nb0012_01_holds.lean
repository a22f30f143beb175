import PyProof.Rows.All
import Wide.All
import OpenK.AllK
import Wide.FinOn
import Lean
import PySem.Challenge.RW_nb0012_01
open PySem PySem.W PyProof.Rows PySem.Calls
set_option Elab.async false
set_option maxRecDepth 100000
set_option linter.unusedVariables false

namespace Mine

/-- plain data -/
inductive D where
  | none
  | bool (b : Bool)
  | int (i : Int)
  | str (x : Str)
  | tup (ds : List D)
  | lst (ds : List D)
  | tab (kvs : List (Str × Int))
  | own (a : Addr)

/-- an object that is a dict of strs to ints, as said -/
def TabO (prog : Program) (w : World) (kvs : List (Str × Int)) (o : Obj) : Prop :=
  ∃ es ep, o.ExactDict ∧ o.data = .dict es ep ∧ KeysOf (strKind prog w) es ∧ ∀ k i, kvs.lookup k = some i → ∃ t, findBy (strKind prog w).is es k = some (.int i t)

mutual
inductive Rp (prog : Program) (w : World) (G : Addr → Obj → Prop) : Value → D → Prop
  | none : Rp prog w G Value.none D.none
  | bool (b : Bool) : Rp prog w G (Value.bool b) (D.bool b)
  | int (i : Int) (t : Tok) : Rp prog w G (Value.int i t) (D.int i)
  | str (x : Str) (t : Tok) : Rp prog w G (Value.str x t) (D.str x)
  | tup {a : Addr} {o : Obj} {vs : Array Value} {n : Nat} {ds : List D} : G a o → o.cls = .type "tuple" → o.data = .seq vs n → RpA prog w G vs.toList ds → Rp prog w G (Value.ref a) (D.tup ds)
  | lst {a : Addr} {o : Obj} {vs : Array Value} {n : Nat} {ds : List D} : G a o → o.cls = .type "list" → o.data = .seq vs n → RpA prog w G vs.toList ds → Rp prog w G (Value.ref a) (D.lst ds)
  | tab {a : Addr} {o : Obj} {kvs : List (Str × Int)} : G a o → TabO prog w kvs o → Rp prog w G (Value.ref a) (D.tab kvs)
  | own (a : Addr) : Rp prog w G (Value.ref a) (D.own a)
inductive RpA (prog : Program) (w : World) (G : Addr → Obj → Prop) : List Value → List D → Prop
  | nil : RpA prog w G [] []
  | cons {v : Value} {vs : List Value} {d : D} {ds : List D} : Rp prog w G v d → RpA prog w G vs ds → RpA prog w G (v :: vs) (d :: ds)
end

section
variable {prog : Program} {w : World}
mutual
theorem Rp.mono {G G' : Addr → Obj → Prop} (hs : ∀ a o, G a o → G' a o) : ∀ {v : Value} {d : D}, Rp prog w G v d → Rp prog w G' v d
  | _, _, .none => .none
  | _, _, .bool b => .bool b
  | _, _, .int i t => .int i t
  | _, _, .str x t => .str x t
  | _, _, .tup h c d r => .tup (hs _ _ h) c d (RpA.mono hs r)
  | _, _, .lst h c d r => .lst (hs _ _ h) c d (RpA.mono hs r)
  | _, _, .tab h t => .tab (hs _ _ h) t
  | _, _, .own a => .own a
theorem RpA.mono {G G' : Addr → Obj → Prop} (hs : ∀ a o, G a o → G' a o) : ∀ {vs : List Value} {ds : List D}, RpA prog w G vs ds → RpA prog w G' vs ds
  | _, _, .nil => .nil
  | _, _, .cons h r => .cons (Rp.mono hs h) (RpA.mono hs r)
end
variable {G : Addr → Obj → Prop}
theorem RpA.length {vs : List Value} {ds : List D} (h : RpA prog w G vs ds) : vs.length = ds.length := by
  induction vs generalizing ds with
  | nil => cases h; rfl
  | cons v vs ih => cases h with | cons _ r => rw [List.length_cons, List.length_cons, ih r]
theorem RpA.append {vs ws : List Value} {ds es : List D} (h : RpA prog w G vs ds) (k : RpA prog w G ws es) : RpA prog w G (vs ++ ws) (ds ++ es) := by
  induction vs generalizing ds with
  | nil => cases h; exact k
  | cons v vs ih => cases h with | cons h r => exact .cons h (ih r)
theorem RpA.get {vs : List Value} {ds : List D} (h : RpA prog w G vs ds) : ∀ {k : Nat} {d : D}, ds[k]? = some d → ∃ v, vs[k]? = some v ∧ Rp prog w G v d := by
  induction vs generalizing ds with
  | nil => intro k d hk; cases h; simp at hk
  | cons v vs ih =>
    intro k d hk
    cases h with
    | cons h r =>
      cases k with
      | zero => simp at hk; subst hk; exact ⟨v, rfl, h⟩
      | succ k => exact ih r (by simpa using hk)
theorem RpA.drop {vs : List Value} {ds : List D} (h : RpA prog w G vs ds) : ∀ k, RpA prog w G (vs.drop k) (ds.drop k) := by
  induction vs generalizing ds with
  | nil => intro k; cases h; simpa using RpA.nil
  | cons v vs ih =>
    intro k
    cases h with
    | cons h r => cases k with
      | zero => exact .cons h r
      | succ k => exact ih r k
theorem RpA.take {vs : List Value} {ds : List D} (h : RpA prog w G vs ds) : ∀ k, RpA prog w G (vs.take k) (ds.take k) := by
  induction vs generalizing ds with
  | nil => intro k; cases h; simpa using RpA.nil
  | cons v vs ih =>
    intro k
    cases h with
    | cons h r => cases k with
      | zero => exact .nil
      | succ k => exact .cons h (ih r k)
end

/-- the frozen part of a heap: what stands there, off X -/
def Gd (h : Heap) (X : Addr → Prop) (a : Addr) (o : Obj) : Prop := h.get? a = some o ∧ ¬ X a

section
variable {prog : Program} {w : World} {h h' : Heap} {X X' : Addr → Prop} {v : Value} {d : D}
theorem Rp.keeps (r : Rp prog w (Gd h X) v d) (hk : ∀ b o, h.get? b = some o → h'.get? b = some o) : Rp prog w (Gd h' X) v d :=
  r.mono fun a o g => ⟨hk a o g.1, g.2⟩
theorem RpA.keeps {vs : List Value} {ds : List D} (r : RpA prog w (Gd h X) vs ds) (hk : ∀ b o, h.get? b = some o → h'.get? b = some o) : RpA prog w (Gd h' X) vs ds :=
  r.mono fun a o g => ⟨hk a o g.1, g.2⟩
theorem Rp.but {p : Addr} (r : Rp prog w (Gd h X) v d) (hs : Heap.SameBut p h h') (hp : X p) : Rp prog w (Gd h' X) v d :=
  r.mono fun a o g => ⟨(hs.2 a fun e => g.2 (e ▸ hp)).trans g.1, g.2⟩
theorem RpA.but {p : Addr} {vs : List Value} {ds : List D} (r : RpA prog w (Gd h X) vs ds) (hs : Heap.SameBut p h h') (hp : X p) : RpA prog w (Gd h' X) vs ds :=
  r.mono fun a o g => ⟨(hs.2 a fun e => g.2 (e ▸ hp)).trans g.1, g.2⟩
theorem Rp.off (r : Rp prog w (Gd h X) v d) (hs : ∀ a, X' a → X a) : Rp prog w (Gd h X') v d :=
  r.mono fun _ _ g => ⟨g.1, fun x => g.2 (hs _ x)⟩
end

/-- lists, tuples, dicts -/
def DataC (o : Obj) : Prop := o.cls = .type "list" ∨ o.cls = .type "tuple" ∨ o.cls = .type "dict"
mutual
theorem Rp.monoC {prog : Program} {w : World} {G G' : Addr → Obj → Prop} (hs : ∀ a o, DataC o → G a o → G' a o) : ∀ {v : Value} {d : D}, Rp prog w G v d → Rp prog w G' v d
  | _, _, .none => .none
  | _, _, .bool b => .bool b
  | _, _, .int i t => .int i t
  | _, _, .str x t => .str x t
  | _, _, .tup h c d r => .tup (hs _ _ (.inr (.inl c)) h) c d (RpA.monoC hs r)
  | _, _, .lst h c d r => .lst (hs _ _ (.inl c) h) c d (RpA.monoC hs r)
  | _, _, .tab h t => .tab (hs _ _ (.inr (.inr (let ⟨_, _, e, _⟩ := t; e.1))) h) t
  | _, _, .own a => .own a
theorem RpA.monoC {prog : Program} {w : World} {G G' : Addr → Obj → Prop} (hs : ∀ a o, DataC o → G a o → G' a o) : ∀ {vs : List Value} {ds : List D}, RpA prog w G vs ds → RpA prog w G' vs ds
  | _, _, .nil => .nil
  | _, _, .cons h r => .cons (Rp.monoC hs h) (RpA.monoC hs r)
end

/-- the defs of the text, by their place -/
def fnAt (k : Nat) : Option (Str × Arguments × List Stmt × Scope) :=
  match PySem.Challenge.pw_nb0012_01.main.body[k]? with
  | some (.FunctionDef n a b _ _ _ sc _ _ _) => some (n, a, b, sc)
  | _ => none

/-- the globals, as the call sees them -/
def GlbM (mg mb : Str → Option Value) (h : Heap) : Prop :=
  h.Ns mainGlobals mg ∧ h.Ns builtinsNs mb ∧ h.NoLimit ∧
  (∀ x ∈ (["len", "sum", "min", "range", "enumerate"] : List Str), mg x = none ∧ mb x = bootBuiltins x) ∧
  ∀ k n p b sc, fnAt k = some (n, p, b, sc) → ∃ a o pm code doc, mg n = some (.ref a) ∧ h.get? a = some o ∧ o.data = .func (docDef n p b sc pm code doc) ∧ h.CodeRec code n
def Glb (h : Heap) : Prop := ∃ mg mb, GlbM mg mb h
theorem Glb.keeps {h h' : Heap} (g : Glb h) (hk : ∀ b o, h.get? b = some o → h'.get? b = some o) : Glb h' := by
  obtain ⟨mg, mb, a, b, c, d, e⟩ := g
  refine ⟨mg, mb, a.keeps hk, b.keeps hk, c.keeps hk, d, fun k n p b sc hf => ?_⟩
  obtain ⟨a, o, pm, code, doc, h1, h2, h3, h4⟩ := e k n p b sc hf
  exact ⟨a, o, pm, code, doc, h1, hk _ _ h2, h3, h4.keeps hk⟩

/-- name x stands for v -/
def Has (env : Env) (h : Heap) (x : Str) (v : Value) : Prop :=
  (env.kindOf x = some .local ∧ ∃ m, h.Ns env.locals m ∧ m x = some v) ∨ (env.kindOf x = some .cell ∧ ∃ c, env.cells.lookup x = some c ∧ h.IsCell c (some v))
theorem Has.keeps {env : Env} {h h' : Heap} {x : Str} {v : Value} (g : Has env h x v) (hk : ∀ b o, h.get? b = some o → h'.get? b = some o) : Has env h' x v := by
  rcases g with ⟨a, m, b, c⟩ | ⟨a, m, b, c⟩
  · exact .inl ⟨a, m, b.keeps hk, c⟩
  · exact .inr ⟨a, m, b, c.keeps hk⟩

structure St (prog : Program) (w : World) (env : Env) (X : Addr → Prop) (c : Str → Option D) (s : Shared) : Prop where
  fn : env.scope.kind = .function
  gl : env.globals = mainGlobals ∧ env.builtins = builtinsNs
  glb : Glb s.heap
  xb : ∀ a, X a → ∃ o, s.heap.get? a = some o
  vars : ∀ x d, c x = some d → ∃ v, Has env s.heap x v ∧ Rp prog w (Gd s.heap X) v d
  cex : ∀ x a, env.cells.lookup x = some a → ∃ o, s.heap.get? a = some o

theorem keeps_refl (s : Shared) : Keeps s s := ⟨_, _, rfl, fun _ _ e => e⟩
theorem keeps_tok (s : Shared) (t : Nat) : Keeps s { s with toks := t } := ⟨_, _, rfl, fun _ _ e => e⟩
theorem keeps_heap {s : Shared} {h : Heap} {t : Nat} (hk : ∀ b o, s.heap.get? b = some o → h.get? b = some o) : Keeps s { s with heap := h, toks := t } := ⟨_, _, rfl, hk⟩
theorem keeps_push (s : Shared) (o : Obj) : Keeps s { s with heap := s.heap.push o } := ⟨_, _, rfl, fun _ _ e => Heap.get?_push_of_some _ e⟩
theorem keeps_trans {a b c : Shared} (x : Keeps a b) (y : Keeps b c) : Keeps a c := by
  obtain ⟨h, t, rfl, k⟩ := x
  obtain ⟨h', t', rfl, k'⟩ := y
  exact ⟨h', t', rfl, fun b o e => k' b o (k b o e)⟩
theorem keeps_get {a b : Shared} (x : Keeps a b) : ∀ p o, a.heap.get? p = some o → b.heap.get? p = some o := by
  obtain ⟨h, t, rfl, k⟩ := x; exact k

/-- no starred expression -/
def notStar : Expr → Bool
  | .Starred .. => false
  | _ => true
theorem starEach_cons {e : Expr} {es : List Expr} {env : Env} (h : notStar e = true) : starEach (e :: es) env = (false, eval e env) :: starEach es env := by
  cases e <;> first | (simp [notStar] at h; done) | (simp only [starEach])
theorem starEach_one {e : Expr} {env : Env} (h : notStar e = true) : starEach [e] env = [(false, eval e env)] := by
  rw [starEach_cons h, starEach]

section
variable {prog : Program} {w : World} {A : Around} {env : Env} {X : Addr → Prop} {c : Str → Option D}
theorem St.keeps {s s' : Shared} (x : St prog w env X c s) (k : Keeps s s') : St prog w env X c s' where
  fn := x.fn
  gl := x.gl
  glb := x.glb.keeps (keeps_get k)
  xb := fun a h => let ⟨o, e⟩ := x.xb a h; ⟨o, keeps_get k _ _ e⟩
  vars := fun y d h => let ⟨v, a, b⟩ := x.vars y d h; ⟨v, a.keeps (keeps_get k), b.keeps (keeps_get k)⟩
  cex := fun y a h => let ⟨o, e⟩ := x.cex y a h; ⟨o, keeps_get k _ _ e⟩

/-- room for n more frames -/
def Rm (n : Nat) (A : Around) : Prop := A.handled = none ∧ A.depth + n < recursionLimit ∧ A.units + 8 * n + 200 < cLine

def Gives (prog : Program) (w : World) (X : Addr → Prop) (s : Shared) (d : D) (v : Value) (s' : Shared) : Prop := Keeps s s' ∧ Rp prog w (Gd s'.heap X) v d

/-- an expression gives a datum -/
structure Ev (prog : Program) (w : World) (A : Around) (env : Env) (X : Addr → Prop) (c : Str → Option D) (e : Expr) (d : D) : Prop where
  run : ∀ s E, St prog w env X c s → wpAny (model prog w) A (eval e env) (Gives prog w X s d) E s
/-- a tree, closed to Lean's eyes -/
structure WP {α : Type} (prog : Program) (w : World) (A : Around) (t : Sem α) (Q : α → Shared → Prop) (E : Value → Shared → Prop) (s : Shared) : Prop where
  out : wpAny (model prog w) A t Q E s

theorem ev_name {x : Str} {pos : Pos} {d : D} (hc : c x = some d) (hd : (x == ("__debug__" : Str)) = false := by decide) : Ev prog w A env X c (.Name x pos) d := by
  refine ⟨fun s E S => ?_⟩
  obtain ⟨v, h, r⟩ := S.vars x d hc
  rcases h with ⟨hk, m, hn, hm⟩ | ⟨hk, q, hq, hv⟩
  · exact wpAny_Name (wpAny_loadName_local S.fn hk hn hm ⟨keeps_refl s, r⟩) hd
  · exact wpAny_Name (wpAny_loadName_cell S.fn hk hq hv ⟨keeps_refl s, r⟩) hd
theorem ev_int {i : Int} {k : Nat} {pos : Pos} : Ev prog w A env X c (.Constant (.int i) k pos) (.int i) := ⟨fun s _ _ => wpAny_Constant_int ⟨keeps_tok _ _, .int _ _⟩⟩
theorem ev_str {x : Str} {k : Nat} {pos : Pos} : Ev prog w A env X c (.Constant (.str x) k pos) (.str x) := ⟨fun s _ _ => wpAny_Constant_str ⟨keeps_tok _ _, .str _ _⟩⟩

/-- two values held, the second's making keeps the first -/
def Op2 (prog : Program) (w : World) (A : Around) (X : Addr → Prop) (op : Operator) (d₁ d₂ d : D) : Prop :=
  ∀ s E v₁ v₂, (∀ a, X a → ∃ o, s.heap.get? a = some o) → Rp prog w (Gd s.heap X) v₁ d₁ → Rp prog w (Gd s.heap X) v₂ d₂ → wpAny (model prog w) A (binaryOp op v₁ v₂) (Gives prog w X s d) E s
theorem gives_trans {s s' s'' : Shared} {d : D} {v : Value} (k : Keeps s s') (g : Gives prog w X s' d v s'') : Gives prog w X s d v s'' := ⟨keeps_trans k g.1, g.2⟩
theorem ev_bin {l r : Expr} {op : Operator} {pos : Pos} {d₁ d₂ d : D} (h₁ : Ev prog w A env X c l d₁) (h₂ : Ev prog w A env X c r d₂) (ho : Op2 prog w A X op d₁ d₂ d) : Ev prog w A env X c (.BinOp l op r pos) d := by
  refine ⟨fun s E S => ?_⟩
  refine wpAny_BinOp (wpAny_mono (h₁.run s E S) (fun v₁ s₁ g₁ => wpAny_mono (h₂.run s₁ E (S.keeps g₁.1)) (fun v₂ s₂ g₂ => ?_) fun _ _ e => e) fun _ _ e => e)
  have k := keeps_trans g₁.1 g₂.1
  exact wpAny_mono (ho s₂ E v₁ v₂ (S.keeps k).xb (g₁.2.keeps (keeps_get g₂.1)) g₂.2) (fun v s₃ g => gives_trans k g) fun _ _ e => e
theorem op_add_int {a b : Int} : Op2 prog w A X .Add (.int a) (.int b) (.int (a + b)) := by
  intro s E v₁ v₂ _ r₁ r₂; cases r₁; cases r₂; exact add_int ⟨keeps_tok _ _, .int _ _⟩
theorem op_sub_int {a b : Int} : Op2 prog w A X .Sub (.int a) (.int b) (.int (a - b)) := by
  intro s E v₁ v₂ _ r₁ r₂; cases r₁; cases r₂; exact sub_int ⟨keeps_tok _ _, .int _ _⟩
theorem op_mul_int {a b : Int} (hm : IntMulOk a b) : Op2 prog w A X .Mult (.int a) (.int b) (.int (a * b)) := by
  intro s E v₁ v₂ _ r₁ r₂; cases r₁; cases r₂; exact mul_int ⟨keeps_tok _ _, .int _ _⟩ hm
theorem op_mod_int {a b : Int} (hb : b ≠ 0) : Op2 prog w A X .Mod (.int a) (.int b) (.int (a.fmod b)) := by
  intro s E v₁ v₂ _ r₁ r₂; cases r₁; cases r₂; exact mod_int hb ⟨keeps_tok _ _, .int _ _⟩
theorem op_add_str {a b : Str} (h : a.length + b.length ≤ sizeLine) : Op2 prog w A X .Add (.str a) (.str b) (.str (a ++ b)) := by
  intro s E v₁ v₂ _ r₁ r₂; cases r₁; cases r₂; exact add_str (fun _ _ => ⟨keeps_tok _ _, .str _ _⟩) h
end
end Mine

namespace Mine

section
variable {prog : Program} {w : World} {A : Around} {env : Env} {X : Addr → Prop} {c : Str → Option D}

theorem op_floordiv_int {a b : Int} (hb : b ≠ 0) (hs : b.natAbs < 1073741824) : Op2 prog w A X .FloorDiv (.int a) (.int b) (.int (a.fdiv b)) := by
  intro s E v₁ v₂ _ r₁ r₂; cases r₁; cases r₂; exact floordiv_int hb ⟨keeps_tok _ _, .int _ _⟩ (.inl (PyProof.noPylong_small hs))
theorem op_mul_str {x : Str} {n : Int} (hok : MulOk x n) : Op2 prog w A X .Mult (.str x) (.int n) (.str (Txt.mul x n)) := by
  intro s E v₁ v₂ _ r₁ r₂; cases r₁; cases r₂; exact SB.mul hok fun _ _ => ⟨keeps_tok _ _, .str _ _⟩

theorem fresh_off {h : Heap} {X : Addr → Prop} (xb : ∀ a, X a → ∃ o, h.get? a = some o) : ¬ X h.objs.size := fun x => by
  obtain ⟨o, e⟩ := xb _ x
  exact Nat.lt_irrefl _ (Heap.lt_size e)
theorem rp_push_list {h : Heap} {vs : Array Value} {n : Nat} {ds : List D} (xb : ∀ a, X a → ∃ o, h.get? a = some o) (r : RpA prog w (Gd h X) vs.toList ds) :
    Rp prog w (Gd (h.push { cls := .type "list", data := .seq vs n }) X) (.ref h.objs.size) (.lst ds) :=
  .lst ⟨Heap.get?_push_size _ rfl, fresh_off xb⟩ rfl rfl (r.keeps fun _ _ e => Heap.get?_push_of_some _ e)
theorem rp_push_tup {h : Heap} {vs : Array Value} {n : Nat} {ds : List D} (xb : ∀ a, X a → ∃ o, h.get? a = some o) (r : RpA prog w (Gd h X) vs.toList ds) :
    Rp prog w (Gd (h.push { cls := .type "tuple", data := .seq vs n }) X) (.ref h.objs.size) (.tup ds) :=
  .tup ⟨Heap.get?_push_size _ rfl, fresh_off xb⟩ rfl rfl (r.keeps fun _ _ e => Heap.get?_push_of_some _ e)

theorem rp_list {h : Heap} {v : Value} {ds : List D} (r : Rp prog w (Gd h X) v (.lst ds)) : ∃ a vs, v = .ref a ∧ h.IsList a vs ∧ RpA prog w (Gd h X) vs.toList ds ∧ ¬ X a := by
  cases r with
  | lst g c d r => exact ⟨_, _, rfl, ⟨_, g.1, c, _, d⟩, r, g.2⟩
theorem rp_tup {h : Heap} {v : Value} {ds : List D} (r : Rp prog w (Gd h X) v (.tup ds)) : ∃ a vs, v = .ref a ∧ IsTup h a vs ∧ RpA prog w (Gd h X) vs.toList ds := by
  cases r with
  | tup g c d r => exact ⟨_, _, rfl, ⟨_, g.1, c, _, d⟩, r⟩

theorem op_add_list {ds es : List D} (hz : ds.length + es.length ≤ sizeLine) : Op2 prog w A X .Add (.lst ds) (.lst es) (.lst (ds ++ es)) := by
  intro s E v₁ v₂ xb r₁ r₂
  obtain ⟨l, vs, rfl, hl, q₁, _⟩ := rp_list r₁
  obtain ⟨b, ws, rfl, hb, q₂, _⟩ := rp_list r₂
  obtain ⟨⟨cls, dd, data, sl⟩, ho, hc, n, hd⟩ := id hl
  obtain ⟨⟨cls2, dd2, data2, sl2⟩, ho2, hc2, n2, hd2⟩ := id hb
  simp only at hc hd hc2 hd2
  subst hc hd hc2 hd2
  have e1 := q₁.length
  have e2 := q₂.length
  rw [Array.length_toList] at e1 e2
  refine concat_meets ⟨_, ho, rfl⟩ ⟨_, ho2, rfl⟩ noFill_list_add seq_list_add PySem.F.slot_list_add PySem.F.entry_list_add (PySem.F.args_list_add_2 _ _) (list_addW l b vs ws n n2 dd dd2 sl sl2 (by omega)) ⟨ho, ho2, ?_⟩
  exact ⟨keeps_push _ _, rp_push_list xb (by simpa using q₁.append q₂)⟩

/-- several expressions, one behind the other -/
structure EvL (prog : Program) (w : World) (A : Around) (env : Env) (X : Addr → Prop) (c : Str → Option D) (es : List Expr) (ds : List D) : Prop where
  run : ∀ s E pos, St prog w env X c s → wpAny (model prog w) A (spliced (backTo pos (starEach es env))) (fun vs s' => Keeps s s' ∧ RpA prog w (Gd s'.heap X) vs ds) E s
theorem evl_nil : EvL prog w A env X c [] [] := ⟨fun s _ _ _ => wpAny_items_nil ⟨keeps_refl s, .nil⟩⟩
theorem evl_cons {e : Expr} {es : List Expr} {d : D} {ds : List D} (h₁ : Ev prog w A env X c e d) (h₂ : EvL prog w A env X c es ds)
    (he : notStar e = true := by rfl) : EvL prog w A env X c (e :: es) (d :: ds) := by
  refine ⟨fun s E pos S => ?_⟩
  refine args_cons (wpAny_mono (h₁.run s E S) (fun v s₁ g₁ => wpAny_mono (h₂.run s₁ E pos (S.keeps g₁.1)) (fun vs s₂ g₂ => ?_) fun _ _ e => e) fun _ _ e => e) (starEach_cons he)
  exact ⟨keeps_trans g₁.1 g₂.1, .cons (g₁.2.keeps (keeps_get g₂.1)) g₂.2⟩
theorem ev_list {es : List Expr} {pos : Pos} {ds : List D} (h : EvL prog w A env X c es ds) (hz : ds.length ≤ sizeLine) : Ev prog w A env X c (.List es pos) (.lst ds) := by
  refine ⟨fun s E S => ?_⟩
  refine List_ (wpAny_mono (h.run s E pos S) (fun vs s₁ g => ?_) fun _ _ e => e)
  exact wpAny_newObj_type ⟨keeps_trans g.1 (keeps_push _ _), rp_push_list (S.keeps g.1).xb (by simpa using g.2)⟩ (by show vs.toArray.size ≤ sizeLine; rw [List.size_toArray, g.2.length]; exact hz)
theorem ev_tup {es : List Expr} {k : Nat} {pos : Pos} {ds : List D} (h : EvL prog w A env X c es ds) (hz : ds.length ≤ sizeLine) : Ev prog w A env X c (.Tuple es k pos) (.tup ds) := by
  refine ⟨fun s E S => ?_⟩
  refine Tuple_ (wpAny_mono (h.run s E pos S) (fun vs s₁ g => ?_) fun _ _ e => e)
  exact wpAny_newObj_type ⟨keeps_trans g.1 (keeps_push _ _), rp_push_tup (S.keeps g.1).xb (by simpa using g.2)⟩ (by show vs.toArray.size ≤ sizeLine; rw [List.size_toArray, g.2.length]; exact hz)

theorem ev_neg {e : Expr} {pos : Pos} {i : Int} (h : Ev prog w A env X c e (.int i)) : Ev prog w A env X c (.UnaryOp .USub e pos) (.int (-i)) := by
  refine ⟨fun s E S => ?_⟩
  refine UnaryOp_ (wpAny_mono (h.run s E S) (fun v s₁ g => ?_) fun _ _ e => e)
  obtain ⟨k, r⟩ := g
  cases r
  exact neg_int ⟨keeps_trans k (keeps_tok _ _), .int _ _⟩

/-- subscripts -/
theorem subscripted_false (slice : Expr) (o i : Value) : ∃ ops, subscripted slice false o i = operate ops (getItem o i) := by
  unfold subscripted
  split
  · exact ⟨_, rfl⟩
  · simp_all
  · exact ⟨_, rfl⟩
theorem subTail {s : Shared} {E : Value → Shared → Prop} {value slice : Expr} {o i : Value} {T id : String} {Q : Value → Shared → Prop} (hT : s.TypeIs o T)
    (hl : typeLookup (.type T) "__getitem__" = pure (some (.builtin id))) (h : wpAny (model prog w) A (getItem o i) Q E s) : wpAny (model prog w) A (subscriptTail value slice o i) Q E s := by
  obtain ⟨ops, hs⟩ := subscripted_false slice o i
  exact tail_any hT hl h hs

theorem ev_sub {e i : Expr} {pos : Pos} {d₁ d₂ d : D} (h₁ : Ev prog w A env X c e d₁) (h₂ : Ev prog w A env X c i d₂)
    (h : ∀ s E v₁ v₂, Rp prog w (Gd s.heap X) v₁ d₁ → Rp prog w (Gd s.heap X) v₂ d₂ → wpAny (model prog w) A (subscriptTail e i v₁ v₂) (Gives prog w X s d) E s) : Ev prog w A env X c (.Subscript e i pos) d := by
  refine ⟨fun s E S => ?_⟩
  refine Subscript_ (wpAny_mono (h₁.run s E S) (fun v₁ s₁ g₁ => wpAny_mono (h₂.run s₁ E (S.keeps g₁.1)) (fun v₂ s₂ g₂ => ?_) fun _ _ e => e) fun _ _ e => e)
  have k := keeps_trans g₁.1 g₂.1
  exact wpAny_mono (h s₂ E v₁ v₂ (g₁.2.keeps (keeps_get g₂.1)) g₂.2) (fun v s₃ g => gives_trans k g) fun _ _ e => e
theorem ev_sub_list {e i : Expr} {pos : Pos} {ds : List D} {d : D} {k : Int} (h₁ : Ev prog w A env X c e (.lst ds)) (h₂ : Ev prog w A env X c i (.int k)) (h0 : 0 ≤ k) (hf : k < 2 ^ 63) (hd : ds[k.toNat]? = some d) :
    Ev prog w A env X c (.Subscript e i pos) d := by
  refine ev_sub h₁ h₂ fun s E v₁ v₂ r₁ r₂ => ?_
  obtain ⟨a, vs, rfl, hl, q, _⟩ := rp_list r₁
  cases r₂
  obtain ⟨v, hv, r⟩ := q.get hd
  exact subTail hl.typeIs slot_list_getitem.lookup (wpAny_getItem_list hl h0 hf (by simpa using hv) ⟨keeps_refl s, r⟩)
theorem ev_sub_list_neg {e i : Expr} {pos : Pos} {ds : List D} {d : D} {k : Int} (h₁ : Ev prog w A env X c e (.lst ds)) (h₂ : Ev prog w A env X c i (.int k)) (h0 : k < 0) (h1 : -(ds.length : Int) ≤ k) (hf : -(2 ^ 63) ≤ k)
    (hd : ds[(k + ds.length).toNat]? = some d) : Ev prog w A env X c (.Subscript e i pos) d := by
  refine ev_sub h₁ h₂ fun s E v₁ v₂ r₁ r₂ => ?_
  obtain ⟨a, vs, rfl, hl, q, _⟩ := rp_list r₁
  cases r₂
  obtain ⟨v, hv, r⟩ := q.get hd
  have e1 := q.length
  rw [Array.length_toList] at e1
  exact subTail hl.typeIs slot_list_getitem.lookup (wpAny_getItem_list_neg hl h0 (by omega) hf (by rw [e1]; simpa using hv) ⟨keeps_refl s, r⟩)
theorem ev_sub_tup {e i : Expr} {pos : Pos} {ds : List D} {d : D} {k : Int} (h₁ : Ev prog w A env X c e (.tup ds)) (h₂ : Ev prog w A env X c i (.int k)) (h0 : 0 ≤ k) (hf : k < 2 ^ 63) (hd : ds[k.toNat]? = some d) :
    Ev prog w A env X c (.Subscript e i pos) d := by
  refine ev_sub h₁ h₂ fun s E v₁ v₂ r₁ r₂ => ?_
  obtain ⟨a, vs, rfl, hl, q⟩ := rp_tup r₁
  cases r₂
  obtain ⟨v, hv, r⟩ := q.get hd
  have hlt : k.toNat < vs.size := by
    have := (List.getElem?_eq_some_iff.mp hv).1
    rwa [Array.length_toList] at this
  refine subTail hl.typeIs slot_tuple_getitem.lookup (PyProof.Rows.getItem_tuple hl (by omega) hf (j := k.toNat) ?_ (by simpa using hv) ⟨keeps_refl s, r⟩)
  unfold seqIndex?
  simp only [Int.not_lt.mpr h0, if_false]
  rw [if_pos (by simp only [Bool.and_eq_true, decide_eq_true_eq]; omega)]
theorem ev_sub_str {e i : Expr} {pos : Pos} {x : Str} {k : Int} {ch : Nat} (h₁ : Ev prog w A env X c e (.str x)) (h₂ : Ev prog w A env X c i (.int k)) (h0 : 0 ≤ k) (hf : k < 2 ^ 63) (hd : x.cps[k.toNat]? = some ch) :
    Ev prog w A env X c (.Subscript e i pos) (.str ⟨#[ch]⟩) := by
  refine ev_sub h₁ h₂ fun s E v₁ v₂ r₁ r₂ => ?_
  cases r₁; cases r₂
  have hlt : k.toNat < x.cps.size := (Array.getElem?_eq_some_iff.mp hd).1
  refine subTail (typeIs_str s _ _) slot_str_getitem.lookup (PyProof.Rows.getItem_str (c := ch) ?_ ?_ ⟨keeps_tok _ _, .str _ _⟩)
  · rw [Bool.or_eq_false_iff]; exact ⟨decide_eq_false (by omega), decide_eq_false (by omega)⟩
  · have : seqIndex? k x.length = some k.toNat := by
      unfold seqIndex? Str.length
      simp only [Int.not_lt.mpr h0, if_false]
      rw [if_pos (by simp only [Bool.and_eq_true, decide_eq_true_eq]; omega)]
    rw [this]; exact hd
theorem ev_sub_tab {e i : Expr} {pos : Pos} {kvs : List (Str × Int)} {x : Str} {n : Int} (h₁ : Ev prog w A env X c e (.tab kvs)) (h₂ : Ev prog w A env X c i (.str x)) (hd : kvs.lookup x = some n) :
    Ev prog w A env X c (.Subscript e i pos) (.int n) := by
  refine ev_sub h₁ h₂ fun s E v₁ v₂ r₁ r₂ => ?_
  cases r₂
  cases r₁ with
  | tab g t =>
    obtain ⟨es, ep, he, hdat, hk, hl⟩ := t
    obtain ⟨t, ht⟩ := hl x n hd
    have hm : s.heap.MapOf (strKind prog w) _ (findBy (strKind prog w).is es) := ⟨_, es, ep, g.1, he, hdat, hk, fun _ => rfl⟩
    exact subTail hm.typeIs slot_dict_getitem.lookup (wpAny_getItem_of (knd := strKind prog w) (k := x) (by simp [PySem.strKind, Value.isStrOf]) hm ht ⟨keeps_tok _ _, .int _ _⟩)

/-- slices -/
def EvO (prog : Program) (w : World) (A : Around) (env : Env) (X : Addr → Prop) (c : Str → Option D) : Option Expr → Option Int → Prop
  | none, none => True
  | some e, some i => Ev prog w A env X c e (.int i)
  | _, _ => False
theorem evo {oe : Option Expr} {oi : Option Int} (h : EvO prog w A env X c oe oi) (s : Shared) (E : Value → Shared → Prop) (S : St prog w env X c s) :
    wpAny (model prog w) A (evalPart oe env) (fun v s' => Keeps s s' ∧ IsPart v oi) E s := by
  cases oe with
  | none => cases oi with
    | none => exact wpAny_pure ⟨keeps_refl s, .none⟩
    | some _ => exact h.elim
  | some e => cases oi with
    | none => exact h.elim
    | some i =>
      refine wpAny_mono (h.run s E S) (fun v s' g => ?_) fun _ _ e => e
      obtain ⟨k, r⟩ := g
      cases r
      exact ⟨k, .int _ _⟩
theorem ev_slice {e : Expr} {lo hi st : Option Expr} {p pos : Pos} {l u k : Option Int} {d₁ d : D} (h₁ : Ev prog w A env X c e d₁) (hl : EvO prog w A env X c lo l) (hu : EvO prog w A env X c hi u) (hk : EvO prog w A env X c st k)
    (h : ∀ s E v₁ a vl vu vk, (∀ a, X a → ∃ o, s.heap.get? a = some o) → Rp prog w (Gd s.heap X) v₁ d₁ → s.heap.get? a = some { cls := .type "slice", data := .fields #[vl, vu, vk] } → IsPart vl l → IsPart vu u → IsPart vk k →
      wpAny (model prog w) A (subscriptTail e (.Slice lo hi st p) v₁ (.ref a)) (Gives prog w X s d) E s) : Ev prog w A env X c (.Subscript e (.Slice lo hi st p) pos) d := by
  refine ⟨fun s E S => ?_⟩
  refine Subscript_ (wpAny_mono (h₁.run s E S) (fun v₁ s₁ g₁ => ?_) fun _ _ e => e)
  refine wpAny_Slice (wpAny_mono (evo hl s₁ E (S.keeps g₁.1)) (fun vl s₂ g₂ => ?_) fun _ _ e => e)
  have k2 := keeps_trans g₁.1 g₂.1
  refine wpAny_mono (evo hu s₂ E (S.keeps k2)) (fun vu s₃ g₃ => ?_) fun _ _ e => e
  have k3 := keeps_trans k2 g₃.1
  refine wpAny_mono (evo hk s₃ E (S.keeps k3)) (fun vk s₄ g₄ => ?_) fun _ _ e => e
  have k4 := keeps_trans k3 g₄.1
  have k5 := keeps_trans k4 (keeps_push s₄ { cls := .type "slice", data := .fields #[vl, vu, vk] })
  have kk := keeps_trans (keeps_trans (keeps_trans g₂.1 g₃.1) g₄.1) (keeps_push s₄ { cls := .type "slice", data := .fields #[vl, vu, vk] })
  exact wpAny_mono (h _ E v₁ _ vl vu vk (S.keeps k5).xb (g₁.2.keeps (keeps_get kk)) (Heap.get?_push_size _ rfl) g₂.2 g₃.2 g₄.2) (fun v s₃ g => gives_trans k5 g) fun _ _ e => e
def pickD (ds : List D) (lo hi st : Option Int) : List D := (sliceRange (sliceBounds lo hi st ds.length).1 (sliceBounds lo hi st ds.length).2.1 (sliceBounds lo hi st ds.length).2.2).filterMap (ds[·]?)
theorem rpa_pick {G : Addr → Obj → Prop} {vs : List Value} {ds : List D} (h : RpA prog w G vs ds) : ∀ idx : List Nat, RpA prog w G (idx.filterMap (vs[·]?)) (idx.filterMap (ds[·]?))
  | [] => .nil
  | i :: r => by
    have ih := rpa_pick h r
    cases hd : ds[i]? with
    | none =>
      have : vs[i]? = none := by rw [List.getElem?_eq_none_iff] at hd ⊢; rw [h.length]; exact hd
      simpa [hd, this] using ih
    | some d =>
      obtain ⟨v, hv, rr⟩ := h.get hd
      simpa [hd, hv] using RpA.cons rr ih
theorem ev_slice_list {e : Expr} {lo hi st : Option Expr} {p pos : Pos} {l u k : Option Int} {ds : List D} (h₁ : Ev prog w A env X c e (.lst ds)) (hl : EvO prog w A env X c lo l) (hu : EvO prog w A env X c hi u) (hk : EvO prog w A env X c st k)
    (h0 : k ≠ some 0) (hz : ds.length ≤ sizeLine) : Ev prog w A env X c (.Subscript e (.Slice lo hi st p) pos) (.lst (pickD ds l u k)) := by
  refine ev_slice h₁ hl hu hk fun s E v₁ a vl vu vk xb r₁ hs pl pu pk => ?_
  obtain ⟨b, vs, rfl, hlst, q, _⟩ := rp_list r₁
  have e1 := q.length
  rw [Array.length_toList] at e1
  refine subTail hlst.typeIs slot_list_getitem.lookup (wpAny_getItem_list_slice hlst ⟨_, hs, rfl, rfl⟩ pl pu pk h0 ⟨keeps_push _ _, rp_push_list xb ?_⟩ (by omega))
  unfold slicePick pickD
  rw [e1]
  simpa using rpa_pick q _
theorem ev_slice_str {e : Expr} {lo hi : Option Expr} {p pos : Pos} {l u : Option Int} {x : Str} (h₁ : Ev prog w A env X c e (.str x)) (hl : EvO prog w A env X c lo l) (hu : EvO prog w A env X c hi u) (hz : x.length ≤ sizeLine) :
    Ev prog w A env X c (.Subscript e (.Slice lo hi none p) pos) (.str (Txt.slice x l u)) := by
  refine ev_slice (k := none) (st := none) h₁ hl hu trivial fun s E v₁ a vl vu vk xb r₁ hs pl pu pk => ?_
  cases r₁
  cases pk
  have hk : KeptH fun _ => True := fun _ _ _ => trivial
  refine subTail (typeIs_str s _ _) slot_str_getitem.lookup ?_
  cases pl with
  | none => cases pu with
    | none => exact wpAny_getItem_str_slice (l := none) (u := none) (st := none) ⟨_, hs, rfl, rfl⟩ rfl (post_val_or_str ⟨Nat.le_trans (Txt.slice_le x _ _) hz, fun t' k => ⟨keeps_tok _ _, .str _ _⟩⟩)
    | int j uj => exact wpAny_getItem_str_slice (l := none) (u := some (j, uj)) (st := none) ⟨_, hs, rfl, rfl⟩ rfl (post_val_or_str ⟨Nat.le_trans (Txt.slice_le x _ _) hz, fun t' k => ⟨keeps_tok _ _, .str _ _⟩⟩)
  | int i ui => cases pu with
    | none => exact wpAny_getItem_str_slice (l := some (i, ui)) (u := none) (st := none) ⟨_, hs, rfl, rfl⟩ rfl (post_val_or_str ⟨Nat.le_trans (Txt.slice_le x _ _) hz, fun t' k => ⟨keeps_tok _ _, .str _ _⟩⟩)
    | int j uj => exact wpAny_getItem_str_slice (l := some (i, ui)) (u := some (j, uj)) (st := none) ⟨_, hs, rfl, rfl⟩ rfl (post_val_or_str ⟨Nat.le_trans (Txt.slice_le x _ _) hz, fun t' k => ⟨keeps_tok _ _, .str _ _⟩⟩)
end
end Mine

namespace Mine

section
variable {prog : Program} {w : World} {A : Around} {env : Env} {X : Addr → Prop} {c : Str → Option D}

/-- built-in names -/
theorem name_builtin {s : Shared} {E : Value → Shared → Prop} {x : Str} {pos : Pos} {v : Value} {Q : Value → Shared → Prop} (S : St prog w env X c s) (hx : x ∈ (["len", "sum", "min", "range", "enumerate"] : List Str))
    (hk : env.kindOf x = some .globalImplicit) (hb : bootBuiltins x = some v) (h : Q v s) (hd : (x == ("__debug__" : Str)) = false := by decide) : wpAny (model prog w) A (eval (.Name x pos) env) Q E s := by
  obtain ⟨mg, mb, a, b, _, d, _⟩ := S.glb
  refine Name_function_global S.fn hk (loadGlobal_builtin (mg := mg) (mb := mb) (by rw [S.gl.1]; exact a) (d x hx).1 (by rw [S.gl.2]; exact b) ((d x hx).2.trans hb) h) hd

/-- a call of a built-in function of one or two arguments -/
theorem ev_builtin1 {x : Str} {id : String} {e : Expr} {p pos : Pos} {d₁ d : D} (hx : x ∈ (["len", "sum", "min", "range", "enumerate"] : List Str)) (hb : bootBuiltins x = some (.builtin id)) (hk : env.kindOf x = some .globalImplicit)
    (h₁ : Ev prog w A env X c e d₁) (h : ∀ s E v, (∀ a, X a → ∃ o, s.heap.get? a = some o) → Rp prog w (Gd s.heap X) v d₁ → wpAny (model prog w) A (call (.builtin id) [v]) (Gives prog w X s d) E s)
    (hd : (x == ("__debug__" : Str)) = false := by decide) (he : notStar e = true := by rfl) : Ev prog w A env X c (.Call (.Name x p) [e] [] pos) d := by
  refine ⟨fun s E S => ?_⟩
  refine Call_ (name_builtin S hx hk hb ?_ hd)
  refine callWith_builtin1 (args_cons (wpAny_mono (h₁.run s E S) (fun v s₁ g₁ => args_nil ?_) fun _ _ e => e) (starEach_cons he)) (starEach_cons he)
  exact wpAny_mono (h s₁ E v (S.keeps g₁.1).xb g₁.2) (fun v s₃ g => gives_trans g₁.1 g) fun _ _ e => e
theorem ev_builtin2 {x : Str} {id : String} {e f : Expr} {p pos : Pos} {d₁ d₂ d : D} (hx : x ∈ (["len", "sum", "min", "range", "enumerate"] : List Str)) (hb : bootBuiltins x = some (.builtin id)) (hk : env.kindOf x = some .globalImplicit)
    (h₁ : Ev prog w A env X c e d₁) (h₂ : Ev prog w A env X c f d₂) (h : ∀ s E v u, Rp prog w (Gd s.heap X) v d₁ → Rp prog w (Gd s.heap X) u d₂ → wpAny (model prog w) A (call (.builtin id) [v, u]) (Gives prog w X s d) E s)
    (hd : (x == ("__debug__" : Str)) = false := by decide) (he : notStar e = true := by rfl) (he' : notStar f = true := by rfl) : Ev prog w A env X c (.Call (.Name x p) [e, f] [] pos) d := by
  refine ⟨fun s E S => ?_⟩
  refine Call_ (name_builtin S hx hk hb ?_ hd)
  refine callWith_builtin1 (args_cons (wpAny_mono (h₁.run s E S) (fun v s₁ g₁ => args_cons (wpAny_mono (h₂.run s₁ E (S.keeps g₁.1)) (fun u s₂ g₂ => args_nil ?_) fun _ _ e => e) (starEach_cons he')) fun _ _ e => e) (starEach_cons he)) (starEach_cons he) (by rw [starEach_one he']; rfl)
  exact wpAny_mono (h s₂ E v u (g₁.2.keeps (keeps_get g₂.1)) g₂.2) (fun v s₃ g => gives_trans (keeps_trans g₁.1 g₂.1) g) fun _ _ e => e

theorem keeps_tok2 (s : Shared) (t : Nat) : Keeps s { s with toks := t } := ⟨_, _, rfl, fun _ _ e => e⟩
theorem ev_len_list {e : Expr} {p pos : Pos} {ds : List D} (hk : env.kindOf "len" = some .globalImplicit) (h₁ : Ev prog w A env X c e (.lst ds)) (hz : (ds.length : Int) < 2 ^ 63)
    (he : notStar e = true := by rfl) : Ev prog w A env X c (.Call (.Name "len" p) [e] [] pos) (.int ds.length) := by
  refine ev_builtin1 (id := "len") (by decide) (by decide +kernel) hk h₁ (fun s E v xb r => ?_) (by decide) he
  obtain ⟨a, vs, rfl, hl, q, _⟩ := rp_list r
  have e1 := q.length
  rw [Array.length_toList] at e1
  exact len_list hl (by rw [e1]; exact hz) ⟨keeps_tok _ _, by rw [e1]; exact .int _ _⟩
theorem ev_len_str {e : Expr} {p pos : Pos} {x : Str} (hk : env.kindOf "len" = some .globalImplicit) (h₁ : Ev prog w A env X c e (.str x)) (hz : (x.length : Int) < 2 ^ 63)
    (he : notStar e = true := by rfl) : Ev prog w A env X c (.Call (.Name "len" p) [e] [] pos) (.int x.length) := by
  refine ev_builtin1 (id := "len") (by decide) (by decide +kernel) hk h₁ (fun s E v xb r => ?_) (by decide) he
  cases r
  exact PyProof.Rows.len_str (by omega) ⟨keeps_tok _ _, .int _ _⟩
theorem rpa_ints {G : Addr → Obj → Prop} : ∀ {vs : List Value} {ns : List Int}, RpA prog w G vs (ns.map .int) → IntsAre vs ns
  | [], [], _ => .nil
  | [], _ :: _, h => nomatch h
  | _ :: _, [], h => nomatch h
  | v :: vs, n :: ns, .cons h r => by cases h; exact .cons _ _ (rpa_ints r)
theorem ints_rpa {G : Addr → Obj → Prop} : ∀ {vs : List Value} {ns : List Int}, IntsAre vs ns → RpA prog w G vs (ns.map .int)
  | _, _, .nil => .nil
  | _, _, .cons n t r => .cons (.int _ _) (ints_rpa r)
theorem ev_sum {e : Expr} {p pos : Pos} {ns : List Int} (hh : A.handled = none) (hk : env.kindOf "sum" = some .globalImplicit) (h₁ : Ev prog w A env X c e (.lst (ns.map .int)))
    (he : notStar e = true := by rfl) : Ev prog w A env X c (.Call (.Name "sum" p) [e] [] pos) (.int ns.sum) := by
  refine ev_builtin1 (id := "sum") (by decide) (by decide +kernel) hk h₁ (fun s E v xb r => ?_) (by decide) he
  obtain ⟨a, vs, rfl, hl, q, _⟩ := rp_list r
  have hi := rpa_ints q
  obtain ⟨xs, hxs⟩ := (show AllInts vs from by have := hi.allInts; simpa using this).items
  subst hxs
  refine sum_intListG hh hl fun h' tk t' hk => ⟨keeps_heap hk, ?_⟩
  have := nums_intItems xs
  have e2 : (numsOf (intItems xs).toList) = ns := hi.numsOf
  rw [preSum_eq, List.take_of_length_le (by simp), ← this, e2]
  exact .int _ _
theorem ev_min {e f : Expr} {p pos : Pos} {a b : Int} (hh : A.handled = none) (hk : env.kindOf "min" = some .globalImplicit) (h₁ : Ev prog w A env X c e (.int a)) (h₂ : Ev prog w A env X c f (.int b))
    (he : notStar e = true := by rfl) (he' : notStar f = true := by rfl) :
    Ev prog w A env X c (.Call (.Name "min" p) [e, f] [] pos) (.int (if b < a then b else a)) := by
  refine ev_builtin2 (id := "min") (by decide) (by decide +kernel) hk h₁ h₂ (fun s E v u r₁ r₂ => ?_) (by decide) he he'
  cases r₁; cases r₂
  refine min_two_ints hh fun h' tk hk => ?_
  by_cases hc : b < a
  · rw [if_pos hc, if_pos hc]; exact ⟨keeps_heap hk, .int _ _⟩
  · rw [if_neg hc, if_neg hc]; exact ⟨keeps_heap hk, .int _ _⟩

/-- defs of the text -/
def IsFn (k : Nat) (h : Heap) (f : Addr) : Prop := ∃ nm p b sc o pm code doc, fnAt k = some (nm, p, b, sc) ∧ h.get? f = some o ∧ o.data = .func (docDef nm p b sc pm code doc) ∧ h.CodeRec code nm
structure FnC (prog : Program) (w : World) (n k : Nat) (ds : List D) (d : D) : Prop where
  run : ∀ (A : Around) (X : Addr → Prop) s E vs f, Rm n A → Glb s.heap → (∀ a, X a → ∃ o, s.heap.get? a = some o) → IsFn k s.heap f → RpA prog w (Gd s.heap X) vs ds →
    wpAny (model prog w) A (call (.ref f) vs) (Gives prog w X s d) E s
theorem ev_call {n k : Nat} {x : Str} {e : Expr} {es : List Expr} {p pos : Pos} {ds : List D} {d : D} (hf : FnC prog w n k ds d) (hr : Rm n A) (hn : (fnAt k).map (·.1) = some x) (hk : env.kindOf x = some .globalImplicit) (h₁ : EvL prog w A env X c (e :: es) ds)
    (hd : (x == ("__debug__" : Str)) = false := by decide) (he : notStar e = true := by rfl) : Ev prog w A env X c (.Call (.Name x p) (e :: es) [] pos) d := by
  refine ⟨fun s E S => ?_⟩
  obtain ⟨mg, mb, a, b, l, dd, fs⟩ := S.glb
  cases hq : fnAt k with
  | none => rw [hq] at hn; cases hn
  | some q =>
    obtain ⟨nm, p', b', sc⟩ := q
    rw [hq] at hn
    have hnm : nm = x := by simpa using hn
    subst hnm
    obtain ⟨f, o, pm, code, doc, h1, h2, h3, h4⟩ := fs k nm p' b' sc hq
    refine Call_ (Name_function_global S.fn hk (loadGlobal_global (mg := mg) (by rw [S.gl.1]; exact a) h1 ?_) hd)
    refine callWith_def h3 (wpAny_mono (h₁.run s E pos S) (fun vs s₁ g₁ => ⟨keeps_get g₁.1 _ _ h2, ?_⟩) fun _ _ e => e) (starEach_cons he)
    exact wpAny_mono (hf.run A X s₁ E vs f hr (S.keeps g₁.1).glb (S.keeps g₁.1).xb ⟨nm, p', b', sc, o, pm, code, doc, hq, keeps_get g₁.1 _ _ h2, h3, h4.keeps (keeps_get g₁.1)⟩ g₁.2) (fun v s₃ g => gives_trans g₁.1 g) fun _ _ e => e

/-- methods of strs -/
theorem rpa_strs {G : Addr → Obj → Prop} : ∀ {vs : List Value} {xs : List Str}, RpA prog w G vs (xs.map .str) → ∃ l : List (Str × Tok), vs = strValues l ∧ l.map (·.1) = xs
  | [], [], _ => ⟨[], rfl, rfl⟩
  | [], _ :: _, h => nomatch h
  | _ :: _, [], h => nomatch h
  | v :: vs, x :: xs, .cons h r => by
    obtain ⟨l, rfl, rfl⟩ := rpa_strs r
    cases h with
    | str _ t => exact ⟨(x, t) :: l, rfl, rfl⟩
theorem strs_rpa {G : Addr → Obj → Prop} (l : List (Str × Tok)) : RpA prog w G (strValues l) ((l.map (·.1)).map .str) := by
  induction l with
  | nil => exact .nil
  | cons p l ih => exact .cons (.str _ _) ih
theorem ev_join {o e : Expr} {apos pos : Pos} {x : Str} {xs : List Str} (h₁ : Ev prog w A env X c o (.str x)) (h₂ : Ev prog w A env X c e (.lst (xs.map .str))) (hok : JoinOk x xs = true)
    (hbase : ∀ t : Sem Value, attributeBase o "join" env t = t := by intro _; rfl) (hs : notStar e = true := by rfl) (hline : (apos.endLine == pos.line) = true := by rfl) :
    Ev prog w A env X c (.Call (.Attribute o "join" apos) [e] [] pos) (.str (Txt.join x xs)) := by
  refine ⟨fun s E S => ?_⟩
  refine Call_method1 (hbase _) (starEach_one hs) hline (wpAny_mono (h₁.run s E S) (fun v s₁ g₁ => ?_) fun _ _ e => e)
  obtain ⟨k₁, r₁⟩ := g₁
  cases r₁
  refine SB.join (wpAny_mono (h₂.run s₁ E (S.keeps k₁)) (fun v s₂ g₂ => ?_) fun _ _ e => e)
  obtain ⟨a, vs, rfl, hl, q, _⟩ := rp_list g₂.2
  obtain ⟨l, e1, e2⟩ := rpa_strs q
  exact ⟨a, l, rfl, by rw [← e1]; simpa using hl, xs, e2, hok, fun t' k => ⟨keeps_trans (keeps_trans k₁ g₂.1) (keeps_tok _ _), .str _ _⟩⟩
theorem ev_lstrip {o e : Expr} {apos pos : Pos} {x y : Str} (h₁ : Ev prog w A env X c o (.str x)) (h₂ : Ev prog w A env X c e (.str y)) (hz : x.length ≤ sizeLine)
    (hbase : ∀ t : Sem Value, attributeBase o "lstrip" env t = t := by intro _; rfl) (hs : notStar e = true := by rfl) (hline : (apos.endLine == pos.line) = true := by rfl) :
    Ev prog w A env X c (.Call (.Attribute o "lstrip" apos) [e] [] pos) (.str (Txt.lstripChars x y)) := by
  refine ⟨fun s E S => ?_⟩
  refine Call_method1 (hbase _) (starEach_one hs) hline (wpAny_mono (h₁.run s E S) (fun v s₁ g₁ => ?_) fun _ _ e => e)
  obtain ⟨k₁, r₁⟩ := g₁
  cases r₁
  refine SB.lstripChars (wpAny_mono (h₂.run s₁ E (S.keeps k₁)) (fun v s₂ g₂ => ?_) fun _ _ e => e) hz
  obtain ⟨k₂, r₂⟩ := g₂
  cases r₂
  exact ⟨_, _, rfl, fun t' k => ⟨keeps_trans (keeps_trans k₁ k₂) (keeps_tok _ _), .str _ _⟩⟩
end
end Mine

namespace Mine

section
variable {prog : Program} {w : World} {A : Around} {env : Env} {X : Addr → Prop} {c : Str → Option D}

open Builtin.Str in
theorem call_split {s : Shared} {E : Value → Shared → Prop} {x y : Str} {t u : Tok} {Q : Value → Shared → Prop} (hy : (y.length == 0) = false)
    (hq : ∀ l k, l.map (·.1) = Txt.split x y → Q (.ref s.heap.objs.size) { s with heap := s.heap.push { cls := .type "list", data := .seq (strValues l).toArray }, toks := k })
    (hsz : x.length ≤ sizeLine) (hsz2 : (Builtin.Str.partsBetween x (Builtin.Str.occurrences x y 0 x.length (x.length + 1)) y.length).length ≤ sizeLine) :
    wpAny (model prog w) A (call (.builtin "str.split") [.str x t, .str y u]) Q E s := by
  have go : ∀ {S}, Meets (Builtin.«str.split» ⟨[.str x t, .str y u], []⟩) S → S A (wants Q E) s → wpAny (model prog w) A (call (.builtin "str.split") [.str x t, .str y u]) Q E s :=
    fun m h => call_meets F.slot_str_split (typeIs_str _ _ _) F.entry_str_split (F.args_str_split_2 _ _) m h
  by_cases far : (decide (x.length < y.length) || decide (strKind x < strKind y)) = true
  · exact go (meets_str_split_cannot_occur x y t u far) (hq [(x, t)] s.toks (by unfold Txt.split; rw [if_pos far]; rfl))
  · have near := Bool.eq_false_iff.mpr far
    by_cases no : (occurrences x y 0 x.length (x.length + 1)).isEmpty = true
    · exact go (meets_str_split_not_found x y t u near hy no) (hq [(x, t)] s.toks (by unfold Txt.split; rw [if_neg far, if_pos no]; rfl))
    · refine go (meets_str_split_sep x y t u near hy (Bool.eq_false_iff.mpr no) hsz hsz2) ?_
      have texts := numbered_texts s.toks (partsBetween x (occurrences x y 0 x.length (x.length + 1)) y.length)
      have made := hq _ (s.toks + (partsBetween x (occurrences x y 0 x.length (x.length + 1)) y.length).length) (texts.trans (by unfold Txt.split; rw [if_neg far, if_neg no]))
      rw [← strsFrom_eq] at made
      exact made

/-- tests -/
structure EvB (prog : Program) (w : World) (A : Around) (env : Env) (X : Addr → Prop) (c : Str → Option D) (e : Expr) (b : Bool) : Prop where
  run : ∀ s E, St prog w env X c s → wpAny (model prog w) A (isTrue e env (eval e env)) (fun r s' => r = b ∧ Keeps s s') E s
def Cmp (prog : Program) (w : World) (A : Around) (X : Addr → Prop) (op : CmpOp) (d₁ d₂ : D) (b : Bool) : Prop :=
  ∀ s E v₁ v₂, Rp prog w (Gd s.heap X) v₁ d₁ → Rp prog w (Gd s.heap X) v₂ d₂ → wpAny (model prog w) A (compareOp op v₁ v₂) (fun v s' => v = .bool b ∧ Keeps s s') E s
theorem cmp_lt_int {a b : Int} : Cmp prog w A X .Lt (.int a) (.int b) (decide (a < b)) := by
  intro s E v₁ v₂ r₁ r₂; cases r₁; cases r₂; exact lt_int ⟨rfl, keeps_refl s⟩
theorem cmp_gt_int {a b : Int} : Cmp prog w A X .Gt (.int a) (.int b) (decide (b < a)) := by
  intro s E v₁ v₂ r₁ r₂; cases r₁; cases r₂; exact gt_int ⟨rfl, keeps_refl s⟩
theorem cmp_eq_int {a b : Int} : Cmp prog w A X .Eq (.int a) (.int b) (a == b) := by
  intro s E v₁ v₂ r₁ r₂; cases r₁; cases r₂; exact eq_int ⟨rfl, keeps_refl s⟩
theorem cmp_eq_str {a b : Str} : Cmp prog w A X .Eq (.str a) (.str b) (a == b) := by
  intro s E v₁ v₂ r₁ r₂; cases r₁; cases r₂; exact eq_str ⟨rfl, keeps_refl s⟩
theorem cmp_ne_str {a b : Str} : Cmp prog w A X .NotEq (.str a) (.str b) (a != b) := by
  intro s E v₁ v₂ r₁ r₂; cases r₁; cases r₂; exact ne_str ⟨rfl, keeps_refl s⟩
theorem evb_cmp {l r : Expr} {op : CmpOp} {pos : Pos} {d₁ d₂ : D} {b : Bool} (h₁ : Ev prog w A env X c l d₁) (h₂ : Ev prog w A env X c r d₂) (h : Cmp prog w A X op d₁ d₂ b)
    (hm : behindInMarks op r = false := by with_unfolding_all rfl) : EvB prog w A env X c (.Compare l [op] [r] pos) b := by
  refine ⟨fun s E S => ?_⟩
  refine wpAny_isTrue_Compare1 (wpAny_mono (h₁.run s E S) (fun v₁ s₁ g₁ => wpAny_mono (h₂.run s₁ E (S.keeps g₁.1)) (fun v₂ s₂ g₂ => ?_) fun _ _ e => e) fun _ _ e => e) hm
  refine wpAny_mono (h s₂ E v₁ v₂ (g₁.2.keeps (keeps_get g₂.1)) g₂.2) (fun v s₃ g => ?_) fun _ _ e => e
  obtain ⟨rfl, k⟩ := g
  exact wpAny_truthy_bool ⟨rfl, keeps_trans (keeps_trans g₁.1 g₂.1) k⟩
theorem ev_cmp {l r : Expr} {op : CmpOp} {pos : Pos} {d₁ d₂ : D} {b : Bool} (h₁ : Ev prog w A env X c l d₁) (h₂ : Ev prog w A env X c r d₂) (h : Cmp prog w A X op d₁ d₂ b)
    (hm : behindInMarks op r = false := by with_unfolding_all rfl) : Ev prog w A env X c (.Compare l [op] [r] pos) (.bool b) := by
  refine ⟨fun s E S => ?_⟩
  refine wpAny_Compare1 (wpAny_mono (h₁.run s E S) (fun v₁ s₁ g₁ => wpAny_mono (h₂.run s₁ E (S.keeps g₁.1)) (fun v₂ s₂ g₂ => ?_) fun _ _ e => e) fun _ _ e => e) hm
  refine wpAny_mono (h s₂ E v₁ v₂ (g₁.2.keeps (keeps_get g₂.1)) g₂.2) (fun v s₃ g => ?_) fun _ _ e => e
  obtain ⟨rfl, k⟩ := g
  exact ⟨keeps_trans (keeps_trans g₁.1 g₂.1) k, .bool _⟩
theorem ev_and_true {x y : Expr} {pos : Pos} {d : D} (h₁ : Ev prog w A env X c x (.bool true)) (h₂ : Ev prog w A env X c y d) : Ev prog w A env X c (.BoolOp .And [x, y] pos) d := by
  refine ⟨fun s E S => ?_⟩
  refine BoolOp_and (wpAny_mono (h₁.run s E S) (fun v s₁ g₁ => ?_) fun _ _ e => e)
  obtain ⟨k, r⟩ := g₁
  cases r
  refine wpAny_truthy_bool ?_
  rw [if_pos rfl]
  exact BoolOp_one (wpAny_mono (h₂.run s₁ E (S.keeps k)) (fun v s₂ g => gives_trans k g) fun _ _ e => e)
theorem evb_and {x y : Expr} {pos : Pos} {a b : Bool} (h₁ : EvB prog w A env X c x a) (h₂ : EvB prog w A env X c y b) : EvB prog w A env X c (.BoolOp .And [x, y] pos) (a && b) := by
  refine ⟨fun s E S => ?_⟩
  refine isTrue_and (wpAny_mono (h₁.run s E S) (fun r s₁ g₁ => ?_) fun _ _ e => e)
  obtain ⟨rfl, k⟩ := g₁
  cases r with
  | false => exact ⟨rfl, k⟩
  | true =>
    refine isTrue_and (wpAny_mono (h₂.run s₁ E (S.keeps k)) (fun r s₂ g₂ => ?_) fun _ _ e => e)
    obtain ⟨rfl, k₂⟩ := g₂
    cases r with
    | false => exact ⟨rfl, keeps_trans k k₂⟩
    | true => exact isTrue_and_nil ⟨rfl, keeps_trans k k₂⟩
theorem evb_not {x : Expr} {pos : Pos} {a : Bool} (h₁ : EvB prog w A env X c x a) : EvB prog w A env X c (.UnaryOp .Not x pos) (!a) := by
  refine ⟨fun s E S => ?_⟩
  exact isTrue_not (wpAny_mono (h₁.run s E S) (fun r s₁ g₁ => ⟨by rw [g₁.1], g₁.2⟩) fun _ _ e => e)
theorem evb_list {x : Str} {pos : Pos} {ds : List D} (h : Ev prog w A env X c (.Name x pos) (.lst ds)) (hz : (ds.length : Int) < 2 ^ 63) : EvB prog w A env X c (.Name x pos) (!ds.isEmpty) := by
  refine ⟨fun s E S => ?_⟩
  refine isTrue_plain (wpAny_mono (h.run s E S) (fun v s₁ g => ?_) fun _ _ e => e)
  obtain ⟨a, vs, rfl, hl, q, _⟩ := rp_list g.2
  have e1 := q.length
  rw [Array.length_toList] at e1
  refine wpAny_truthy_list hl (by rw [e1]; exact hz) ⟨?_, keeps_trans g.1 (keeps_tok _ _)⟩
  cases ds with
  | nil => simp at e1; simp [e1]
  | cons d ds =>
    have : vs.isEmpty = false := by
      cases h : vs.isEmpty with
      | false => rfl
      | true => rw [Array.isEmpty_iff] at h; rw [h] at e1; simp at e1
    simp [this]

/-- a map of names with one more -/
def upd (c : Str → Option D) (x : Str) (d : D) : Str → Option D := fun y => if y = x then some d else c y

/-- P hangs on the objects at fp and on the frozen data alone -/
def Stab (X : Addr → Prop) (fp : List Addr) (P : Heap → Prop) : Prop :=
  ∀ h h', P h → (∀ b ∈ fp, ∀ o, h.get? b = some o → h'.get? b = some o) → (∀ b o, DataC o → ¬ X b → h.get? b = some o → h'.get? b = some o) → P h'
/-- inside a def's frame; P: what is known besides of the objects at fp -/
structure Bd (prog : Program) (w : World) (s₀ : Shared) (X₀ : Addr → Prop) (env : Env) (X : Addr → Prop) (fp : List Addr) (P : Heap → Prop) (c : Str → Option D) (s : Shared) : Prop where
  st : St prog w env X c s
  kp : Keeps s₀ s
  sub : ∀ a, X₀ a → X a
  own : ∀ a, X a → X₀ a ∨ s₀.heap.get? a = none
  loc : X env.locals
  lnew : s₀.heap.get? env.locals = none
  ns : ∃ m, s.heap.Ns env.locals m
  cel : ∀ x a, env.cells.lookup x = some a → X a ∧ s₀.heap.get? a = none ∧ a ≠ env.locals ∧ ∃ v, s.heap.IsCell a v
  inj : ∀ x y a, env.cells.lookup x = some a → env.cells.lookup y = some a → x = y
  ex : P s.heap
  off : ∀ b ∈ fp, b ≠ env.locals ∧ ∀ x, env.cells.lookup x ≠ some b
  stab : Stab X fp P
  x0 : ∀ a, X₀ a → ∃ o, s₀.heap.get? a = some o

variable {s₀ : Shared} {X₀ : Addr → Prop} {fp : List Addr} {P : Heap → Prop}
theorem Bd.keeps {s s' : Shared} (x : Bd prog w s₀ X₀ env X fp P c s) (k : Keeps s s') : Bd prog w s₀ X₀ env X fp P c s' where
  st := x.st.keeps k
  kp := keeps_trans x.kp k
  sub := x.sub
  own := x.own
  loc := x.loc
  lnew := x.lnew
  ns := let ⟨m, h⟩ := x.ns; ⟨m, h.keeps (keeps_get k)⟩
  cel := fun y a h => let ⟨h1, h2, h3, v, h4⟩ := x.cel y a h; ⟨h1, h2, h3, v, h4.keeps (keeps_get k)⟩
  inj := x.inj
  ex := x.stab _ _ x.ex (fun b _ o e => keeps_get k b o e) fun b o _ _ e => keeps_get k b o e
  off := x.off
  stab := x.stab
  x0 := x.x0
theorem Bd.weak {s : Shared} {c' : Str → Option D} (x : Bd prog w s₀ X₀ env X fp P c s) (h : ∀ y d, c' y = some d → c y = some d) : Bd prog w s₀ X₀ env X fp P c' s :=
  { x with st := { x.st with vars := fun y d e => x.st.vars y d (h y d e) } }

theorem ns_same {h : Heap} {a : Addr} {m m' : Str → Option Value} (x : h.Ns a m) (y : h.Ns a m') (n : Str) : m n = m' n := by
  obtain ⟨o, es, ep, h1, h2, _, h3⟩ := x
  obtain ⟨o', es', ep', g1, g2, _, g3⟩ := y
  rw [h1] at g1; cases g1
  rw [h2] at g2; cases g2
  rw [← h3, ← g3]
theorem keeps_but {s : Shared} {p : Addr} {h' : Heap} {t : Nat} (k : Keeps s₀ s) (hs : Heap.SameBut p s.heap h') (hp : s₀.heap.get? p = none) : Keeps s₀ { s with heap := h', toks := t } := by
  obtain ⟨h, tk, rfl, k⟩ := k
  exact ⟨h', t, rfl, fun b o e => (hs.2 b fun q => by rw [q, hp] at e; cases e).trans (k b o e)⟩
theorem glb_but {s : Shared} {p : Addr} {h' : Heap} (g : Glb s₀.heap) (k : Keeps s₀ s) (hs : Heap.SameBut p s.heap h') (hp : s₀.heap.get? p = none) : Glb h' :=
  g.keeps fun b o e => keeps_get (keeps_but (t := 0) k hs hp) b o e

/-- stores -/
theorem bd_store {s : Shared} {E : Value → Shared → Prop} {x : Str} {v : Value} {d : D} {Q : Unit → Shared → Prop} (G : Glb s₀.heap) (B : Bd prog w s₀ X₀ env X fp P c s) (hk : env.kindOf x = some .local) (r : Rp prog w (Gd s.heap X) v d)
    (h : ∀ s', Bd prog w s₀ X₀ env X fp P (upd c x d) s' → Q () s') : wpAny (model prog w) A (storeName env x v) Q E s := by
  obtain ⟨m, hn⟩ := B.ns
  refine wpAny_storeName_local hk hn (fun h' hn' hs' => h _ ?_) (by rw [B.st.fn]; rfl)
  refine ⟨⟨B.st.fn, B.st.gl, glb_but G B.kp hs' B.lnew, fun a xa => ?_, fun y e hy => ?_, fun y a ha => let ⟨_, _, h3, _, o, e, _⟩ := B.cel y a ha; ⟨o, (hs'.2 a h3).trans e⟩⟩, keeps_but B.kp hs' B.lnew, B.sub, B.own, B.loc, B.lnew, ⟨_, hn'⟩, fun y a ha => ?_, B.inj, B.stab _ _ B.ex (fun b hb o e => (hs'.2 b (B.off b hb).1).trans e) (fun b o _ nx e => (hs'.2 b fun q => nx (q ▸ B.loc)).trans e), B.off, B.stab, B.x0⟩
  · by_cases q : a = env.locals
    · subst q; obtain ⟨o, _, _, e, _⟩ := hn'; exact ⟨o, e⟩
    · obtain ⟨o, e⟩ := B.st.xb a xa; exact ⟨o, (hs'.2 a q).trans e⟩
  · unfold upd at hy
    by_cases q : y = x
    · subst q; rw [if_pos rfl] at hy; cases hy
      exact ⟨v, .inl ⟨hk, _, hn', by simp⟩, r.but hs' B.loc⟩
    · rw [if_neg q] at hy
      obtain ⟨u, hu, ru⟩ := B.st.vars y e hy
      refine ⟨u, ?_, ru.but hs' B.loc⟩
      rcases hu with ⟨h1, m', h2, h3⟩ | ⟨h1, a, h2, h3⟩
      · exact .inl ⟨h1, _, hn', by rw [if_neg q, ns_same hn h2]; exact h3⟩
      · exact .inr ⟨h1, a, h2, h3.sameBut hs' (B.cel y a h2).2.2.1⟩
  · obtain ⟨h1, h2, h3, v', h4⟩ := B.cel y a ha
    exact ⟨h1, h2, h3, v', h4.sameBut hs' h3⟩
theorem bd_store_cell {s : Shared} {E : Value → Shared → Prop} {x : Str} {v : Value} {d : D} {Q : Unit → Shared → Prop} (G : Glb s₀.heap) (B : Bd prog w s₀ X₀ env X fp P c s) (hk : env.kindOf x = some .cell) (hc : (env.cells.lookup x).isSome = true) (r : Rp prog w (Gd s.heap X) v d)
    (h : ∀ s', Bd prog w s₀ X₀ env X fp P (upd c x d) s' → Q () s') : wpAny (model prog w) A (storeName env x v) Q E s := by
  obtain ⟨p, hp⟩ := Option.isSome_iff_exists.mp hc
  obtain ⟨xp, np, lp, v₀, hv₀⟩ := B.cel x p hp
  refine wpAny_storeName_cell B.st.fn hk hp hv₀ (fun h' hn' hs' => h _ ?_)
  refine ⟨⟨B.st.fn, B.st.gl, glb_but G B.kp hs' np, fun a xa => ?_, fun y e hy => ?_, fun y a ha => if q : a = p then (let ⟨o, e, _⟩ := hn'; ⟨o, q ▸ e⟩) else (let ⟨_, _, _, _, o, e, _⟩ := B.cel y a ha; ⟨o, (hs'.2 a q).trans e⟩)⟩, keeps_but B.kp hs' np, B.sub, B.own, B.loc, B.lnew, ?_, fun y a ha => ?_, B.inj, B.stab _ _ B.ex (fun b hb o e => (hs'.2 b fun q => (B.off b hb).2 x (q ▸ hp)).trans e) (fun b o _ nx e => (hs'.2 b fun q => nx (q ▸ xp)).trans e), B.off, B.stab, B.x0⟩
  · by_cases q : a = p
    · subst q; obtain ⟨o, e, _⟩ := hn'; exact ⟨o, e⟩
    · obtain ⟨o, e⟩ := B.st.xb a xa; exact ⟨o, (hs'.2 a q).trans e⟩
  · unfold upd at hy
    by_cases q : y = x
    · subst q; rw [if_pos rfl] at hy; cases hy
      exact ⟨v, .inr ⟨hk, p, hp, hn'⟩, r.but hs' xp⟩
    · rw [if_neg q] at hy
      obtain ⟨u, hu, ru⟩ := B.st.vars y e hy
      refine ⟨u, ?_, ru.but hs' xp⟩
      rcases hu with ⟨h1, m', h2, h3⟩ | ⟨h1, a, h2, h3⟩
      · exact .inl ⟨h1, m', h2.sameBut hs' (Ne.symm lp), h3⟩
      · exact .inr ⟨h1, a, h2, h3.sameBut hs' fun e => q (B.inj y x a h2 (e ▸ hp))⟩
  · obtain ⟨m, hn⟩ := B.ns; exact ⟨m, hn.sameBut hs' (Ne.symm lp)⟩
  · by_cases q : a = p
    · subst q; exact ⟨xp, np, lp, _, hn'⟩
    · obtain ⟨h1, h2, h3, v', h4⟩ := B.cel y a ha
      exact ⟨h1, h2, h3, v', h4.sameBut hs' q⟩

/-- statements -/
def Aft (prog : Program) (w : World) (A : Around) (env : Env) (rest : List Stmt) (Q : Flow → Shared → Prop) (E : Value → Shared → Prop) (f : Flow) (s' : Shared) : Prop :=
  match f with
  | .next => WP prog w A (execs rest env) Q E s'
  | f => Q f s'
theorem ex_nil {s : Shared} {E : Value → Shared → Prop} {Q : Flow → Shared → Prop} (h : Q .next s) : WP prog w A (execs [] env) Q E s := ⟨wpAny_execs_nil h⟩
theorem ex_assign {s : Shared} {E : Value → Shared → Prop} {x : Str} {e : Expr} {p pos : Pos} {d : D} {rest : List Stmt} {Q : Flow → Shared → Prop} (G : Glb s₀.heap) (B : Bd prog w s₀ X₀ env X fp P c s) (hk : env.kindOf x = some .local) (he : Ev prog w A env X c e d)
    (h : ∀ s', Bd prog w s₀ X₀ env X fp P (upd c x d) s' → WP prog w A (execs rest env) Q E s') (hs : swapsWith e (some (.Name x p)) pos.line env = pure false := by rfl) :
    WP prog w A (execs (.Assign [.Name x p] e pos :: rest) env) Q E s :=
  ⟨wpAny_execs_cons (wpAny_Assign_Name (wpAny_mono (he.run s E B.st) (fun v s₁ g => bd_store G (B.keeps g.1) hk g.2 fun s' B' => (h s' B').out) fun _ _ e => e) hs)⟩
theorem ex_assign_cell {s : Shared} {E : Value → Shared → Prop} {x : Str} {e : Expr} {p pos : Pos} {d : D} {rest : List Stmt} {Q : Flow → Shared → Prop} (G : Glb s₀.heap) (B : Bd prog w s₀ X₀ env X fp P c s) (hk : env.kindOf x = some .cell) (hc : (env.cells.lookup x).isSome = true) (he : Ev prog w A env X c e d)
    (h : ∀ s', Bd prog w s₀ X₀ env X fp P (upd c x d) s' → WP prog w A (execs rest env) Q E s') (hs : swapsWith e (some (.Name x p)) pos.line env = pure false := by rfl) :
    WP prog w A (execs (.Assign [.Name x p] e pos :: rest) env) Q E s :=
  ⟨wpAny_execs_cons (wpAny_Assign_Name (wpAny_mono (he.run s E B.st) (fun v s₁ g => bd_store_cell G (B.keeps g.1) hk hc g.2 fun s' B' => (h s' B').out) fun _ _ e => e) hs)⟩
/-- what a def hands back -/
def Hands (prog : Program) (w : World) (X₀ : Addr → Prop) (s₀ : Shared) (d : D) (f : Flow) (s' : Shared) : Prop := ∃ v, f = .ret v ∧ Gives prog w X₀ s₀ d v s'
theorem ex_return {s : Shared} {E : Value → Shared → Prop} {e : Expr} {pos : Pos} {d : D} {rest : List Stmt} (B : Bd prog w s₀ X₀ env X fp P c s) (he : Ev prog w A env X c e d) :
    WP prog w A (execs (.Return (some e) pos :: rest) env) (Hands prog w X₀ s₀ d) E s :=
  ⟨wpAny_execs_cons (wpAny_Return_some (wpAny_mono (he.run s E B.st) (fun v s₁ g => ⟨v, rfl, keeps_trans B.kp g.1, g.2.off B.sub⟩) fun _ _ e => e))⟩
theorem ex_if {s : Shared} {E : Value → Shared → Prop} {t : Expr} {body orelse rest : List Stmt} {pos : Pos} {b : Bool} {Q : Flow → Shared → Prop} (B : Bd prog w s₀ X₀ env X fp P c s) (ht : EvB prog w A env X c t b)
    (h : ∀ s', Bd prog w s₀ X₀ env X fp P c s' → WP prog w A (execs (if b = true then body else orelse) env) (Aft prog w A env rest Q E) E s') :
    WP prog w A (execs (.If t body orelse pos :: rest) env) Q E s := by
  refine ⟨wpAny_execs_cons (wpAny_If (wpAny_mono (ht.run s E B.st) (fun r s₁ g => ?_) fun _ _ e => e))⟩
  obtain ⟨rfl, k⟩ := g
  have q := (h s₁ (B.keeps k)).out
  cases r with
  | false => rw [if_neg Bool.false_ne_true] at q; rw [if_neg Bool.false_ne_true]; exact wpAny_mono q (fun f s' g => by cases f <;> first | exact g.out | exact g) fun _ _ e => e
  | true => rw [if_pos rfl] at q; rw [if_pos rfl]; exact wpAny_mono q (fun f s' g => by cases f <;> first | exact g.out | exact g) fun _ _ e => e
/-- an If that is not taken, and one that returns -/
theorem ex_if_no {s : Shared} {E : Value → Shared → Prop} {t : Expr} {body rest : List Stmt} {pos : Pos} {b : Bool} {Q : Flow → Shared → Prop} (B : Bd prog w s₀ X₀ env X fp P c s) (ht : EvB prog w A env X c t b) (hb : b = false)
    (h : ∀ s', Bd prog w s₀ X₀ env X fp P c s' → WP prog w A (execs rest env) Q E s') : WP prog w A (execs (.If t body [] pos :: rest) env) Q E s := by
  subst hb
  exact ex_if B ht fun s' B' => ⟨wpAny_execs_nil (h s' B')⟩
theorem ex_if_ret {s : Shared} {E : Value → Shared → Prop} {t : Expr} {body orelse rest : List Stmt} {pos : Pos} {b : Bool} {d : D} (B : Bd prog w s₀ X₀ env X fp P c s) (ht : EvB prog w A env X c t b) (hb : b = true)
    (h : ∀ s', Bd prog w s₀ X₀ env X fp P c s' → WP prog w A (execs body env) (Hands prog w X₀ s₀ d) E s') : WP prog w A (execs (.If t body orelse pos :: rest) env) (Hands prog w X₀ s₀ d) E s := by
  subst hb
  refine ex_if B ht fun s' B' => ⟨wpAny_mono (h s' B').out (fun f s' g => ?_) fun _ _ e => e⟩
  obtain ⟨v, rfl, g⟩ := g
  exact ⟨v, rfl, g⟩
end
end Mine

namespace Mine

section
variable {prog : Program} {w : World}

inductive PR (prog : Program) (w : World) (G : Addr → Obj → Prop) : List (Str × Value) → List (Str × D) → Prop
  | nil : PR prog w G [] []
  | cons {x : Str} {v : Value} {d : D} {l : List (Str × Value)} {m : List (Str × D)} : Rp prog w G v d → PR prog w G l m → PR prog w G ((x, v) :: l) ((x, d) :: m)
theorem PR.append {G : Addr → Obj → Prop} {l l' : List (Str × Value)} {m m' : List (Str × D)} (h : PR prog w G l m) (h' : PR prog w G l' m') : PR prog w G (l ++ l') (m ++ m') := by
  induction h with
  | nil => exact h'
  | cons r _ ih => exact .cons r ih
theorem PR.reverse {G : Addr → Obj → Prop} {l : List (Str × Value)} {m : List (Str × D)} (h : PR prog w G l m) : PR prog w G l.reverse m.reverse := by
  induction h with
  | nil => exact .nil
  | cons r _ ih => rw [List.reverse_cons, List.reverse_cons]; exact ih.append (.cons r .nil)
theorem PR.zip {G : Addr → Obj → Prop} : ∀ {xs : List Str} {vs : List Value} {ds : List D}, RpA prog w G vs ds → PR prog w G (xs.zip vs) (xs.zip ds)
  | [], _, _, _ => .nil
  | _ :: _, [], [], _ => .nil
  | _ :: _, [], _ :: _, h => nomatch h
  | _ :: _, _ :: _, [], h => nomatch h
  | _ :: xs, _ :: vs, _ :: ds, .cons h r => .cons h (PR.zip r)
theorem PR.lookup {G : Addr → Obj → Prop} {l : List (Str × Value)} {m : List (Str × D)} (h : PR prog w G l m) {y : Str} {d : D} (e : m.lookup y = some d) : ∃ v, l.lookup y = some v ∧ Rp prog w G v d := by
  induction h with
  | nil => cases e
  | @cons x v d' l m r _ ih =>
    rw [List.lookup_cons] at e ⊢
    cases hb : y == x with
    | true => rw [hb] at e; cases e; exact ⟨v, rfl, r⟩
    | false => rw [hb] at e; exact ih e

theorem rm_deeper {n : Nat} {A : Around} {env : Env} (h : Rm (n + 1) A) : Rm n (A.deeper env) := by
  obtain ⟨h1, h2, h3⟩ := h
  refine ⟨h1, ?_, ?_⟩
  · show A.depth + 1 + n < recursionLimit; omega
  · show A.units + 3 + 8 * n + 200 < cLine; omega
theorem rm_mono {n m : Nat} {A : Around} (h : Rm n A) (hm : m ≤ n) : Rm m A := by
  obtain ⟨h1, h2, h3⟩ := h
  exact ⟨h1, by omega, by omega⟩
theorem fnc_mono {n m k : Nat} {ds : List D} {d : D} (h : FnC prog w n k ds d) (hm : n ≤ m) : FnC prog w m k ds d :=
  ⟨fun A X s E vs f r => h.run A X s E vs f (rm_mono r hm)⟩

theorem fnc_plain {n k : Nat} {nm : Str} {p : Arguments} {b : List Stmt} {sc : Scope} {ds : List D} {d : D} (hk : fnAt k = some (nm, p, b, sc)) (xs : List Str)
    (hb : ∀ pm code doc (vs : List Value), vs.length = ds.length → bindArgs (docDef nm p b sc pm code doc) ⟨vs, []⟩ = pure (xs.zip vs))
    (hl : ∀ x ∈ xs, sc.names.lookup x = some .local) (hfn : sc.kind = .function)
    (hco : sc.isCoroutine = false) (hgen : sc.isGenerator = false) (hcell : ∀ x ∈ sc.names, x.2 ≠ .cell)
    (body : ∀ A X₀ s₀ L a cd X s, Rm n A → Glb s₀.heap → Bd prog w s₀ X₀ (envOf nm sc L a cd) X [] (fun _ => True) (fun y => (xs.zip ds).reverse.lookup y) s →
      WP prog w A (execs b (envOf nm sc L a cd)) (Hands prog w X₀ s₀ d) (fun _ _ => False) s) : FnC prog w (n + 1) k ds d := by
  refine ⟨fun A X s E vs f R G xb hf ra => ?_⟩
  obtain ⟨nm', p', b', sc', o, pm, code, doc, hk', ho, hd, hcd⟩ := hf
  rw [hk] at hk'
  cases hk'
  refine wpAny_call (call_plain_ret (by have := R.2.1; omega) ho hd (let ⟨_, _, _, _, l, _⟩ := G; l) hcd (hb pm code doc vs ra.length) (fun y hy => hl _ (List.of_mem_zip hy).1) (fun h₁ F => ?_) hco hgen hfn hcell)
  refine wpAny_mono (body (A.deeper (envOf nm sc s.heap.objs.size f code)) X s s.heap.objs.size f code (fun a => X a ∨ a = s.heap.objs.size) _ (rm_deeper R) G ?_).out (fun fl s' g => ?_) fun _ _ e => e.elim
  · have hnew : s.heap.get? s.heap.objs.size = none := by
      cases e : s.heap.get? s.heap.objs.size with
      | none => rfl
      | some o => exact absurd (Heap.lt_size e) (Nat.lt_irrefl _)
    have kp : Keeps s { s with heap := h₁, toks := s.toks + (xs.zip vs).length } := ⟨h₁, _, rfl, F.keep⟩
    refine ⟨⟨hfn, ⟨rfl, rfl⟩, G.keeps F.keep, fun a ha => ?_, fun y e hy => ?_, fun x a h => (by cases h)⟩, kp, fun a ha => .inl ha, fun a ha => ha.elim .inl fun e => .inr (e ▸ hnew), .inr rfl, hnew, ⟨_, F.ns⟩, fun x a h => (by cases h), fun x y a h => (by cases h), trivial, fun b hb => (by cases hb), fun _ _ _ _ _ => trivial, xb⟩
    · rcases ha with ha | rfl
      · obtain ⟨o, e⟩ := xb a ha; exact ⟨o, F.keep _ _ e⟩
      · obtain ⟨o, _, _, e, _⟩ := F.ns; exact ⟨o, e⟩
    · obtain ⟨v, hv, r⟩ := (PR.zip (xs := xs) ra).reverse.lookup hy
      refine ⟨v, .inl ⟨?_, _, F.ns, hv⟩, (r.mono fun a o g => ⟨F.keep _ _ g.1, fun q => q.elim g.2 fun e => ?_⟩)⟩
      · have := List.mem_reverse.mp (mem_of_lookup hv)
        exact hl _ (List.of_mem_zip this).1
      · have := g.1; rw [e, hnew] at this; cases this
  · obtain ⟨v, rfl, g⟩ := g
    exact g
end

section
variable {prog : Program} {w : World} {A : Around} {env : Env} {X : Addr → Prop} {c : Str → Option D} {s₀ : Shared} {X₀ : Addr → Prop} {fp : List Addr} {P : Heap → Prop}

theorem bd_put {s : Shared} {E : Value → Shared → Prop} {x : Str} {v : Value} {d : D} {Q : Unit → Shared → Prop} (G : Glb s₀.heap) (B : Bd prog w s₀ X₀ env X fp P c s)
    (hk : env.kindOf x = some .local ∨ (env.kindOf x = some .cell ∧ (env.cells.lookup x).isSome = true)) (r : Rp prog w (Gd s.heap X) v d)
    (h : ∀ s', Bd prog w s₀ X₀ env X fp P (upd c x d) s' → Q () s') : wpAny (model prog w) A (storeName env x v) Q E s := by
  rcases hk with hk | ⟨hk, hc⟩
  · exact bd_store G B hk r h
  · exact bd_store_cell G B hk hc r h

/-- one object changed that is neither data nor a name's place (an iterator) -/
theorem Bd.iter {s : Shared} {I : Addr} {oI : Obj} {h' : Heap} {t : Nat} {P' : Heap → Prop} (G : Glb s₀.heap) (B : Bd prog w s₀ X₀ env X fp P c s) (hI : s.heap.get? I = some oI) (hd : ¬ DataC oI) (hn : s₀.heap.get? I = none) (hl : I ≠ env.locals) (hc : ∀ x, env.cells.lookup x ≠ some I)
    (hs : ∀ b o, b ≠ I → s.heap.get? b = some o → h'.get? b = some o) (hI' : X I → ∃ o, h'.get? I = some o) (hP : P' h') (hst : Stab X fp P') : Bd prog w s₀ X₀ env X fp P' c { s with heap := h', toks := t } := by
  obtain ⟨hk, tk, e, kp⟩ := B.kp
  have kp' : ∀ b o, s₀.heap.get? b = some o → h'.get? b = some o := fun b o q => hs b o (fun z => by rw [z, hn] at q; cases q) (by rw [e]; exact kp b o q)
  refine ⟨⟨B.st.fn, B.st.gl, G.keeps kp', fun a xa => ?_, fun y e hy => ?_, fun y a ha => let ⟨_, _, _, _, o, e, _⟩ := B.cel y a ha; ⟨o, hs a o (fun z => hc y (z ▸ ha)) e⟩⟩, ⟨h', t, by rw [e], kp'⟩, B.sub, B.own, B.loc, B.lnew, ?_, fun y a ha => ?_, B.inj, hP, B.off, hst, B.x0⟩
  · by_cases q : a = I
    · subst q; exact hI' xa
    · obtain ⟨o, e⟩ := B.st.xb a xa; exact ⟨o, hs a o q e⟩
  · obtain ⟨u, hu, ru⟩ := B.st.vars y e hy
    refine ⟨u, ?_, ru.monoC fun a o dc g => ⟨hs a o (fun z => ?_) g.1, g.2⟩⟩
    · rcases hu with ⟨h1, m', h2, h3⟩ | ⟨h1, a, h2, h3⟩
      · exact .inl ⟨h1, m', h2.at' fun o e => hs _ o (Ne.symm hl) e, h3⟩
      · obtain ⟨o, q1, q2⟩ := h3
        exact .inr ⟨h1, a, h2, o, hs a o (fun z => hc y (z ▸ h2)) q1, q2⟩
    · have := g.1; rw [z, hI] at this; cases this; exact hd dc
  · obtain ⟨m, hm⟩ := B.ns; exact ⟨m, hm.at' fun o e => hs _ o (Ne.symm hl) e⟩
  · obtain ⟨h1, h2, h3, v', o, q1, q2⟩ := B.cel y a ha
    exact ⟨h1, h2, h3, v', o, hs a o (fun z => hc y (z ▸ ha)) q1, q2⟩

/-- more is known -/
theorem Bd.more {s : Shared} {fp' : List Addr} {P' : Heap → Prop} (B : Bd prog w s₀ X₀ env X fp P c s) (hf : ∀ b ∈ fp', b ≠ env.locals ∧ ∀ x, env.cells.lookup x ≠ some b) (hP : P' s.heap) (hst : Stab X fp' P') : Bd prog w s₀ X₀ env X fp' P' c s :=
  ⟨B.st, B.kp, B.sub, B.own, B.loc, B.lnew, B.ns, B.cel, B.inj, hP, hf, hst, B.x0⟩

theorem stab_and {X : Addr → Prop} {fp fp₂ : List Addr} {P P₂ : Heap → Prop} (h1 : Stab X fp P) (h2 : Stab X fp₂ P₂) : Stab X (fp ++ fp₂) (fun h => P h ∧ P₂ h) :=
  fun h h' p k f => ⟨h1 h h' p.1 (fun b hb => k b (List.mem_append.mpr (.inl hb))) f, h2 h h' p.2 (fun b hb => k b (List.mem_append.mpr (.inr hb))) f⟩
theorem stab_src {X : Addr → Prop} {I l : Addr} {i : Nat} {items : Array Value} {ds : List D} : Stab X [I, l] (fun h => h.IsListIter I l i ∧ h.IsList l items ∧ RpA prog w (Gd h X) items.toList ds) := by
  intro h h' p k f
  obtain ⟨⟨o, e, r⟩, ⟨o', e', r'⟩, q⟩ := p
  exact ⟨⟨o, k I (by simp) o e, r⟩, ⟨o', k l (by simp) o' e', r'⟩, q.monoC fun a o dc g => ⟨f a o dc g.2 g.1, g.2⟩⟩

/-- for x in a list that stays -/
theorem ex_for {s : Shared} {E : Value → Shared → Prop} {x : Str} {e : Expr} {px pos : Pos} {ds : List D} {body rest : List Stmt} {Q : Flow → Shared → Prop} (I : Nat → Str → Option D) (Pn : Nat → Heap → Prop)
    (G : Glb s₀.heap) (hh : A.handled = none) (B : Bd prog w s₀ X₀ env X fp (Pn 0) c s) (hfx : ∀ b ∈ fp, X b) (hst : ∀ i, Stab X fp (Pn i)) (hk : env.kindOf x = some .local) (he : Ev prog w A env X c e (.lst ds)) (h0 : ∀ y d, I 0 y = some d → c y = some d)
    (turn : ∀ i d fp₂ P₂ s E, ds[i]? = some d → (∀ b ∈ fp₂, b ∉ fp) → Stab X fp₂ P₂ → Bd prog w s₀ X₀ env X (fp ++ fp₂) (fun h => Pn i h ∧ P₂ h) (upd (I i) x d) s →
      WP prog w A (execs body env) (fun f s' => f = .next ∧ Bd prog w s₀ X₀ env X (fp ++ fp₂) (fun h => Pn (i + 1) h ∧ P₂ h) (I (i + 1)) s') E s)
    (after : ∀ s', Bd prog w s₀ X₀ env X fp (Pn ds.length) (I ds.length) s' → WP prog w A (execs rest env) Q E s') (hs : ∀ x, foldedSetIterable e env x = pure x := by intro _; rfl) :
    WP prog w A (execs (.For (.Name x px) e body [] pos :: rest) env) Q E s := by
  refine ⟨wpAny_execs_cons (wpAny_For (wpAny_mono (he.run s E B.st) (fun v s₁ g => ?_) fun _ _ e => e) hs)⟩
  obtain ⟨l, items, rfl, hl, q, nxl⟩ := rp_list g.2
  have B₁ := B.keeps g.1
  have elen := q.length
  rw [Array.length_toList] at elen
  refine wpAny_pyIter_list hl ?_
  generalize hIt : s₁.heap.objs.size = It
  have fresh : s₁.heap.get? It = none := by
    cases e : s₁.heap.get? It with
    | none => rfl
    | some o => exact absurd (Heap.lt_size e) (by rw [hIt]; exact Nat.lt_irrefl _)
  have n₀ : s₀.heap.get? It = none := by
    cases e : s₀.heap.get? It with
    | none => rfl
    | some o => have := keeps_get B₁.kp _ _ e; rw [fresh] at this; cases this
  have nl : It ≠ env.locals := fun z => by obtain ⟨o, e⟩ := B₁.st.xb _ B₁.loc; rw [← z, fresh] at e; cases e
  have nc : ∀ x, env.cells.lookup x ≠ some It := fun x z => by obtain ⟨_, _, _, v, o, e, _⟩ := B₁.cel x It z; rw [fresh] at e; cases e
  have nX : ¬ X It := fun z => by obtain ⟨o, e⟩ := B₁.st.xb _ z; rw [fresh] at e; cases e
  have lI : l ≠ It := fun z => by obtain ⟨o, e, _⟩ := hl; rw [z, fresh] at e; cases e
  have ll : l ≠ env.locals := fun z => nxl (z ▸ B₁.loc)
  have lc : ∀ x, env.cells.lookup x ≠ some l := fun x z => nxl (B₁.cel x l z).1
  have hfp2 : ∀ b ∈ [It, l], b ∉ fp := fun b hb hf => by
    rcases List.mem_cons.mp hb with rfl | hb
    · exact nX (hfx _ hf)
    · rw [List.mem_singleton.mp hb] at hf; exact nxl (hfx _ hf)
  have hoff : ∀ b ∈ fp ++ [It, l], b ≠ env.locals ∧ ∀ x, env.cells.lookup x ≠ some b := fun b hb => by
    rcases List.mem_append.mp hb with hb | hb
    · exact B₁.off b hb
    · rcases List.mem_cons.mp hb with rfl | hb
      · exact ⟨nl, nc⟩
      · rw [List.mem_singleton.mp hb]; exact ⟨ll, lc⟩
  have kpush : ∀ b o, s₁.heap.get? b = some o → (s₁.heap.push { cls := .type "list_iterator", data := .fields #[.ref l, .int 0 0] }).get? b = some o := fun b o e => Heap.get?_push_of_some _ e
  have start : Bd prog w s₀ X₀ env X (fp ++ [It, l]) (fun h => Pn 0 h ∧ h.IsListIter It l 0 ∧ h.IsList l items ∧ RpA prog w (Gd h X) items.toList ds) (I 0) { s₁ with heap := s₁.heap.push { cls := .type "list_iterator", data := .fields #[.ref l, .int 0 0] } } := by
    have B₂ := B₁.keeps (keeps_push s₁ { cls := .type "list_iterator", data := .fields #[.ref l, .int 0 0] })
    refine (B₂.weak h0).more hoff ⟨B₂.ex, ⟨_, by rw [← hIt]; exact Heap.get?_push_size _ rfl, rfl, rfl⟩, hl.push _, q.keeps kpush⟩ (stab_and (hst 0) stab_src)
  refine codeAny_forLoop (fun k s' => ∃ i, i ≤ ds.length ∧ k = ds.length + 1 - i ∧ Bd prog w s₀ X₀ env X (fp ++ [It, l]) (fun h => Pn i h ∧ h.IsListIter It l i ∧ h.IsList l items ∧ RpA prog w (Gd h X) items.toList ds) (I i) s') ?_ (ds.length + 1) ⟨0, Nat.zero_le _, rfl, start⟩
  rintro k s' ⟨i, hi, rfl, B'⟩
  obtain ⟨hp, hit, hl', q'⟩ := B'.ex
  obtain ⟨oI, hoI, hcI, hdI⟩ := id hit
  have ndc : ¬ DataC oI := by
    rintro (z | z | z) <;> (rw [hcI] at z; revert z; decide)
  by_cases hlt : i < ds.length
  · obtain ⟨d, hd⟩ : ∃ d, ds[i]? = some d := ⟨ds[i], by simp [hlt]⟩
    obtain ⟨v, hv, rv⟩ := q'.get hd
    refine wpAny_pyNext_list_item hit hl' (x := v) (by simpa using hv) fun h₁ hit₁ hs₁ => ?_
    have up : ∀ b o, b ≠ It → s'.heap.get? b = some o → h₁.get? b = some o := fun b o hb e => hs₁.extBut b o hb e
    have upC : ∀ b o, DataC o → ¬ X b → s'.heap.get? b = some o → h₁.get? b = some o := fun b o dc _ e => up b o (fun z => by rw [z, hoI] at e; cases e; exact ndc dc) e
    have hPn : Pn i h₁ := hst i _ _ hp (fun b hb o e => up b o (fun z => nX (hfx _ (z ▸ hb))) e) upC
    have B₂ : Bd prog w s₀ X₀ env X (fp ++ [It, l]) (fun h => Pn i h ∧ h.IsListIter It l (i + 1) ∧ h.IsList l items ∧ RpA prog w (Gd h X) items.toList ds) (I i) { s' with heap := h₁ } :=
      B'.iter (t := s'.toks) G hoI ndc n₀ nl nc up (fun z => absurd z nX) ⟨hPn, hit₁, hl'.extBut hs₁.extBut lI, q'.monoC fun a o dc g => ⟨upC a o dc g.2 g.1, g.2⟩⟩ (stab_and (hst i) stab_src)
    refine wpAny_assign_Name (bd_store G B₂ hk (rv.monoC fun a o dc g => ⟨upC a o dc g.2 g.1, g.2⟩) fun s₃ B₃ => ?_)
    refine wpAny_mono (turn i d [It, l] _ s₃ _ hd hfp2 stab_src B₃).out (fun f s₄ g => ?_) fun _ _ e => e
    obtain ⟨rfl, B₄⟩ := g
    exact ⟨ds.length + 1 - (i + 1), by omega, i + 1, hlt, rfl, B₄⟩
  · have hin : i = ds.length := by omega
    subst hin
    refine wpAny_pyNext_list_end hh hit hl' (by rw [← elen]; simp) fun h₁ hs₁ => wpAny_execs_nil ?_
    have up : ∀ b o, b ≠ It → s'.heap.get? b = some o → h₁.get? b = some o := fun b o hb e => hs₁ b o hb e
    have upC : ∀ b o, DataC o → ¬ X b → s'.heap.get? b = some o → h₁.get? b = some o := fun b o dc _ e => up b o (fun z => by rw [z, hoI] at e; cases e; exact ndc dc) e
    have hPn : Pn ds.length h₁ := hst _ _ _ hp (fun b hb o e => up b o (fun z => nX (hfx _ (z ▸ hb))) e) upC
    refine (after _ (((B'.more (fp' := fp) (P' := Pn ds.length) (fun b hb => B₁.off b hb) hp (hst _)).iter (t := s'.toks) G hoI ndc n₀ nl nc up (fun z => absurd z nX) hPn (hst _)))).out
end

section
variable {prog : Program} {w : World}
theorem fn_add_int {n : Nat} {a b : Int} : FnC prog w (n + 1) 3 [.int a, .int b] (.int (a + b)) := by
  refine fnc_plain rfl ["a", "b"] (fun pm code doc vs hl => ?_) (by decide) rfl rfl rfl (by decide) (fun A X₀ s₀ L a' cd X s R G B => ?_)
  · match vs, hl with
    | [_, _], _ => rfl
  · exact ex_return B (ev_bin (ev_name rfl) (ev_name rfl) op_add_int)
theorem fn_add_str {n : Nat} {a b : Str} (h : a.length + b.length ≤ sizeLine) : FnC prog w (n + 1) 3 [.str a, .str b] (.str (a ++ b)) := by
  refine fnc_plain rfl ["a", "b"] (fun pm code doc vs hl => ?_) (by decide) rfl rfl rfl (by decide) (fun A X₀ s₀ L a' cd X s R G B => ?_)
  · match vs, hl with
    | [_, _], _ => rfl
  · exact ex_return B (ev_bin (ev_name rfl) (ev_name rfl) (op_add_str h))
end
end Mine

namespace Mine

section
variable {prog : Program} {w : World} {A : Around} {env : Env} {X : Addr → Prop} {c : Str → Option D} {s₀ : Shared} {X₀ : Addr → Prop} {fp : List Addr} {P : Heap → Prop}

/-- a store that keeps held values -/
theorem bd_putK {s : Shared} {E : Value → Shared → Prop} {x : Str} {v : Value} {d : D} {Q : Unit → Shared → Prop} (G : Glb s₀.heap) (B : Bd prog w s₀ X₀ env X fp P c s)
    (hk : env.kindOf x = some .local ∨ (env.kindOf x = some .cell ∧ (env.cells.lookup x).isSome = true)) (r : Rp prog w (Gd s.heap X) v d) (vs : List Value) (ds : List D) (q : RpA prog w (Gd s.heap X) vs ds)
    (h : ∀ s', Bd prog w s₀ X₀ env X fp P (upd c x d) s' → RpA prog w (Gd s'.heap X) vs ds → Q () s') : wpAny (model prog w) A (storeName env x v) Q E s := by
  have B' : Bd prog w s₀ X₀ env X fp (fun h => P h ∧ RpA prog w (Gd h X) vs ds) c s :=
    B.more B.off ⟨B.ex, q⟩ fun h h' p k f => ⟨B.stab h h' p.1 k f, p.2.monoC fun a o dc g => ⟨f a o dc g.2 g.1, g.2⟩⟩
  exact bd_put G B' hk r fun s' B'' => h s' (B''.more B.off B''.ex.1 B.stab) B''.ex.2

theorem inOrder {M : Model} {s : Shared} {E : Value → Shared → Prop} {t : Value → Sem Unit} {ts : List (Value → Sem Unit)} {x : Value} {xs : List Value} {Q : Unit → Shared → Prop} (h : wpAny M A (t x) (fun _ s' => wpAny M A (assignInOrder ts xs) Q E s') E s) :
    wpAny M A (assignInOrder (t :: ts) (x :: xs)) Q E s := by
  rw [assignInOrder]
  exact wpAny_bind (wpAny_holding h)
/-- four names at once -/
theorem ex_unpack4 {s : Shared} {E : Value → Shared → Prop} {x₁ x₂ x₃ x₄ : Str} {e : Expr} {p₁ p₂ p₃ p₄ tp pos : Pos} {k : Nat} {d₁ d₂ d₃ d₄ : D} {rest : List Stmt} {Q : Flow → Shared → Prop} (G : Glb s₀.heap) (hh : A.handled = none) (B : Bd prog w s₀ X₀ env X fp P c s)
    (he : Ev prog w A env X c e (.tup [d₁, d₂, d₃, d₄]))
    (k₁ : env.kindOf x₁ = some .local ∨ (env.kindOf x₁ = some .cell ∧ (env.cells.lookup x₁).isSome = true)) (k₂ : env.kindOf x₂ = some .local ∨ (env.kindOf x₂ = some .cell ∧ (env.cells.lookup x₂).isSome = true))
    (k₃ : env.kindOf x₃ = some .local ∨ (env.kindOf x₃ = some .cell ∧ (env.cells.lookup x₃).isSome = true)) (k₄ : env.kindOf x₄ = some .local ∨ (env.kindOf x₄ = some .cell ∧ (env.cells.lookup x₄).isSome = true))
    (h : ∀ s', Bd prog w s₀ X₀ env X fp P (upd (upd (upd (upd c x₁ d₁) x₂ d₂) x₃ d₃) x₄ d₄) s' → WP prog w A (execs rest env) Q E s')
    (hs : swapsWithSole [.Tuple [.Name x₁ p₁, .Name x₂ p₂, .Name x₃ p₃, .Name x₄ p₄] k tp] e pos.line env = pure false)
    (hw : swappedStores [.Tuple [.Name x₁ p₁, .Name x₂ p₂, .Name x₃ p₃, .Name x₄ p₄] k tp] e env = pure none) :
    WP prog w A (execs (.Assign [.Tuple [.Name x₁ p₁, .Name x₂ p₂, .Name x₃ p₃, .Name x₄ p₄] k tp] e pos :: rest) env) Q E s := by
  refine ⟨wpAny_execs_cons (Assign_Tuple (wpAny_mono (he.run s E B.st) (fun v s₁ g => ?_) fun _ _ e => e) hs hw)⟩
  obtain ⟨a, vs, rfl, ht, q⟩ := rp_tup g.2
  have elen := q.length
  rw [Array.length_toList] at elen
  refine wpAny_assign_Tuple hh ht (by rw [elen]; rfl) rfl fun h' hx => ?_
  have hkk : ∀ b o, s₁.heap.get? b = some o → h'.get? b = some o := fun b o e => hx b o (Nat.ne_of_lt (Heap.lt_size e)) e
  have B₁ := (B.keeps g.1).keeps (keeps_heap (t := s₁.toks) hkk)
  have q₁ := q.keeps hkk
  obtain ⟨l⟩ := vs
  have q₂ : RpA prog w (Gd h' X) l [d₁, d₂, d₃, d₄] := q₁
  clear q₁ q
  cases q₂ with | @cons v₁ _ _ _ r₁ q₂ =>
  have q' := q₂
  cases q₂ with | @cons v₂ _ _ _ r₂ q₂ =>
  cases q₂ with | @cons v₃ _ _ _ r₃ q₂ =>
  cases q₂ with | @cons v₄ _ _ _ r₄ q₂ =>
  cases q₂
  show wpAny (model prog w) A (assignInOrder [assign (.Name x₁ p₁) env, assign (.Name x₂ p₂) env, assign (.Name x₃ p₃) env, assign (.Name x₄ p₄) env] [v₁, v₂, v₃, v₄]) _ _ _
  refine inOrder (wpAny_assign_Name (bd_putK G B₁ k₁ r₁ [v₂, v₃, v₄] [d₂, d₃, d₄] (.cons r₂ (.cons r₃ (.cons r₄ .nil))) fun s₂ B₂ q₂ => ?_))
  cases q₂ with | cons r₂ q₂ =>
  refine inOrder (wpAny_assign_Name (bd_putK G B₂ k₂ r₂ [v₃, v₄] [d₃, d₄] q₂ fun s₃ B₃ q₃ => ?_))
  cases q₃ with | cons r₃ q₃ =>
  refine inOrder (wpAny_assign_Name (bd_putK G B₃ k₃ r₃ [v₄] [d₄] q₃ fun s₄ B₄ q₄ => ?_))
  cases q₄ with | cons r₄ q₄ =>
  exact inOrder (wpAny_assign_Name (bd_put G B₄ k₄ r₄ fun s₅ B₅ => wpAny_pure (h s₅ B₅).out))

/-- while, so many turns -/
theorem ex_while {s : Shared} {E : Value → Shared → Prop} {t : Expr} {body rest : List Stmt} {pos : Pos} {Q : Flow → Shared → Prop} (J : Nat → Str → Option D) (n : Nat) (B : Bd prog w s₀ X₀ env X fp P (J n) s)
    (ht : ∀ k, k ≤ n → EvB prog w A env X (J k) t (decide (0 < k)))
    (turn : ∀ k s E, k < n → Bd prog w s₀ X₀ env X fp P (J (k + 1)) s → WP prog w A (execs body env) (fun f s' => f = .next ∧ Bd prog w s₀ X₀ env X fp P (J k) s') E s)
    (after : ∀ s', Bd prog w s₀ X₀ env X fp P (J 0) s' → WP prog w A (execs rest env) Q E s') :
    WP prog w A (execs (.While t body [] pos :: rest) env) Q E s := by
  refine ⟨wpAny_execs_cons (wpAny_While (codeAny_whileLoop (fun k s' => ∃ i, k = i ∧ i ≤ n ∧ Bd prog w s₀ X₀ env X fp P (J i) s') ?_ n ⟨n, rfl, Nat.le_refl _, B⟩))⟩
  rintro k s' ⟨i, rfl, hi, B'⟩
  refine wpAny_mono ((ht k hi).run s' _ B'.st) (fun b s₁ g => ?_) fun _ _ e => e
  obtain ⟨rfl, kk⟩ := g
  have B₁ := B'.keeps kk
  cases k with
  | zero =>
    rw [if_neg (by simp)]
    exact wpAny_execs_nil (after _ B₁).out
  | succ k =>
    rw [if_pos (by simp)]
    refine wpAny_mono (turn k s₁ _ (by omega) B₁).out (fun f s₂ g => ?_) fun _ _ e => e
    obtain ⟨rfl, B₂⟩ := g
    exact ⟨k, Nat.lt_succ_self _, k, rfl, by omega, B₂⟩
end

section
variable {prog : Program} {w : World}
theorem bindL_at {K : Str → Option NameKind} : ∀ {xs : List Str} {vs : List Value} {m : Str → Option Value} {x : Str} {v : Value}, xs.Nodup → (xs.zip vs).lookup x = some v → K x = some .local → bindL K (xs.zip vs) m x = some v
  | [], _, _, _, _, _, h, _ => by simp at h
  | _ :: _, [], _, _, _, _, h, _ => by simp at h
  | y :: xs, u :: vs, m, x, v, hn, h, hk => by
    rw [List.zip_cons_cons, List.lookup_cons] at h
    have hn' := (List.nodup_cons.mp hn)
    rw [List.zip_cons_cons, bindL]
    cases hb : x == y with
    | true =>
      rw [hb] at h
      have e : x = y := beq_iff_eq.mp hb
      subst e
      cases h
      rw [if_pos hk]
      have off : ∀ {xs : List Str} {vs : List Value} {m : Str → Option Value}, x ∉ xs → bindL K (xs.zip vs) m x = m x := by
        intro xs
        induction xs with
        | nil => intro vs m _; rfl
        | cons z zs ih =>
          intro vs m hx
          cases vs with
          | nil => rfl
          | cons u us =>
            rw [List.zip_cons_cons, bindL, ih (fun q => hx (List.mem_cons_of_mem _ q))]
            split
            · exact if_neg (fun (q : x = z) => hx (by rw [q]; exact List.mem_cons_self))
            · rfl
      rw [off hn'.1]
      simp
    | false => rw [hb] at h; exact bindL_at hn'.2 h hk
theorem bindC_at {K : Str → Option NameKind} : ∀ {xs : List Str} {vs : List Value} {m : Str → Option Value} {x : Str} {v : Value}, xs.Nodup → (xs.zip vs).lookup x = some v → K x ≠ some .local → bindC K (xs.zip vs) m x = some v
  | [], _, _, _, _, _, h, _ => by simp at h
  | _ :: _, [], _, _, _, _, h, _ => by simp at h
  | y :: xs, u :: vs, m, x, v, hn, h, hk => by
    rw [List.zip_cons_cons, List.lookup_cons] at h
    have hn' := (List.nodup_cons.mp hn)
    rw [List.zip_cons_cons, bindC]
    cases hb : x == y with
    | true =>
      rw [hb] at h
      have e : x = y := beq_iff_eq.mp hb
      subst e
      cases h
      rw [if_neg hk]
      have off : ∀ {xs : List Str} {vs : List Value} {m : Str → Option Value}, x ∉ xs → bindC K (xs.zip vs) m x = m x := by
        intro xs
        induction xs with
        | nil => intro vs m _; rfl
        | cons z zs ih =>
          intro vs m hx
          cases vs with
          | nil => rfl
          | cons u us =>
            rw [List.zip_cons_cons, bindC, ih (fun q => hx (List.mem_cons_of_mem _ q))]
            split
            · rfl
            · exact if_neg (fun (q : x = z) => hx (by rw [q]; exact List.mem_cons_self))
      rw [off hn'.1]
      simp
    | false => rw [hb] at h; exact bindC_at hn'.2 h hk

/-- a def some of whose names are cells -/
theorem fnc_cells {n k : Nat} {nm : Str} {p : Arguments} {b : List Stmt} {sc : Scope} {ds : List D} {d : D} (hk : fnAt k = some (nm, p, b, sc)) (xs : List Str) (hnd : xs.Nodup)
    (hb : ∀ pm code doc (vs : List Value), vs.length = ds.length → bindArgs (docDef nm p b sc pm code doc) ⟨vs, []⟩ = pure (xs.zip vs))
    (hl : ∀ L, ∀ x ∈ xs, sc.names.lookup x = some .local ∨ (sc.names.lookup x = some .cell ∧ ((cellsFrom (L + 1) sc.names []).lookup x).isSome = true)) (hfn : sc.kind = .function)
    (hco : sc.isCoroutine = false) (hgen : sc.isGenerator = false)
    (body : ∀ A X₀ s₀ L a cd X s, Rm n A → Glb s₀.heap → Bd prog w s₀ X₀ (envOfC nm sc L a cd) X [] (fun _ => True) (fun y => (xs.zip ds).lookup y) s →
      WP prog w A (execs b (envOfC nm sc L a cd)) (Hands prog w X₀ s₀ d) (fun _ _ => False) s) : FnC prog w (n + 1) k ds d := by
  refine ⟨fun A X s E vs f R G xb hf ra => ?_⟩
  obtain ⟨nm', p', b', sc', o, pm, code, doc, hk', ho, hd, hcd⟩ := hf
  rw [hk] at hk'
  cases hk'
  refine wpAny_call (call_cells_ret (by have := R.2.1; omega) ho hd (let ⟨_, _, _, _, l, _⟩ := G; l) hcd (hb pm code doc vs ra.length) (fun y hy => hl _ _ (List.of_mem_zip hy).1) (fun h₁ tk F C => ?_) hco hgen hfn)
  refine wpAny_mono (body (A.deeper (envOfC nm sc s.heap.objs.size f code)) X s s.heap.objs.size f code (fun a => X a ∨ a = s.heap.objs.size ∨ ∃ x, (cellsFrom (s.heap.objs.size + 1) sc.names []).lookup x = some a) _ (rm_deeper R) G ?_).out (fun fl s' g => ?_) fun _ _ e => e.elim
  · have hnewa : ∀ a, s.heap.objs.size ≤ a → s.heap.get? a = none := fun a ha => by
      cases e : s.heap.get? a with
      | none => rfl
      | some o => exact absurd (Heap.lt_size e) (Nat.not_lt.mpr ha)
    have hnew := hnewa _ (Nat.le_refl _)
    have kp : Keeps s { s with heap := h₁, toks := tk } := ⟨h₁, _, rfl, F.keep⟩
    have hcn : ∀ x a, (cellsFrom (s.heap.objs.size + 1) sc.names []).lookup x = some a → s.heap.get? a = none := fun x a h => hnewa a (Nat.le_of_lt (C.above x a (mem_of_lookup h)))
    refine ⟨⟨hfn, ⟨rfl, rfl⟩, G.keeps F.keep, fun a ha => ?_, fun y e hy => ?_, fun x a h => let ⟨o, e, _⟩ := C.cell x a h; ⟨o, e⟩⟩, kp, fun a ha => .inl ha, fun a ha => ?_, .inr (.inl rfl), hnew, ⟨_, F.ns⟩, fun x a h => ⟨.inr (.inr ⟨x, h⟩), hcn x a h, Nat.ne_of_gt (C.above x a (mem_of_lookup h)), _, C.cell x a h⟩,
      fun x y a h h' => name_of_addr C.apart (mem_of_lookup h) (mem_of_lookup h'), trivial, fun b hb => (by cases hb), fun _ _ _ _ _ => trivial, xb⟩
    · rcases ha with ha | rfl | ⟨x, hx⟩
      · obtain ⟨o, e⟩ := xb a ha; exact ⟨o, F.keep _ _ e⟩
      · obtain ⟨o, _, _, e, _⟩ := F.ns; exact ⟨o, e⟩
      · obtain ⟨o, e, _⟩ := C.cell x a hx; exact ⟨o, e⟩
    · obtain ⟨v, hv, r⟩ := (PR.zip (xs := xs) ra).lookup hy
      refine ⟨v, ?_, (r.mono fun a o g => ⟨F.keep _ _ g.1, fun q => ?_⟩)⟩
      · rcases hl s.heap.objs.size y (List.of_mem_zip (mem_of_lookup hv)).1 with hy' | ⟨hy', hc⟩
        · exact .inl ⟨hy', _, F.ns, bindL_at hnd hv hy'⟩
        · obtain ⟨a, ha⟩ := Option.isSome_iff_exists.mp hc
          refine .inr ⟨hy', a, ha, ?_⟩
          have := C.cell y a ha
          rwa [bindC_at hnd hv (by rw [show (envOfC nm sc s.heap.objs.size f code).kindOf y = some .cell from hy']; decide)] at this
      · rcases q with q | q | ⟨x, q⟩
        · exact g.2 q
        · have := g.1; rw [q, hnew] at this; cases this
        · have := g.1; rw [hcn x a q] at this; cases this
    · rcases ha with ha | rfl | ⟨x, hx⟩
      · exact .inl ha
      · exact .inr hnew
      · exact .inr (hcn x a hx)
  · obtain ⟨v, rfl, g⟩ := g
    exact g
end
end Mine

namespace Mine

section
variable {prog : Program} {w : World} {A : Around} {env : Env} {X : Addr → Prop} {c : Str → Option D}

theorem ndc_of {T : String} {da : Data} {di : Option Addr} {sl : Array (Option Value)} (h : T ≠ "list" ∧ T ≠ "tuple" ∧ T ≠ "dict") : ¬ DataC { cls := .type T, dict := di, data := da, slots := sl } := by
  rintro (z | z | z)
  · exact h.1 (by injection z)
  · exact h.2.1 (by injection z)
  · exact h.2.2 (by injection z)
/-- the names inside a comprehension -/
def cIn (c : Str → Option D) (frs : List Str) (x : Str) (d : D) : Str → Option D := fun y => if y = x then some d else if y ∈ frs then c y else none

theorem st_comp {scope : Scope} {cl : List (Str × Addr)} {C I : Addr} {oI : Obj} {x : Str} {frs : List Str} {s₂ s₃ : Shared} {m₃ : Str → Option Value} {v : Value} {d : D} (S : St prog w env X c s₂) (hI : s₂.heap.get? I = some oI) (ndc : ¬ DataC oI) (nX : ¬ X I) (hcI : ∀ x, env.cells.lookup x ≠ some I)
    (hG : Glb s₃.heap) (hkind : scope.kind = .function) (hx : scope.names.lookup x = some .local)
    (hfr : ∀ y ∈ frs, (relabel scope env).names.lookup y = some .cell ∧ cl.lookup y = env.cells.lookup y ∧ env.kindOf y = some .cell) (hcl : ∀ y a, cl.lookup y = some a → env.cells.lookup y = some a)
    (hn : s₃.heap.Ns C m₃) (hm : m₃ x = some v) (r : Rp prog w (Gd s₂.heap X) v d) (hk : ∀ b o, b ∉ [I] → s₂.heap.get? b = some o → s₃.heap.get? b = some o) :
    St prog w (compEnvC scope cl C env) X (cIn c frs x d) s₃ := by
  have up : ∀ b o, b ≠ I → s₂.heap.get? b = some o → s₃.heap.get? b = some o := fun b o hb e => hk b o (by simpa using hb) e
  have upR : ∀ {v : Value} {d : D}, Rp prog w (Gd s₂.heap X) v d → Rp prog w (Gd s₃.heap X) v d := fun r => r.monoC fun a o dc g => ⟨up a o (fun z => by have := g.1; rw [z, hI] at this; cases this; exact ndc dc) g.1, g.2⟩
  refine ⟨hkind, S.gl, hG, fun a xa => ?_, fun y e hy => ?_, fun y a ha => let ⟨o, e⟩ := S.cex y a (hcl y a ha); ⟨o, up a o (fun z => hcI y (z ▸ hcl y a ha)) e⟩⟩
  · obtain ⟨o, e⟩ := S.xb a xa; exact ⟨o, up a o (fun z => nX (z ▸ xa)) e⟩
  · unfold cIn at hy
    by_cases q : y = x
    · subst q; rw [if_pos rfl] at hy; cases hy
      exact ⟨v, .inl ⟨lookup_relabel_local hx, m₃, hn, hm⟩, upR r⟩
    · rw [if_neg q] at hy
      by_cases qf : y ∈ frs
      · rw [if_pos qf] at hy
        obtain ⟨u, hu, ru⟩ := S.vars y e hy
        obtain ⟨f1, f2, f3⟩ := hfr y qf
        refine ⟨u, ?_, upR ru⟩
        rcases hu with ⟨h1, _⟩ | ⟨h1, a, h2, o, h3, h4⟩
        · rw [f3] at h1; cases h1
        · exact .inr ⟨f1, a, f2.trans h2, o, up a o (fun z => hcI y (z ▸ h2)) h3, h4⟩
      · rw [if_neg qf] at hy; cases hy

/-- data that are no objects -/
def Flat (prog : Program) (w : World) (d : D) : Prop := ∀ G G' y, Rp prog w G y d → Rp prog w G' y d
theorem flat_int {i : Int} : Flat prog w (.int i) := fun G G' y r => by cases r; exact .int _ _
theorem flat_str {x : Str} : Flat prog w (.str x) := fun G G' y r => by cases r; exact .str _ _

theorem paired_rpa {β : Type} {G G' : Addr → Obj → Prop} {enc res : β → D} (hres : ∀ b, Flat prog w (res b)) (hfun : ∀ v b b', Rp prog w G v (enc b) → Rp prog w G v (enc b') → b = b') :
    ∀ {vs ys : List Value} {bs : List β}, RpA prog w G vs (bs.map enc) → Paired (fun v y => ∃ b, Rp prog w G v (enc b) ∧ Rp prog w G y (res b)) vs ys → RpA prog w G' ys (bs.map res)
  | [], _, [], _, .nil => .nil
  | [], _, _ :: _, h, _ => nomatch h
  | _ :: _, _, [], h, _ => nomatch h
  | v :: vs, y :: ys, b :: bs, .cons h r, .cons ⟨b', h1, h2⟩ q => by
    have := hfun v b b' h h1
    subst this
    exact .cons (hres _ _ _ _ h2) (paired_rpa hres hfun r q)

/-- a list comprehension: its source walked, its elements flat -/
theorem lcomp_core {β : Type} {bs : List β} {enc res : β → D} {elt iter : Expr} {x : Str} {px : Pos} {scope : Scope} {cl : List (Str × Addr)} {pos : Pos} {frs : List Str} {s s₁ s₂ : Shared} {I : Addr} {oI : Obj} {fp : List Addr} {n : Nat} {P : Nat → Value → Prop} {Stt : Nat → Heap → Prop}
    (S : St prog w env X c s₁) (k₁₂ : Keeps s₁ s₂) (W : Walks prog w A I fp [I] n P Stt) (hst : Stt 0 s₂.heap) (hfp : ∀ b ∈ fp, b < s₂.heap.objs.size) (hnew : s₁.heap.get? I = none) (hI : s₂.heap.get? I = some oI) (ndc : ¬ DataC oI)
    (hn : n = bs.length) (hP : ∀ i v, P i v → ∃ b, bs[i]? = some b ∧ Rp prog w (Gd s₂.heap X) v (enc b)) (hres : ∀ b, Flat prog w (res b)) (hfun : ∀ v b b', Rp prog w (Gd s₂.heap X) v (enc b) → Rp prog w (Gd s₂.heap X) v (enc b') → b = b')
    (hkind : scope.kind = .function) (hx : scope.names.lookup x = some .local)
    (hfr : ∀ y ∈ frs, (relabel scope env).names.lookup y = some .cell ∧ cl.lookup y = env.cells.lookup y ∧ env.kindOf y = some .cell) (hcl : ∀ y a, cl.lookup y = some a → env.cells.lookup y = some a)
    (helt : ∀ C b, b ∈ bs → Ev prog w A (compEnvC scope cl C env) X (cIn c frs x (enc b)) elt (res b)) :
    QuietOnC prog w A env scope cl x [] elt [I] P (fun _ => true) (fun v y => ∃ b, Rp prog w (Gd s₂.heap X) v (enc b) ∧ Rp prog w (Gd s₂.heap X) y (res b)) s₂ ∧
    ∀ D h' tk ys (vs : List Value), s₂.heap.get? D = none → h'.IsList D ys → vs.length = n → (∀ j v, vs[j]? = some v → P j v) → Paired (fun v y => ∃ b, Rp prog w (Gd s₂.heap X) v (enc b) ∧ Rp prog w (Gd s₂.heap X) y (res b)) (vs.filter fun _ => true) ys.toList →
      (∀ b o, b ∉ [I] → s₂.heap.get? b = some o → h'.get? b = some o) → Gives prog w X s₁ (.lst (bs.map res)) (.ref D) { s₂ with heap := h', toks := tk } := by
  have nX : ¬ X I := fun z => by obtain ⟨o, e⟩ := S.xb _ z; rw [hnew] at e; cases e
  have hcI : ∀ x, env.cells.lookup x ≠ some I := fun y z => by obtain ⟨o, e⟩ := S.cex y I z; rw [hnew] at e; cases e
  refine ⟨⟨fun C i v s₃ m₃ E' _ _ _ _ _ _ => wpAny_pure ⟨rfl, keeps_refl s₃⟩, fun C i v s₃ m₃ E' _ hPv _ hns hm hk _ => ?_⟩, fun D h' tk ys vs hD hl hlen hPP hF hk => ?_⟩
  · obtain ⟨b, hb, r⟩ := hP i v hPv
    have hG : Glb s₃.heap := S.glb.keeps fun b o e => hk b o (by intro q; rw [List.mem_singleton.mp q, hnew] at e; cases e) (keeps_get k₁₂ b o e)
    have St₃ := st_comp (frs := frs) (cl := cl) (S.keeps k₁₂) hI ndc nX hcI hG hkind hx hfr hcl hns hm r hk
    refine wpAny_mono ((helt C b (List.mem_of_getElem? hb)).run s₃ E' St₃) (fun y s₄ g => ⟨⟨b, r, hres b _ _ _ g.2⟩, g.1⟩) fun _ _ e => e
  · have hvs : RpA prog w (Gd s₂.heap X) vs (bs.map enc) := by
      have : ∀ (vs : List Value) (bs : List β), vs.length = bs.length → (∀ (j : Nat) v, vs[j]? = some v → ∃ b, bs[j]? = some b ∧ Rp prog w (Gd s₂.heap X) v (enc b)) → RpA prog w (Gd s₂.heap X) vs (bs.map enc) := by
        intro vs
        induction vs with
        | nil => intro bs h _; cases bs with | nil => exact .nil | cons b bs => simp at h
        | cons v vs ih =>
          intro bs h hh
          cases bs with
          | nil => simp at h
          | cons b bs =>
            obtain ⟨b', e, r⟩ := hh 0 v rfl
            simp at e; subst e
            exact .cons r (ih bs (by simpa using h) fun j v hj => hh (j + 1) v hj)
      exact this vs bs (hlen.trans hn) fun j v hj => hP j v (hPP j v hj)
    rw [List.filter_eq_self.mpr (fun _ _ => rfl)] at hF
    have hup : ∀ b o, s₁.heap.get? b = some o → h'.get? b = some o := fun b o e => hk b o (by intro q; rw [List.mem_singleton.mp q, hnew] at e; cases e) (keeps_get k₁₂ b o e)
    obtain ⟨h₂, t₂, rfl, _⟩ := k₁₂
    refine ⟨⟨h', tk, rfl, hup⟩, ?_⟩
    obtain ⟨o, ho, hc, n', hd⟩ := hl
    refine .lst ⟨ho, fun z => ?_⟩ hc hd (paired_rpa hres hfun hvs hF)
    obtain ⟨o', e⟩ := S.xb _ z
    have e2 := keeps_get (keeps_heap (t := t₂) (h := h₂) (s := s₁) ‹_›) _ _ e
    have e3 : h₂.get? D = none := hD
    rw [show (({ s₁ with heap := h₂, toks := t₂ } : Shared)).heap = h₂ from rfl, e3] at e2
    cases e2

theorem ev_lcomp {β : Type} {bs : List β} {enc res : β → D} {elt iter : Expr} {x : Str} {px : Pos} {scope : Scope} {cl : List (Str × Addr)} {pos : Pos} {frs : List Str}
    (hh : A.handled = none) (hi : Ev prog w A env X c iter (.lst (bs.map enc))) (hz : bs.length ≤ sizeLine) (hres : ∀ b, Flat prog w (res b)) (hfun : ∀ h v b b', Rp prog w (Gd h X) v (enc b) → Rp prog w (Gd h X) v (enc b') → b = b')
    (hclos : closureFor scope env = pure cl) (hcell : ∀ y ∈ scope.names, y.2 ≠ .cell) (hkind : scope.kind = .function) (hnames : ∀ y ∈ scope.names, y.2 = .local → scope.names.lookup y.1 = some .local) (hx : scope.names.lookup x = some .local)
    (hfr : ∀ y ∈ frs, (relabel scope env).names.lookup y = some .cell ∧ cl.lookup y = env.cells.lookup y ∧ env.kindOf y = some .cell) (hcl : ∀ y a, cl.lookup y = some a → env.cells.lookup y = some a)
    (helt : ∀ C b, b ∈ bs → Ev prog w A (compEnvC scope cl C env) X (cIn c frs x (enc b)) elt (res b)) (hs : ∀ x, foldedSetIterable iter env x = pure x := by intro _; rfl) :
    Ev prog w A env X c (.ListComp elt [⟨.Name x px, iter, [], 0⟩] scope pos) (.lst (bs.map res)) := by
  refine ⟨fun s E S => ?_⟩
  rw [eval_ListComp]
  refine wpAny_comprehension_free (use := none) rfl hs hclos hkind hnames (wpAny_mono (hi.run s E S) (fun v s₁ g => ?_) fun _ _ e => e)
  obtain ⟨l, items, rfl, hl, q, nxl⟩ := rp_list g.2
  have elen := q.length
  rw [Array.length_toList, List.length_map] at elen
  have S₁ := S.keeps g.1
  refine wpAny_pyIter_list hl ?_
  have hlt : l < s₁.heap.objs.size := by obtain ⟨_, e, _⟩ := hl; exact Heap.lt_size e
  have hnew : s₁.heap.get? s₁.heap.objs.size = none := by
    cases e : s₁.heap.get? s₁.heap.objs.size with
    | none => rfl
    | some o => exact absurd (Heap.lt_size e) (Nat.lt_irrefl _)
  have k₁₂ := keeps_push s₁ { cls := .type "list_iterator", data := .fields #[.ref l, .int 0 0] }
  have W := Walks.list (prog := prog) (w := w) (A := A) hh s₁.heap.objs.size l (Nat.ne_of_lt hlt) items
  have hst : Heap.IsListIter (s₁.heap.push { cls := .type "list_iterator", data := .fields #[.ref l, .int 0 0] }) s₁.heap.objs.size l 0 ∧ Heap.IsList (s₁.heap.push { cls := .type "list_iterator", data := .fields #[.ref l, .int 0 0] }) l items := ⟨⟨_, Heap.get?_push_size _ rfl, rfl, rfl⟩, hl.push _⟩
  have q₂ := q.keeps (keeps_get k₁₂)
  have hfp : ∀ b ∈ [s₁.heap.objs.size, l], b < (s₁.heap.push { cls := .type "list_iterator", data := .fields #[.ref l, .int 0 0] }).objs.size := fun b hb => by
    rw [Heap.size_push]
    rcases List.mem_cons.mp hb with rfl | hb
    · exact Nat.lt_succ_self _
    · rw [List.mem_singleton.mp hb]; exact Nat.lt_succ_of_lt hlt
  obtain ⟨Qt, fin⟩ := lcomp_core (elt := elt) (iter := iter) (px := px) (pos := pos) (s := s) S₁ k₁₂ W hst hfp hnew (Heap.get?_push_size _ rfl) (ndc_of (by decide)) elen (fun i v hv => by
      have hv' : items.toList[i]? = some v := by simpa using hv
      have hi : i < bs.length := by rw [← elen]; exact (Array.getElem?_eq_some_iff.mp hv).1
      obtain ⟨v', h1, h2⟩ := q₂.get (k := i) (d := enc bs[i]) (by simp [hi])
      rw [hv'] at h1; cases h1
      exact ⟨bs[i], by simp [hi], h2⟩) hres (hfun _) hkind hx hfr hcl helt
  refine comp_block_walkC (RR := fun acc C => compPost (model prog w) A E none (Gives prog w X s (.lst (bs.map res))) acc C) W (by rw [elen]; exact hz) (fun _ => true) _ hcell hkind hx hst hfp Qt ?_
  intro D C h' tk m' ys vs hD hC hDC hn hll hpl hlen hP hF hk
  exact ⟨m', hn, fun h'' hs'' => gives_trans g.1 (fin D h'' tk ys vs hD (hll.extBut hs''.extBut hDC) hlen hP hF fun b o hbf e => hs''.extBut b o (by rintro rfl; rw [hC] at e; cases e) (hk b o hbf e))⟩

/-- range(n) -/
theorem ev_range {s : Shared} {E : Value → Shared → Prop} {e : Expr} {p pos : Pos} {n : Int} {K : Value → Shared → Prop} (S : St prog w env X c s) (hh : A.handled = none) (hk : env.kindOf "range" = some .globalImplicit) (he : Ev prog w A env X c e (.int n)) (h0 : 0 ≤ n) (h1 : n < 2 ^ 62)
    (hse : notStar e = true)
    (h : ∀ I s₁ s₂, Keeps s s₁ → Keeps s₁ s₂ → s₁.heap.get? I = none → I < s₂.heap.objs.size → Walks prog w A I [I] [I] n.toNat (fun i v => ∃ t, v = .int (0 + i * 1) t) (fun i h => IsRangeIter h I (0 + (i : Nat) * 1) ((n.toNat : Int) - (i : Nat)) 1) → IsRangeIter s₂.heap I (0 + ((0 : Nat) : Int) * 1) ((n.toNat : Int) - ((0 : Nat) : Int)) 1 → K (.ref I) s₂) :
    wpAny (model prog w) A (eval (.Call (.Name "range" p) [e] [] pos) env) (fun xv s₁ => wpAny (model prog w) A (pyIter xv) K E s₁) E s := by
  refine Call_ (name_builtin S (by decide) hk (v := .type "range") (by decide +kernel) ?_)
  rw [starEach_one hse]
  refine PySem.callWith_type rfl (Calls.evalArgs_plain (Calls.spliced_cons (wpAny_mono (he.run s E S) (fun nv s₁ g => Calls.spliced_nil ?_) fun _ _ e => e)))
  obtain ⟨k, r⟩ := g
  cases r
  refine call_range_1 ?_
  refine wpAny_pyIter_range (IsRange.new ..) (small_one (by decide) (by decide) (by omega) h1) ?_
  have hsz : Builtin.Range.rangeSize 0 n 1 = (n.toNat : Int) := by rw [rangeSize_one]; split <;> omega
  refine h _ { s₁ with heap := s₁.heap.push { cls := .type "range", data := .fields #[.int 0 s₁.toks, .int n _, .int 1 (s₁.toks + 1)] }, toks := s₁.toks + 1 + 1 } _ (keeps_trans k (keeps_heap fun _ _ e => Heap.get?_push_of_some _ e)) (keeps_push _ _) ?_ ?_ (Walks.range hh _ 0 1 n.toNat) ?_
  · cases e : (s₁.heap.push { cls := .type "range", data := .fields #[.int 0 s₁.toks, .int n _, .int 1 (s₁.toks + 1)] }).get? (s₁.heap.push { cls := .type "range", data := .fields #[.int 0 s₁.toks, .int n _, .int 1 (s₁.toks + 1)] }).objs.size with
    | none => rfl
    | some o => exact absurd (Heap.lt_size e) (Nat.lt_irrefl _)
  · show _ < (Heap.push _ _).objs.size
    simp only [Heap.size_push]; omega
  · have e1 : (0 + ((0 : Nat) : Int) * 1) = 0 := by simp
    have e2 : ((n.toNat : Int) - ((0 : Nat) : Int)) = Builtin.Range.rangeSize 0 n 1 := by rw [hsz]; simp
    rw [e1, e2]
    exact Heap.get?_push_size _ rfl
end
end Mine

namespace Mine

section
variable {prog : Program} {w : World} {A : Around} {env : Env} {X : Addr → Prop} {c : Str → Option D} {s₀ : Shared} {X₀ : Addr → Prop} {fp : List Addr} {P : Heap → Prop}

theorem Bd.stored {s : Shared} {I : Addr} {oI : Obj} {h' : Heap} {t : Nat} {y : Str} {v : Value} {d : D} {m : Str → Option Value} (G : Glb s₀.heap) (B : Bd prog w s₀ X₀ env X fp P c s) (hI : s.heap.get? I = some oI) (ndc : ¬ DataC oI) (hn₀ : s₀.heap.get? I = none) (nX : ¬ X I) (nfp : I ∉ fp) (hc : ∀ x, env.cells.lookup x ≠ some I)
    (hky : env.kindOf y = some .local) (hn : s.heap.Ns env.locals m) (hn' : h'.Ns env.locals (fun z => if z = y then some v else m z)) (hs : ∀ b o, b ≠ env.locals → b ∉ [I] → s.heap.get? b = some o → h'.get? b = some o) (r : Rp prog w (Gd h' X) v d) :
    Bd prog w s₀ X₀ env X fp P (upd c y d) { s with heap := h', toks := t } := by
  have up : ∀ b o, b ≠ env.locals → b ≠ I → s.heap.get? b = some o → h'.get? b = some o := fun b o hb hi e => hs b o hb (by simpa using hi) e
  obtain ⟨hk, tk, e, kp⟩ := B.kp
  have kp' : ∀ b o, s₀.heap.get? b = some o → h'.get? b = some o := fun b o q => up b o (fun z => by have := B.lnew; rw [← z, q] at this; cases this) (fun z => by rw [z, hn₀] at q; cases q) (by rw [e]; exact kp b o q)
  have upR : ∀ {v : Value} {d : D}, Rp prog w (Gd s.heap X) v d → Rp prog w (Gd h' X) v d := fun r => r.monoC fun a o dc g => ⟨up a o (fun z => g.2 (z ▸ B.loc)) (fun z => by have := g.1; rw [z, hI] at this; cases this; exact ndc dc) g.1, g.2⟩
  have upc : ∀ y a, env.cells.lookup y = some a → ∀ o, s.heap.get? a = some o → h'.get? a = some o := fun y a ha o q => up a o (B.cel y a ha).2.2.1 (fun z => hc y (z ▸ ha)) q
  refine ⟨⟨B.st.fn, B.st.gl, G.keeps kp', fun a xa => ?_, fun z q hz => ?_, fun y a ha => ?_⟩, ⟨h', t, by rw [e], kp'⟩, B.sub, B.own, B.loc, B.lnew, ⟨_, hn'⟩, fun y a ha => ?_, B.inj, ?_, B.off, B.stab, B.x0⟩
  · by_cases q : a = env.locals
    · subst q; obtain ⟨o, _, _, e, _⟩ := hn'; exact ⟨o, e⟩
    · obtain ⟨o, e⟩ := B.st.xb a xa; exact ⟨o, up a o q (fun z => nX (z ▸ xa)) e⟩
  · unfold upd at hz
    by_cases qq : z = y
    · subst qq; rw [if_pos rfl] at hz; cases hz
      exact ⟨v, .inl ⟨hky, _, hn', by simp⟩, r⟩
    · rw [if_neg qq] at hz
      obtain ⟨u, hu, ru⟩ := B.st.vars z q hz
      refine ⟨u, ?_, upR ru⟩
      rcases hu with ⟨h1, m', h2, h3⟩ | ⟨h1, a, h2, o, h3, h4⟩
      · exact .inl ⟨h1, _, hn', by rw [if_neg qq, ns_same hn h2]; exact h3⟩
      · exact .inr ⟨h1, a, h2, o, upc z a h2 o h3, h4⟩
  · obtain ⟨_, _, _, _, o, q, _⟩ := B.cel y a ha; exact ⟨o, upc y a ha o q⟩
  · obtain ⟨h1, h2, h3, v', o, q, q'⟩ := B.cel y a ha
    exact ⟨h1, h2, h3, v', o, upc y a ha o q, q'⟩
  · exact B.stab _ _ B.ex (fun b hb o q => up b o (B.off b hb).1 (fun z => nfp (z ▸ hb)) q) fun b o dc nx q => up b o (fun z => nx (z ▸ B.loc)) (fun z => by rw [z, hI] at q; cases q; exact ndc dc) q

theorem paired_nats {G : Addr → Obj → Prop} {f : Int → Int} : ∀ (k : Nat) {vs ys : List Value}, (∀ (j : Nat) v, vs[j]? = some v → ∃ t, v = .int ((k + j : Nat) : Int) t) → Paired (fun v u => ∃ i : Nat, (∃ t, v = .int (i : Int) t) ∧ ∃ t, u = .int (f i) t) vs ys →
    RpA prog w G ys (((List.range' k vs.length).map fun i : Nat => f i).map .int)
  | _, _, _, _, .nil => .nil
  | k, v :: vs, y :: ys, hv, .cons ⟨i, ⟨t, e⟩, u, e'⟩ q => by
    obtain ⟨t', e''⟩ := hv 0 v rfl
    have ei : i = k := by rw [e] at e''; injection e'' with a _; simp at a; omega
    subst ei; subst e'
    exact .cons (.int _ _) (paired_nats (i + 1) (fun j v hj => by obtain ⟨t, h⟩ := hv (j + 1) v hj; exact ⟨t, by rw [h]; congr 1; omega⟩) q)
/-- y = [elt for k in range(e)], the elements ints -/
theorem ex_assign_rcomp {s : Shared} {E : Value → Shared → Prop} {y : Str} {py : Pos} {spos : Pos} {elt e : Expr} {x : Str} {px rp rpos : Pos} {scope : Scope} {cl : List (Str × Addr)} {pos : Pos} {frs : List Str} {n : Int} {f : Int → Int} {rest : List Stmt} {Q : Flow → Shared → Prop}
    (G : Glb s₀.heap) (hh : A.handled = none) (B : Bd prog w s₀ X₀ env X [] (fun _ => True) c s) (hy : env.kindOf y = some .local) (hkr : env.kindOf "range" = some .globalImplicit) (he : Ev prog w A env X c e (.int n)) (h0 : 0 ≤ n) (h1 : n ≤ 1000)
    (hsw : swapsWith (.ListComp elt [⟨.Name x px, .Call (.Name "range" rp) [e] [] rpos, [], 0⟩] scope pos) (some (.Name y py)) spos.line env = pure true)
    (hse : notStar e = true)
    (hclos : closureFor scope env = pure cl) (hcell : ∀ y ∈ scope.names, y.2 ≠ .cell) (hkind : scope.kind = .function) (hnames : ∀ y ∈ scope.names, y.2 = .local → scope.names.lookup y.1 = some .local) (hx : scope.names.lookup x = some .local)
    (hfr : ∀ y ∈ frs, (relabel scope env).names.lookup y = some .cell ∧ cl.lookup y = env.cells.lookup y ∧ env.kindOf y = some .cell) (hcl : ∀ y a, cl.lookup y = some a → env.cells.lookup y = some a)
    (helt : ∀ C (i : Int), 0 ≤ i → i < n → Ev prog w A (compEnvC scope cl C env) X (cIn c frs x (.int i)) elt (.int (f i)))
    (h : ∀ s', Bd prog w s₀ X₀ env X [] (fun _ => True) (upd c y (.lst (((List.range n.toNat).map fun i : Nat => f i).map .int))) s' → WP prog w A (execs rest env) Q E s')
    (hs : ∀ v, foldedSetIterable (.Call (.Name "range" rp) [e] [] rpos) env v = pure v := by intro _; rfl) :
    WP prog w A (execs (.Assign [.Name y py] (.ListComp elt [⟨.Name x px, .Call (.Name "range" rp) [e] [] rpos, [], 0⟩] scope pos) spos :: rest) env) Q E s := by
  refine ⟨wpAny_execs_cons (wpAny_Assign_ListComp_free (cl := cl) (fun _ => true) (fun v u => ∃ i : Nat, (∃ t, v = .int (i : Int) t) ∧ ∃ t, u = .int (f i) t) hsw hclos hcell hkind hnames hx hy (by rw [B.st.fn]; rfl) ?_ hs)⟩
  refine ev_range B.st hh hkr he h0 (by omega) hse fun I s₁ s₂ k₀₁ k₁₂ hnew hIlt W hst => ?_
  have B₂ := B.keeps (keeps_trans k₀₁ k₁₂)
  have B₁ := B.keeps k₀₁
  obtain ⟨m, hn⟩ := B₂.ns
  have hl : env.locals ≠ I := fun z => by obtain ⟨o, e⟩ := B₁.st.xb _ B₁.loc; rw [z, hnew] at e; cases e
  have nX : ¬ X I := fun z => by obtain ⟨o, e⟩ := B₁.st.xb _ z; rw [hnew] at e; cases e
  have hcI : ∀ x, env.cells.lookup x ≠ some I := fun y z => by obtain ⟨o, e⟩ := B₁.st.cex y I z; rw [hnew] at e; cases e
  have n₀ : s₀.heap.get? I = none := by
    cases e : s₀.heap.get? I with
    | none => rfl
    | some o => have := keeps_get B₁.kp _ _ e; rw [hnew] at this; cases this
  refine ⟨I, [I], [I], n.toNat, _, _, m, rfl, W.bound, by rw [sizeLine_eq]; omega, hst, fun b hb => by rw [List.mem_singleton.mp hb]; exact hIlt, by simpa using hl, hn, ⟨fun C i v s₃ m₃ E' _ _ _ _ _ _ => wpAny_pure ⟨rfl, keeps_refl s₃⟩, fun C i v s₃ m₃ E' _ hPv _ hns hm hk _ => ?_⟩, ?_⟩
  · obtain ⟨hi, t, rfl⟩ := hPv
    have hG : Glb s₃.heap := B₁.st.glb.keeps fun b o e => hk b o (by intro q; rw [List.mem_singleton.mp q, hnew] at e; cases e) (keeps_get k₁₂ b o e)
    have ei : (0 + (i : Int) * 1) = i := by omega
    have r : Rp prog w (Gd s₂.heap X) (.int (0 + (i : Nat) * 1) t) (.int i) := by
      rw [ei]; exact .int _ _
    have St₃ := st_comp (frs := frs) (cl := cl) B₂.st hst (ndc_of (by decide)) nX hcI hG hkind hx hfr hcl hns hm r hk
    refine wpAny_mono ((helt C i (by omega) (by omega)).run s₃ E' St₃) (fun y s₄ g => ⟨⟨i, ⟨t, by simp⟩, ?_⟩, g.1⟩) fun _ _ e => e
    obtain ⟨_, q⟩ := g
    cases q; exact ⟨_, rfl⟩
  · intro D h' tk ys vs hD hlD _ hlen hP hF hn' hk
    rw [List.filter_eq_self.mpr (fun _ _ => rfl)] at hF
    have ra : ∀ G : Addr → Obj → Prop, RpA prog w G ys.toList (((List.range n.toNat).map fun i : Nat => f i).map .int) := fun G => by
      have := paired_nats (prog := prog) (w := w) (G := G) (f := f) 0 (fun j v hj => by
        obtain ⟨_, t, rfl⟩ := hP j v hj
        exact ⟨t, by simp⟩) hF
      rw [hlen] at this
      simpa [List.range_eq_range'] using this
    obtain ⟨o, ho, hc, n', hd⟩ := hlD
    have rD : Rp prog w (Gd h' X) (.ref D) (.lst (((List.range n.toNat).map fun i : Nat => f i).map .int)) := .lst ⟨ho, fun z => by obtain ⟨o', e⟩ := B₂.st.xb _ z; rw [hD] at e; cases e⟩ hc hd (ra _)
    exact (h _ (B₂.stored G hst (ndc_of (by decide)) n₀ nX (by simp) hcI hy hn hn' hk rD)).out

/-- dicts of a comprehension -/
theorem valueAt_stored {kvs : List (Str × Value)} {k k' : Str} {v : Value} : valueAt (stored kvs k v) k' = if k' = k then some v else valueAt kvs k' := by
  unfold valueAt stored
  by_cases ha : kvs.any (fun kv => decide (kv.1 = k)) = true
  · rw [if_pos ha]
    induction kvs with
    | nil => simp at ha
    | cons p r ih =>
      obtain ⟨a, b⟩ := p
      simp only [List.map_cons, List.find?_cons]
      by_cases hak : a = k
      · subst hak
        by_cases hk : k' = a
        · subst hk; simp
        · have hk' : ¬ a = k' := fun e => hk e.symm
          simp only [if_true, decide_eq_false hk', if_neg hk]
          by_cases har : r.any (fun kv => decide (kv.1 = a)) = true
          · have := ih har; rw [if_neg hk] at this; exact this
          · have e : (r.map fun kv => if kv.1 = a then (kv.1, v) else kv) = r := by
              have : ∀ q ∈ r, (if q.1 = a then (q.1, v) else q) = q := fun q hq => by
                rw [if_neg]; intro e; exact har (List.any_eq_true.mpr ⟨q, hq, decide_eq_true e⟩)
              conv => rhs; rw [← List.map_id r]
              exact List.map_congr_left fun q hq => by rw [this q hq]; rfl
            rw [e]
      · simp only [if_neg hak]
        have har : r.any (fun kv => decide (kv.1 = k)) = true := by simpa [hak] using ha
        by_cases hk : a = k'
        · have hne : ¬ k' = k := fun e => hak (hk.trans e)
          simp [hk, hne]
        · simp only [decide_eq_false hk]
          exact ih har
  · rw [if_neg ha]
    rw [List.find?_append]
    by_cases hk : k' = k
    · subst hk
      have : kvs.find? (fun kv => decide (kv.1 = k')) = none := by
        rw [List.find?_eq_none]; intro q hq e
        exact ha (List.any_eq_true.mpr ⟨q, hq, e⟩)
      simp [this]
    · rw [if_neg hk]
      have hk' : ¬ k = k' := fun e => hk e.symm
      simp [hk']

theorem stored_all {key : Int → Str} {val : Int → Int} {N : Int} (hinj : ∀ i j, 0 ≤ i → i < N → 0 ≤ j → j < N → key i = key j → i = j) {l : List Value} {kvs : List (Str × Value)}
    (h : StoredAll (fun v k => ∃ i t, v = .int i t ∧ 0 ≤ i ∧ i < N ∧ k = key i) (fun v y => ∃ i t u, v = .int i t ∧ y = .int (val i) u) l kvs) :
    ∀ i t, Value.int i t ∈ l → 0 ≤ i → i < N → ∃ u, valueAt kvs (key i) = some (.int (val i) u) := by
  induction h with
  | nil => intro i t hm; cases hm
  | @snoc l kvs v k y _ hk hv ih =>
    intro i t hm h0 h1
    obtain ⟨j, t', rfl, j0, j1, rfl⟩ := hk
    obtain ⟨j', t'', u, e, rfl⟩ := hv
    injection e with e _
    subst e
    rw [valueAt_stored]
    by_cases hk : key i = key j
    · have := hinj i j h0 h1 j0 j1 hk
      subst this
      rw [if_pos rfl]; exact ⟨u, rfl⟩
    · rw [if_neg hk]
      rcases List.mem_append.mp hm with hm | hm
      · exact ih i t hm h0 h1
      · simp at hm; exact absurd (by rw [hm.1]) hk

/-- a dict comprehension over range(n): strs to ints -/
theorem ev_dcomp {kx vx e : Expr} {x : Str} {px rp rpos : Pos} {scope : Scope} {cl : List (Str × Addr)} {pos : Pos} {frs : List Str} {n : Int} {key : Int → Str} {val : Int → Int}
    (hh : A.handled = none) (hkr : env.kindOf "range" = some .globalImplicit) (he : Ev prog w A env X c e (.int n)) (h0 : 0 ≤ n) (h1 : n ≤ 1000) (hinj : ∀ i j, 0 ≤ i → i < n → 0 ≤ j → j < n → key i = key j → i = j)
    (hse : notStar e = true)
    (hclos : closureFor scope env = pure cl) (hcell : ∀ y ∈ scope.names, y.2 ≠ .cell) (hkind : scope.kind = .function) (hnames : ∀ y ∈ scope.names, y.2 = .local → scope.names.lookup y.1 = some .local) (hx : scope.names.lookup x = some .local)
    (hfr : ∀ y ∈ frs, (relabel scope env).names.lookup y = some .cell ∧ cl.lookup y = env.cells.lookup y ∧ env.kindOf y = some .cell) (hcl : ∀ y a, cl.lookup y = some a → env.cells.lookup y = some a)
    (hkey : ∀ C (i : Int), 0 ≤ i → i < n → Ev prog w A (compEnvC scope cl C env) X (cIn c frs x (.int i)) kx (.str (key i)))
    (hval : ∀ C (i : Int), 0 ≤ i → i < n → Ev prog w A (compEnvC scope cl C env) X (cIn c frs x (.int i)) vx (.int (val i)))
    (hs : ∀ v, foldedSetIterable (.Call (.Name "range" rp) [e] [] rpos) env v = pure v := by intro _; rfl) :
    Ev prog w A env X c (.DictComp kx vx [⟨.Name x px, .Call (.Name "range" rp) [e] [] rpos, [], 0⟩] scope pos) (.tab ((List.range n.toNat).map fun i : Nat => (key i, val i))) := by
  refine ⟨fun s E S => ?_⟩
  rw [arm_eval_DictComp]
  refine wpAny_comprehension_free (use := none) rfl hs hclos hkind hnames ?_
  refine ev_range S hh hkr he h0 (by omega) hse fun I s₁ s₂ k₀₁ k₁₂ hnew hIlt W hst => ?_
  have S₁ := S.keeps k₀₁
  have S₂ := S₁.keeps k₁₂
  have nX : ¬ X I := fun z => by obtain ⟨o, e⟩ := S₁.xb _ z; rw [hnew] at e; cases e
  have hcI : ∀ x, env.cells.lookup x ≠ some I := fun y z => by obtain ⟨o, e⟩ := S₁.cex y I z; rw [hnew] at e; cases e
  have stc : ∀ C (i : Nat) t (s₃ : Shared) m₃, i < n.toNat → s₃.heap.Ns C m₃ → m₃ x = some (.int (0 + (i : Nat) * 1) t) → (∀ b o, b ∉ [I] → s₂.heap.get? b = some o → s₃.heap.get? b = some o) → St prog w (compEnvC scope cl C env) X (cIn c frs x (.int i)) s₃ := fun C i t s₃ m₃ hi hns hm hk => by
    have hG : Glb s₃.heap := S₁.glb.keeps fun b o e => hk b o (by intro q; rw [List.mem_singleton.mp q, hnew] at e; cases e) (keeps_get k₁₂ b o e)
    have ei : (0 + (i : Int) * 1) = i := by omega
    have r : Rp prog w (Gd s₂.heap X) (.int (0 + (i : Nat) * 1) t) (.int i) := by
      rw [ei]; exact .int _ _
    exact st_comp (frs := frs) (cl := cl) S₂ hst (ndc_of (by decide)) nX hcI hG hkind hx hfr hcl hns hm r hk
  refine comp_block_walkCD (knd := PySem.strKind prog w) (RR := fun acc C => compPost (model prog w) A E none (Gives prog w X s (.tab ((List.range n.toNat).map fun i : Nat => (key i, val i)))) acc C) W.bound (by rw [sizeLine_eq]; omega) (fun _ => true)
    (fun v k => ∃ i t, v = .int i t ∧ 0 ≤ i ∧ i < n ∧ k = key i) (fun v y => ∃ i t u, v = .int i t ∧ y = .int (val i) u) hcell hkind hx hst (fun b hb => by rw [List.mem_singleton.mp hb]; exact hIlt) ⟨fun C i v s₃ m₃ E' _ _ _ _ => wpAny_pure ⟨rfl, keeps_refl s₃⟩, fun C i v s₃ m₃ E' hPv _ hns hm hk => ?_, fun C i v s₃ m₃ E' hPv _ hns hm hk => ?_⟩ ?_
  · obtain ⟨hi, t, rfl⟩ := hPv
    refine wpAny_mono ((hkey C i (by omega) (by omega)).run s₃ E' (stc C i t s₃ m₃ hi hns hm hk)) (fun y s₄ g => ⟨⟨key i, ?_, i, t, by simp, by omega, by omega, rfl⟩, g.1⟩) fun _ _ e => e
    obtain ⟨_, q⟩ := g
    cases q; simp [PySem.strKind, Value.isStrOf]
  · obtain ⟨hi, t, rfl⟩ := hPv
    refine wpAny_mono ((hval C i (by omega) (by omega)).run s₃ E' (stc C i t s₃ m₃ hi hns hm hk)) (fun y s₄ g => ⟨⟨i, t, ?_⟩, g.1⟩) fun _ _ e => e
    obtain ⟨_, q⟩ := g
    cases q; exact ⟨_, by simp, rfl⟩
  · intro D C h' tk m' kvs vs hD hC hDC hn hd hlen hP hF hk
    refine ⟨m', hn, fun h'' hs'' => ?_⟩
    have hd'' := hd.sameBut hs'' hDC
    have hup : ∀ b o, s₁.heap.get? b = some o → h''.get? b = some o := fun b o e => by
      have e₂ := keeps_get k₁₂ b o e
      exact hs''.extBut b o (by rintro rfl; rw [hC] at e₂; cases e₂) (hk b o (by intro q; rw [List.mem_singleton.mp q, hnew] at e; cases e) e₂)
    rw [List.filter_eq_self.mpr (fun _ _ => rfl)] at hF
    have hall := stored_all hinj hF
    obtain ⟨h₂, t₂, rfl, hk2⟩ := k₁₂
    refine gives_trans k₀₁ ⟨⟨h'', tk, rfl, hup⟩, ?_⟩
    obtain ⟨o, es, ep, ho, hx, hdat, hkk, hff⟩ := hd''.mapOf
    refine .tab ⟨ho, fun z => ?_⟩ ⟨es, ep, hx, hdat, hkk, fun k i hki => ?_⟩
    · obtain ⟨o', e⟩ := S₁.xb _ z
      have e2 := hk2 _ _ e
      have e3 : h₂.get? D = none := hD
      rw [e3] at e2; cases e2
    · have hm := mem_of_lookup hki
      obtain ⟨j, hj, e⟩ := List.mem_map.mp hm
      have hj' := List.mem_range.mp hj
      injection e with e1 e2
      subst e1; subst e2
      have hjl : j < vs.length := by rw [hlen]; exact hj'
      obtain ⟨_, t, ht⟩ := hP j vs[j] (by simp [hjl])
      obtain ⟨u, hu⟩ := hall (j : Int) t (by
        have : (0 + (j : Int) * 1) = j := by omega
        rw [this] at ht; rw [← ht]; exact List.getElem_mem hjl) (by omega) (by omega)
      exact ⟨u, by rw [hff]; exact hu⟩
end
end Mine

namespace Mine

/-- formulas -/
inductive T where
  | node (name : Str) (m : Int) (ps : List T) (v : Int)
def T.name : T → Str | .node n _ _ _ => n
def T.val : T → Int | .node _ _ _ v => v
mutual
def tD : T → D
  | .node nm m ps v => .tup [.str nm, .int m, .lst (tDs ps), .int v]
def tDs : List T → List D
  | [] => []
  | t :: r => tD t :: tDs r
end
theorem tDs_eq : ∀ ps : List T, tDs ps = ps.map tD
  | [] => by simp [tDs]
  | t :: r => by rw [tDs, tDs_eq r, List.map_cons]
mutual
def szT : T → Nat
  | .node _ _ ps _ => szTs ps + 1
def szTs : List T → Nat
  | [] => 0
  | t :: r => szT t + szTs r
end
mutual
def dpT : T → Nat
  | .node _ _ ps _ => dpTs ps + 1
def dpTs : List T → Nat
  | [] => 0
  | t :: r => max (dpT t) (dpTs r)
end
-- names short, margins one to three
mutual
def okT : T → Prop
  | .node nm m ps _ => nm.length ≤ 3 ∧ 1 ≤ m ∧ m ≤ 3 ∧ okTs ps
def okTs : List T → Prop
  | [] => True
  | t :: r => okT t ∧ okTs r
end
theorem okTs_mem : ∀ {ps : List T}, okTs ps → ∀ t ∈ ps, okT t
  | _ :: _, h, t, hm => by
    rw [okTs] at h
    rcases List.mem_cons.mp hm with rfl | hm
    · exact h.1
    · exact okTs_mem h.2 t hm
theorem dpTs_mem : ∀ {ps : List T}, ∀ t ∈ ps, dpT t ≤ dpTs ps
  | p :: r, t, hm => by
    rw [dpTs]
    rcases List.mem_cons.mp hm with rfl | hm
    · exact Nat.le_max_left _ _
    · exact Nat.le_trans (dpTs_mem t hm) (Nat.le_max_right _ _)
theorem szTs_mem : ∀ {ps : List T}, ∀ t ∈ ps, szT t ≤ szTs ps
  | p :: r, t, hm => by
    rw [szTs]
    rcases List.mem_cons.mp hm with rfl | hm
    · omega
    · have := szTs_mem t hm; omega
theorem szTs_append : ∀ (ps qs : List T), szTs (ps ++ qs) = szTs ps + szTs qs
  | [], qs => by simp [szTs]
  | p :: r, qs => by rw [List.cons_append, szTs, szTs, szTs_append r qs]; omega
theorem szTs_take (ps : List T) (i : Nat) : szTs (ps.take i) ≤ szTs ps := by
  have := szTs_append (ps.take i) (ps.drop i)
  rw [List.take_append_drop] at this; omega

def blk (n : Int) : Str := Txt.mul " " n
mutual
def rowsT : T → Int → List Str
  | .node nm m ps _, b => (blk b ++ nm) :: rowsTs ps (b + m)
def rowsTs : List T → Int → List Str
  | [], _ => []
  | t :: r, b => rowsT t b ++ rowsTs r b
end
theorem rowsTs_append : ∀ (ps qs : List T) (b : Int), rowsTs (ps ++ qs) b = rowsTs ps b ++ rowsTs qs b
  | [], qs, b => by simp [rowsTs]
  | p :: r, qs, b => by rw [List.cons_append, rowsTs, rowsTs, rowsTs_append r qs, List.append_assoc]
mutual
theorem rowsT_length : ∀ (t : T) (b : Int), (rowsT t b).length = szT t
  | .node nm m ps v, b => by rw [rowsT, szT, List.length_cons, rowsTs_length]
theorem rowsTs_length : ∀ (ps : List T) (b : Int), (rowsTs ps b).length = szTs ps
  | [], b => by simp [rowsTs, szTs]
  | t :: r, b => by rw [rowsTs, szTs, List.length_append, rowsT_length, rowsTs_length]
end
theorem blk_length (n : Int) (h : 0 ≤ n) : ((blk n).length : Int) = n := by
  have := len_mul " " n
  unfold blk
  rw [this, if_neg (by simp; omega)]
  have : (Str.length " ") = 1 := by decide
  rw [this]; omega
theorem mulOk_small {x : Str} {n : Int} (hx : x.length ≤ 1) (h0 : 0 ≤ n) (h1 : n ≤ 10000) : MulOk x n := mulOk_of 1 10000 hx (by omega) (by omega) (by decide) (by decide)
theorem upd_same {c : Str → Option D} {x p : Str} {d d' e : D} (hp : c p = none) (hpx : ¬ p = x) : ∀ y q, upd c x d y = some q → upd (upd (upd c x d') p e) x d y = some q := by
  intro y q h
  unfold upd at h ⊢
  by_cases h1 : y = x
  · rw [if_pos h1] at h ⊢; exact h
  · rw [if_neg h1] at h ⊢
    rw [if_neg (fun e => by rw [e, hp] at h; cases h), if_neg h1]
    exact h

section
variable {prog : Program} {w : World}
theorem fn_add_int' {n : Nat} {a b : Int} : FnC prog w (n + 1) 3 [.int a, .int b] (.int (a + b)) := fn_add_int
theorem fn_mul_str {n : Nat} {x : Str} {k : Int} (h : MulOk x k) : FnC prog w (n + 1) 4 [.str x, .int k] (.str (Txt.mul x k)) := by
  refine fnc_plain rfl ["a", "b"] (fun pm code doc vs hl => ?_) (by decide) rfl rfl rfl (by decide) (fun A X₀ s₀ L a' cd X s R G B => ?_)
  · match vs, hl with
    | [_, _], _ => rfl
  · exact ex_return B (ev_bin (ev_name rfl) (ev_name rfl) (op_mul_str h))
theorem fn_mul_int {n : Nat} {a b : Int} (h : IntMulOk a b) : FnC prog w (n + 1) 4 [.int a, .int b] (.int (a * b)) := by
  refine fnc_plain rfl ["a", "b"] (fun pm code doc vs hl => ?_) (by decide) rfl rfl rfl (by decide) (fun A X₀ s₀ L a' cd X s R G B => ?_)
  · match vs, hl with
    | [_, _], _ => rfl
  · exact ex_return B (ev_bin (ev_name rfl) (ev_name rfl) (op_mul_int h))
theorem fn_neg {n : Nat} {a : Int} : FnC prog w (n + 1) 5 [.int a] (.int (-a)) := by
  refine fnc_plain rfl ["a"] (fun pm code doc vs hl => ?_) (by decide) rfl rfl rfl (by decide) (fun A X₀ s₀ L a' cd X s R G B => ?_)
  · match vs, hl with
    | [_], _ => rfl
  · exact ex_return B (ev_neg (ev_name rfl))
theorem fn_sub {n : Nat} {a b : Int} : FnC prog w (n + 1) 6 [.int a, .int b] (.int (a - b)) := by
  refine fnc_plain rfl ["a", "b"] (fun pm code doc vs hl => ?_) (by decide) rfl rfl rfl (by decide) (fun A X₀ s₀ L a' cd X s R G B => ?_)
  · match vs, hl with
    | [_, _], _ => rfl
  · exact ex_return B (ev_bin (ev_name rfl) (ev_name rfl) op_sub_int)

/-- _law_rows -/
theorem fn_rows : ∀ (n : Nat) (t : T) (b : Int), dpT t ≤ n → okT t → 0 ≤ b → b + 3 * n ≤ 900 → szT t ≤ 200 → FnC prog w (n + 2) 11 [tD t, .int b] (.lst ((rowsT t b).map .str)) := by
  intro n
  induction n with
  | zero => intro t b h; cases t; rw [dpT] at h; omega
  | succ n ih =>
    intro t b hdp hok h0 hb hsz
    obtain ⟨nm, m, ps, v⟩ := t
    rw [okT] at hok
    rw [dpT] at hdp
    rw [szT] at hsz
    have hbl := blk_length b h0
    refine fnc_plain rfl ["formula", "blanks"] (fun pm code doc vs hl => ?_) (by decide) rfl rfl rfl (by decide) (fun A X₀ s₀ L a' cd X s R G B => ?_)
    · match vs, hl with
      | [_, _], _ => rfl
    rw [tD, tDs_eq] at B
    refine ex_unpack4 G R.1 B (ev_name rfl) (.inl rfl) (.inl rfl) (.inl rfl) (.inl rfl) (fun s₁ B₁ => ?_) rfl rfl
    refine ex_assign G B₁ rfl (ev_list (evl_cons (ev_call (fn_add_str (n := 0) (a := blk b) (b := nm) (by rw [sizeLine_eq]; omega)) (rm_mono R (by omega)) rfl rfl (evl_cons (ev_call (fn_mul_str (n := 0) (x := " ") (k := b) (mulOk_small (by decide) h0 (by omega))) (rm_mono R (by omega)) rfl rfl (evl_cons ev_str (evl_cons (ev_name rfl) evl_nil))) (evl_cons (ev_name rfl) evl_nil))) evl_nil) (by rw [sizeLine_eq]; simp)) (fun s₂ B₂ => ?_)
    refine ex_for (fun i => upd _ "rows" (.lst (((blk b ++ nm) :: rowsTs (ps.take i) (b + m)).map .str))) (fun _ _ => True) G R.1 B₂ (fun _ h => (by cases h)) (fun _ _ _ _ _ _ => trivial) rfl (ds := ps.map tD) (ev_name rfl) (fun y d h => h) (fun i d fp₂ P₂ s E hd hf hst B₃ => ?_) (fun s₃ B₃ => ?_)
    · rw [List.getElem?_map] at hd
      cases hp : ps[i]? with
      | none => rw [hp] at hd; cases hd
      | some p =>
        rw [hp] at hd
        cases hd
        have hm := List.mem_of_getElem? hp
        have hi := (List.getElem?_eq_some_iff.mp hp).1
        have e1 : ps.take (i + 1) = ps.take i ++ [p] := by simp [List.take_add_one, hp]
        have e2 : rowsTs (ps.take (i + 1)) (b + m) = rowsTs (ps.take i) (b + m) ++ rowsT p (b + m) := by
          rw [e1, rowsTs_append]; simp [rowsTs]
        have l1 := rowsTs_length (ps.take i) (b + m)
        have l2 := rowsT_length p (b + m)
        have l3 := szTs_take ps (i + 1)
        rw [e1, szTs_append] at l3
        simp only [szTs] at l3
        refine ex_assign G B₃ rfl (ev_bin (ev_name rfl) (ev_call (ih p (b + m) (by have := dpTs_mem p hm; omega) (okTs_mem hok.2.2.2 p hm) (by omega) (by omega) (by omega)) (rm_mono R (by omega)) rfl rfl (evl_cons (ev_name rfl) (evl_cons (ev_bin (ev_name rfl) (ev_name rfl) op_add_int) evl_nil))) (op_add_list (by rw [sizeLine_eq]; simp only [List.length_map, List.length_cons]; omega))) (fun s₄ B₄ => ?_)
        refine ex_nil ⟨rfl, B₄.weak fun y q h => ?_⟩
        rw [e2] at h
        rw [← List.map_append, List.cons_append]
        exact upd_same rfl (by decide) y q h
    · rw [List.length_map, List.take_length] at B₃
      rw [rowsT]
      exact ex_return B₃ (ev_name rfl)
end
end Mine

namespace Mine

mutual
def plT : T → List Str
  | .node nm m ps _ => nm :: plTs m ps
def plTs : Int → List T → List Str
  | _, [] => []
  | m, t :: r => (plT t).map (blk m ++ ·) ++ plTs m r
end
theorem plTs_append (m : Int) : ∀ (ps qs : List T), plTs m (ps ++ qs) = plTs m ps ++ plTs m qs
  | [], qs => by simp [plTs]
  | p :: r, qs => by rw [List.cons_append, plTs, plTs, plTs_append m r qs, List.append_assoc]
mutual
theorem plT_length : ∀ t : T, (plT t).length = szT t
  | .node nm m ps v => by rw [plT, szT, List.length_cons, plTs_length]
theorem plTs_length : ∀ (m : Int) (ps : List T), (plTs m ps).length = szTs ps
  | m, [] => by simp [plTs, szTs]
  | m, t :: r => by rw [plTs, szTs, List.length_append, List.length_map, plT_length, plTs_length]
end
mutual
theorem plT_short : ∀ t : T, okT t → ∀ x ∈ plT t, x.length ≤ 3 * dpT t
  | .node nm m ps v, h, x, hx => by
    rw [okT] at h
    rw [plT] at hx
    rw [dpT]
    rcases List.mem_cons.mp hx with rfl | hx
    · omega
    · exact plTs_short m h.2.1 h.2.2.1 ps h.2.2.2 x hx
theorem plTs_short : ∀ (m : Int), 1 ≤ m → m ≤ 3 → ∀ ps : List T, okTs ps → ∀ x ∈ plTs m ps, x.length ≤ 3 * (dpTs ps + 1)
  | m, h1, h3, [], _, x, hx => by simp [plTs] at hx
  | m, h1, h3, t :: r, h, x, hx => by
    rw [okTs] at h
    rw [plTs] at hx
    rw [dpTs]
    rcases List.mem_append.mp hx with hx | hx
    · obtain ⟨y, hy, rfl⟩ := List.mem_map.mp hx
      have := plT_short t h.1 y hy
      have e := blk_length m (by omega)
      rw [Str.length_append]
      have := Nat.le_max_left (dpT t) (dpTs r)
      omega
    · have := plTs_short m h1 h3 r h.2 x hx
      have := Nat.le_max_right (dpT t) (dpTs r)
      omega
end

def pairD (p : Str × Int) : D := .tup [.str p.1, .int p.2]
mutual
def dueT : T → List (Str × Int)
  | .node nm m ps v => (Txt.join "\n" (plT (.node nm m ps v)), v) :: dueTs ps
def dueTs : List T → List (Str × Int)
  | [] => []
  | t :: r => dueT t ++ dueTs r
end
theorem dueTs_append : ∀ (ps qs : List T), dueTs (ps ++ qs) = dueTs ps ++ dueTs qs
  | [], qs => by simp [dueTs]
  | p :: r, qs => by rw [List.cons_append, dueTs, dueTs, dueTs_append r qs, List.append_assoc]
mutual
theorem dueT_length : ∀ t : T, (dueT t).length = szT t
  | .node nm m ps v => by rw [dueT, szT, List.length_cons, dueTs_length]
theorem dueTs_length : ∀ ps : List T, (dueTs ps).length = szTs ps
  | [] => by simp [dueTs, szTs]
  | t :: r => by rw [dueTs, szTs, List.length_append, dueT_length, dueTs_length]
end
theorem joinOk_of {ls : List Str} {B : Nat} (hB : ∀ y ∈ ls, y.length ≤ B) (h : ls.length * B + ls.length ≤ 16777216) : JoinOk "\n" ls = true := by
  have e : (Str.length "\n") = 1 := by decide
  have := StrLaws.joinFits (sep := "\n") hB (by rw [e]; omega)
  unfold JoinOk
  rw [this]; rfl

section
variable {prog : Program} {w : World}
/-- _law_plain_rows -/
theorem fn_plain_rows : ∀ (n : Nat) (t : T), dpT t ≤ n → okT t → n ≤ 200 → szT t ≤ 200 → FnC prog w (n + 1) 12 [tD t] (.lst ((plT t).map .str)) := by
  intro n
  induction n with
  | zero => intro t h; cases t; rw [dpT] at h; omega
  | succ n ih =>
    intro t hdp hok hn hsz
    obtain ⟨nm, m, ps, v⟩ := t
    rw [okT] at hok
    rw [dpT] at hdp
    rw [szT] at hsz
    refine fnc_cells rfl ["formula"] (by decide) (fun pm code doc vs hl => ?_) (fun L x hx => by rw [List.mem_singleton.mp hx]; exact .inl rfl) rfl rfl rfl (fun A X₀ s₀ L a' cd X s R G B => ?_)
    · match vs, hl with
      | [_], _ => rfl
    rw [tD, tDs_eq] at B
    refine ex_unpack4 G R.1 B (ev_name rfl) (.inl rfl) (.inr ⟨rfl, rfl⟩) (.inl rfl) (.inl rfl) (fun s₁ B₁ => ?_) rfl rfl
    refine ex_assign G B₁ rfl (ev_list (evl_cons (ev_name rfl) evl_nil) (by rw [sizeLine_eq]; simp)) (fun s₂ B₂ => ?_)
    refine ex_for (fun i => upd _ "rows" (.lst ((nm :: plTs m (ps.take i)).map .str))) (fun _ _ => True) G R.1 B₂ (fun _ h => (by cases h)) (fun _ _ _ _ _ _ => trivial) rfl (ds := ps.map tD) (ev_name rfl) (fun y d h => h) (fun i d fp₂ P₂ s E hd hf hst B₃ => ?_) (fun s₃ B₃ => ?_)
    · rw [List.getElem?_map] at hd
      cases hp : ps[i]? with
      | none => rw [hp] at hd; cases hd
      | some p =>
        rw [hp] at hd
        cases hd
        have hm := List.mem_of_getElem? hp
        have e1 : ps.take (i + 1) = ps.take i ++ [p] := by simp [List.take_add_one, hp]
        have e2 : plTs m (ps.take (i + 1)) = plTs m (ps.take i) ++ (plT p).map (blk m ++ ·) := by
          rw [e1, plTs_append]; simp [plTs]
        have l1 := plTs_length m (ps.take i)
        have l2 := plT_length p
        have l3 := szTs_take ps (i + 1)
        rw [e1, szTs_append] at l3
        simp only [szTs] at l3
        have okp := okTs_mem hok.2.2.2 p hm
        have dpp := dpTs_mem p hm
        have bl := blk_length m (by omega)
        refine ex_assign G B₃ rfl (ev_bin (d₂ := .lst ((plT p).map fun r => .str (blk m ++ r))) (ev_name rfl) (ev_lcomp (bs := plT p) (enc := fun r => .str r) (res := fun r => .str (blk m ++ r)) (frs := ["margin"]) R.1
          (ev_call (ih p (by omega) okp (by omega) (by omega)) (rm_mono R (by omega)) rfl rfl (evl_cons (ev_name rfl) evl_nil)) (by rw [sizeLine_eq]; omega) (fun _ => flat_str) (fun h v b b' q q' => by cases q; cases q'; rfl)
          rfl (by decide) rfl (by decide) rfl (fun y hy => by rw [List.mem_singleton.mp hy]; exact ⟨rfl, rfl, rfl⟩) (fun y a h => h)
          (fun C r hr => ev_bin (ev_bin ev_str (ev_name rfl) (op_mul_str (mulOk_small (by decide) (by omega) (by omega)))) (ev_name rfl) (op_add_str (by
            have := plT_short p okp r hr
            show (blk m).length + r.length ≤ sizeLine
            rw [sizeLine_eq]; omega))))
          (op_add_list (by rw [sizeLine_eq]; simp only [List.length_map, List.length_cons]; omega))) (fun s₄ B₄ => ?_)
        refine ex_nil ⟨rfl, B₄.weak fun y q h => ?_⟩
        rw [e2] at h
        have e3 : (nm :: plTs m (ps.take i)).map D.str ++ (plT p).map (fun r => D.str (blk m ++ r)) = (nm :: (plTs m (ps.take i) ++ (plT p).map (blk m ++ ·))).map D.str := by
          simp [List.map_append]
        rw [e3]
        exact upd_same rfl (by decide) y q h
    · rw [List.length_map, List.take_length] at B₃
      rw [plT]
      exact ex_return B₃ (ev_name rfl)

/-- _law_due -/
theorem fn_due : ∀ (n : Nat) (t : T), dpT t ≤ n → okT t → n ≤ 200 → szT t ≤ 200 → FnC prog w (n + 2) 13 [tD t] (.lst ((dueT t).map pairD)) := by
  intro n
  induction n with
  | zero => intro t h; cases t; rw [dpT] at h; omega
  | succ n ih =>
    intro t hdp hok hn hsz
    have hshort := plT_short t hok
    have hlen := plT_length t
    have hpl := fn_plain_rows (prog := prog) (w := w) (n + 1) t hdp hok hn hsz
    obtain ⟨nm, m, ps, v⟩ := t
    refine fnc_plain rfl ["formula"] (fun pm code doc vs hl => ?_) (by decide) rfl rfl rfl (by decide) (fun A X₀ s₀ L a' cd X s R G B => ?_)
    · match vs, hl with
      | [_], _ => rfl
    have htD : tD (.node nm m ps v) = .tup [.str nm, .int m, .lst (ps.map tD), .int v] := by rw [tD, tDs_eq]
    have hev : ∀ {env : Env} {c : Str → Option D} {pos : Pos}, c "formula" = some (tD (.node nm m ps v)) → Ev prog w A env X c (.Name "formula" pos) (.tup [.str nm, .int m, .lst (ps.map tD), .int v]) := fun h => ev_name (h.trans (congrArg some htD))
    have hjo : JoinOk "\n" (plT (.node nm m ps v)) = true := joinOk_of (B := 600) (fun y hy => by have := hshort y hy; omega) (by omega)
    rw [okT] at hok
    rw [dpT] at hdp
    rw [szT] at hsz
    refine ex_assign G B rfl (ev_list (evl_cons (ev_tup (evl_cons (ev_join ev_str (ev_call hpl (rm_mono R (by omega)) rfl rfl (evl_cons (ev_name rfl) evl_nil)) hjo) (evl_cons (ev_sub_tup (hev rfl) ev_int (by decide) (by decide) rfl) evl_nil)) (by rw [sizeLine_eq]; simp)) evl_nil) (by rw [sizeLine_eq]; simp)) (fun s₂ B₂ => ?_)
    refine ex_for (fun i => upd _ "due" (.lst (((Txt.join "\n" (plT (.node nm m ps v)), v) :: dueTs (ps.take i)).map pairD))) (fun _ _ => True) G R.1 B₂ (fun _ h => (by cases h)) (fun _ _ _ _ _ _ => trivial) rfl (ds := ps.map tD) (ev_sub_tup (hev rfl) ev_int (by decide) (by decide) rfl) (fun y d h => h) (fun i d fp₂ P₂ s E hd hf hst B₃ => ?_) (fun s₃ B₃ => ?_)
    · rw [List.getElem?_map] at hd
      cases hp : ps[i]? with
      | none => rw [hp] at hd; cases hd
      | some p =>
        rw [hp] at hd
        cases hd
        have hm := List.mem_of_getElem? hp
        have e1 : ps.take (i + 1) = ps.take i ++ [p] := by simp [List.take_add_one, hp]
        have e2 : dueTs (ps.take (i + 1)) = dueTs (ps.take i) ++ dueT p := by
          rw [e1, dueTs_append]; simp [dueTs]
        have l1 := dueTs_length (ps.take i)
        have l2 := dueT_length p
        have l3 := szTs_take ps (i + 1)
        rw [e1, szTs_append] at l3
        simp only [szTs] at l3
        have okp := okTs_mem hok.2.2.2 p hm
        have dpp := dpTs_mem p hm
        refine ex_assign G B₃ rfl (ev_bin (ev_name rfl) (ev_call (ih p (by omega) okp (by omega) (by omega)) (rm_mono R (by omega)) rfl rfl (evl_cons (ev_name rfl) evl_nil))
          (op_add_list (by rw [sizeLine_eq]; simp only [List.length_map, List.length_cons]; omega))) (fun s₄ B₄ => ?_)
        refine ex_nil ⟨rfl, B₄.weak fun y q h => ?_⟩
        rw [e2] at h
        rw [← List.map_append, List.cons_append]
        exact upd_same rfl (by decide) y q h
    · rw [List.length_map, List.take_length] at B₃
      rw [dueT]
      exact ex_return B₃ (ev_name rfl)
end
end Mine

namespace Mine

/-- slices of data -/
theorem pick_idx {lo hi st : Option Int} {n : Nat} {js : List Nat} (h : ∀ items : Array Value, items.size = n → slicePick items lo hi st = (js.filterMap (items[·]?)).toArray) (hj : ∀ j ∈ js, j < n) {ds : List D} (hd : ds.length = n) :
    pickD ds lo hi st = js.filterMap (ds[·]?) := by
  have key : ∀ (idx : List Nat), (idx.filterMap fun i => if i < n then some (Value.int (i : Int) 0) else none) = (idx.filter (· < n)).map fun (i : Nat) => Value.int (i : Int) 0 := by
    intro idx
    induction idx with
    | nil => rfl
    | cons i r ih =>
      by_cases hi : i < n
      · simp [hi, ih]
      · simp [hi, ih]
  have inj : ∀ (a b : List Nat), (a.map fun (i : Nat) => Value.int (i : Int) 0) = (b.map fun (i : Nat) => Value.int (i : Int) 0) → a = b := by
    intro a
    induction a with
    | nil => intro b hb; cases b with | nil => rfl | cons _ _ => simp at hb
    | cons x r ih =>
      intro b hb
      cases b with
      | nil => simp at hb
      | cons y q =>
        simp only [List.map_cons, List.cons.injEq, Value.int.injEq, and_true] at hb
        rw [ih q hb.2, Int.ofNat.inj hb.1]
  have items : ∀ i : Nat, (((List.range n).map fun (i : Nat) => Value.int (i : Int) 0).toArray)[i]? = if i < n then some (Value.int (i : Int) 0) else none := by
    intro i
    by_cases hi : i < n <;> simp [hi]
  have hh := h ((List.range n).map fun (i : Nat) => Value.int (i : Int) 0).toArray (by simp)
  unfold slicePick at hh
  have hs : (((List.range n).map fun (i : Nat) => Value.int (i : Int) 0).toArray).size = n := by simp
  rw [hs] at hh
  simp only [items] at hh
  have hh2 := congrArg Array.toList hh
  simp only [] at hh2
  rw [key, key] at hh2
  have hh3 := inj _ _ hh2
  have hjs : js.filter (· < n) = js := List.filter_eq_self.mpr fun j hm => by simpa using hj j hm
  rw [hjs] at hh3
  have gen : ∀ idx : List Nat, idx.filterMap (ds[·]?) = (idx.filter (· < n)).filterMap (ds[·]?) := by
    intro idx
    induction idx with
    | nil => rfl
    | cons i r ih =>
      by_cases hi : i < n
      · rw [List.filter_cons_of_pos (by simpa using hi), List.filterMap_cons, List.filterMap_cons, ih]
      · have : ds[i]? = none := by rw [List.getElem?_eq_none_iff]; omega
        simp [hi, this, ih]
  unfold pickD
  rw [hd, gen, hh3]
theorem range_take {α : Type} (l : List α) (k : Nat) : (List.range (min k l.length)).filterMap (l[·]?) = l.take k := by
  induction l generalizing k with
  | nil => simp
  | cons a r ih =>
    cases k with
    | zero => simp
    | succ k =>
      have e : min (k + 1) (a :: r).length = min k r.length + 1 := by simp [Nat.succ_min_succ]
      rw [e, List.range_succ_eq_map, List.filterMap_cons, List.filterMap_map]
      simp only [List.getElem?_cons_zero, List.take_succ_cons]
      congr 1
      exact ih k
theorem range_drop {α : Type} (l : List α) (k : Nat) : ((List.range (l.length - k)).map (· + k)).filterMap (l[·]?) = l.drop k := by
  rw [List.filterMap_map]
  have h := range_take (l.drop k) (l.drop k).length
  rw [Nat.min_self, List.take_length, List.length_drop] at h
  rw [← h]
  congr 1
  funext i
  simp [List.getElem?_drop, Nat.add_comm]
theorem pickD_butLast (ds : List D) (k : Nat) (hk : 1 ≤ k) : pickD ds none (some (-(k : Int))) none = ds.take (ds.length - k) := by
  rw [pick_idx (n := ds.length) (js := List.range (min (ds.length - k) ds.length)) (fun items hs => ?_) (fun j hj => by have := List.mem_range.mp hj; omega) rfl, range_take]
  rw [slicePick_butLast items k hk, ← hs]
  have := range_take items.toList (items.size - k)
  simp only [Array.length_toList, Array.getElem?_toList] at this
  rw [this]
theorem pickD_from (ds : List D) (k : Nat) : pickD ds (some (k : Int)) none none = ds.drop k := by
  rw [pick_idx (n := ds.length) (js := (List.range (ds.length - k)).map (· + k)) (fun items hs => ?_) (fun j hj => by
    obtain ⟨i, hi, rfl⟩ := List.mem_map.mp hj
    have := List.mem_range.mp hi; omega) rfl, range_drop]
  rw [slicePick_from' items k, ← hs]
  have := range_drop items.toList k
  simp only [Array.length_toList, Array.getElem?_toList] at this
  rw [this]
/-- every so manieth int: some ints -/
def pickI (ns : List Int) (lo hi st : Option Int) : List Int := (sliceRange (sliceBounds lo hi st ns.length).1 (sliceBounds lo hi st ns.length).2.1 (sliceBounds lo hi st ns.length).2.2).filterMap (ns[·]?)
theorem pickD_ints (ns : List Int) (lo hi st : Option Int) : pickD (ns.map .int) lo hi st = (pickI ns lo hi st).map .int := by
  unfold pickD pickI
  rw [List.length_map, List.map_filterMap]
  congr 1
  funext i
  simp

section
variable {prog : Program} {w : World}
/-- _law_leaves -/
def keyAt (i : Int) : Str := if i = 0 then "a" else if i = 1 then "b" else if i = 2 then "c" else if i = 3 then "d" else if i = 4 then "e" else "f"
def firstAt (i : Int) : Int := if i = 0 then 3 else if i = 1 then -2 else if i = 2 then 5 else if i = 3 then 0 else if i = 4 then 7 else -1
def leafAt (ns : List Int) (i : Int) : Int := ((pickI ns (some i) none (some 6)).sum + firstAt i + 500).fmod 1000 - 500
def leavesOf (ns : List Int) : List (Str × Int) := (List.range (6 : Int).toNat).map fun i : Nat => (keyAt i, leafAt ns i)
theorem six {i : Int} (h0 : 0 ≤ i) (h1 : i < 6) : i = 0 ∨ i = 1 ∨ i = 2 ∨ i = 3 ∨ i = 4 ∨ i = 5 := by omega
theorem fn_leaves {n : Nat} {ns : List Int} (hl : ns.length ≤ 63) : FnC prog w (n + 1) 8 [.lst (ns.map .int)] (.tab (leavesOf ns)) := by
  refine fnc_cells rfl ["script"] (by decide) (fun pm code doc vs hl => ?_) (fun L x hx => by rw [List.mem_singleton.mp hx]; exact .inr ⟨rfl, rfl⟩) rfl rfl rfl (fun A X₀ s₀ L a' cd X s R G B => ?_)
  · match vs, hl with
    | [_], _ => rfl
  refine ex_assign_cell G B rfl rfl (ev_list (evl_cons ev_int (evl_cons (ev_neg ev_int) (evl_cons ev_int (evl_cons ev_int (evl_cons ev_int (evl_cons (ev_neg ev_int) evl_nil)))))) (by rw [sizeLine_eq]; simp)) (fun s₁ B₁ => ?_)
  refine ex_return B₁ (ev_dcomp (n := 6) (key := keyAt) (val := leafAt ns) (frs := ["firsts", "script"]) R.1 rfl ev_int (by decide) (by decide) (fun i j h0 h1 h2 h3 h => ?_) rfl rfl (by decide) rfl (by decide) rfl (fun y hy => ?_) (fun y a h => ?_) (fun C i h0 h1 => ?_) (fun C i h0 h1 => ?_))
  · rcases six h0 h1 with rfl | rfl | rfl | rfl | rfl | rfl <;> rcases six h2 h3 with rfl | rfl | rfl | rfl | rfl | rfl <;> first | rfl | (exfalso; revert h; decide)
  · rcases List.mem_cons.mp hy with rfl | hy
    · exact ⟨rfl, rfl, rfl⟩
    · rw [List.mem_singleton.mp hy]; exact ⟨rfl, rfl, rfl⟩
  · have h' : List.lookup y [(("script" : Str), L + 1), (("firsts" : Str), L + 1 + 1)] = some a := h
    show List.lookup y [(("firsts" : Str), L + 1 + 1), (("script" : Str), L + 1)] = some a
    by_cases h1 : y = "script"
    · subst h1; exact h'
    · by_cases h2 : y = "firsts"
      · subst h2; exact h'
      · rw [List.lookup_cons, beq_false_of_ne h1, List.lookup_cons, beq_false_of_ne h2] at h'
        cases h'
  · rcases six h0 h1 with rfl | rfl | rfl | rfl | rfl | rfl <;> exact ev_sub_str ev_str (ev_name rfl) (by decide) (by decide) rfl
  · refine ev_bin (ev_bin (ev_bin (ev_bin (ev_sum (ns := pickI ns (some i) none (some 6)) R.1 rfl ?_) (d₂ := .int (firstAt i)) ?_ op_add_int) ev_int op_add_int) ev_int (op_mod_int (by decide))) ev_int op_sub_int
    · rw [← pickD_ints]
      exact ev_slice_list (l := some i) (u := none) (k := some 6) (ev_name rfl) (ev_name rfl) trivial ev_int (by decide) (by rw [sizeLine_eq, List.length_map]; omega)
    · rcases six h0 h1 with rfl | rfl | rfl | rfl | rfl | rfl <;> exact ev_sub_list (ev_name rfl) (ev_name rfl) (by decide) (by decide) rfl
end
end Mine

namespace Mine

def leafNames : List Str := ["a", "b", "c", "d", "e", "f"]
/-- a formula's node is as its name says -/
def nodeOk (lv : List (Str × Int)) (nm : Str) (ps : List T) (v : Int) : Prop :=
  (∃ a b, ps = [a, b] ∧ ((nm = "add" ∧ v = a.val + b.val) ∨ (nm = "sub" ∧ v = a.val - b.val) ∨ (nm = "mul" ∧ v = a.val * b.val ∧ IntMulOk a.val b.val))) ∨
  (∃ a, ps = [a] ∧ nm = "neg" ∧ v = -a.val) ∨ (ps = [] ∧ nm ∈ leafNames ∧ lv.lookup nm = some v)
mutual
def wfT (lv : List (Str × Int)) : T → Prop
  | .node nm m ps v => 1 ≤ m ∧ m ≤ 3 ∧ wfTs lv ps ∧ nodeOk lv nm ps v
def wfTs (lv : List (Str × Int)) : List T → Prop
  | [] => True
  | t :: r => wfT lv t ∧ wfTs lv r
end
theorem wfTs_mem {lv : List (Str × Int)} : ∀ {ps : List T}, wfTs lv ps → ∀ t ∈ ps, wfT lv t
  | _ :: _, h, t, hm => by
    rw [wfTs] at h
    rcases List.mem_cons.mp hm with rfl | hm
    · exact h.1
    · exact wfTs_mem h.2 t hm
theorem wfTs_of {lv : List (Str × Int)} : ∀ {ps : List T}, (∀ t ∈ ps, wfT lv t) → wfTs lv ps
  | [], _ => by rw [wfTs]; trivial
  | t :: r, h => by rw [wfTs]; exact ⟨h t List.mem_cons_self, wfTs_of fun q hq => h q (List.mem_cons_of_mem _ hq)⟩
theorem nodeOk_short {lv : List (Str × Int)} {nm : Str} {ps : List T} {v : Int} (h : nodeOk lv nm ps v) : nm.length ≤ 3 := by
  rcases h with ⟨a, b, _, h⟩ | ⟨a, _, rfl, _⟩ | ⟨_, h, hl⟩
  · rcases h with ⟨rfl, _⟩ | ⟨rfl, _⟩ | ⟨rfl, _⟩ <;> decide
  · decide
  · clear hl; revert h nm; decide
mutual
theorem wf_ok {lv : List (Str × Int)} : ∀ t : T, wfT lv t → okT t
  | .node nm m ps v, h => by
    rw [wfT] at h
    rw [okT]
    exact ⟨nodeOk_short h.2.2.2, h.1, h.2.1, wf_oks ps h.2.2.1⟩
theorem wf_oks {lv : List (Str × Int)} : ∀ ps : List T, wfTs lv ps → okTs ps
  | [], _ => by rw [okTs]; trivial
  | t :: r, h => by rw [wfTs] at h; rw [okTs]; exact ⟨wf_ok t h.1, wf_oks r h.2⟩
end
mutual
theorem dp_le_sz : ∀ t : T, dpT t ≤ szT t
  | .node nm m ps v => by rw [dpT, szT]; have := dps_le_sz ps; omega
theorem dps_le_sz : ∀ ps : List T, dpTs ps ≤ szTs ps
  | [] => by simp [dpTs, szTs]
  | t :: r => by rw [dpTs, szTs]; have := dp_le_sz t; have := dps_le_sz r; omega
end
theorem sz_pos : ∀ t : T, 1 ≤ szT t
  | .node nm m ps v => by rw [szT]; omega
theorem pow_sum {a b : Nat} (ha : 1 ≤ a) (hb : 1 ≤ b) : 2 ^ (10 * a) + 2 ^ (10 * b) ≤ 2 ^ (10 * (a + b)) := by
  have e : 10 * (a + b) = 10 * a + 10 * b := by omega
  rw [e, Nat.pow_add]
  have h1 : 2 ≤ 2 ^ (10 * a) := by
    calc 2 = 2 ^ 1 := rfl
      _ ≤ 2 ^ (10 * a) := Nat.pow_le_pow_right (by decide) (by omega)
  have h2 : 2 ≤ 2 ^ (10 * b) := by
    calc 2 = 2 ^ 1 := rfl
      _ ≤ 2 ^ (10 * b) := Nat.pow_le_pow_right (by decide) (by omega)
  generalize 2 ^ (10 * a) = p at *
  generalize 2 ^ (10 * b) = q at *
  have := Nat.mul_le_mul h1 (Nat.le_refl q)
  have := Nat.mul_le_mul (Nat.le_refl p) h2
  omega
theorem val_small {lv : List (Str × Int)} (hlv : ∀ k v, lv.lookup k = some v → v.natAbs ≤ 500) : ∀ n (t : T), szT t ≤ n → wfT lv t → t.val.natAbs < 2 ^ (10 * szT t) := by
  intro n
  induction n with
  | zero => intro t h; have := sz_pos t; omega
  | succ n ih =>
    intro t hn h
    obtain ⟨nm, m, ps, v⟩ := t
    rw [wfT] at h
    rw [szT] at hn ⊢
    have mono : ∀ {a b : Nat}, a ≤ b → 2 ^ (10 * a) ≤ 2 ^ (10 * b) := fun h => Nat.pow_le_pow_right (by decide) (by omega)
    show v.natAbs < _
    rcases h.2.2.2 with ⟨a, b, rfl, h'⟩ | ⟨a, rfl, _, rfl⟩ | ⟨rfl, _, h'⟩
    · have wa := wfTs_mem h.2.2.1 a (by simp)
      have wb := wfTs_mem h.2.2.1 b (by simp)
      simp only [szTs] at hn ⊢
      have ia := ih a (by omega) wa
      have ib := ih b (by omega) wb
      have ps := pow_sum (sz_pos a) (sz_pos b)
      have m1 := mono (show szT a + szT b ≤ szT a + (szT b + 0) + 1 by omega)
      rcases h' with ⟨_, rfl⟩ | ⟨_, rfl⟩ | ⟨_, rfl, _⟩
      · omega
      · omega
      · rw [Int.natAbs_mul]
        have e : 10 * (szT a + szT b) = 10 * szT a + 10 * szT b := by omega
        have : a.val.natAbs * b.val.natAbs < 2 ^ (10 * szT a) * 2 ^ (10 * szT b) := Nat.mul_lt_mul'' ia ib
        rw [← Nat.pow_add, ← e] at this
        omega
    · have wa := wfTs_mem h.2.2.1 a (by simp)
      simp only [szTs] at hn ⊢
      have ia := ih a (by omega) wa
      have m1 := mono (show szT a ≤ szT a + 0 + 1 by omega)
      omega
    · have := hlv _ _ h'
      simp only [szTs]
      have : (1000 : Nat) ≤ 2 ^ (10 * (0 + 1)) := by decide
      omega
theorem mulOk_vals {lv : List (Str × Int)} (hlv : ∀ k v, lv.lookup k = some v → v.natAbs ≤ 500) {a b : T} (wa : wfT lv a) (wb : wfT lv b) (ha : szT a ≤ 200) (hb : szT b ≤ 200) : IntMulOk a.val b.val := by
  refine IntMulOk.of_bits (Nat.le_trans (PyProof.Rows.intBits_le (val_small hlv _ a (Nat.le_refl _) wa)) ?_) (Nat.le_trans (PyProof.Rows.intBits_le (val_small hlv _ b (Nat.le_refl _) wb)) ?_)
  · have : (2:Nat) ^ 20 = 1048576 := by decide
    omega
  · have : (2:Nat) ^ 20 = 1048576 := by decide
    omega

theorem tD_node (nm : Str) (m : Int) (ps : List T) (v : Int) : tD (.node nm m ps v) = .tup [.str nm, .int m, .lst (ps.map tD), .int v] := by rw [tD, tDs_eq]

section
variable {prog : Program} {w : World}
theorem ev_cast {A : Around} {env : Env} {X : Addr → Prop} {c : Str → Option D} {e : Expr} {d d' : D} (h : Ev prog w A env X c e d) (q : d = d') : Ev prog w A env X c e d' := q ▸ h
theorem ev_val3 {A : Around} {env : Env} {X : Addr → Prop} {c : Str → Option D} {e : Expr} {k : Nat} {p pos : Pos} {t : T} (h : Ev prog w A env X c e (tD t)) : Ev prog w A env X c (.Subscript e (.Constant (.int 3) k p) pos) (.int t.val) := by
  obtain ⟨nm, m, ps, v⟩ := t
  exact ev_sub_tup (ev_cast h (tD_node nm m ps v)) ev_int (by decide) (by decide) rfl

/-- _law_worked -/
theorem fn_worked {n : Nat} {lv : List (Str × Int)} {nm : Str} {ps : List T} {v : Int} (h : nodeOk lv nm ps v) : FnC prog w (n + 2) 15 [.str nm, .lst (ps.map fun p => .int p.val), .tab lv] (.int v) := by
  refine fnc_plain rfl ["name", "values", "leaves"] (fun pm code doc vs hl => ?_) (by decide) rfl rfl rfl (by decide) (fun A X₀ s₀ L a' cd X s R G B => ?_)
  · match vs, hl with
    | [_, _, _], _ => rfl
  have R1 : Rm 1 A := rm_mono R (by omega)
  rcases h with ⟨a, b, rfl, h⟩ | ⟨a, rfl, rfl, rfl⟩ | ⟨rfl, hm, hv⟩
  · rcases h with ⟨rfl, rfl⟩ | ⟨rfl, rfl⟩ | ⟨rfl, rfl, hmul⟩
    · refine ex_if_ret B (evb_cmp (ev_name rfl) ev_str cmp_eq_str) rfl fun s₁ B₁ => ?_
      exact ex_return B₁ (ev_call (fn_add_int (n := 0)) R1 rfl rfl (evl_cons (ev_sub_list (ev_name rfl) ev_int (by decide) (by decide) rfl) (evl_cons (ev_sub_list (ev_name rfl) ev_int (by decide) (by decide) rfl) evl_nil)))
    · refine ex_if_no B (evb_cmp (ev_name rfl) ev_str cmp_eq_str) rfl fun s₁ B₁ => ?_
      refine ex_if_ret B₁ (evb_cmp (ev_name rfl) ev_str cmp_eq_str) rfl fun s₂ B₂ => ?_
      exact ex_return B₂ (ev_call (fn_sub (n := 0)) R1 rfl rfl (evl_cons (ev_sub_list (ev_name rfl) ev_int (by decide) (by decide) rfl) (evl_cons (ev_sub_list (ev_name rfl) ev_int (by decide) (by decide) rfl) evl_nil)))
    · refine ex_if_no B (evb_cmp (ev_name rfl) ev_str cmp_eq_str) rfl fun s₁ B₁ => ?_
      refine ex_if_no B₁ (evb_cmp (ev_name rfl) ev_str cmp_eq_str) rfl fun s₂ B₂ => ?_
      refine ex_if_ret B₂ (evb_cmp (ev_name rfl) ev_str cmp_eq_str) rfl fun s₃ B₃ => ?_
      exact ex_return B₃ (ev_call (fn_mul_int (n := 0) hmul) R1 rfl rfl (evl_cons (ev_sub_list (ev_name rfl) ev_int (by decide) (by decide) rfl) (evl_cons (ev_sub_list (ev_name rfl) ev_int (by decide) (by decide) rfl) evl_nil)))
  · refine ex_if_no B (evb_cmp (ev_name rfl) ev_str cmp_eq_str) rfl fun s₁ B₁ => ?_
    refine ex_if_no B₁ (evb_cmp (ev_name rfl) ev_str cmp_eq_str) rfl fun s₂ B₂ => ?_
    refine ex_if_no B₂ (evb_cmp (ev_name rfl) ev_str cmp_eq_str) rfl fun s₃ B₃ => ?_
    refine ex_if_ret B₃ (evb_cmp (ev_name rfl) ev_str cmp_eq_str) rfl fun s₄ B₄ => ?_
    exact ex_return B₄ (ev_call (fn_neg (n := 0)) R1 rfl rfl (evl_cons (ev_sub_list (ev_name rfl) ev_int (by decide) (by decide) rfl) evl_nil))
  · have hne : ((nm == ("add" : Str)) = false ∧ (nm == ("sub" : Str)) = false) ∧ (nm == ("mul" : Str)) = false ∧ (nm == ("neg" : Str)) = false := by
      clear hv B; revert hm nm; decide
    refine ex_if_no B (evb_cmp (ev_name rfl) ev_str cmp_eq_str) hne.1.1 fun s₁ B₁ => ?_
    refine ex_if_no B₁ (evb_cmp (ev_name rfl) ev_str cmp_eq_str) hne.1.2 fun s₂ B₂ => ?_
    refine ex_if_no B₂ (evb_cmp (ev_name rfl) ev_str cmp_eq_str) hne.2.1 fun s₃ B₃ => ?_
    refine ex_if_no B₃ (evb_cmp (ev_name rfl) ev_str cmp_eq_str) hne.2.2 fun s₄ B₄ => ?_
    exact ex_return B₄ (ev_sub_tab (ev_name rfl) (ev_name rfl) hv)
end
end Mine

namespace Mine

def mgAt (x : Int) : Int := (x.fdiv 5).fmod 3 + 1
def leafName (x : Int) : Str := keyAt ((x.fdiv 5).fmod 6)
def lkup (lv : List (Str × Int)) (nm : Str) : Int := (lv.lookup nm).getD 0
def opName (k : Int) : Str := if k = 0 then "add" else if k = 1 then "sub" else "mul"
def opVal (k a b : Int) : Int := if k = 0 then a + b else if k = 1 then a - b else a * b
def putS (lv : List (Str × Int)) (st : List T) (x : Int) : List T :=
  if x.fmod 5 < 3 ∧ 1 < st.length then
    match st[st.length - 2]?, st[st.length - 1]? with
    | some one, some two => st.take (st.length - 2) ++ [.node (opName (x.fmod 5)) (mgAt x) [one, two] (opVal (x.fmod 5) one.val two.val)]
    | _, _ => st
  else if x.fmod 5 = 3 then
    match st[st.length - 1]? with
    | some one => st.take (st.length - 1) ++ [.node "neg" (mgAt x) [one] (-one.val)]
    | none => st
  else st ++ [.node (leafName x) (mgAt x) [] (lkup lv (leafName x))]

theorem fmod5 (x : Int) : 0 ≤ x.fmod 5 ∧ x.fmod 5 < 5 := ⟨Int.fmod_nonneg_of_pos x (by decide), Int.fmod_lt_of_pos x (by decide)⟩
theorem fmod6 (x : Int) : 0 ≤ x.fmod 6 ∧ x.fmod 6 < 6 := ⟨Int.fmod_nonneg_of_pos x (by decide), Int.fmod_lt_of_pos x (by decide)⟩
theorem fmod3 (x : Int) : 0 ≤ x.fmod 3 ∧ x.fmod 3 < 3 := ⟨Int.fmod_nonneg_of_pos x (by decide), Int.fmod_lt_of_pos x (by decide)⟩

section
variable {prog : Program} {w : World}
/-- _law_put -/
theorem fn_put {n : Nat} {lv : List (Str × Int)} {st : List T} {x : Int} (h3 : x.fmod 5 = 3 → st ≠ []) (hmul : ∀ a ∈ st, ∀ b ∈ st, IntMulOk a.val b.val) (hlv : ∀ i : Int, 0 ≤ i → i < 6 → lv.lookup (keyAt i) = some (lkup lv (keyAt i))) (hlen : st.length ≤ 1000) :
    FnC prog w (n + 1) 9 [.lst (st.map tD), .int x, .tab lv] (.lst ((putS lv st x).map tD)) := by
  refine fnc_plain rfl ["stack", "x", "leaves"] (fun pm code doc vs hl => ?_) (by decide) rfl rfl rfl (by decide) (fun A X₀ s₀ L a' cd X s R G B => ?_)
  · match vs, hl with
    | [_, _, _], _ => rfl
  refine ex_assign G B rfl (ev_bin (ev_name rfl) ev_int (op_mod_int (by decide))) (fun s₁ B₁ => ?_)
  refine ex_assign G B₁ rfl (d := .int (mgAt x)) (ev_bin (ev_bin (ev_bin (ev_name rfl) ev_int (op_floordiv_int (by decide) (by decide))) ev_int (op_mod_int (by decide))) ev_int op_add_int) (fun s₂ B₂ => ?_)
  have hk := fmod5 x
  have hlm : (st.map tD).length = st.length := List.length_map _
  by_cases h1 : x.fmod 5 < 3 ∧ 1 < st.length
  · obtain ⟨one, ho⟩ : ∃ t, st[st.length - 2]? = some t := ⟨st[st.length - 2], by simp⟩
    obtain ⟨two, ht⟩ : ∃ t, st[st.length - 1]? = some t := ⟨st[st.length - 1], by simp⟩
    have hk3 : x.fmod 5 = 0 ∨ x.fmod 5 = 1 ∨ x.fmod 5 = 2 := by omega
    have hmm := hmul one (List.mem_of_getElem? ho) two (List.mem_of_getElem? ht)
    refine ex_if_ret B₂ (evb_and (evb_cmp (ev_name rfl) ev_int cmp_lt_int) (evb_cmp (ev_len_list rfl (ev_name rfl) (by rw [hlm]; omega)) ev_int cmp_gt_int)) (by rw [hlm]; simp; omega) fun s₃ B₃ => ?_
    refine ex_assign G B₃ rfl (d := tD one) (ev_sub_list_neg (ev_name rfl) (ev_neg ev_int) (by decide) (by rw [hlm]; omega) (by decide) (by
      rw [hlm, List.getElem?_map]
      have : ((-2 : Int) + (st.length : Int)).toNat = st.length - 2 := by omega
      rw [this, ho]; rfl)) (fun s₄ B₄ => ?_)
    refine ex_assign G B₄ rfl (d := tD two) (ev_sub_list_neg (ev_name rfl) (ev_neg ev_int) (by decide) (by rw [hlm]; omega) (by decide) (by
      rw [hlm, List.getElem?_map]
      have : ((-1 : Int) + (st.length : Int)).toNat = st.length - 1 := by omega
      rw [this, ht]; rfl)) (fun s₅ B₅ => ?_)
    refine ex_assign G B₅ rfl (d := .int (opVal (x.fmod 5) one.val two.val)) (ev_sub_list (ds := [.int (one.val + two.val), .int (one.val - two.val), .int (one.val * two.val)]) (ev_list (evl_cons (ev_bin (ev_val3 (ev_name rfl)) (ev_val3 (ev_name rfl)) op_add_int) (evl_cons (ev_bin (ev_val3 (ev_name rfl)) (ev_val3 (ev_name rfl)) op_sub_int) (evl_cons (ev_bin (ev_val3 (ev_name rfl)) (ev_val3 (ev_name rfl)) (op_mul_int hmm)) evl_nil))) (by rw [sizeLine_eq]; simp)) (ev_name rfl) hk.1 (by omega) (by
      rcases hk3 with e | e | e <;> rw [e] <;> rfl)) (fun s₆ B₆ => ?_)
    refine ex_return B₆ (ev_cast (ev_bin (ev_slice_list (l := none) (u := some (-2)) (k := none) (ev_name rfl) trivial (ev_neg ev_int) trivial (by decide) (by rw [hlm, sizeLine_eq]; omega)) (ev_list (evl_cons (ev_tup (evl_cons (ev_sub_list (ds := [.str "add", .str "sub", .str "mul"]) (d := .str (opName (x.fmod 5))) (ev_list (evl_cons ev_str (evl_cons ev_str (evl_cons ev_str evl_nil))) (by rw [sizeLine_eq]; simp)) (ev_name rfl) hk.1 (by omega) (by
      rcases hk3 with e | e | e <;> rw [e] <;> rfl)) (evl_cons (ev_name rfl) (evl_cons (ev_list (evl_cons (ev_name rfl) (evl_cons (ev_name rfl) evl_nil)) (by rw [sizeLine_eq]; simp)) (evl_cons (ev_name rfl) evl_nil)))) (by rw [sizeLine_eq]; simp)) evl_nil) (by rw [sizeLine_eq]; simp)) (op_add_list ?_)) ?_)
    · have := pickD_butLast (st.map tD) 2 (by decide)
      have e2 : (-((2 : Nat) : Int)) = -2 := rfl
      rw [e2] at this
      rw [this, sizeLine_eq, List.length_take]; simp; omega
    · have := pickD_butLast (st.map tD) 2 (by decide)
      have e2 : (-((2 : Nat) : Int)) = -2 := rfl
      rw [e2] at this
      unfold putS
      rw [if_pos h1, ho, ht, this, hlm]
      simp [List.map_append, List.map_take, tD_node]
  · have hb : (decide (x.fmod 5 < 3) && decide (1 < ((st.map tD).length : Int))) = false := by
      rw [hlm]
      cases hq : decide (x.fmod 5 < 3) with
      | false => rfl
      | true =>
        have := of_decide_eq_true hq
        simp; omega
    refine ex_if_no B₂ (evb_and (evb_cmp (ev_name rfl) ev_int cmp_lt_int) (evb_cmp (ev_len_list rfl (ev_name rfl) (by rw [hlm]; omega)) ev_int cmp_gt_int)) hb fun s₃ B₃ => ?_
    by_cases h2 : x.fmod 5 = 3
    · have hne := h3 h2
      have hpos : 0 < st.length := List.length_pos_iff.mpr hne
      obtain ⟨one, ho⟩ : ∃ t, st[st.length - 1]? = some t := ⟨st[st.length - 1], by simp⟩
      have hget : (st.map tD)[((-1 : Int) + ((st.map tD).length : Int)).toNat]? = some (tD one) := by
        rw [hlm, List.getElem?_map]
        have : ((-1 : Int) + (st.length : Int)).toNat = st.length - 1 := by omega
        rw [this, ho]; rfl
      refine ex_if_ret B₃ (evb_cmp (ev_name rfl) ev_int cmp_eq_int) (by simp [h2]) fun s₄ B₄ => ?_
      refine ex_return B₄ (ev_cast (ev_bin (ev_slice_list (l := none) (u := some (-1)) (k := none) (ev_name rfl) trivial (ev_neg ev_int) trivial (by decide) (by rw [hlm, sizeLine_eq]; omega)) (ev_list (evl_cons (ev_tup (evl_cons ev_str (evl_cons (ev_name rfl) (evl_cons (ev_list (evl_cons (ev_sub_list_neg (d := tD one) (ev_name rfl) (ev_neg ev_int) (by decide) (by rw [hlm]; omega) (by decide) hget) evl_nil) (by rw [sizeLine_eq]; simp)) (evl_cons (ev_neg (ev_val3 (ev_sub_list_neg (d := tD one) (ev_name rfl) (ev_neg ev_int) (by decide) (by rw [hlm]; omega) (by decide) hget))) evl_nil)))) (by rw [sizeLine_eq]; simp)) evl_nil) (by rw [sizeLine_eq]; simp)) (op_add_list ?_)) ?_)
      · have := pickD_butLast (st.map tD) 1 (by decide)
        have e2 : (-((1 : Nat) : Int)) = -1 := rfl
        rw [e2] at this
        rw [this, sizeLine_eq, List.length_take]; simp; omega
      · have := pickD_butLast (st.map tD) 1 (by decide)
        have e2 : (-((1 : Nat) : Int)) = -1 := rfl
        rw [e2] at this
        unfold putS
        rw [if_neg h1, if_pos h2, ho, this, hlm]
        simp [List.map_append, List.map_take, tD_node]
    · refine ex_if_no B₃ (evb_cmp (ev_name rfl) ev_int cmp_eq_int) (by simp [h2]) fun s₄ B₄ => ?_
      have h6 := fmod6 (x.fdiv 5)
      refine ex_assign G B₄ rfl (d := .str (leafName x)) ?_ (fun s₅ B₅ => ?_)
      · unfold leafName
        have hc : ∀ i : Int, 0 ≤ i → i < 6 → ∃ ch, (Str.cps "abcdef")[i.toNat]? = some ch ∧ keyAt i = ⟨#[ch]⟩ := by
          intro i h0 h1
          rcases six h0 h1 with rfl | rfl | rfl | rfl | rfl | rfl <;> exact ⟨_, rfl, by decide⟩
        obtain ⟨ch, hch, e⟩ := hc _ h6.1 h6.2
        rw [e]
        exact ev_sub_str ev_str (ev_bin (ev_bin (ev_name rfl) ev_int (op_floordiv_int (by decide) (by decide))) ev_int (op_mod_int (by decide))) h6.1 (by omega) hch
      refine ex_return B₅ (ev_cast (ev_bin (ev_name rfl) (ev_list (evl_cons (ev_tup (evl_cons (ev_name rfl) (evl_cons (ev_name rfl) (evl_cons (ev_list evl_nil (by rw [sizeLine_eq]; simp)) (evl_cons (ev_sub_tab (ev_name rfl) (ev_name rfl) (hlv _ h6.1 h6.2)) evl_nil)))) (by rw [sizeLine_eq]; simp)) evl_nil) (by rw [sizeLine_eq]; simp)) (op_add_list (by rw [sizeLine_eq, hlm]; simp; omega))) ?_)
      unfold putS
      rw [if_neg h1, if_neg h2]
      simp [List.map_append, tD_node]
      rfl
end
end Mine

namespace Mine

/-- leaves: all six, each of at most 500 -/
structure LvOk (lv : List (Str × Int)) : Prop where
  all : ∀ i : Int, 0 ≤ i → i < 6 → lv.lookup (keyAt i) = some (lkup lv (keyAt i))
  small : ∀ k v, lv.lookup k = some v → v.natAbs ≤ 500
theorem keyAt_mem {i : Int} (h0 : 0 ≤ i) (h1 : i < 6) : keyAt i ∈ leafNames := by
  rcases six h0 h1 with rfl | rfl | rfl | rfl | rfl | rfl <;> decide
def Good (lv : List (Str × Int)) (st : List T) (N : Nat) : Prop := (∀ t ∈ st, wfT lv t) ∧ szTs st ≤ N
theorem len_le_sz : ∀ st : List T, st.length ≤ szTs st
  | [] => by simp
  | t :: r => by rw [szTs, List.length_cons]; have := len_le_sz r; have := sz_pos t; omega
theorem split_last {α : Type} {l : List α} {x : α} (h : l[l.length - 1]? = some x) : l = l.take (l.length - 1) ++ [x] := by
  have hl : l.length - 1 < l.length := (List.getElem?_eq_some_iff.mp h).1
  have e : l.take (l.length - 1 + 1) = l.take (l.length - 1) ++ [x] := by rw [List.take_add_one, h]; rfl
  rw [← e, List.take_of_length_le (by omega)]
theorem split_two {α : Type} {l : List α} {x y : α} (h2 : 1 < l.length) (hx : l[l.length - 2]? = some x) (hy : l[l.length - 1]? = some y) : l = l.take (l.length - 2) ++ [x, y] := by
  have e1 : l.take (l.length - 2 + 1) = l.take (l.length - 2) ++ [x] := by rw [List.take_add_one, hx]; rfl
  have e0 := split_last hy
  have e2 : l.length - 1 = l.length - 2 + 1 := by omega
  rw [e2] at e0
  rw [e1, List.append_assoc] at e0
  exact e0
theorem put_good {lv : List (Str × Int)} (hv : LvOk lv) {st : List T} {N : Nat} {x : Int} (g : Good lv st N) (h3 : x.fmod 5 = 3 → st ≠ []) (hN : N ≤ 150) : Good lv (putS lv st x) (N + 1) ∧ putS lv st x ≠ [] := by
  obtain ⟨gw, gs⟩ := g
  have hk := fmod5 x
  have hm := fmod3 (x.fdiv 5)
  have hmg : 1 ≤ mgAt x ∧ mgAt x ≤ 3 := by unfold mgAt; omega
  have h6 := fmod6 (x.fdiv 5)
  unfold putS
  by_cases h1 : x.fmod 5 < 3 ∧ 1 < st.length
  · rw [if_pos h1]
    obtain ⟨one, ho⟩ : ∃ t, st[st.length - 2]? = some t := ⟨st[st.length - 2], by simp⟩
    obtain ⟨two, ht⟩ : ∃ t, st[st.length - 1]? = some t := ⟨st[st.length - 1], by simp⟩
    rw [ho, ht]
    simp only
    have sp := split_two h1.2 ho ht
    have wo := gw one (List.mem_of_getElem? ho)
    have wt := gw two (List.mem_of_getElem? ht)
    have hsz : szTs (st.take (st.length - 2)) + (szT one + szT two) ≤ N := by
      have e := congrArg szTs sp
      rw [szTs_append] at e
      simp only [szTs] at e
      omega
    refine ⟨⟨fun t htm => ?_, ?_⟩, by simp⟩
    · rcases List.mem_append.mp htm with h | h
      · exact gw t (List.mem_of_mem_take h)
      · rw [List.mem_singleton.mp h, wfT]
        refine ⟨hmg.1, hmg.2, wfTs_of (by simp [wo, wt]), .inl ⟨one, two, rfl, ?_⟩⟩
        have hk3 : x.fmod 5 = 0 ∨ x.fmod 5 = 1 ∨ x.fmod 5 = 2 := by omega
        rcases hk3 with e | e | e <;> rw [e]
        · exact .inl ⟨rfl, rfl⟩
        · exact .inr (.inl ⟨rfl, rfl⟩)
        · exact .inr (.inr ⟨rfl, rfl, mulOk_vals hv.small wo wt (by omega) (by omega)⟩)
    · rw [szTs_append]
      simp only [szTs, szT]
      omega
  · rw [if_neg h1]
    by_cases h2 : x.fmod 5 = 3
    · rw [if_pos h2]
      have hpos : 0 < st.length := List.length_pos_iff.mpr (h3 h2)
      obtain ⟨one, ho⟩ : ∃ t, st[st.length - 1]? = some t := ⟨st[st.length - 1], by simp⟩
      rw [ho]
      simp only
      have sp := split_last ho
      have wo := gw one (List.mem_of_getElem? ho)
      have hsz : szTs (st.take (st.length - 1)) + szT one ≤ N := by
        have e := congrArg szTs sp
        rw [szTs_append] at e
        simp only [szTs] at e
        omega
      refine ⟨⟨fun t htm => ?_, ?_⟩, by simp⟩
      · rcases List.mem_append.mp htm with h | h
        · exact gw t (List.mem_of_mem_take h)
        · rw [List.mem_singleton.mp h, wfT]
          exact ⟨hmg.1, hmg.2, wfTs_of (by simp [wo]), .inr (.inl ⟨one, rfl, rfl, rfl⟩)⟩
      · rw [szTs_append]
        simp only [szTs, szT]
        omega
    · rw [if_neg h2]
      refine ⟨⟨fun t htm => ?_, ?_⟩, by simp⟩
      · rcases List.mem_append.mp htm with h | h
        · exact gw t h
        · rw [List.mem_singleton.mp h, wfT]
          exact ⟨hmg.1, hmg.2, by rw [wfTs]; trivial, .inr (.inr ⟨rfl, keyAt_mem h6.1 h6.2, hv.all _ h6.1 h6.2⟩)⟩
      · rw [szTs_append]
        simp only [szTs, szT]
        omega
theorem put_shorter {lv : List (Str × Int)} {st : List T} (h : 1 < st.length) : (putS lv st 6).length = st.length - 1 := by
  unfold putS
  have e : (6 : Int).fmod 5 = 1 := by decide
  rw [if_pos ⟨by rw [e]; decide, h⟩]
  obtain ⟨one, ho⟩ : ∃ t, st[st.length - 2]? = some t := ⟨st[st.length - 2], by simp⟩
  obtain ⟨two, ht⟩ : ∃ t, st[st.length - 1]? = some t := ⟨st[st.length - 1], by simp⟩
  rw [ho, ht]
  simp
  omega

def numbers : List Int := [64, 39, 5, 84, 13, 2, 74, 11]
def drawnAt (ns : List Int) (i : Int) : Int := (pickI ns (some i) none (some 8)).sum
def drawnOf (ns : List Int) : List Int := (List.range (if (ns.length : Int) < 8 then (ns.length : Int) else 8).toNat).map fun i : Nat => drawnAt ns i
def stackAt (lv : List (Str × Int)) (xs : List Int) (i : Nat) : List T := (xs.take i).foldl (putS lv) []
theorem stackAt_succ {lv : List (Str × Int)} {xs : List Int} {i : Nat} {x : Int} (h : xs[i]? = some x) : stackAt lv xs (i + 1) = putS lv (stackAt lv xs i) x := by
  unfold stackAt
  rw [List.take_add_one, h]
  simp
theorem stack_good {lv : List (Str × Int)} (hv : LvOk lv) {ys : List Int} (hl : ys.length ≤ 8) : ∀ i, i ≤ (numbers ++ ys).length → Good lv (stackAt lv (numbers ++ ys) i) i ∧ (1 ≤ i → stackAt lv (numbers ++ ys) i ≠ []) := by
  intro i
  induction i with
  | zero => intro _; exact ⟨⟨by simp [stackAt], by simp [stackAt, szTs]⟩, by omega⟩
  | succ i ih =>
    intro hi
    obtain ⟨g, hne⟩ := ih (by omega)
    have hl2 : (numbers ++ ys).length = 8 + ys.length := by simp [numbers]; omega
    obtain ⟨x, hx⟩ : ∃ x, (numbers ++ ys)[i]? = some x := ⟨(numbers ++ ys)[i], by simp⟩
    rw [stackAt_succ hx]
    have := put_good hv (x := x) g (fun h => ?_) (by omega)
    · exact ⟨this.1, fun _ => this.2⟩
    · cases i with
      | zero =>
        have : x = 64 := by simp [numbers] at hx; omega
        subst this
        exact absurd h (by decide)
      | succ i => exact hne (by omega)
def foldAt (lv : List (Str × Int)) (st : List T) : Nat → List T
  | 0 => st
  | j + 1 => putS lv (foldAt lv st j) 6
theorem fold_good {lv : List (Str × Int)} (hv : LvOk lv) {st : List T} {N : Nat} (g : Good lv st N) (hN : N ≤ 40) (hne : st ≠ []) : ∀ j, j < st.length → Good lv (foldAt lv st j) (N + j) ∧ (foldAt lv st j).length = st.length - j := by
  have hlen := Nat.le_trans (len_le_sz st) g.2
  intro j
  induction j with
  | zero => intro _; exact ⟨g, rfl⟩
  | succ j ih =>
    intro hj
    obtain ⟨g', l'⟩ := ih (by omega)
    refine ⟨(put_good hv (x := 6) g' (fun h => absurd h (by decide)) (by omega)).1, ?_⟩
    rw [foldAt, put_shorter (by omega), l']
    omega
theorem upd_upd {c : Str → Option D} {x : Str} {d d' : D} : ∀ y q, upd c x d y = some q → upd (upd c x d') x d y = some q := by
  intro y q h
  unfold upd at h ⊢
  by_cases h1 : y = x
  · rw [if_pos h1] at h ⊢; exact h
  · rw [if_neg h1] at h ⊢; rw [if_neg h1]; exact h

section
variable {prog : Program} {w : World}
theorem evb_cast {A : Around} {env : Env} {X : Addr → Prop} {c : Str → Option D} {e : Expr} {b b' : Bool} (h : EvB prog w A env X c e b) (q : b = b') : EvB prog w A env X c e b' := q ▸ h
/-- _law_formula -/
theorem fn_formula {n : Nat} {lv : List (Str × Int)} (hv : LvOk lv) {ns : List Int} (hl : ns.length ≤ 63) :
    ∃ f : T, wfT lv f ∧ szT f ≤ 40 ∧ FnC prog w (n + 2) 10 [.lst (ns.map .int), .tab lv] (tD f) := by
  have hld : (drawnOf ns).length ≤ 8 := by
    unfold drawnOf
    rw [List.length_map, List.length_range]
    split <;> omega
  have hxs : (numbers ++ drawnOf ns).length = 8 + (drawnOf ns).length := by simp [numbers]; omega
  obtain ⟨g, hne⟩ := stack_good hv hld _ (Nat.le_refl _)
  have hne := hne (by omega)
  generalize hst : stackAt lv (numbers ++ drawnOf ns) (numbers ++ drawnOf ns).length = st at g hne
  have hlen := Nat.le_trans (len_le_sz st) g.2
  have hpos : 0 < st.length := List.length_pos_iff.mpr hne
  have fg := fold_good hv g (by omega) hne
  obtain ⟨gl, ll⟩ := fg (st.length - 1) (by omega)
  obtain ⟨f, hf⟩ : ∃ f, foldAt lv st (st.length - 1) = [f] := by
    match h : foldAt lv st (st.length - 1), ll with
    | [f], _ => exact ⟨f, rfl⟩
    | [], l => simp at l; omega
    | _ :: _ :: _, l => simp at l; omega
  rw [hf] at gl
  refine ⟨f, gl.1 f (by simp), by have := gl.2; simp only [szTs] at this; omega, ?_⟩
  refine fnc_cells rfl ["script", "leaves"] (by decide) (fun pm code doc vs hl => ?_) (fun L x hx => ?_) rfl rfl rfl (fun A X₀ s₀ L a' cd X s R G B => ?_)
  · match vs, hl with
    | [_, _], _ => rfl
  · rcases List.mem_cons.mp hx with rfl | hx
    · exact .inr ⟨rfl, rfl⟩
    · rw [List.mem_singleton.mp hx]; exact .inl rfl
  have hlm : (ns.map D.int).length = ns.length := List.length_map _
  refine ex_assign G B rfl (d := .lst (numbers.map .int)) (ev_list (evl_cons ev_int (evl_cons ev_int (evl_cons ev_int (evl_cons ev_int (evl_cons ev_int (evl_cons ev_int (evl_cons ev_int (evl_cons ev_int evl_nil)))))))) (by rw [sizeLine_eq]; simp [numbers])) (fun s₁ B₁ => ?_)
  refine ex_assign_rcomp (n := if (ns.length : Int) < 8 then (ns.length : Int) else 8) (f := drawnAt ns) (frs := ["script"]) G R.1 B₁ rfl rfl (ev_min R.1 rfl ev_int (ev_cast (ev_len_list rfl (ev_name rfl) (by rw [hlm]; omega)) (by rw [hlm]))) (by split <;> omega) (by split <;> omega) rfl rfl rfl (by decide) rfl (by decide) rfl (fun y hy => ?_) (fun y a h => h) (fun C i h0 h1 => ?_) (fun s₂ B₂ => ?_)
  · rw [List.mem_singleton.mp hy]; exact ⟨rfl, rfl, rfl⟩
  · refine ev_sum (ns := pickI ns (some i) none (some 8)) R.1 rfl ?_
    rw [← pickD_ints]
    exact ev_slice_list (l := some i) (u := none) (k := some 8) (ev_name rfl) (ev_name rfl) trivial ev_int (by decide) (by rw [sizeLine_eq, List.length_map]; omega)
  refine ex_assign G B₂ rfl (d := .lst []) (ev_list evl_nil (by rw [sizeLine_eq]; simp)) (fun s₃ B₃ => ?_)
  refine ex_for (fun i => upd _ "stack" (.lst ((stackAt lv (numbers ++ drawnOf ns) i).map tD))) (fun _ _ => True) G R.1 B₃ (fun _ h => (by cases h)) (fun _ _ _ _ _ _ => trivial) rfl (ds := (numbers ++ drawnOf ns).map .int)
    (ev_cast (ev_bin (ev_name rfl) (ev_name rfl) (op_add_list (by rw [sizeLine_eq]; simp only [List.length_map]; have e : numbers.length = 8 := rfl; have := hld; unfold drawnOf at this; rw [List.length_map] at this; omega))) (by rw [List.map_append]; rfl)) (fun y d h => h) (fun i d fp₂ P₂ s E hd hf hst' B₄ => ?_) (fun s₄ B₄ => ?_)
  · rw [List.getElem?_map] at hd
    cases hp : (numbers ++ drawnOf ns)[i]? with
    | none => rw [hp] at hd; cases hd
    | some x =>
      rw [hp] at hd
      cases hd
      have hi := (List.getElem?_eq_some_iff.mp hp).1
      obtain ⟨gi, nei⟩ := stack_good hv hld i (by omega)
      have li := Nat.le_trans (len_le_sz _) gi.2
      have szm := fun t ht => Nat.le_trans (szTs_mem t ht) gi.2
      refine ex_assign G B₄ rfl (ev_call (fn_put (n := 0) (lv := lv) (st := stackAt lv (numbers ++ drawnOf ns) i) (x := x) (fun h => ?_) (fun a ha b hb => mulOk_vals hv.small (gi.1 a ha) (gi.1 b hb) (by have := szm a ha; omega) (by have := szm b hb; omega)) hv.all (by omega)) (rm_mono R (by omega)) rfl rfl (evl_cons (ev_name rfl) (evl_cons (ev_name rfl) (evl_cons (ev_name rfl) evl_nil)))) (fun s₅ B₅ => ?_)
      · cases i with
        | zero =>
          have : x = 64 := by simp [numbers] at hp; omega
          subst this
          exact absurd h (by decide)
        | succ i => exact nei (by omega)
      · refine ex_nil ⟨rfl, B₅.weak fun y q h => ?_⟩
        rw [stackAt_succ hp] at h
        exact upd_same rfl (by decide) y q h
  · rw [List.length_map, hst] at B₄
    refine ex_while (fun k => upd _ "stack" (.lst ((foldAt lv st (st.length - 1 - k)).map tD))) (st.length - 1) (by rw [Nat.sub_self]; exact B₄) (fun k hk => ?_) (fun k s E hk B₅ => ?_) (fun s₅ B₅ => ?_)
    · have lk := (fg (st.length - 1 - k) (by omega)).2
      refine evb_cast (evb_cmp (ev_len_list rfl (ev_name rfl) (by rw [List.length_map, lk]; omega)) ev_int cmp_gt_int) ?_
      rw [List.length_map, lk]
      simp; omega
    · obtain ⟨gk, lk⟩ := fg (st.length - 1 - (k + 1)) (by omega)
      have szm := fun t ht => Nat.le_trans (szTs_mem t ht) gk.2
      refine ex_assign G B₅ rfl (ev_call (fn_put (n := 0) (lv := lv) (st := foldAt lv st (st.length - 1 - (k + 1))) (x := 6) (fun h => absurd h (by decide)) (fun a ha b hb => mulOk_vals hv.small (gk.1 a ha) (gk.1 b hb) (by have := szm a ha; omega) (by have := szm b hb; omega)) hv.all (by omega)) (rm_mono R (by omega)) rfl rfl (evl_cons (ev_name rfl) (evl_cons ev_int (evl_cons (ev_name rfl) evl_nil)))) (fun s₆ B₆ => ?_)
      refine ex_nil ⟨rfl, B₆.weak fun y q h => ?_⟩
      have e : st.length - 1 - k = (st.length - 1 - (k + 1)) + 1 := by omega
      rw [e, foldAt] at h
      exact upd_upd y q h
    · rw [Nat.sub_zero, hf] at B₅
      exact ex_return B₅ (ev_sub_list (ev_name rfl) ev_int (by decide) (by decide) rfl)
end
end Mine

namespace Mine

section
variable {prog : Program} {w : World} {A : Around} {env : Env} {X : Addr → Prop} {c : Str → Option D} {s₀ : Shared} {X₀ : Addr → Prop} {fp : List Addr} {P : Heap → Prop}

/-- a fresh object that is the frame's own -/
theorem Bd.fresh {s : Shared} {o : Obj} {P' : Heap → Prop} (G : Glb s₀.heap) (B : Bd prog w s₀ X₀ env X fp P c s) (hfo : o.isFreed = false) (hP : P' (s.heap.push o)) (hst : Stab (fun a => X a ∨ a = s.heap.objs.size) (s.heap.objs.size :: fp) P') :
    Bd prog w s₀ X₀ env (fun a => X a ∨ a = s.heap.objs.size) (s.heap.objs.size :: fp) P' c { s with heap := s.heap.push o } := by
  have hnew : s.heap.get? s.heap.objs.size = none := by
    cases e : s.heap.get? s.heap.objs.size with
    | none => rfl
    | some o => exact absurd (Heap.lt_size e) (Nat.lt_irrefl _)
  have n₀ : s₀.heap.get? s.heap.objs.size = none := by
    cases e : s₀.heap.get? s.heap.objs.size with
    | none => rfl
    | some o => have := keeps_get B.kp _ _ e; rw [hnew] at this; cases this
  have nl : s.heap.objs.size ≠ env.locals := fun z => by obtain ⟨o, e⟩ := B.st.xb _ B.loc; rw [← z, hnew] at e; cases e
  have nc : ∀ x, env.cells.lookup x ≠ some s.heap.objs.size := fun x z => by obtain ⟨_, _, _, v, o, e, _⟩ := B.cel x _ z; rw [hnew] at e; cases e
  have B₁ := B.keeps (keeps_push s o)
  have up : ∀ b o', s.heap.get? b = some o' → (s.heap.push o).get? b = some o' := fun b o' e => Heap.get?_push_of_some _ e
  refine ⟨⟨B₁.st.fn, B₁.st.gl, B₁.st.glb, fun a ha => ?_, fun y d hy => ?_, B₁.st.cex⟩, B₁.kp, fun a ha => .inl (B.sub a ha), fun a ha => ?_, .inl B.loc, B.lnew, B₁.ns, fun y a ha => ?_, B.inj, hP, fun b hb => ?_, hst, B.x0⟩
  · rcases ha with ha | rfl
    · exact B₁.st.xb a ha
    · exact ⟨o, Heap.get?_push_size _ hfo⟩
  · obtain ⟨v, hv, r⟩ := B.st.vars y d hy
    refine ⟨v, hv.keeps up, r.mono fun a o' g => ⟨up _ _ g.1, fun q => q.elim g.2 fun z => ?_⟩⟩
    have := g.1; rw [z, hnew] at this; cases this
  · rcases ha with ha | rfl
    · exact B.own a ha
    · exact .inr n₀
  · obtain ⟨h1, h2, h3, h4⟩ := B₁.cel y a ha
    exact ⟨.inl h1, h2, h3, h4⟩
  · rcases List.mem_cons.mp hb with rfl | hb
    · exact ⟨nl, nc⟩
    · exact B.off b hb

/-- a list of one's own -/
def Own (prog : Program) (w : World) (X : Addr → Prop) (q : Addr) (ds : List D) (h : Heap) : Prop := ∃ vs, h.PlainList q vs ∧ RpA prog w (Gd h X) vs.toList ds
theorem stab_own {q : Addr} {ds : List D} : Stab X [q] (Own prog w X q ds) := by
  rintro h h' ⟨vs, ⟨n, e⟩, r⟩ k f
  exact ⟨vs, ⟨n, k q (by simp) _ e⟩, r.monoC fun a o dc g => ⟨f a o dc g.2 g.1, g.2⟩⟩

/-- x = [] -/
theorem ex_new_own {s : Shared} {E : Value → Shared → Prop} {x : Str} {p lp pos : Pos} {rest : List Stmt} {Q : Flow → Shared → Prop} (G : Glb s₀.heap) (B : Bd prog w s₀ X₀ env X [] (fun _ => True) c s) (hk : env.kindOf x = some .local)
    (h : ∀ q s' (X' : Addr → Prop), (∀ a, X' a ↔ X a ∨ a = q) → s₀.heap.get? q = none → Bd prog w s₀ X₀ env X' [q] (Own prog w X' q []) (upd c x (.own q)) s' → WP prog w A (execs rest env) Q E s') :
    WP prog w A (execs (.Assign [.Name x p] (.List [] lp) pos :: rest) env) Q E s := by
  refine ⟨wpAny_execs_cons (wpAny_Assign_Name (List_ (wpAny_items_nil (wpAny_newObj_type ?_ (by show (0 : Nat) ≤ sizeLine; exact Nat.zero_le _)))) rfl)⟩
  have B₁ : Bd prog w s₀ X₀ env (fun a => X a ∨ a = s.heap.objs.size) [s.heap.objs.size] (Own prog w (fun a => X a ∨ a = s.heap.objs.size) s.heap.objs.size []) c { s with heap := s.heap.push { cls := .type "list", data := .seq ([] : List Value).toArray } } :=
    B.fresh G rfl ⟨#[], ⟨_, Heap.get?_push_size _ rfl⟩, .nil⟩ stab_own
  have n₀ : s₀.heap.get? s.heap.objs.size = none := by
    cases e : s₀.heap.get? s.heap.objs.size with
    | none => rfl
    | some o => exact absurd (Heap.lt_size (keeps_get B.kp _ _ e)) (Nat.lt_irrefl _)
  exact bd_store G B₁ hk (.own _) fun s' B' => (h _ s' _ (fun a => Iff.rfl) n₀ B').out

/-- the owned object changed -/
theorem Bd.change {s : Shared} {q : Addr} {h' : Heap} {t : Nat} {P' : Heap → Prop} (G : Glb s₀.heap) (B : Bd prog w s₀ X₀ env X fp P c s) (hq : X q) (hn : s₀.heap.get? q = none) (hl : q ≠ env.locals) (hc : ∀ x, env.cells.lookup x ≠ some q)
    (hs : Heap.SameBut q s.heap h') (he : ∃ o, h'.get? q = some o) (hP : P' h') (hst : Stab X fp P') : Bd prog w s₀ X₀ env X fp P' c { s with heap := h', toks := t } := by
  have kp' := keeps_but (t := t) B.kp hs hn
  refine ⟨⟨B.st.fn, B.st.gl, glb_but G B.kp hs hn, fun a xa => ?_, fun y e hy => ?_, fun y a ha => ?_⟩, kp', B.sub, B.own, B.loc, B.lnew, ?_, fun y a ha => ?_, B.inj, hP, B.off, hst, B.x0⟩
  · by_cases z : a = q
    · subst z; exact he
    · obtain ⟨o, e⟩ := B.st.xb a xa; exact ⟨o, (hs.2 a z).trans e⟩
  · obtain ⟨u, hu, ru⟩ := B.st.vars y e hy
    refine ⟨u, ?_, ru.but hs hq⟩
    rcases hu with ⟨h1, m', h2, h3⟩ | ⟨h1, a, h2, h3⟩
    · exact .inl ⟨h1, m', h2.sameBut hs (Ne.symm hl), h3⟩
    · exact .inr ⟨h1, a, h2, h3.sameBut hs fun e => hc y (e ▸ h2)⟩
  · obtain ⟨o, e⟩ := B.st.cex y a ha; exact ⟨o, (hs.2 a fun z => hc y (z ▸ ha)).trans e⟩
  · obtain ⟨m, hm⟩ := B.ns; exact ⟨m, hm.sameBut hs (Ne.symm hl)⟩
  · obtain ⟨h1, h2, h3, v', h4⟩ := B.cel y a ha
    exact ⟨h1, h2, h3, v', h4.sameBut hs fun z => hc y (z ▸ ha)⟩

/-- appending to an owned list: the method on its base -/
theorem append_own {s : Shared} {E : Value → Shared → Prop} {q : Addr} {vs : Array Value} {e : Expr} {pos : Pos} {Q : Value → Shared → Prop} (hl : s.heap.PlainList q vs)
    (h : wpAny (model prog w) A (eval e env) (fun v s₁ => ∃ vs', s₁.heap.PlainList q vs' ∧ vs'.size ≤ sizeLine ∧ ∀ h', h'.PlainList q (vs'.push v) → Heap.SameBut q s₁.heap h' → Q .none { s₁ with heap := h' }) E s) :
    MethodOnS prog w A E "append" (.ref q) pos [(false, eval e env)] Q s := by
  obtain ⟨n, hq⟩ := hl
  refine ⟨"list", "list.append", F.plainAttrs_list, slot_list_append, F.type_list_append, ⟨_, hq, rfl⟩, fun a ea => ?_, ?_⟩
  · injection ea with ea; subst ea; exact ⟨_, hq, rfl⟩
  · refine callWith_builtin rfl (evalArgs_plain (spliced_cons (wpAny_mono h (fun v s₁ g => spliced_nil ?_) fun _ _ e => e)))
    obtain ⟨vs', hl', hz, hQ⟩ := g
    exact wpAny_list_append_plain hl' hQ hz

/-- x.append(e) on an owned list -/
theorem ex_append {s : Shared} {E : Value → Shared → Prop} {x : Str} {e : Expr} {np apos pos epos : Pos} {q : Addr} {ds : List D} {d : D} {rest : List Stmt} {Q : Flow → Shared → Prop} {P₂ : Heap → Prop} (G : Glb s₀.heap) (B : Bd prog w s₀ X₀ env X fp (fun h => Own prog w X q ds h ∧ P₂ h) c s)
    (hq : X q) (hn : s₀.heap.get? q = none) (hf : q ∈ fp) (hcx : c x = some (.own q)) (he : Ev prog w A env X c e d) (hz : ds.length ≤ sizeLine) (hst : Stab X fp (fun h => Own prog w X q (ds ++ [d]) h ∧ P₂ h))
    (hP₂ : ∀ h h', P₂ h → Heap.SameBut q h h' → P₂ h') (hne : notStar e = true)
    (h : ∀ s', Bd prog w s₀ X₀ env X fp (fun h => Own prog w X q (ds ++ [d]) h ∧ P₂ h) c s' → WP prog w A (execs rest env) Q E s')
    (hd : (x == ("__debug__" : Str)) = false := by decide) (hline : (apos.endLine == pos.line) = true := by rfl) (hi : interactive env = false := by rfl) :
    WP prog w A (execs (.Expr (.Call (.Attribute (.Name x np) "append" apos) [e] [] pos) epos :: rest) env) Q E s := by
  refine ⟨wpAny_execs_cons (wpAny_Expr (Call_method1 rfl (starEach_one hne) hline (wpAny_mono ((ev_name hcx hd).run s E B.st) (fun v s₁ g => ?_) fun _ _ e => e)) hi rfl)⟩
  obtain ⟨k₁, r₁⟩ := g
  cases r₁
  have B₁ := B.keeps k₁
  obtain ⟨vs, hl, rv⟩ := B₁.ex.1
  refine append_own hl (wpAny_mono (he.run s₁ E B₁.st) (fun v s₂ g₂ => ?_) fun _ _ e => e)
  have B₂ := B₁.keeps g₂.1
  obtain ⟨⟨vs', hl', rv'⟩, p2⟩ := B₂.ex
  have el := rv'.length
  rw [Array.length_toList] at el
  refine ⟨vs', hl', by rw [el]; exact hz, fun h' hl'' hs' => ?_⟩
  have ho := B₂.off q hf
  exact (h _ (B₂.change (t := s₂.toks) G hq hn ho.1 ho.2 hs' (let ⟨n, e⟩ := hl''; ⟨_, e⟩) ⟨⟨vs'.push v, hl'', by
    rw [Array.toList_push]; exact (rv'.but hs' hq).append (.cons (g₂.2.but hs' hq) .nil)⟩, hP₂ _ _ p2 hs'⟩ hst)).out

/-- an owned list becomes data -/
theorem Bd.freeze {s : Shared} {x : Str} {q : Addr} {ds : List D} {X' : Addr → Prop} (B : Bd prog w s₀ X₀ env X fp P c s) (hX : ∀ a, X' a ↔ X a ∧ a ≠ q) (hn : s₀.heap.get? q = none) (hf : q ∈ fp) (hcx : c x = some (.own q)) (ho : Own prog w X q ds s.heap) :
    Bd prog w s₀ X₀ env X' [] (fun _ => True) (upd c x (.lst ds)) s := by
  have oq := B.off q hf
  have nx0 : ∀ a, X₀ a → a ≠ q := fun a ha z => by obtain ⟨o, e⟩ := B.x0 a ha; rw [z, hn] at e; cases e
  obtain ⟨vs, ⟨n, e⟩, rv⟩ := ho
  have offR : ∀ {v : Value} {d : D}, Rp prog w (Gd s.heap X) v d → Rp prog w (Gd s.heap X') v d := fun r => r.off fun a ha => ((hX a).mp ha).1
  refine ⟨⟨B.st.fn, B.st.gl, B.st.glb, fun a xa => B.st.xb a ((hX a).mp xa).1, fun y d hy => ?_, B.st.cex⟩, B.kp, fun a ha => (hX a).mpr ⟨B.sub a ha, nx0 a ha⟩, fun a ha => B.own a ((hX a).mp ha).1, (hX _).mpr ⟨B.loc, Ne.symm oq.1⟩, B.lnew, B.ns, fun y a ha => ?_, B.inj, trivial, fun b hb => (by cases hb), fun _ _ _ _ _ => trivial, B.x0⟩
  · unfold upd at hy
    by_cases z : y = x
    · subst z; rw [if_pos rfl] at hy; cases hy
      obtain ⟨u, hu, ru⟩ := B.st.vars y _ hcx
      cases ru
      exact ⟨_, hu, .lst ⟨e, fun hx => ((hX q).mp hx).2 rfl⟩ rfl rfl (rv.mono fun a o g => ⟨g.1, fun hx => g.2 ((hX a).mp hx).1⟩)⟩
    · rw [if_neg z] at hy
      obtain ⟨u, hu, ru⟩ := B.st.vars y d hy
      exact ⟨u, hu, offR ru⟩
  · obtain ⟨h1, h2, h3, h4⟩ := B.cel y a ha
    exact ⟨(hX a).mpr ⟨h1, fun z => oq.2 y (z ▸ ha)⟩, h2, h3, h4⟩

/-- split, as data -/
theorem ev_split {o e : Expr} {apos pos : Pos} {x y : Str} {ls : List Str} (h₁ : Ev prog w A env X c o (.str x)) (h₂ : Ev prog w A env X c e (.str y)) (hy : (y.length == 0) = false) (hz : x.length ≤ sizeLine) (hls : Txt.split x y = ls)
    (hz2 : (Builtin.Str.partsBetween x (Builtin.Str.occurrences x y 0 x.length (x.length + 1)) y.length).length ≤ sizeLine)
    (hbase : ∀ t : Sem Value, attributeBase o "split" env t = t := by intro _; rfl) (hs : notStar e = true := by rfl) (hline : (apos.endLine == pos.line) = true := by rfl) :
    Ev prog w A env X c (.Call (.Attribute o "split" apos) [e] [] pos) (.lst (ls.map .str)) := by
  refine ⟨fun s E S => ?_⟩
  refine Call_method1 (hbase _) (starEach_one hs) hline (wpAny_mono (h₁.run s E S) (fun v s₁ g₁ => ?_) fun _ _ e => e)
  obtain ⟨k₁, r₁⟩ := g₁
  cases r₁
  refine ⟨"str", "str.split", F.plainAttrs_str, F.slot_str_split, F.type_str_split, typeIs_str _ _ _, (fun _ e => nomatch e), ?_⟩
  refine callWith_builtin rfl (evalArgs_plain (spliced_cons (wpAny_mono (h₂.run s₁ E (S.keeps k₁)) (fun v s₂ g₂ => spliced_nil ?_) fun _ _ e => e)))
  obtain ⟨k₂, r₂⟩ := g₂
  cases r₂
  refine call_split hy (fun l k e => ?_) hz hz2
  refine ⟨keeps_trans (keeps_trans k₁ k₂) (keeps_heap fun _ _ e => Heap.get?_push_of_some _ e), rp_push_list ((S.keeps k₁).keeps k₂).xb ?_⟩
  have := strs_rpa (prog := prog) (w := w) (G := Gd s₂.heap X) l
  rw [e, hls] at this
  simpa using this
end
end Mine

namespace Mine

section
variable {prog : Program} {w : World} {A : Around} {env : Env} {X : Addr → Prop} {c : Str → Option D} {s₀ : Shared} {X₀ : Addr → Prop} {fp : List Addr} {P : Heap → Prop}

/-- iterators changed -/
theorem Bd.iterL {s : Shared} {Is : List Addr} {h' : Heap} {t : Nat} {P' : Heap → Prop} (G : Glb s₀.heap) (B : Bd prog w s₀ X₀ env X fp P c s)
    (hI : ∀ I ∈ Is, (∀ oI, s.heap.get? I = some oI → ¬ DataC oI) ∧ s₀.heap.get? I = none ∧ I ≠ env.locals ∧ (∀ x, env.cells.lookup x ≠ some I) ∧ ¬ X I)
    (hs : ∀ b o, b ∉ Is → s.heap.get? b = some o → h'.get? b = some o) (hP : P' h') (hst : Stab X fp P') : Bd prog w s₀ X₀ env X fp P' c { s with heap := h', toks := t } := by
  obtain ⟨hk, tk, e, kp⟩ := B.kp
  have kp' : ∀ b o, s₀.heap.get? b = some o → h'.get? b = some o := fun b o q => hs b o (fun z => by rw [(hI b z).2.1] at q; cases q) (by rw [e]; exact kp b o q)
  have nl : env.locals ∉ Is := fun z => (hI _ z).2.2.1 rfl
  have nc : ∀ y a, env.cells.lookup y = some a → a ∉ Is := fun y a ha z => (hI a z).2.2.2.1 y ha
  refine ⟨⟨B.st.fn, B.st.gl, G.keeps kp', fun a xa => ?_, fun y e hy => ?_, fun y a ha => ?_⟩, ⟨h', t, by rw [e], kp'⟩, B.sub, B.own, B.loc, B.lnew, ?_, fun y a ha => ?_, B.inj, hP, B.off, hst, B.x0⟩
  · obtain ⟨o, e⟩ := B.st.xb a xa; exact ⟨o, hs a o (fun z => (hI a z).2.2.2.2 xa) e⟩
  · obtain ⟨u, hu, ru⟩ := B.st.vars y e hy
    refine ⟨u, ?_, ru.monoC fun a o dc g => ⟨hs a o (fun z => (hI a z).1 o g.1 dc) g.1, g.2⟩⟩
    rcases hu with ⟨h1, m', h2, h3⟩ | ⟨h1, a, h2, o, q1, q2⟩
    · exact .inl ⟨h1, m', h2.at' fun o e => hs _ o nl e, h3⟩
    · exact .inr ⟨h1, a, h2, o, hs a o (nc y a h2) q1, q2⟩
  · obtain ⟨o, e⟩ := B.st.cex y a ha; exact ⟨o, hs a o (nc y a ha) e⟩
  · obtain ⟨m, hm⟩ := B.ns; exact ⟨m, hm.at' fun o e => hs _ o nl e⟩
  · obtain ⟨h1, h2, h3, v', o, q1, q2⟩ := B.cel y a ha
    exact ⟨h1, h2, h3, v', o, hs a o (nc y a ha) q1, q2⟩

/-- one item of an enumerate, taken apart into two names -/
theorem enum_turn {s : Shared} {E : Value → Shared → Prop} {e it : Addr} {fpD : List Addr} {n i : Nat} {Pd : Nat → Value → Prop} {Stt : Nat → Heap → Prop} {old : Value} {xi xv : Str} {p₁ p₂ tp : Pos} {k : Nat} {K : Shared → Prop} {dx : D} {Pn : Heap → Prop} {R : Shared → Prop}
    (G : Glb s₀.heap) (hh : A.handled = none) (B : Bd prog w s₀ X₀ env X fp P c s) (Dw : Draws prog w A.in1 it fpD n Pd Stt) (he : IsEnum s.heap e it i old) (hst : Stt i s.heap) (hlt : i < n) (hne : e ≠ it) (hef : e ∉ fpD)
    (hI : ∀ I ∈ [e, it], (∀ oI, s.heap.get? I = some oI → ¬ DataC oI) ∧ s₀.heap.get? I = none ∧ I ≠ env.locals ∧ (∀ x, env.cells.lookup x ≠ some I) ∧ ¬ X I)
    (hki : env.kindOf xi = some .local) (hkv : env.kindOf xv = some .local) (hx : ∀ x G', Pd i x → Rp prog w G' x dx)
    (hPn : ∀ h', (∀ b o, b ∉ [e, it] → s.heap.get? b = some o → h'.get? b = some o) → Pn h')
    (hstab : Stab X fp (fun h => Pn h ∧ (∃ old, IsEnum h e it ((i : Int) + 1) old) ∧ Stt (i + 1) h))
    (h : ∀ s', Bd prog w s₀ X₀ env X fp (fun h => Pn h ∧ (∃ old, IsEnum h e it ((i : Int) + 1) old) ∧ Stt (i + 1) h) (upd (upd c xi (.int i)) xv dx) s' → K s') :
    wpAny (model prog w) A (pyNext (.ref e)) (fun r s₁ => match r with
      | none => R s₁
      | some v => wpAny (model prog w) A (letOwnedTupleGo (.Tuple [.Name xi p₁, .Name xv p₂] k tp) (.ref e) v) (fun _ s₁' =>
          wpAny (model prog w) A (assign (.Tuple [.Name xi p₁, .Name xv p₂] k tp) env v) (fun _ s₂ => K s₂) E s₁') E s₁) E s := by
  refine wpAny_pyNext_enum_itemD Dw he hst hlt hne hef fun x h₁ tk hPx heo hst₁ hT hz₁ hk₁ => ?_
  refine wpAny_letOwnedTupleGo_enum heo fun h₂ he₂ hs₂ => ?_
  replace hs₂ : Heap.SameBut e h₁ h₂ := hs₂
  have heH : e < s.heap.objs.size := Heap.lt_size he
  have ht₂ : h₂.IsTuple s.heap.objs.size #[.int i tk, x] := ⟨_, (hs₂.2 _ (Nat.ne_of_gt heH)).trans hT, rfl, _, rfl⟩
  refine wpAny_assign_Tuple hh ht₂ rfl rfl fun h₃ hx₃ => ?_
  replace hx₃ : Heap.ExtBut h₂.objs.size h₂ h₃ := hx₃
  have up23 : ∀ b o, h₂.get? b = some o → h₃.get? b = some o := fun b o q => hx₃ b o (Nat.ne_of_lt (Heap.lt_size q)) q
  have up : ∀ b o, b ∉ [e, it] → s.heap.get? b = some o → h₃.get? b = some o := fun b o hb q => by
    have hbe : b ≠ e := fun z => hb (by simp [z])
    have hbi : b ≠ it := fun z => hb (by simp [z])
    exact up23 b o ((hs₂.2 b hbe).trans (hk₁ b o hbe hbi q))
  have st₃ : Stt (i + 1) h₃ := Dw.frame _ _ _ hst₁ fun b hb o q => up23 b o ((hs₂.2 b fun z => hef (z ▸ hb)).trans q)
  have B₃ : Bd prog w s₀ X₀ env X fp (fun h => Pn h ∧ (∃ old, IsEnum h e it ((i : Int) + 1) old) ∧ Stt (i + 1) h) c { s with heap := h₃, toks := tk + 1 } :=
    B.iterL G hI up ⟨hPn h₃ up, ⟨_, up23 e _ he₂⟩, st₃⟩ hstab
  show wpAny (model prog w) A (assignInOrder [assign (.Name xi p₁) env, assign (.Name xv p₂) env] [.int i tk, x]) _ _ _
  refine inOrder (wpAny_assign_Name (bd_store G B₃ hki (.int _ _) fun s₄ B₄ => ?_))
  exact inOrder (wpAny_assign_Name (bd_store G B₄ hkv (hx x _ hPx) fun s₅ B₅ => wpAny_pure (h s₅ B₅)))
end
end Mine

namespace Mine

theorem nl_eq : ("\n" : Str) = ⟨#[10]⟩ := by decide
theorem str_ext {x y : Str} (h : x.cps.toList = y.cps.toList) : x = y := by
  obtain ⟨a⟩ := x
  obtain ⟨b⟩ := y
  have : a = b := Array.toList_inj.mp h
  rw [this]
theorem len_toList (x : Str) : x.cps.toList.length = x.length := by simp [Str.length]
theorem toList_app (x y : Str) : (x ++ y).cps.toList = x.cps.toList ++ y.cps.toList := by rw [Str.cps_append, Array.toList_append]

/-- texts glued by one sign -/
def jl (c : Nat) : List (List Nat) → List Nat
  | [] => []
  | [x] => x
  | x :: y :: r => x ++ c :: jl c (y :: r)
theorem join_toList (c : Nat) : ∀ ls : List Str, (Str.join ⟨#[c]⟩ ls).cps.toList = jl c (ls.map fun l => l.cps.toList)
  | [] => by simp [Str.join, jl, Str.empty]
  | [x] => by simp [Str.join, jl]
  | x :: y :: r => by
    rw [Str.join]
    · rw [toList_app, toList_app, join_toList c (y :: r)]
      simp [jl]
    · simp
theorem cut_inj {c : Nat} : ∀ {x y a b : List Nat}, c ∉ x → c ∉ y → x ++ c :: a = y ++ c :: b → x = y ∧ a = b
  | [], [], a, b, _, _, h => by simpa using h
  | [], d :: y, a, b, _, hy, h => by
    simp at h; exact absurd h.1 (fun e => hy (by simp [e]))
  | d :: x, [], a, b, hx, _, h => by
    simp at h; exact absurd h.1 (fun e => hx (by simp [e]))
  | d :: x, e :: y, a, b, hx, hy, h => by
    simp only [List.cons_append, List.cons.injEq] at h
    obtain ⟨rfl, h⟩ := h
    obtain ⟨rfl, rfl⟩ := cut_inj (fun q => hx (List.mem_cons_of_mem _ q)) (fun q => hy (List.mem_cons_of_mem _ q)) h
    exact ⟨rfl, rfl⟩
theorem jl_inj {c : Nat} : ∀ {A B : List (List Nat)}, A ≠ [] → B ≠ [] → (∀ x ∈ A, c ∉ x) → (∀ x ∈ B, c ∉ x) → jl c A = jl c B → A = B
  | [], _, h, _, _, _, _ => absurd rfl h
  | _ :: _, [], _, h, _, _, _ => absurd rfl h
  | [x], [y], _, _, _, _, h => by simpa [jl] using h
  | [x], y :: z :: r, _, _, hA, _, h => by
    simp only [jl] at h
    exact absurd (by rw [h]; simp) (hA x (by simp))
  | x :: z :: r, [y], _, _, _, hB, h => by
    simp only [jl] at h
    exact absurd (by rw [← h]; simp) (hB y (by simp))
  | x :: x' :: r, y :: y' :: q, _, _, hA, hB, h => by
    simp only [jl] at h
    obtain ⟨rfl, h2⟩ := cut_inj (hA x (by simp)) (hB y (by simp)) h
    have := jl_inj (A := x' :: r) (B := y' :: q) (by simp) (by simp) (fun z hz => hA z (List.mem_cons_of_mem _ hz)) (fun z hz => hB z (List.mem_cons_of_mem _ hz)) h2
    rw [this]
theorem map_toList_inj : ∀ {A B : List Str}, (A.map fun l => l.cps.toList) = (B.map fun l => l.cps.toList) → A = B
  | [], [], _ => rfl
  | [], _ :: _, h => by simp at h
  | _ :: _, [], h => by simp at h
  | x :: A, y :: B, h => by
    simp only [List.map_cons, List.cons.injEq] at h
    rw [str_ext h.1, map_toList_inj h.2]
theorem split_join {ls : List Str} (hne : ls ≠ []) (hf : ∀ l ∈ ls, 10 ∉ l.cps.toList) : Txt.split (Txt.join "\n" ls) "\n" = ls := by
  rw [nl_eq]
  have e : Txt.join (⟨#[10]⟩ : Str) ls = Str.join ⟨#[10]⟩ ls := StrLaws.glued_eq_join _ _
  rw [e]
  apply map_toList_inj
  refine jl_inj (c := 10) ?_ (by simpa using hne) ?_ ?_ ?_
  · intro h
    have := split_pos (Str.join ⟨#[10]⟩ ls) ⟨#[10]⟩
    rw [List.map_eq_nil_iff] at h
    rw [h] at this; simp at this
  · intro x hx
    obtain ⟨p, hp, rfl⟩ := List.mem_map.mp hx
    exact StrLaws.split_free _ 10 p hp
  · intro x hx
    obtain ⟨p, hp, rfl⟩ := List.mem_map.mp hx
    exact hf p hp
  · rw [← join_toList, ← join_toList, StrLaws.join_split]
theorem parts_le (x : Str) : (Builtin.Str.partsBetween x (Builtin.Str.occurrences x "\n" 0 x.length (x.length + 1)) (Str.length "\n")).length ≤ x.length + 2 := by
  have := StrLaws.occ_length_le_len x "\n" 0 x.length (x.length + 1)
  unfold Builtin.Str.partsBetween
  simp only [List.length_map, List.length_zip, List.length_cons, List.length_append, List.length_nil]
  omega
theorem join_len {ls : List Str} {B : Nat} (hB : ∀ y ∈ ls, y.length ≤ B) : (Txt.join "\n" ls).length ≤ ls.length * B + ls.length := by
  have e : Txt.join ("\n" : Str) ls = Str.join "\n" ls := StrLaws.glued_eq_join _ _
  rw [e]
  have h1 := StrLaws.join_length_le "\n" ls
  have h2 := StrLaws.sumLen_le ls hB
  have e2 : (Str.length "\n") = 1 := by decide
  rw [e2] at h1
  omega
theorem join_cons2 (sep a b : Str) (r : List Str) : Str.join sep (a :: b :: r) = a ++ sep ++ Str.join sep (b :: r) := by
  rw [Str.join]; simp
theorem join_snoc {ls : List Str} (hne : ls ≠ []) (x : Str) : Txt.join "\n" (ls ++ [x]) = Txt.join "\n" ls ++ "\n" ++ x := by
  have e : ∀ ls, Txt.join ("\n" : Str) ls = Str.join "\n" ls := fun ls => StrLaws.glued_eq_join _ _
  rw [e, e]
  induction ls with
  | nil => exact absurd rfl hne
  | cons a r ih =>
    cases r with
    | nil => simp [Str.join]
    | cons b q =>
      have := ih (by simp)
      rw [List.cons_append, List.cons_append, join_cons2, ← List.cons_append, this, join_cons2]
      simp only [Str.append_assoc]

/-- blanks -/
theorem reps_toList (c : Array Nat) : ∀ (k : Nat) (acc : Array Nat), ((List.replicate k c).foldl (· ++ ·) acc).toList = acc.toList ++ (List.replicate k c.toList).flatten
  | 0, acc => by simp
  | k + 1, acc => by rw [List.replicate_succ, List.foldl_cons, reps_toList c k, List.replicate_succ, List.flatten_cons, Array.toList_append, List.append_assoc]
theorem mul_toList {ch : Nat} {n : Int} (h : 0 ≤ n) : (Txt.mul ⟨#[ch]⟩ n).cps.toList = List.replicate n.toNat ch := by
  unfold Txt.mul
  by_cases h1 : n < 1
  · rw [if_pos h1]
    have : n = 0 := by omega
    subst this; rfl
  · rw [if_neg h1]
    by_cases h2 : n = 1
    · subst h2; rfl
    · have hn : (n == 1) = false := by simpa using h2
      rw [hn]
      have : (Str.length (⟨#[ch]⟩ : Str) == 0) = false := rfl
      rw [this]
      simp only [Bool.or_self, Bool.false_eq_true, if_false]
      rw [reps_toList]
      generalize n.toNat = k
      induction k with
      | zero => rfl
      | succ k ih =>
        simp only [List.nil_append] at ih ⊢
        rw [List.replicate_succ, List.flatten_cons, ih, List.replicate_succ]; rfl
theorem sp_eq : (" " : Str) = ⟨#[32]⟩ := by decide
theorem dot_eq : ("." : Str) = ⟨#[46]⟩ := by decide
theorem blk_toList {n : Int} (h : 0 ≤ n) : (blk n).cps.toList = List.replicate n.toNat 32 := by
  unfold blk
  rw [sp_eq]; exact mul_toList h
theorem slice_blk {n : Int} (h : 0 ≤ n) (y : Str) : Txt.slice (blk n ++ y) (some n) none = y := by
  have hb := blk_length n h
  have hl : ((blk n ++ y).length : Int) = n + y.length := by rw [Str.length_append]; omega
  rw [slice_from_eq h (by omega) hl.symm]
  apply str_ext
  rw [toList_app, blk_toList h, List.drop_left' (by simp)]
  have : (n + (y.length : Int) - n).toNat = y.cps.toList.length := by rw [len_toList]; omega
  simp only [this, List.take_length]
theorem slice_dots {n : Int} (h : 0 ≤ n) : Txt.slice (Txt.mul "." (n + 1)) (some n) none = "." := by
  have ht : (Txt.mul "." (n + 1)).cps.toList = List.replicate (n + 1).toNat 46 := by rw [dot_eq]; exact mul_toList (by omega)
  have hl : ((Txt.mul "." (n + 1)).length : Int) = n + 1 := by
    rw [← len_toList, ht, List.length_replicate]; omega
  rw [slice_from_eq h (by omega) hl.symm]
  apply str_ext
  rw [ht]
  have e1 : (n + 1 - n).toNat = 1 := by omega
  have e2 : (n + 1).toNat = n.toNat + 1 := by omega
  simp only [e1, e2, List.drop_replicate]
  have e3 : n.toNat + 1 - n.toNat = 1 := by omega
  rw [e3]; rfl
theorem slice_but2 (x y : Str) (hy : y.length = 2) : Txt.slice (x ++ y) none (some (-2)) = x := by
  have hl : (x ++ y).length = x.length + 2 := by rw [Str.length_append, hy]
  have e : Txt.slice (x ++ y) none (some (-2)) = Txt.slice (x ++ y) none (some (x.length : Int)) := by
    have : Builtin.Str.strSliceIndices none (some (-2)) 1 (x ++ y).length = Builtin.Str.strSliceIndices none (some (x.length : Int)) 1 (x ++ y).length := by
      rw [hl]
      have h1 : ¬ ((x.length : Int) < 0) := by omega
      have e1 : max (0 : Int) (min ((-2 : Int) + ((x.length + 2 : Nat) : Int)) ((x.length + 2 : Nat) : Int)) = x.length := by omega
      have e2 : max (0 : Int) (min (x.length : Int) ((x.length + 2 : Nat) : Int)) = x.length := by omega
      simp only [Builtin.Str.strSliceIndices, h1, if_false, show ((-2 : Int) < 0) = True from by simp, show ((1 : Int) > 0) = True from by simp, if_true, e1, e2]
    unfold Txt.slice
    rw [this]
  rw [e]
  have := beq_iff_eq.mp (slice_closes_toL (x := x ++ y) (j := (x.length : Int)) (by omega) (by omega))
  rw [this]
  apply str_ext
  rw [toList_app]
  have e3 : ((x.length : Int) - 0).toNat = x.cps.toList.length := by rw [len_toList]; omega
  simp only [e3]
  simp
/-- lstrip(' ') of a row set in -/
theorem lstrip_blk {n : Int} (h : 0 ≤ n) {y : Str} {ch : Nat} (h0 : y.cps[0]? = some ch) (hc : ch ≠ 32) : (Txt.lstripChars (blk n ++ y) " ").length = y.length := by
  have hlo : stripLo (Str.cps " ").contains true (blk n ++ y) = n.toNat := by
    simp only [stripLo, if_true]
    rw [toList_app, blk_toList h]
    have hy : ∃ r, y.cps.toList = ch :: r := by
      cases hl : y.cps.toList with
      | nil => have : y.cps.toList[0]? = some ch := by simpa using h0
               rw [hl] at this; simp at this
      | cons a r => have : y.cps.toList[0]? = some ch := by simpa using h0
                    rw [hl] at this; simp at this; subst this; exact ⟨r, rfl⟩
    obtain ⟨r, hr⟩ := hy
    rw [hr]
    have hch : (Str.cps " ").contains ch = false := by
      rw [sp_eq]; simp; exact hc
    have h32 : (Str.cps " ").contains 32 = true := by rw [sp_eq]; simp
    generalize n.toNat = k
    induction k with
    | zero => rw [List.replicate_zero, List.nil_append, List.takeWhile_cons, if_neg (by rw [hch]; exact Bool.false_ne_true)]; rfl
    | succ k ih => rw [List.replicate_succ, List.cons_append, List.takeWhile_cons, if_pos h32, List.length_cons, ih]
  have hb := blk_length n h
  unfold Txt.lstripChars
  rw [PyProof.Rows.stripBy_eq, hlo]
  have hhi : stripHi (Str.cps " ").contains false (blk n ++ y) n.toNat = (blk n ++ y).length := by simp [stripHi]
  rw [hhi, ← len_toList, StrLaws.strSub_toList, toList_app, blk_toList h, List.drop_left' (by simp), Str.length_append, List.length_take, len_toList]
  omega
end Mine

namespace Mine

section
variable {prog : Program} {w : World} {A : Around} {env : Env} {X : Addr → Prop} {c : Str → Option D} {s₀ : Shared} {X₀ : Addr → Prop} {fp : List Addr} {P : Heap → Prop}

/-- a list of strs of one's own -/
def LS (q : Addr) (xs : List Str) (h : Heap) : Prop := ∃ l : List (Str × Tok), h.IsList q (strValues l).toArray ∧ l.map (·.1) = xs
theorem stab_ls {q : Addr} {xs : List Str} : Stab X [q] (LS q xs) := by
  rintro h h' ⟨l, hl, e⟩ k f
  exact ⟨l, hl.at fun o e => k q (by simp) o e, e⟩

/-- x = o.split(e), the list one's own -/
theorem ex_split_own {s : Shared} {E : Value → Shared → Prop} {xn : Str} {p spos : Pos} {rest : List Stmt} {Q : Flow → Shared → Prop} {o e : Expr} {apos pos : Pos} {x y : Str} {ls : List Str}
    (G : Glb s₀.heap) (B : Bd prog w s₀ X₀ env X [] (fun _ => True) c s) (hk : env.kindOf xn = some .local)
    (h₁ : Ev prog w A env X c o (.str x)) (h₂ : Ev prog w A env X c e (.str y)) (hy : (y.length == 0) = false) (hz : x.length ≤ sizeLine) (hls : Txt.split x y = ls)
    (hz2 : (Builtin.Str.partsBetween x (Builtin.Str.occurrences x y 0 x.length (x.length + 1)) y.length).length ≤ sizeLine)
    (h : ∀ q s' (X' : Addr → Prop), (∀ a, X' a ↔ X a ∨ a = q) → s₀.heap.get? q = none → Bd prog w s₀ X₀ env X' [q] (LS q ls) (upd c xn (.own q)) s' → WP prog w A (execs rest env) Q E s')
    (hbase : ∀ t : Sem Value, attributeBase o "split" env t = t := by intro _; rfl) (hs : notStar e = true := by rfl) (hline : (apos.endLine == pos.line) = true := by rfl)
    (hsw : swapsWith (.Call (.Attribute o "split" apos) [e] [] pos) (some (.Name xn p)) spos.line env = pure false := by rfl) :
    WP prog w A (execs (.Assign [.Name xn p] (.Call (.Attribute o "split" apos) [e] [] pos) spos :: rest) env) Q E s := by
  refine ⟨wpAny_execs_cons (wpAny_Assign_Name (Call_method1 (hbase _) (starEach_one hs) hline (wpAny_mono (h₁.run s E B.st) (fun v s₁ g₁ => ?_) fun _ _ e => e)) hsw)⟩
  obtain ⟨k₁, r₁⟩ := g₁
  cases r₁
  refine ⟨"str", "str.split", F.plainAttrs_str, F.slot_str_split, F.type_str_split, typeIs_str _ _ _, (fun _ e => nomatch e), ?_⟩
  refine callWith_builtin rfl (evalArgs_plain (spliced_cons (wpAny_mono (h₂.run s₁ E (B.keeps k₁).st) (fun v s₂ g₂ => spliced_nil ?_) fun _ _ e => e)))
  obtain ⟨k₂, r₂⟩ := g₂
  cases r₂
  refine call_split hy (fun l k e => ?_) hz hz2
  have B₂ := ((B.keeps k₁).keeps k₂).keeps (keeps_tok s₂ k)
  have n₀ : s₀.heap.get? s₂.heap.objs.size = none := by
    cases e : s₀.heap.get? s₂.heap.objs.size with
    | none => rfl
    | some o => exact absurd (Heap.lt_size (keeps_get B₂.kp _ _ e)) (Nat.lt_irrefl _)
  have B₃ : Bd prog w s₀ X₀ env (fun a => X a ∨ a = s₂.heap.objs.size) [s₂.heap.objs.size] (LS s₂.heap.objs.size ls) c { s₂ with heap := s₂.heap.push { cls := .type "list", data := .seq (strValues l).toArray }, toks := k } :=
    B₂.fresh G rfl ⟨l, ⟨_, Heap.get?_push_size _ rfl, rfl, _, rfl⟩, e.trans hls⟩ stab_ls
  exact bd_store G B₃ hk (.own _) fun s' B' => (h _ s' _ (fun a => Iff.rfl) n₀ B').out

theorem Bd.freezeL {s : Shared} {x : Str} {q : Addr} {xs : List Str} {X' : Addr → Prop} (B : Bd prog w s₀ X₀ env X fp P c s) (hX : ∀ a, X' a ↔ X a ∧ a ≠ q) (hn : s₀.heap.get? q = none) (hf : q ∈ fp) (hcx : c x = some (.own q)) (ho : LS q xs s.heap) :
    Bd prog w s₀ X₀ env X' [] (fun _ => True) (upd c x (.lst (xs.map .str))) s := by
  have oq := B.off q hf
  have nx0 : ∀ a, X₀ a → a ≠ q := fun a ha z => by obtain ⟨o, e⟩ := B.x0 a ha; rw [z, hn] at e; cases e
  obtain ⟨l, ⟨o, e, hc, n, hd⟩, el⟩ := ho
  have offR : ∀ {v : Value} {d : D}, Rp prog w (Gd s.heap X) v d → Rp prog w (Gd s.heap X') v d := fun r => r.off fun a ha => ((hX a).mp ha).1
  refine ⟨⟨B.st.fn, B.st.gl, B.st.glb, fun a xa => B.st.xb a ((hX a).mp xa).1, fun y d hy => ?_, B.st.cex⟩, B.kp, fun a ha => (hX a).mpr ⟨B.sub a ha, nx0 a ha⟩, fun a ha => B.own a ((hX a).mp ha).1, (hX _).mpr ⟨B.loc, Ne.symm oq.1⟩, B.lnew, B.ns, fun y a ha => ?_, B.inj, trivial, fun b hb => (by cases hb), fun _ _ _ _ _ => trivial, B.x0⟩
  · unfold upd at hy
    by_cases z : y = x
    · subst z; rw [if_pos rfl] at hy; cases hy
      obtain ⟨u, hu, ru⟩ := B.st.vars y _ hcx
      cases ru
      refine ⟨_, hu, .lst ⟨e, fun hx => ((hX q).mp hx).2 rfl⟩ hc hd ?_⟩
      have := strs_rpa (prog := prog) (w := w) (G := Gd s.heap X') l
      rw [el] at this
      simpa using this
    · rw [if_neg z] at hy
      obtain ⟨u, hu, ru⟩ := B.st.vars y d hy
      exact ⟨u, hu, offR ru⟩
  · obtain ⟨h1, h2, h3, h4⟩ := B.cel y a ha
    exact ⟨(hX a).mpr ⟨h1, fun z => oq.2 y (z ▸ ha)⟩, h2, h3, h4⟩

theorem none_at_size {h : Heap} {n : Nat} (hn : h.objs.size ≤ n) : h.get? n = none := Heap.get?_none_of_le hn

/-- what is new to a frame -/
theorem Bd.new {s : Shared} {I : Addr} (B : Bd prog w s₀ X₀ env X fp P c s) (hI : s.heap.get? I = none) : s₀.heap.get? I = none ∧ I ≠ env.locals ∧ (∀ x, env.cells.lookup x ≠ some I) ∧ ¬ X I := by
  refine ⟨?_, fun z => ?_, fun x z => ?_, fun z => ?_⟩
  · cases e : s₀.heap.get? I with
    | none => rfl
    | some o => have := keeps_get B.kp _ _ e; rw [hI] at this; cases this
  · obtain ⟨o, e⟩ := B.st.xb _ B.loc; rw [← z, hI] at e; cases e
  · obtain ⟨_, _, _, v, o, e, _⟩ := B.cel x I z; rw [hI] at e; cases e
  · obtain ⟨o, e⟩ := B.st.xb _ z; rw [hI] at e; cases e

/-- for xi, xv in enumerate(a str): if xv != ' ': break -/
theorem ex_enum_find {s : Shared} {E : Value → Shared → Prop} {xi xv : Str} {p₁ p₂ tp ep cpos pos q₁ q₂ q₃ q₄ q₅ : Pos} {k k₂ : Nat} {esub : Expr} {rest : List Stmt} {Q : Flow → Shared → Prop} {x : Str} {b ch : Nat}
    (G : Glb s₀.heap) (hh : A.handled = none) (B : Bd prog w s₀ X₀ env X fp P c s) (hfx : ∀ b ∈ fp, X b) (hke : env.kindOf "enumerate" = some .globalImplicit)
    (he : ∀ s E, Bd prog w s₀ X₀ env X fp P c s → wpAny (model prog w) A (eval esub env) (fun v s' => Keeps s s' ∧ ∃ t, v = .str x t) E s) (hse : notStar esub = true)
    (hki : env.kindOf xi = some .local) (hkv : env.kindOf xv = some .local) (hci : c xi = none) (hcv : c xv = none) (hvi : xv ≠ xi) (hdv : (xv == ("__debug__" : Str)) = false)
    (hx : ∀ k, k < b → x.cps[k]? = some 32) (hb : x.cps[b]? = some ch) (hc : ch ≠ 32)
    (after : ∀ s', Bd prog w s₀ X₀ env X fp P (upd (upd c xi (.int b)) xv (.str ⟨#[ch]⟩)) s' → WP prog w A (execs rest env) Q E s')
    (hs : ∀ y, foldedSetIterable (.Call (.Name "enumerate" ep) [esub] [] cpos) env y = pure y := by intro _; rfl) :
    WP prog w A (execs (.For (.Tuple [.Name xi p₁, .Name xv p₂] k tp) (.Call (.Name "enumerate" ep) [esub] [] cpos) [.If (.Compare (.Name xv q₁) [.NotEq] [.Constant (.str " ") k₂ q₂] q₃) [.Break q₄] [] q₅] [] pos :: rest) env) Q E s := by
  refine ⟨wpAny_execs_cons (wpAny_For (Call_ (name_builtin B.st (by decide) hke (v := .type "enumerate") (by decide +kernel) ?_)) hs)⟩
  rw [starEach_one hse]
  refine PySem.callWith_type rfl (evalArgs_plain (spliced_cons (wpAny_mono (he s E B) (fun nv s₁ g => spliced_nil ?_) fun _ _ e => e)))
  obtain ⟨k₁, t, rfl⟩ := g
  have B₁ := B.keeps k₁
  refine call_enumerate_str fun h' hen hit hsz hkp => ?_
  refine wpAny_pyIter_enum hen ?_
  have hI1 := B₁.new (none_at_size (Nat.le_refl s₁.heap.objs.size))
  have hI2 := B₁.new (I := s₁.heap.objs.size + 1) (none_at_size (Nat.le_succ s₁.heap.objs.size))
  generalize hIt : s₁.heap.objs.size = it at *
  generalize hEn : it + 1 = en at *
  have hne : en ≠ it := by omega
  have hnf : en ∉ [it] := by simpa using hne
  obtain ⟨ty, hty, Dw, hst⟩ : ∃ ty, (ty ≠ "list" ∧ ty ≠ "tuple" ∧ ty ≠ "dict") ∧ Draws prog w A.in1 it [it] x.cps.size (fun i v => ∃ c u, x.cps[i]? = some c ∧ v = .str ⟨#[c]⟩ u) (fun i h => h.IsStrIter it ty x t i) ∧ h'.IsStrIter it ty x t 0 := by
    cases ha : x.cps.all (· < 128)
    · exact ⟨"str_iterator", by decide, Draws.strWide (A := A.in1) hh it x t, by simpa [strIterType, ha] using hit⟩
    · exact ⟨"str_ascii_iterator", by decide, Draws.strAscii (A := A.in1) hh it x t, by simpa [strIterType, ha] using hit⟩
  have hfp : ∀ b ∈ fp, b ∉ [en, it] := fun b hb hm => by
    rcases List.mem_cons.mp hm with rfl | hm
    · exact hI2.2.2.2 (hfx _ hb)
    · rw [List.mem_singleton.mp hm] at hb; exact hI1.2.2.2 (hfx _ hb)
  have hst' : ∀ i : Nat, Stab X (fp ++ [en, it]) (fun h => P h ∧ (∃ old, IsEnum h en it (i : Int) old) ∧ h.IsStrIter it ty x t i) := fun i => by
    refine stab_and B.stab ?_
    rintro h h' ⟨⟨old, e⟩, ⟨o, e', r⟩⟩ kk _
    exact ⟨⟨old, kk en (by simp) _ e⟩, ⟨o, kk it (by simp) _ e', r⟩⟩
  have hoff : ∀ b ∈ fp ++ [en, it], b ≠ env.locals ∧ ∀ x, env.cells.lookup x ≠ some b := fun b hb => by
    rcases List.mem_append.mp hb with hb | hb
    · exact B.off b hb
    · rcases List.mem_cons.mp hb with rfl | hb
      · exact ⟨hI2.2.1, hI2.2.2.1⟩
      · rw [List.mem_singleton.mp hb]; exact ⟨hI1.2.1, hI1.2.2.1⟩
  have start : Bd prog w s₀ X₀ env X (fp ++ [en, it]) (fun h => P h ∧ (∃ old, IsEnum h en it ((0 : Nat) : Int) old) ∧ h.IsStrIter it ty x t 0) c { s₁ with heap := h' } := by
    have B₂ := B₁.keeps (keeps_heap (t := s₁.toks) hkp)
    exact B₂.more hoff ⟨B₂.ex, ⟨_, hen⟩, hst⟩ (hst' 0)
  have hbl : b < x.cps.size := (Array.getElem?_eq_some_iff.mp hb).1
  refine codeAny_forLoop_any (fun n s' => ∃ i, i ≤ b ∧ n = b + 1 - i ∧ Bd prog w s₀ X₀ env X (fp ++ [en, it]) (fun h => P h ∧ (∃ old, IsEnum h en it (i : Int) old) ∧ h.IsStrIter it ty x t i) c s') ?_ (b + 1) ⟨0, Nat.zero_le _, rfl, start⟩
  rintro n s' ⟨i, hi, rfl, B'⟩
  obtain ⟨hp, ⟨old, hen'⟩, hst''⟩ := B'.ex
  obtain ⟨oI, hoI, hcI, hdI⟩ := id hst''
  have hIs : ∀ I ∈ [en, it], (∀ oI, s'.heap.get? I = some oI → ¬ DataC oI) ∧ s₀.heap.get? I = none ∧ I ≠ env.locals ∧ (∀ x, env.cells.lookup x ≠ some I) ∧ ¬ X I := fun I hI => by
    rcases List.mem_cons.mp hI with rfl | hI
    · refine ⟨fun o e => ?_, hI2⟩
      rw [hen'] at e; cases e
      exact ndc_of (by decide)
    · rw [List.mem_singleton.mp hI]
      refine ⟨fun o e => ?_, hI1⟩
      rw [hoI] at e; cases e
      rintro (z | z | z) <;> (rw [hcI] at z; injection z with z)
      · exact hty.1 z
      · exact hty.2.1 z
      · exact hty.2.2 z
  obtain ⟨ci, hci'⟩ : ∃ ci, x.cps[i]? = some ci := ⟨x.cps[i]'(by omega), by simp [show i < x.cps.size by omega]⟩
  refine enum_turn (dx := .str ⟨#[ci]⟩) (Pn := P) G hh B' Dw hen' hst'' (by omega) hne hnf hIs hki hkv (fun v G' hv => ?_) (fun h'' hk'' => ?_) (hst' (i + 1)) fun s₂ B₂ => ?_
  · obtain ⟨c', u, h1, rfl⟩ := hv
    rw [hci'] at h1; cases h1
    exact .str _ _
  · exact B.stab _ _ hp (fun b hb o e => hk'' b o (hfp b hb) e) fun b o dc _ e => hk'' b o (fun hm => (hIs b hm).1 o e dc) e
  · have hcmp : EvB prog w A env X (upd (upd c xi (.int i)) xv (.str ⟨#[ci]⟩)) (.Compare (.Name xv q₁) [.NotEq] [.Constant (.str " ") k₂ q₂] q₃) ((⟨#[ci]⟩ : Str) != " ") := evb_cmp (ev_name (by simp [upd]) hdv) ev_str cmp_ne_str
    by_cases hib : i = b
    · subst hib
      rw [hb] at hci'; cases hci'
      have ht : ((⟨#[ch]⟩ : Str) != " ") = true := by
        rw [sp_eq]; simp only [bne_iff_ne, ne_eq]
        intro z; injection z with z; simp at z; exact hc z
      rw [ht] at hcmp
      refine (ex_if (Q := _) B₂ hcmp fun s₃ B₃ => ?_).out
      rw [if_pos rfl]
      refine ⟨wpAny_execs_cons (wpAny_Break ?_)⟩
      exact (after _ (B₃.more (fun b hb => B.off b hb) B₃.ex.1 B.stab)).out
    · have h32 := hx i (by omega)
      rw [h32] at hci'; cases hci'
      have ht : ((⟨#[32]⟩ : Str) != " ") = false := by rw [sp_eq]; simp
      rw [ht] at hcmp
      refine (ex_if_no (Q := _) B₂ hcmp rfl fun s₃ B₃ => ex_nil ?_).out
      refine ⟨b + 1 - (i + 1), by omega, i + 1, by omega, rfl, B₃.weak fun y d hy => ?_⟩
      unfold upd
      by_cases z : y = xv
      · rw [z, hcv] at hy; cases hy
      · rw [if_neg z]
        by_cases z : y = xi
        · rw [z, hci] at hy; cases hy
        · rw [if_neg z]; exact hy
end
end Mine

namespace Mine

theorem lsAt_step {α : Type} (f : α → α) (ls : List α) (j : Nat) (x : α) (h : ls[j]? = some x) : ((ls.take j).map f ++ ls.drop j).set j (f x) = (ls.take (j + 1)).map f ++ ls.drop (j + 1) := by
  have hj : j < ls.length := (List.getElem?_eq_some_iff.mp h).1
  have hl : ((ls.take j).map f).length = j := by simp; omega
  have hd : ls.drop j = x :: ls.drop (j + 1) := by
    rw [List.drop_eq_getElem_cons hj]; congr 1
    exact (List.getElem?_eq_some_iff.mp h).2
  rw [List.set_append_right _ _ (by omega), hl, Nat.sub_self, hd, List.set_cons_zero, List.take_add_one, h]
  simp
theorem lsAt_get {α : Type} (f : α → α) (ls : List α) (j : Nat) : ((ls.take j).map f ++ ls.drop j)[j]? = ls[j]? := by
  by_cases hj : j ≤ ls.length
  · have hl : ((ls.take j).map f).length = j := by simp; omega
    rw [List.getElem?_append_right (by omega), hl, Nat.sub_self, List.getElem?_drop]; simp
  · rw [List.getElem?_eq_none (by simp; omega), List.getElem?_eq_none (by omega)]
theorem strValues_set (l : List (Str × Tok)) (j : Nat) (y : Str) (t : Tok) : (strValues l).toArray.setIfInBounds j (.str y t) = (strValues (l.set j (y, t))).toArray := by
  apply Array.toList_inj.mp
  rw [Array.toList_setIfInBounds]
  simp [strValues, List.map_set]

section
variable {prog : Program} {w : World} {A : Around} {env : Env} {X : Addr → Prop} {c : Str → Option D} {s₀ : Shared} {X₀ : Addr → Prop} {fp : List Addr} {P : Heap → Prop}

/-- for xj, xl in enumerate(lines): lines[xj] = value -/
theorem ex_enum_set {s : Shared} {E : Value → Shared → Prop} {xj xl xn : Str} {p₁ p₂ tp ep cpos pos q₁ q₂ q₃ q₄ np : Pos} {k : Nat} {val : Expr} {rest : List Stmt} {Q : Flow → Shared → Prop} {ls : List Str} {f : Str → Str} {q : Addr}
    (G : Glb s₀.heap) (hh : A.handled = none) (B : Bd prog w s₀ X₀ env X [q] (LS q ls) c s) (hq : X q) (hn : s₀.heap.get? q = none) (hcx : c xn = some (.own q)) (hke : env.kindOf "enumerate" = some .globalImplicit)
    (hkj : env.kindOf xj = some .local) (hkl : env.kindOf xl = some .local) (hcj : c xj = none) (hcl : c xl = none) (hjl : xj ≠ xl) (hjn : xn ≠ xj) (hln : xn ≠ xl) (hdn : (xn == ("__debug__" : Str)) = false) (hdj : (xj == ("__debug__" : Str)) = false)
    (hlen : (ls.length : Int) < 2 ^ 63)
    (he : ∀ (j : Nat) x, x ∈ ls → Ev prog w A env X (upd (upd c xj (.int j)) xl (.str x)) val (.str (f x)))
    (after : ∀ s', Bd prog w s₀ X₀ env X [q] (LS q (ls.map f)) c s' → WP prog w A (execs rest env) Q E s')
    (hsw : swapsWith val (some (.Subscript (.Name xn q₁) (.Name xj q₂) q₃)) q₄.line env = pure false)
    (hs : ∀ y, foldedSetIterable (.Call (.Name "enumerate" ep) [.Name xn np] [] cpos) env y = pure y := by intro _; rfl) :
    WP prog w A (execs (.For (.Tuple [.Name xj p₁, .Name xl p₂] k tp) (.Call (.Name "enumerate" ep) [.Name xn np] [] cpos) [.Assign [.Subscript (.Name xn q₁) (.Name xj q₂) q₃] val q₄] [] pos :: rest) env) Q E s := by
  refine ⟨wpAny_execs_cons (wpAny_For (Call_ (name_builtin B.st (by decide) hke (v := .type "enumerate") (by decide +kernel) ?_)) hs)⟩
  rw [starEach_one rfl]
  refine PySem.callWith_type rfl (evalArgs_plain (spliced_cons (wpAny_mono ((ev_name hcx hdn).run s E B.st) (fun nv s₁ g => spliced_nil ?_) fun _ _ e => e)))
  obtain ⟨k₁, r₁⟩ := g
  cases r₁
  have B₁ := B.keeps k₁
  obtain ⟨l₀, hl₀, el₀⟩ := B₁.ex
  refine call_enumerate_list hl₀ fun h' hen hit hsz hkp => ?_
  refine wpAny_pyIter_enum hen ?_
  have hI1 := B₁.new (none_at_size (Nat.le_refl s₁.heap.objs.size))
  have hI2 := B₁.new (I := s₁.heap.objs.size + 1) (none_at_size (Nat.le_succ s₁.heap.objs.size))
  generalize hIt : s₁.heap.objs.size = it at *
  generalize hEn : it + 1 = en at *
  have hne : en ≠ it := by omega
  have hqe : q ≠ en := fun z => hI2.2.2.2 (z ▸ hq)
  have hqi : q ≠ it := fun z => hI1.2.2.2 (z ▸ hq)
  have hnf : en ∉ [it, q] := by simp [hne, Ne.symm hqe]
  have hst' : ∀ j : Nat, Stab X [q, en, it] (fun h => LS q ((ls.take j).map f ++ ls.drop j) h ∧ (∃ old, IsEnum h en it (j : Int) old) ∧ h.IsListIter it q j) := fun j => by
    refine stab_and (fp := [q]) (fp₂ := [en, it]) stab_ls ?_
    rintro h h' ⟨⟨old, e⟩, ⟨o, e', r⟩⟩ kk _
    exact ⟨⟨old, kk en (by simp) _ e⟩, ⟨o, kk it (by simp) _ e', r⟩⟩
  have hst₂ : ∀ (j : Nat) (items : Array Value), Stab X [q, en, it] (fun h => True ∧ (∃ old, IsEnum h en it ((j : Int) + 1) old) ∧ h.IsListIter it q (j + 1) ∧ h.IsList q items) := fun j items => by
    rintro h h' ⟨_, ⟨old, e⟩, ⟨o, e', r⟩, hl⟩ kk _
    exact ⟨trivial, ⟨old, kk en (by simp) _ e⟩, ⟨o, kk it (by simp) _ e', r⟩, hl.at fun o e => kk q (by simp) o e⟩
  have hoff : ∀ b ∈ [q, en, it], b ≠ env.locals ∧ ∀ x, env.cells.lookup x ≠ some b := fun b hb => by
    rcases List.mem_cons.mp hb with hb | hb
    · exact B.off b (by simp [hb])
    · rcases List.mem_cons.mp hb with rfl | hb
      · exact ⟨hI2.2.1, hI2.2.2.1⟩
      · rw [List.mem_singleton.mp hb]; exact ⟨hI1.2.1, hI1.2.2.1⟩
  have start : Bd prog w s₀ X₀ env X [q, en, it] (fun h => LS q ((ls.take 0).map f ++ ls.drop 0) h ∧ (∃ old, IsEnum h en it ((0 : Nat) : Int) old) ∧ h.IsListIter it q 0) c { s₁ with heap := h' } := by
    have B₂ := B₁.keeps (keeps_heap (t := s₁.toks) hkp)
    exact B₂.more hoff ⟨by simpa using B₂.ex, ⟨_, hen⟩, hit⟩ (hst' 0)
  refine codeAny_forLoop_any (fun n s' => ∃ j, j ≤ ls.length ∧ n = ls.length + 1 - j ∧ Bd prog w s₀ X₀ env X [q, en, it] (fun h => LS q ((ls.take j).map f ++ ls.drop j) h ∧ (∃ old, IsEnum h en it (j : Int) old) ∧ h.IsListIter it q j) c s') ?_ (ls.length + 1) ⟨0, Nat.zero_le _, rfl, start⟩
  rintro n s' ⟨j, hj, rfl, B'⟩
  obtain ⟨⟨l, hl, el⟩, ⟨old, hen'⟩, hit'⟩ := B'.ex
  obtain ⟨oI, hoI, hcI, hdI⟩ := id hit'
  have ell : l.length = ls.length := by
    have := congrArg List.length el
    simp at this; omega
  have esz : (strValues l).toArray.size = ls.length := by simp [strValues, ell]
  have hIs : ∀ I ∈ [en, it], (∀ oI, s'.heap.get? I = some oI → ¬ DataC oI) ∧ s₀.heap.get? I = none ∧ I ≠ env.locals ∧ (∀ x, env.cells.lookup x ≠ some I) ∧ ¬ X I := fun I hI => by
    rcases List.mem_cons.mp hI with rfl | hI
    · refine ⟨fun o e => ?_, hI2⟩
      rw [hen'] at e; cases e
      exact ndc_of (by decide)
    · rw [List.mem_singleton.mp hI]
      refine ⟨fun o e => ?_, hI1⟩
      rw [hoI] at e; cases e
      rintro (z | z | z) <;> (rw [hcI] at z; revert z; decide)
  by_cases hlt : j < ls.length
  · obtain ⟨x, hx⟩ : ∃ x, ls[j]? = some x := ⟨ls[j], by simp [hlt]⟩
    have hlx : ∃ t, l[j]? = some (x, t) := by
      have h1 : (l.map (·.1))[j]? = some x := by rw [el, lsAt_get]; exact hx
      rw [List.getElem?_map] at h1
      cases h2 : l[j]? with
      | none => rw [h2] at h1; cases h1
      | some p => rw [h2] at h1; simp at h1; exact ⟨p.2, by rw [← h1]⟩
    obtain ⟨t, hlt'⟩ := hlx
    refine enum_turn (dx := .str x) (Pn := fun _ => True) G hh B' (Draws.list (A := A.in1) hh it q hqi (strValues l).toArray) hen' ⟨hit', hl⟩ (by rw [esz]; exact hlt) hne hnf hIs hkj hkl (fun v G' hv => ?_) (fun _ _ => trivial) (hst₂ j _) fun s₂ B₂ => ?_
    · have : (strValues l)[j]? = some (.str x t) := by simp [strValues, hlt']
      have hv' : (strValues l)[j]? = some v := by simpa using hv
      rw [this] at hv'; cases hv'
      exact .str _ _
    · refine wpAny_execs_cons (wpAny_Assign_Subscript (wpAny_mono ((he j x (List.mem_of_getElem? hx)).run s₂ _ B₂.st) (fun v s₃ g₃ => ?_) fun _ _ e => e) hsw)
      obtain ⟨k₃, r₃⟩ := g₃
      cases r₃
      have B₃ := B₂.keeps k₃
      have hcn : upd (upd c xj (.int j)) xl (.str x) xn = some (.own q) := by unfold upd; rw [if_neg hln, if_neg hjn]; exact hcx
      have hcj' : upd (upd c xj (.int j)) xl (.str x) xj = some (.int j) := by unfold upd; rw [if_neg hjl, if_pos rfl]
      refine wpAny_mono ((ev_name hcn hdn).run s₃ _ B₃.st) (fun v s₄ g₄ => ?_) fun _ _ e => e
      obtain ⟨k₄, r₄⟩ := g₄
      cases r₄
      have B₄ := B₃.keeps k₄
      refine wpAny_mono ((ev_name hcj' hdj).run s₄ _ B₄.st) (fun v s₅ g₅ => ?_) fun _ _ e => e
      obtain ⟨k₅, r₅⟩ := g₅
      cases r₅
      have B₅ := B₄.keeps k₅
      obtain ⟨_, ⟨old', hen₅⟩, hit₅, hl₅⟩ := B₅.ex
      refine wpAny_setItem_list hl₅ (by omega) (by omega) (by rw [esz]; omega) fun h₆ hl₆ hs₆ => ?_
      refine wpAny_execs_nil ⟨ls.length + 1 - (j + 1), by omega, j + 1, hlt, rfl, ?_⟩
      have oq := hoff q (by simp)
      rw [Int.toNat_natCast, strValues_set] at hl₆
      have B₆ := B₅.change (t := s₅.toks) (P' := fun h => LS q ((ls.take (j + 1)).map f ++ ls.drop (j + 1)) h ∧ (∃ old, IsEnum h en it ((j + 1 : Nat) : Int) old) ∧ h.IsListIter it q (j + 1)) G hq hn oq.1 oq.2 hs₆ (let ⟨o, e, _⟩ := hl₆; ⟨o, e⟩)
        ⟨⟨_, hl₆, by rw [List.map_set, el]; exact lsAt_step f ls j x hx⟩, ⟨old', (hs₆.2 en (Ne.symm hqe)).trans hen₅⟩, hit₅.at fun o e => (hs₆.2 it (Ne.symm hqi)).trans e⟩ (hst' (j + 1))
      refine B₆.weak fun y d hy => ?_
      unfold upd
      by_cases z : y = xl
      · rw [z, hcl] at hy; cases hy
      · rw [if_neg z]
        by_cases z : y = xj
        · rw [z, hcj] at hy; cases hy
        · rw [if_neg z]; exact hy
  · have hin : j = ls.length := by omega
    subst hin
    refine wpAny_pyNext_enum_end hh hen' hit' hl (by rw [Array.getElem?_eq_none (by rw [esz]; exact Nat.le_refl _)]) fun h₁ hs₁ => wpAny_execs_nil ?_
    have up : ∀ b o, b ≠ it → s'.heap.get? b = some o → h₁.get? b = some o := fun b o hb e => hs₁ b o hb e
    have hls : LS q (ls.map f) h₁ := ⟨l, hl.at fun o e => up q o hqi e, by rw [el]; simp⟩
    refine (after _ (((B'.more (fp' := [q]) (P' := LS q (ls.map f)) (fun b hb => B.off b hb) ⟨l, hl, by rw [el]; simp⟩ stab_ls).iter (t := s'.toks) G hoI ((hIs it (by simp)).1 _ hoI) hI1.1 hI1.2.1 hI1.2.2.1 up (fun z => absurd z hI1.2.2.2) hls stab_ls))).out

/-- _dedent -/
theorem fn_dedent {n : Nat} {ls : List Str} {i : Int} {y : Str} {ch : Nat} {r : List Str} {M : Nat} (h0 : 0 ≤ i) (hls : ls = (blk i ++ y) :: r) (hy : y.cps[0]? = some ch) (hc : ch ≠ 32) (hf : ∀ l ∈ ls, 10 ∉ l.cps.toList)
    (hM : ∀ l ∈ ls, l.length ≤ M) (hsz : ls.length * M + ls.length ≤ 1000000) (hM1 : M ≤ 100000) (hl : ls.length ≤ 100000) :
    FnC prog w (n + 1) 1 [.str (Txt.join "\n" ls)] (.str (Txt.join "\n" (ls.map fun l => Txt.slice l (some i) none))) := by
  refine fnc_plain rfl ["text"] (fun pm code doc vs hl => ?_) (by decide) rfl rfl rfl (by decide) (fun A X₀ s₀ L a' cd X s R G B => ?_)
  · match vs, hl with
    | [_], _ => rfl
  · have hne : ls ≠ [] := by rw [hls]; simp
    have hjl := join_len hM
    have hpl := parts_le (Txt.join "\n" ls)
    refine ex_split_own G B rfl (ev_name rfl) ev_str (by decide) (by rw [sizeLine_eq]; omega) (split_join hne hf) (by rw [sizeLine_eq]; omega) fun q s₁ X₁ hX₁ hn₁ B₁ => ?_
    have hq : X₁ q := (hX₁ q).mpr (.inr rfl)
    have hib : (i.toNat : Int) = i := Int.toNat_of_nonneg h0
    have e0 : (blk i ++ y).cps.toList = List.replicate i.toNat 32 ++ y.cps.toList := by rw [toList_app, blk_toList h0]
    have hy' : y.cps.toList[0]? = some ch := by simpa using hy
    refine ex_enum_find (x := blk i ++ y) (b := i.toNat) (ch := ch) G R.1 B₁ (fun b hb => by rw [List.mem_singleton.mp hb]; exact hq) rfl (fun s E B => ?_) rfl rfl rfl rfl rfl (by decide) (by decide) (fun k hk => ?_) ?_ hc fun s₂ B₂ => ?_
    · refine Subscript_ (wpAny_mono ((ev_name (x := "lines") (d := .own q) rfl).run s E B.st) (fun v₁ s₁ g₁ => ?_) fun _ _ e => e)
      obtain ⟨k₁, r₁⟩ := g₁
      cases r₁
      have B' := B.keeps k₁
      refine wpAny_mono (ev_int.run s₁ E B'.st) (fun v₁ s₂ g₂ => ?_) fun _ _ e => e
      obtain ⟨k₂, r₂⟩ := g₂
      cases r₂
      obtain ⟨l, hl', el⟩ := (B'.keeps k₂).ex
      rw [hls] at el
      cases l with
      | nil => simp at el
      | cons p l =>
        simp only [List.map_cons, List.cons.injEq] at el
        exact subTail hl'.typeIs slot_list_getitem.lookup (wpAny_getItem_list hl' (by decide) (by decide) (x := .str p.1 p.2) rfl ⟨keeps_trans k₁ k₂, p.2, by rw [el.1]⟩)
    · have : (blk i ++ y).cps.toList[k]? = some 32 := by
        rw [e0, List.getElem?_append_left (by simpa using hk)]; simp [hk]
      simpa using this
    · have : (blk i ++ y).cps.toList[i.toNat]? = some ch := by
        rw [e0, List.getElem?_append_right (by simp)]; simpa using hy'
      simpa using this
    · rw [hib] at B₂
      refine ex_enum_set (f := fun l => Txt.slice l (some i) none) G R.1 B₂ hq hn₁ rfl rfl rfl rfl rfl rfl (by decide) (by decide) (by decide) (by decide) (by decide) (by omega) (fun j x hx => ?_) (fun s₃ B₃ => ?_) rfl
      · exact ev_slice_str (l := some i) (u := none) (ev_name rfl) (ev_name rfl) trivial (by have := hM x hx; rw [sizeLine_eq]; omega)
      · have B₄ := B₃.freezeL (x := "lines") (X' := fun a => X₁ a ∧ a ≠ q) (fun a => Iff.rfl) hn₁ (by simp) rfl B₃.ex
        refine ex_return B₄ (ev_join ev_str (ev_name rfl) (joinOk_of (B := M) (fun z hz => ?_) (by rw [List.length_map]; omega)))
        obtain ⟨l, hl', rfl⟩ := List.mem_map.mp hz
        exact Nat.le_trans (Txt.slice_le l _ _) (hM l hl')
end
end Mine

namespace Mine

/-- rows gathered into parts: a row with a sign at place m begins one -/
def stp (m : Nat) (acc : List (List Str)) (r : Str) : List (List Str) := if r.cps[m]? = some 32 then acc.dropLast ++ [acc.getLast?.getD [] ++ [r]] else acc ++ [[r]]
theorem stp_bound {m : Nat} : ∀ (rows : List Str) (acc : List (List Str)) (n : Nat), acc.length ≤ n → (∀ g ∈ acc, g.length ≤ n) → (rows.foldl (stp m) acc).length ≤ n + rows.length ∧ ∀ g ∈ rows.foldl (stp m) acc, g.length ≤ n + rows.length
  | [], acc, n, h1, h2 => by simpa using ⟨h1, h2⟩
  | r :: rows, acc, n, h1, h2 => by
    have := stp_bound (m := m) rows (stp m acc r) (n + 1) ?_ ?_
    · simp only [List.foldl_cons, List.length_cons]
      exact ⟨by omega, fun g hg => by have := this.2 g hg; omega⟩
    · unfold stp
      split
      · simp; omega
      · simp; omega
    · intro g hg
      unfold stp at hg
      split at hg
      · rcases List.mem_append.mp hg with hg | hg
        · have := h2 g (List.dropLast_subset _ hg); omega
        · rw [List.mem_singleton.mp hg, List.length_append]
          have : (acc.getLast?.getD []).length ≤ n := by
            cases hl : acc.getLast? with
            | none => simp
            | some z => simpa using h2 z (List.mem_of_getLast? hl)
          simp; omega
      · rcases List.mem_append.mp hg with hg | hg
        · have := h2 g hg; omega
        · rw [List.mem_singleton.mp hg]; simp
theorem stp_ne {m : Nat} {acc : List (List Str)} {r : Str} : stp m acc r ≠ [] := by unfold stp; split <;> simp
theorem foldl_take {α β : Type} (f : β → α → β) (ls : List α) (i : Nat) (x : α) (b : β) (h : ls[i]? = some x) : (ls.take (i + 1)).foldl f b = f ((ls.take i).foldl f b) x := by
  rw [List.take_add_one, h, List.foldl_append]; rfl

section
variable {prog : Program} {w : World} {A : Around} {env : Env} {X : Addr → Prop} {c : Str → Option D} {s₀ : Shared} {X₀ : Addr → Prop} {fp : List Addr} {P : Heap → Prop}

abbrev Gs := List (Addr × List (Str × Tok))
def Gs.txt (gs : Gs) : List (List Str) := gs.map fun g => g.2.map (·.1)
/-- a list of lists of strs, all one's own -/
def Nest (q : Addr) (gs : Gs) (h : Heap) : Prop := h.PlainList q (gs.map fun g => Value.ref g.1).toArray ∧ ∀ g ∈ gs, h.PlainList g.1 (strValues g.2).toArray
theorem stab_nest {q : Addr} {gs : Gs} : Stab X (q :: gs.map (·.1)) (Nest q gs) := by
  rintro h h' ⟨h1, h2⟩ k f
  exact ⟨h1.at fun o e => k q (by simp) o e, fun g hg => (h2 g hg).at fun o e => k g.1 (List.mem_cons_of_mem _ (List.mem_map_of_mem hg)) o e⟩
theorem plain_inj {h : Heap} {a : Addr} {vs ws : Array Value} (x : h.PlainList a vs) (y : h.PlainList a ws) : vs = ws := by
  obtain ⟨n, e⟩ := x
  obtain ⟨n', e'⟩ := y
  rw [e] at e'; cases e'; rfl

theorem ex_cut_loop {s : Shared} {E : Value → Shared → Prop} {p1 p2 p3 p4 p5 p6 p7 p8 p9 a1 a2 a3 a4 a5 a6 b1 b2 b3 b4 b5 b6 b7 b8 : Pos} {k k2 : Nat} {rest : List Stmt} {Q : Flow → Shared → Prop} {rows : List Str} {m : Nat} {q : Addr}
    (G : Glb s₀.heap) (hh : A.handled = none) (B : Bd prog w s₀ X₀ env X [q] (Own prog w X q []) c s) (hq : X q) (hn : s₀.heap.get? q = none)
    (hcr : c "rows" = some (.lst (rows.map .str))) (hcm : c "margin" = some (.int m)) (hcp : c "parts" = some (.own q)) (hcw : c "row" = none) (hkw : env.kindOf "row" = some .local)
    (hch : ∀ r ∈ rows, ∃ ch, r.cps[m]? = some ch) (hfirst : ∀ r, rows[0]? = some r → r.cps[m]? ≠ some 32) (hz : rows.length ≤ 100000) (hm : m ≤ 100000)
    (after : ∀ s' X' gs, X' q → (∀ g ∈ gs, X' g.1 ∧ s₀.heap.get? g.1 = none ∧ g.1 ≠ q) → Gs.txt gs = rows.foldl (stp m) [] → Bd prog w s₀ X₀ env X' (q :: gs.map (·.1)) (Nest q gs) c s' → WP prog w A (execs rest env) Q E s')
    (hl1 : (a2.endLine == a5.line) = true := by rfl) (hl2 : (b5.endLine == b7.line) = true := by rfl) (hi : interactive env = false := by rfl) :
    WP prog w A (execs (.For (.Name "row" p1) (.Name "rows" p2) [.If (.Compare (.Subscript (.Name "row" p3) (.Name "margin" p4) p5) [.NotEq] [.Constant (.str " ") k p6] p7)
      [.Expr (.Call (.Attribute (.Name "parts" a1) "append" a2) [.List [.Name "row" a3] a4] [] a5) a6]
      [.Expr (.Call (.Attribute (.Subscript (.Name "parts" b1) (.UnaryOp .USub (.Constant (.int 1) k2 b2) b3) b4) "append" b5) [.Name "row" b6] [] b7) b8] p8] [] p9 :: rest) env) Q E s := by
  refine ⟨wpAny_execs_cons (wpAny_For (wpAny_mono ((ev_name hcr).run s E B.st) (fun v s₁ g => ?_) fun _ _ e => e))⟩
  obtain ⟨l, items, rfl, hl, qr, nxl⟩ := rp_list g.2
  have B₁ := B.keeps g.1
  obtain ⟨lr, e1, e2⟩ := rpa_strs qr
  have hitems : items = (strValues lr).toArray := by rw [← e1]
  subst hitems
  have hlr : lr.length = rows.length := by rw [← e2]; simp
  refine wpAny_pyIter_list hl ?_
  have hI := B₁.new (none_at_size (Nat.le_refl s₁.heap.objs.size))
  generalize hIt : s₁.heap.objs.size = It at *
  have Itn : s₁.heap.get? It = none := none_at_size (by omega)
  have lI : l ≠ It := fun z => by obtain ⟨o, e, _⟩ := hl; rw [z, Itn] at e; cases e
  have hql : q ≠ l := fun z => nxl (z ▸ hq)
  have hoq := B.off q (by simp)
  -- the invariant's frame
  have hstJ : ∀ (X' : Addr → Prop) (i : Nat) (gs : Gs), Stab X' (It :: l :: q :: gs.map (·.1)) (fun h => h.IsListIter It l i ∧ h.IsList l (strValues lr).toArray ∧ Nest q gs h) := fun X' i gs => by
    rintro h h' ⟨h1, h2, h3⟩ kk f
    exact ⟨h1.at fun o e => kk It (by simp) o e, h2.at fun o e => kk l (by simp) o e, (stab_nest (X := X')) _ _ h3 (fun b hb => kk b (List.mem_cons_of_mem _ (List.mem_cons_of_mem _ hb))) f⟩
  have ll : l ≠ env.locals := fun z => nxl (z ▸ B₁.loc)
  have lc : ∀ x, env.cells.lookup x ≠ some l := fun x z => nxl (B₁.cel x l z).1
  have start : Bd prog w s₀ X₀ env X (It :: l :: q :: ([] : Gs).map (·.1)) (fun h => h.IsListIter It l 0 ∧ h.IsList l (strValues lr).toArray ∧ Nest q [] h) c { s₁ with heap := s₁.heap.push { cls := .type "list_iterator", data := .fields #[.ref l, .int 0 0] } } := by
    have B₂ := B₁.keeps (keeps_push s₁ { cls := .type "list_iterator", data := .fields #[.ref l, .int 0 0] })
    refine B₂.more (fun b hb => ?_) ⟨⟨_, by rw [← hIt]; exact Heap.get?_push_size _ rfl, rfl, rfl⟩, hl.push _, ?_⟩ (hstJ X 0 [])
    · simp only [List.map_nil, List.mem_cons, List.not_mem_nil, or_false] at hb
      rcases hb with rfl | rfl | rfl
      · exact ⟨hI.2.1, hI.2.2.1⟩
      · exact ⟨ll, lc⟩
      · exact hoq
    · obtain ⟨vs, hv, rv⟩ := B₂.ex
      cases hvs : vs.toList with
      | cons a r => rw [hvs] at rv; cases rv
      | nil =>
        have : vs = #[] := Array.toList_inj.mp (by rw [hvs])
        subst this
        exact ⟨hv, fun g hg => by cases hg⟩
  refine codeAny_forLoop (fun n s' => ∃ i X' gs, i ≤ rows.length ∧ n = rows.length + 1 - i ∧ X' q ∧ ¬ X' It ∧ ¬ X' l ∧ (∀ g ∈ gs, X' g.1 ∧ s₀.heap.get? g.1 = none ∧ g.1 ≠ q) ∧ (gs.map (·.1)).Nodup ∧ Gs.txt gs = (rows.take i).foldl (stp m) [] ∧
    Bd prog w s₀ X₀ env X' (It :: l :: q :: gs.map (·.1)) (fun h => h.IsListIter It l i ∧ h.IsList l (strValues lr).toArray ∧ Nest q gs h) c s') ?_ (rows.length + 1) ⟨0, X, [], Nat.zero_le _, rfl, hq, hI.2.2.2, nxl, fun g hg => (by cases hg), List.nodup_nil, rfl, start⟩
  rintro n s' ⟨i, X', gs, hi', rfl, hq', nIt, nl', hgs, hnd, htx, B'⟩
  obtain ⟨hit, hl', hne⟩ := B'.ex
  obtain ⟨oI, hoI, hcI, hdI⟩ := id hit
  have ndc : ¬ DataC oI := by
    rintro (z | z | z) <;> (rw [hcI] at z; revert z; decide)
  by_cases hlt : i < rows.length
  · obtain ⟨r, hr⟩ : ∃ r, rows[i]? = some r := ⟨rows[i], by simp [hlt]⟩
    have hlrx : ∃ t, lr[i]? = some (r, t) := by
      have h1 : (lr.map (·.1))[i]? = some r := by rw [e2]; exact hr
      rw [List.getElem?_map] at h1
      cases h2 : lr[i]? with
      | none => rw [h2] at h1; cases h1
      | some p => rw [h2] at h1; simp at h1; exact ⟨p.2, by rw [← h1]⟩
    obtain ⟨t, hlt'⟩ := hlrx
    refine wpAny_pyNext_list_item hit hl' (x := .str r t) (by simp [strValues, hlt']) fun h₁ hit₁ hs₁ => ?_
    have up : ∀ b o, b ≠ It → s'.heap.get? b = some o → h₁.get? b = some o := fun b o hb e => hs₁.extBut b o hb e
    have hgI : ∀ g ∈ gs, g.1 ≠ It := fun g hg z => nIt (z ▸ (hgs g hg).1)
    have hqI : q ≠ It := fun z => nIt (z ▸ hq')
    have B₂ : Bd prog w s₀ X₀ env X' (It :: l :: q :: gs.map (·.1)) (fun h => h.IsListIter It l (i + 1) ∧ h.IsList l (strValues lr).toArray ∧ Nest q gs h) c { s' with heap := h₁ } :=
      B'.iter (t := s'.toks) G hoI ndc hI.1 hI.2.1 hI.2.2.1 up (fun z => absurd z nIt) ⟨hit₁, hl'.extBut hs₁.extBut lI, hne.1.extBut hs₁.extBut hqI, fun g hg => (hne.2 g hg).extBut hs₁.extBut (hgI g hg)⟩ (hstJ X' _ gs)
    refine wpAny_assign_Name (bd_store G B₂ hkw (.str r t) fun s₃ B₃ => ?_)
    obtain ⟨ch, hch'⟩ := hch r (List.mem_of_getElem? hr)
    have cm : upd c "row" (.str r) "margin" = some (.int m) := by unfold upd; rw [if_neg (by decide)]; exact hcm
    have cp : upd c "row" (.str r) "parts" = some (.own q) := by unfold upd; rw [if_neg (by decide)]; exact hcp
    have cr : upd c "row" (.str r) "row" = some (.str r) := by unfold upd; rw [if_pos rfl]
    have hwk : ∀ y d, c y = some d → upd c "row" (.str r) y = some d := fun y d hy => by
      unfold upd
      by_cases z : y = "row"
      · rw [z, hcw] at hy; cases hy
      · rw [if_neg z]; exact hy
    have hbd := stp_bound (m := m) (rows.take i) [] 0 (by simp) (fun g hg => by cases hg)
    rw [← htx] at hbd
    have hlen1 : gs.length ≤ i := by
      have := hbd.1
      simp [Gs.txt] at this; omega
    have hlen2 : ∀ g ∈ gs, g.2.length ≤ i := fun g hg => by
      have := hbd.2 (g.2.map (·.1)) (List.mem_map_of_mem (f := fun g : Addr × List (Str × Tok) => g.2.map (·.1)) hg)
      simp at this; omega
    have hcmp : EvB prog w A env X' (upd c "row" (.str r)) (.Compare (.Subscript (.Name "row" p3) (.Name "margin" p4) p5) [.NotEq] [.Constant (.str " ") k p6] p7) ((⟨#[ch]⟩ : Str) != " ") :=
      evb_cmp (ev_sub_str (ev_name cr) (ev_name cm) (by omega) (by omega) (by simpa using hch')) ev_str cmp_ne_str
    by_cases hcs : ch = 32
    · -- the last part grows
      have ht : ((⟨#[ch]⟩ : Str) != " ") = false := by rw [sp_eq, hcs]; simp
      rw [ht] at hcmp
      have hi0 : i ≠ 0 := fun z => by
        subst z
        exact hfirst r hr (by rw [hch', hcs])
      have hgne : gs ≠ [] := fun z => by
        obtain ⟨i', rfl⟩ : ∃ i', i = i' + 1 := ⟨i - 1, by omega⟩
        rw [z] at htx
        obtain ⟨r', hr'⟩ : ∃ r', rows[i']? = some r' := ⟨rows[i'], by simp [show i' < rows.length by omega]⟩
        rw [foldl_take _ _ _ _ _ hr'] at htx
        exact stp_ne htx.symm
      obtain ⟨ga, gl, hgl⟩ : ∃ ga gl, gs = ga ++ [gl] := ⟨gs.dropLast, gs.getLast hgne, (List.dropLast_concat_getLast hgne).symm⟩
      have hglm : gl ∈ gs := by rw [hgl]; simp
      refine (ex_if (rest := []) (Q := _) B₃ hcmp fun s₄ B₄ => ?_).out
      rw [if_neg Bool.false_ne_true]
      refine ⟨wpAny_execs_cons (wpAny_Expr (Call_method1 rfl (starEach_one rfl) hl2 (Subscript_ (wpAny_mono ((ev_name cp).run s₄ _ B₄.st) (fun v₁ s₅ g₅ => ?_) fun _ _ e => e))) hi rfl)⟩
      obtain ⟨k₅, r₅⟩ := g₅
      cases r₅
      have B₅ := B₄.keeps k₅
      refine wpAny_mono ((ev_neg ev_int).run s₅ _ B₅.st) (fun v₁ s₆ g₆ => ?_) fun _ _ e => e
      obtain ⟨k₆, r₆⟩ := g₆
      cases r₆
      have B₆ := B₅.keeps k₆
      have hN := B₆.ex.2.2
      have hsz : ((gs.map fun g => Value.ref g.1).toArray).size = gs.length := by simp
      have hgl2 : gs.length = ga.length + 1 := by rw [hgl]; simp
      refine subTail hN.1.isList.typeIs slot_list_getitem.lookup (wpAny_getItem_list_neg hN.1.isList (by decide) (by rw [hsz]; omega) (by decide) (x := .ref gl.1) ?_ ?_)
      · have : ((-1 : Int) + ((gs.map fun g => Value.ref g.1).toArray).size).toNat = ga.length := by rw [hsz]; omega
        rw [this, hgl]; simp
      · refine append_own (hN.2 gl hglm) (wpAny_mono ((ev_name cr).run s₆ _ B₆.st) (fun v s₇ g₇ => ?_) fun _ _ e => e)
        obtain ⟨k₇, r₇⟩ := g₇
        cases r₇ with
        | str _ t' =>
        have B₇ := B₆.keeps k₇
        obtain ⟨hit₇, hl₇, hN₇⟩ := B₇.ex
        refine ⟨_, hN₇.2 gl hglm, by have := hlen2 gl hglm; rw [sizeLine_eq]; simp [strValues]; omega, fun h₈ hp₈ hs₈ => ?_⟩
        have hxg := hgs gl hglm
        have og := B₇.off gl.1 (List.mem_cons_of_mem _ (List.mem_cons_of_mem _ (List.mem_cons_of_mem _ (List.mem_map_of_mem hglm))))
        have hmapeq : (ga ++ [(gl.1, gl.2 ++ [(r, t')])]).map (·.1) = gs.map (·.1) := by rw [hgl]; simp
        have hnda : ∀ g ∈ ga, g.1 ≠ gl.1 := fun g hg z => by
          rw [hgl, List.map_append, List.nodup_append] at hnd
          exact hnd.2.2 g.1 (List.mem_map_of_mem hg) gl.1 (by simp) z
        have B₈ := B₇.change (t := s₇.toks) (P' := fun h => h.IsListIter It l (i + 1) ∧ h.IsList l (strValues lr).toArray ∧ Nest q (ga ++ [(gl.1, gl.2 ++ [(r, t')])]) h) G hxg.1 hxg.2.1 og.1 og.2 hs₈ (let ⟨o, e⟩ := hp₈; ⟨_, e⟩)
          ⟨hit₇.at fun o e => (hs₈.2 It (Ne.symm (hgI gl hglm))).trans e, hl₇.at fun o e => (hs₈.2 l (fun z => nl' (z ▸ hxg.1))).trans e,
            ⟨by
              have e1 : ((ga ++ [(gl.1, gl.2 ++ [(r, t')])]).map fun g => Value.ref g.1) = gs.map fun g => Value.ref g.1 := by rw [hgl]; simp
              rw [e1]
              exact hN₇.1.at fun o e => (hs₈.2 q (Ne.symm hxg.2.2)).trans e, fun g hg => by
              rcases List.mem_append.mp hg with hg | hg
              · exact (hN₇.2 g (by rw [hgl]; exact List.mem_append.mpr (.inl hg))).at fun o e => (hs₈.2 g.1 (hnda g hg)).trans e
              · rw [List.mem_singleton.mp hg]
                have : (strValues gl.2).toArray.push (.str r t') = (strValues (gl.2 ++ [(r, t')])).toArray := by simp [strValues]
                rw [this] at hp₈; exact hp₈⟩⟩ (by rw [← hmapeq]; exact hstJ X' _ _)
        refine wpAny_execs_nil (ex_nil (Q := _) ⟨rows.length + 1 - (i + 1), by omega, i + 1, X', ga ++ [(gl.1, gl.2 ++ [(r, t')])], hlt, rfl, hq', nIt, nl', fun g hg => ?_, by rw [hmapeq]; exact hnd, ?_, by rw [hmapeq]; exact B₈.weak hwk⟩)
        · rcases List.mem_append.mp hg with hg | hg
          · exact hgs g (by rw [hgl]; exact List.mem_append.mpr (.inl hg))
          · rw [List.mem_singleton.mp hg]; exact hxg
        · rw [foldl_take _ _ _ _ _ hr, ← htx, hgl]
          unfold stp
          rw [if_pos (by rw [hch', hcs])]
          simp [Gs.txt]
    · -- a new part
      have ht : ((⟨#[ch]⟩ : Str) != " ") = true := by
        rw [sp_eq]; simp only [bne_iff_ne, ne_eq]
        intro z; injection z with z; simp at z; exact hcs z
      rw [ht] at hcmp
      refine (ex_if (rest := []) (Q := _) B₃ hcmp fun s₄ B₄ => ?_).out
      rw [if_pos rfl]
      refine ⟨wpAny_execs_cons (wpAny_Expr (Call_method1 rfl (starEach_one rfl) hl1 (wpAny_mono ((ev_name cp).run s₄ _ B₄.st) (fun v₁ s₅ g₅ => ?_) fun _ _ e => e)) hi rfl)⟩
      obtain ⟨k₅, r₅⟩ := g₅
      cases r₅
      have B₅ := B₄.keeps k₅
      refine append_own B₅.ex.2.2.1 (List_ (wpAny_items_cons (wpAny_mono ((ev_name cr).run s₅ _ B₅.st) (fun v s₆ g₆ => wpAny_items_nil ?_) fun _ _ e => e) (starEach_cons rfl)))
      obtain ⟨k₆, r₆⟩ := g₆
      cases r₆ with
      | str _ t' =>
      have B₆ := B₅.keeps k₆
      refine wpAny_newObj_type ?_ (by show (1 : Nat) ≤ sizeLine; rw [sizeLine_eq]; omega)
      obtain ⟨hit₆, hl₆, hN₆⟩ := B₆.ex
      have nw := B₆.new (none_at_size (Nat.le_refl s₆.heap.objs.size))
      generalize hpn : s₆.heap.objs.size = pn at *
      have pnn : s₆.heap.get? pn = none := none_at_size (by omega)
      have B₇ : Bd prog w s₀ X₀ env (fun a => X' a ∨ a = pn) (pn :: It :: l :: q :: gs.map (·.1)) (fun h => h.IsListIter It l (i + 1) ∧ h.IsList l (strValues lr).toArray ∧ Nest q gs h ∧ h.PlainList pn (strValues [(r, t')]).toArray) (upd c "row" (.str r)) { s₆ with heap := s₆.heap.push { cls := .type "list", data := .seq [Value.str r t'].toArray } } := by
        subst hpn
        refine B₆.fresh G rfl ⟨hit₆.at fun o e => Heap.get?_push_of_some _ e, hl₆.push _, (stab_nest (X := X')) _ _ hN₆ (fun b hb o e => Heap.get?_push_of_some _ e) (fun b o _ _ e => Heap.get?_push_of_some _ e), ⟨_, Heap.get?_push_size _ rfl⟩⟩ ?_
        rintro h h' ⟨h1, h2, h3, h4⟩ kk f
        have := hstJ (fun a => X' a ∨ a = s₆.heap.objs.size) (i + 1) gs h h' ⟨h1, h2, h3⟩ (fun b hb => kk b (List.mem_cons_of_mem _ hb)) f
        exact ⟨this.1, this.2.1, this.2.2, h4.at fun o e => kk _ (by simp) o e⟩
      obtain ⟨hit₇, hl₇, hN₇, hp₇⟩ := B₇.ex
      refine ⟨_, hN₇.1, by rw [sizeLine_eq]; simp; omega, fun h₈ hp₈ hs₈ => ?_⟩
      have oq := B₇.off q (by simp)
      have pl : pn ≠ l := fun z => by obtain ⟨o, e, _⟩ := hl₆; rw [← z, pnn] at e; cases e
      have pI : pn ≠ It := fun z => by obtain ⟨o, e, _⟩ := hit₆; rw [← z, pnn] at e; cases e
      have pq : pn ≠ q := fun z => nw.2.2.2 (z ▸ hq')
      have pg : ∀ g ∈ gs, g.1 ≠ pn := fun g hg z => nw.2.2.2 (z ▸ (hgs g hg).1)
      have hN₈ : Nest q (gs ++ [(pn, [(r, t')])]) h₈ := ⟨by
          have e1 : ((gs.map fun g => Value.ref g.1).toArray.push (.ref pn)) = ((gs ++ [(pn, [(r, t')])]).map fun g => Value.ref g.1).toArray := by simp
          rw [← e1]; exact hp₈, fun g hg => by
          rcases List.mem_append.mp hg with hg | hg
          · exact (hN₇.2 g hg).at fun o e => (hs₈.2 g.1 (hgs g hg).2.2).trans e
          · rw [List.mem_singleton.mp hg]; exact hp₇.at fun o e => (hs₈.2 pn pq).trans e⟩
      have hperm : ∀ b, b ∈ It :: l :: q :: (gs ++ [(pn, [(r, t')])]).map (·.1) → b ∈ pn :: It :: l :: q :: gs.map (·.1) := fun b hb => by
        simp only [List.map_append, List.map_cons, List.map_nil, List.mem_cons, List.mem_append, List.not_mem_nil, or_false] at hb ⊢
        rcases hb with h | h | h | h | h <;> simp [h]
      have hit₈ : h₈.IsListIter It l (i + 1) := hit₇.at fun o e => (hs₈.2 It (Ne.symm hqI)).trans e
      have hl₈ : h₈.IsList l (strValues lr).toArray := hl₇.at fun o e => (hs₈.2 l (Ne.symm hql)).trans e
      have B₈ := (B₇.change (t := s₆.toks) (P' := fun h => h.IsListIter It l (i + 1) ∧ h.IsList l (strValues lr).toArray ∧ Nest q (gs ++ [(pn, [(r, t')])]) h) G (.inl hq') hn oq.1 oq.2 hs₈ (let ⟨o, e⟩ := hp₈; ⟨_, e⟩)
          ⟨hit₈, hl₈, hN₈⟩ (fun h h' p kk f => hstJ (fun a => X' a ∨ a = pn) (i + 1) (gs ++ [(pn, [(r, t')])]) h h' p (fun b hb => kk b (hperm b hb)) f)).more (fp' := It :: l :: q :: (gs ++ [(pn, [(r, t')])]).map (·.1)) (fun b hb => B₇.off b (hperm b hb)) ⟨hit₈, hl₈, hN₈⟩ (hstJ _ _ _)
      refine wpAny_execs_nil (ex_nil (Q := _) ⟨rows.length + 1 - (i + 1), by omega, i + 1, fun a => X' a ∨ a = pn, gs ++ [(pn, [(r, t')])], hlt, rfl, .inl hq', fun z => z.elim nIt (Ne.symm pI), fun z => z.elim nl' (Ne.symm pl), fun g hg => ?_, ?_, ?_, B₈.weak hwk⟩)
      · rcases List.mem_append.mp hg with hg | hg
        · exact ⟨.inl (hgs g hg).1, (hgs g hg).2⟩
        · rw [List.mem_singleton.mp hg]; exact ⟨.inr rfl, nw.1, pq⟩
      · rw [List.map_append, List.nodup_append]
        refine ⟨hnd, by simp, fun a ha b hb => ?_⟩
        simp at hb
        obtain ⟨g, hg, rfl⟩ := List.mem_map.mp ha
        rw [hb]; exact pg g hg
      · rw [foldl_take _ _ _ _ _ hr, ← htx]
        unfold stp
        rw [if_neg (by rw [hch']; intro z; cases z; exact hcs rfl)]
        simp [Gs.txt]
  · have hin : i = rows.length := by omega
    subst hin
    have hlz : (strValues lr).toArray.size = rows.length := by simp [strValues, hlr]
    refine wpAny_pyNext_list_end hh hit hl' (by rw [Array.getElem?_eq_none (by rw [hlz]; exact Nat.le_refl _)]) fun h₁ hs₁ => wpAny_execs_nil ?_
    have up : ∀ b o, b ≠ It → s'.heap.get? b = some o → h₁.get? b = some o := fun b o hb e => hs₁ b o hb e
    have hN₁ : Nest q gs h₁ := ⟨hne.1.at fun o e => up q o (fun z => nIt (z ▸ hq')) e, fun g hg => (hne.2 g hg).at fun o e => up g.1 o (fun z => nIt (z ▸ (hgs g hg).1)) e⟩
    rw [List.take_length] at htx
    refine (after _ X' gs hq' hgs htx (((B'.more (fp' := q :: gs.map (·.1)) (P' := Nest q gs) (fun b hb => B'.off b (List.mem_cons_of_mem _ (List.mem_cons_of_mem _ hb))) hne stab_nest).iter (t := s'.toks) G hoI ndc hI.1 hI.2.1 hI.2.2.1 up (fun z => absurd z nIt) hN₁ stab_nest))).out
end
end Mine

namespace Mine

section
variable {prog : Program} {w : World} {A : Around} {env : Env} {X : Addr → Prop} {c : Str → Option D} {s₀ : Shared} {X₀ : Addr → Prop} {fp : List Addr} {P : Heap → Prop}

def encG (g : List Str) : D := .lst (g.map .str)
theorem nest_rpa {h : Heap} {X' : Addr → Prop} : ∀ (gs : Gs), (∀ g ∈ gs, ¬ X' g.1) → (∀ g ∈ gs, h.PlainList g.1 (strValues g.2).toArray) → RpA prog w (Gd h X') (gs.map fun g => Value.ref g.1) ((Gs.txt gs).map encG)
  | [], _, _ => .nil
  | g :: gs, hx, hp => by
    obtain ⟨n, e⟩ := hp g (by simp)
    refine .cons (.lst ⟨e, hx g (by simp)⟩ rfl rfl ?_) (nest_rpa gs (fun g hg => hx g (List.mem_cons_of_mem _ hg)) fun g hg => hp g (List.mem_cons_of_mem _ hg))
    have := strs_rpa (prog := prog) (w := w) (G := Gd h X') g.2
    simpa using this
theorem Bd.freezeN {s : Shared} {x : Str} {q : Addr} {gs : Gs} {X' : Addr → Prop} (B : Bd prog w s₀ X₀ env X (q :: gs.map (·.1)) (Nest q gs) c s) (hX : ∀ a, X' a ↔ X a ∧ a ≠ q ∧ ∀ g ∈ gs, a ≠ g.1) (hn : s₀.heap.get? q = none) (hgs : ∀ g ∈ gs, s₀.heap.get? g.1 = none) (hcx : c x = some (.own q)) :
    Bd prog w s₀ X₀ env X' [] (fun _ => True) (upd c x (.lst ((Gs.txt gs).map encG))) s := by
  have oq := B.off q (by simp)
  have og : ∀ g ∈ gs, _ := fun g hg => B.off g.1 (List.mem_cons_of_mem _ (List.mem_map_of_mem hg))
  obtain ⟨⟨n, e⟩, hp⟩ := B.ex
  have offR : ∀ {v : Value} {d : D}, Rp prog w (Gd s.heap X) v d → Rp prog w (Gd s.heap X') v d := fun r => r.off fun a ha => ((hX a).mp ha).1
  have new : ∀ a, X₀ a → ∀ b, s₀.heap.get? b = none → a ≠ b := fun a ha b hb z => by obtain ⟨o, e⟩ := B.x0 a ha; rw [z, hb] at e; cases e
  refine ⟨⟨B.st.fn, B.st.gl, B.st.glb, fun a xa => B.st.xb a ((hX a).mp xa).1, fun y d hy => ?_, B.st.cex⟩, B.kp, fun a ha => (hX a).mpr ⟨B.sub a ha, new a ha q hn, fun g hg => new a ha _ (hgs g hg)⟩, fun a ha => B.own a ((hX a).mp ha).1, (hX _).mpr ⟨B.loc, Ne.symm oq.1, fun g hg => Ne.symm (og g hg).1⟩, B.lnew, B.ns, fun y a ha => ?_, B.inj, trivial, fun b hb => (by cases hb), fun _ _ _ _ _ => trivial, B.x0⟩
  · unfold upd at hy
    by_cases z : y = x
    · subst z; rw [if_pos rfl] at hy; cases hy
      obtain ⟨u, hu, ru⟩ := B.st.vars y _ hcx
      cases ru
      refine ⟨_, hu, .lst ⟨e, fun hx => ((hX q).mp hx).2.1 rfl⟩ rfl rfl ?_⟩
      exact nest_rpa gs (fun g hg hx => ((hX _).mp hx).2.2 g hg rfl) hp
    · rw [if_neg z] at hy
      obtain ⟨u, hu, ru⟩ := B.st.vars y d hy
      exact ⟨u, hu, offR ru⟩
  · obtain ⟨h1, h2, h3, h4⟩ := B.cel y a ha
    exact ⟨(hX a).mpr ⟨h1, fun z => oq.2 y (z ▸ ha), fun g hg z => (og g hg).2 y (z ▸ ha)⟩, h2, h3, h4⟩

theorem encG_inj {h : Heap} {v : Value} {b b' : List Str} (r : Rp prog w (Gd h X) v (encG b)) (r' : Rp prog w (Gd h X) v (encG b')) : b = b' := by
  obtain ⟨a, vs, rfl, ⟨o, e, hc, n, hd⟩, q, _⟩ := rp_list r
  obtain ⟨a', vs', ea, ⟨o', e', hc', n', hd'⟩, q', _⟩ := rp_list r'
  cases ea
  rw [e] at e'; cases e'
  rw [hd] at hd'; cases hd'
  obtain ⟨l, h1, h2⟩ := rpa_strs q
  obtain ⟨l', h1', h2'⟩ := rpa_strs q'
  have : strValues l = strValues l' := h1.symm.trans h1'
  have hinj : l = l' := by
    unfold strValues at this
    exact (List.map_inj_right (fun p p' hp => by
      obtain ⟨a, b⟩ := p; obtain ⟨a', b'⟩ := p'
      injection hp with h1 h2
      simp at h1 h2
      rw [h1, h2])).mp this
  rw [← h2, ← h2', hinj]

/-- _law_cut, of no rows and of some -/
theorem fn_cut_nil {n : Nat} : FnC prog w (n + 1) 14 [.lst []] (.lst []) := by
  refine fnc_plain rfl ["rows"] (fun pm code doc vs hl => ?_) (by decide) rfl rfl rfl (by decide) (fun A X₀ s₀ L a' cd X s R G B => ?_)
  · match vs, hl with
    | [_], _ => rfl
  · exact ex_if_ret B (evb_not (evb_list (ds := []) (ev_name rfl) (by decide))) rfl fun s₁ B₁ => ex_return B₁ (ev_list evl_nil (by rw [sizeLine_eq]; simp))
theorem fn_cut {n : Nat} {rows : List Str} {m : Int} {y : Str} {ch : Nat} {r : List Str} {gs : List (List Str)} (h0 : 0 ≤ m) (hm : m ≤ 100000) (hrows : rows = (blk m ++ y) :: r) (hy : y.cps[0]? = some ch) (hc : ch ≠ 32)
    (hch : ∀ r ∈ rows, ∃ ch, r.cps[m.toNat]? = some ch) (hz : rows.length ≤ 100000) (hyl : y.length ≤ 100000) (hgs : rows.foldl (stp m.toNat) [] = gs) (hj : ∀ g ∈ gs, JoinOk "\n" g = true) :
    FnC prog w (n + 1) 14 [.lst (rows.map .str)] (.lst (gs.map fun g => .str (Txt.join "\n" g))) := by
  refine fnc_plain rfl ["rows"] (fun pm code doc vs hl => ?_) (by decide) rfl rfl rfl (by decide) (fun A X₀ s₀ L a' cd X s R G B => ?_)
  · match vs, hl with
    | [_], _ => rfl
  · have hlen : ((blk m ++ y).length : Int) = m + y.length := by rw [Str.length_append]; have := blk_length m h0; omega
    have e0 : (blk m ++ y).cps.toList = List.replicate m.toNat 32 ++ y.cps.toList := by rw [toList_app, blk_toList h0]
    have hy' : y.cps.toList[0]? = some ch := by simpa using hy
    have hrow0 : (rows.map D.str)[(0 : Int).toNat]? = some (.str (blk m ++ y)) := by rw [hrows]; rfl
    refine ex_if_no B (evb_not (evb_list (ds := rows.map .str) (ev_name rfl) (by rw [List.length_map]; omega))) (by rw [hrows]; rfl) fun s₁ B₁ => ?_
    have hev0 : ∀ {A : Around} {env : Env} {X : Addr → Prop} {c : Str → Option D} {p1 p2 p3 k}, c "rows" = some (.lst (rows.map .str)) → Ev prog w A env X c (.Subscript (.Name "rows" p1) (.Constant (.int 0) k p2) p3) (.str (blk m ++ y)) := fun h => ev_sub_list (ev_name h) ev_int (by decide) (by decide) hrow0
    have hsub : ((blk m ++ y).length : Int) - ((Txt.lstripChars (blk m ++ y) " ").length : Int) = (m.toNat : Int) := by
      rw [lstrip_blk h0 hy hc, hlen]; omega
    refine ex_assign (d := .int m.toNat) G B₁ rfl ?_ (fun s₂ B₂ => ?_)
    · rw [← hsub]
      refine ev_bin (ev_len_str rfl (hev0 rfl) (by omega)) (ev_len_str rfl (ev_lstrip (hev0 rfl) ev_str (by rw [sizeLine_eq]; omega)) ?_) op_sub_int
      rw [lstrip_blk h0 hy hc]; omega
    · refine ex_new_own G B₂ rfl fun q s₃ X₃ hX₃ hn₃ B₃ => ?_
      refine ex_cut_loop (rows := rows) (m := m.toNat) G R.1 B₃ ((hX₃ q).mpr (.inr rfl)) hn₃ rfl rfl rfl rfl rfl hch (fun r' hr' => ?_) hz (by omega) fun s₄ X₄ gs' hq₄ hgs₄ htx B₄ => ?_
      · rw [hrows] at hr'; simp at hr'; subst hr'
        have : (blk m ++ y).cps.toList[m.toNat]? = some ch := by
          rw [e0, List.getElem?_append_right (by simp)]; simpa using hy'
        have h2 : (blk m ++ y).cps[m.toNat]? = some ch := by simpa using this
        rw [h2]; intro z; cases z; exact hc rfl
      · have B₅ := B₄.freezeN (x := "parts") (X' := fun a => X₄ a ∧ a ≠ q ∧ ∀ g ∈ gs', a ≠ g.1) (fun a => Iff.rfl) hn₃ (fun g hg => (hgs₄ g hg).2.1) rfl
        rw [htx, hgs] at B₅
        have hbd := stp_bound (m := m.toNat) rows [] 0 (by simp) (fun g hg => by cases hg)
        rw [hgs] at hbd
        refine ex_return B₅ (ev_lcomp (bs := gs) (enc := encG) (res := fun g => .str (Txt.join "\n" g)) (frs := []) R.1 (ev_name rfl) (by rw [sizeLine_eq]; omega) (fun b => flat_str) (fun h v b b' => encG_inj) rfl (by decide) rfl (by decide) rfl (fun _ h => (by cases h)) (fun _ _ h => (by cases h)) (fun C b hb => ?_))
        exact ev_join ev_str (ev_name (d := encG b) rfl) (hj b hb)
end
end Mine

namespace Mine

def nameOkB (nm : Str) : Bool := match nm.cps[0]? with
  | some ch => ch != 32 && nm.cps.toList.all (fun c => c != 10 && decide (c < 128))
  | none => false
theorem name_ok {lv : List (Str × Int)} {nm : Str} {ps : List T} {v : Int} (h : nodeOk lv nm ps v) : nameOkB nm = true := by
  rcases h with ⟨a, b, _, h⟩ | ⟨a, _, rfl, _⟩ | ⟨_, h, hl⟩
  · rcases h with ⟨rfl, _⟩ | ⟨rfl, _⟩ | ⟨rfl, _⟩ <;> decide
  · decide
  · clear hl; revert h nm; decide
theorem nameOkB_iff {nm : Str} (h : nameOkB nm = true) : (∃ ch, nm.cps[0]? = some ch ∧ ch ≠ 32) ∧ (∀ c ∈ nm.cps.toList, c ≠ 10 ∧ c < 128) := by
  unfold nameOkB at h
  cases e : nm.cps[0]? with
  | none => rw [e] at h; cases h
  | some ch =>
    rw [e] at h
    simp only [Bool.and_eq_true, bne_iff_ne, List.all_eq_true, decide_eq_true_eq] at h
    exact ⟨⟨ch, rfl, h.1⟩, h.2⟩

theorem at_blk {m : Int} (h : 0 ≤ m) (x : Str) : (blk m ++ x).cps[m.toNat]? = x.cps[0]? := by
  have : (blk m ++ x).cps.toList[m.toNat]? = x.cps.toList[0]? := by
    rw [toList_app, blk_toList h, List.getElem?_append_right (by simp)]; simp
  simpa using this
theorem blk_zero {m : Int} (h : 1 ≤ m) (x : Str) : (blk m ++ x).cps[0]? = some 32 := by
  have : (blk m ++ x).cps.toList[0]? = some 32 := by
    rw [toList_app, blk_toList (by omega)]
    obtain ⟨k, hk⟩ : ∃ k, m.toNat = k + 1 := ⟨m.toNat - 1, by omega⟩
    rw [hk, List.replicate_succ]; rfl
  simpa using this
/-- every sign of a row is small and no line's end -/
def Plain (x : Str) : Prop := ∀ c ∈ x.cps.toList, c ≠ 10 ∧ c < 128
theorem plain_blk {m : Int} (h : 0 ≤ m) {x : Str} (hx : Plain x) : Plain (blk m ++ x) := by
  intro c hc
  rw [toList_app, blk_toList h] at hc
  rcases List.mem_append.mp hc with hc | hc
  · rw [(List.mem_replicate.mp hc).2]; decide
  · exact hx c hc
theorem plain_free {x : Str} (h : Plain x) : 10 ∉ x.cps.toList := fun hm => (h 10 hm).1 rfl

mutual
theorem plT_plain {lv : List (Str × Int)} : ∀ t : T, wfT lv t → ∀ x ∈ plT t, Plain x
  | .node nm m ps v, h, x, hx => by
    rw [wfT] at h
    rw [plT] at hx
    rcases List.mem_cons.mp hx with rfl | hx
    · exact (nameOkB_iff (name_ok h.2.2.2)).2
    · exact plTs_plain m h.1 ps h.2.2.1 x hx
theorem plTs_plain {lv : List (Str × Int)} : ∀ (m : Int), 1 ≤ m → ∀ ps : List T, wfTs lv ps → ∀ x ∈ plTs m ps, Plain x
  | m, h1, [], _, x, hx => by simp [plTs] at hx
  | m, h1, t :: r, h, x, hx => by
    rw [wfTs] at h
    rw [plTs] at hx
    rcases List.mem_append.mp hx with hx | hx
    · obtain ⟨y, hy, rfl⟩ := List.mem_map.mp hx
      exact plain_blk (by omega) (plT_plain t h.1 y hy)
    · exact plTs_plain m h1 r h.2 x hx
end
theorem plTs_in {m : Int} (h1 : 1 ≤ m) : ∀ (ps : List T), ∀ x ∈ plTs m ps, x.cps[0]? = some 32
  | [], x, hx => by simp [plTs] at hx
  | t :: r, x, hx => by
    rw [plTs] at hx
    rcases List.mem_append.mp hx with hx | hx
    · obtain ⟨y, hy, rfl⟩ := List.mem_map.mp hx
      exact blk_zero h1 y
    · exact plTs_in h1 r x hx

/-- a part's rows, set in -/
def setIn (m : Int) (t : T) : List Str := (plT t).map (blk m ++ ·)
theorem gather_tail {k : Nat} : ∀ (r : List Str) (acc : List (List Str)) (g : List Str), (∀ x ∈ r, x.cps[k]? = some 32) → r.foldl (stp k) (acc ++ [g]) = acc ++ [g ++ r]
  | [], acc, g, _ => by simp
  | x :: r, acc, g, h => by
    rw [List.foldl_cons]
    have : stp k (acc ++ [g]) x = acc ++ [g ++ [x]] := by
      unfold stp
      rw [if_pos (h x (by simp))]
      simp
    rw [this, gather_tail r acc (g ++ [x]) fun y hy => h y (List.mem_cons_of_mem _ hy)]
    simp
theorem gather_one {lv : List (Str × Int)} {m : Int} (h0 : 0 ≤ m) {t : T} (ht : wfT lv t) (acc : List (List Str)) : (setIn m t).foldl (stp m.toNat) acc = acc ++ [setIn m t] := by
  obtain ⟨nm, m', ps, v⟩ := t
  rw [wfT] at ht
  unfold setIn
  rw [plT, List.map_cons, List.foldl_cons]
  obtain ⟨⟨ch, hc, hne⟩, _⟩ := nameOkB_iff (name_ok ht.2.2.2)
  have : stp m.toNat acc (blk m ++ nm) = acc ++ [[blk m ++ nm]] := by
    unfold stp
    rw [if_neg (by rw [at_blk h0, hc]; intro z; cases z; exact hne rfl)]
  rw [this, gather_tail _ acc _ fun x hx => ?_]
  · simp
  · obtain ⟨y, hy, rfl⟩ := List.mem_map.mp hx
    rw [at_blk h0]; exact plTs_in ht.1 ps y hy
theorem gather {lv : List (Str × Int)} {m : Int} (h0 : 0 ≤ m) : ∀ (ps : List T), wfTs lv ps → ∀ acc, (plTs m ps).foldl (stp m.toNat) acc = acc ++ ps.map (setIn m)
  | [], _, acc => by simp [plTs]
  | t :: r, h, acc => by
    rw [wfTs] at h
    rw [plTs, List.foldl_append]
    have := gather_one h0 h.1 acc
    unfold setIn at this
    rw [this, gather h0 r h.2]
    simp [setIn]
theorem dedent_setIn {m : Int} (h0 : 0 ≤ m) (t : T) : ((setIn m t).map fun l => Txt.slice l (some m) none) = plT t := by
  unfold setIn
  rw [List.map_map]
  conv => rhs; rw [← List.map_id (plT t)]
  exact List.map_congr_left fun x _ => slice_blk h0 x

theorem blk_zero_app (x : Str) : blk 0 ++ x = x := by
  apply str_ext; rw [toList_app, blk_toList (by decide)]; rfl
theorem blk_add {a b : Int} (ha : 0 ≤ a) (hb : 0 ≤ b) (x : Str) : blk a ++ (blk b ++ x) = blk (a + b) ++ x := by
  apply str_ext
  rw [toList_app, toList_app, toList_app, blk_toList ha, blk_toList hb, blk_toList (by omega), ← List.append_assoc, List.replicate_append_replicate]
  congr 2; omega
mutual
theorem rows_plain {lv : List (Str × Int)} : ∀ (t : T) (b : Int), 0 ≤ b → wfT lv t → rowsT t b = (plT t).map (blk b ++ ·)
  | .node nm m ps v, b, hb, h => by
    rw [wfT] at h
    rw [rowsT, plT, List.map_cons, rowss_plain ps b m hb (by omega) h.2.2.1]
theorem rowss_plain {lv : List (Str × Int)} : ∀ (ps : List T) (b m : Int), 0 ≤ b → 0 ≤ m → wfTs lv ps → rowsTs ps (b + m) = (plTs m ps).map (blk b ++ ·)
  | [], b, m, hb, hm, h => by simp [rowsTs, plTs]
  | t :: r, b, m, hb, hm, h => by
    rw [wfTs] at h
    rw [rowsTs, plTs, List.map_append, rows_plain t (b + m) (by omega) h.1, rowss_plain r b m hb hm h.2, List.map_map]
    congr 1
    exact List.map_congr_left fun x _ => (blk_add hb hm x).symm
end
theorem lvOk_leaves (ns : List Int) : LvOk (leavesOf ns) := by
  have hl : leavesOf ns = [(keyAt 0, leafAt ns 0), (keyAt 1, leafAt ns 1), (keyAt 2, leafAt ns 2), (keyAt 3, leafAt ns 3), (keyAt 4, leafAt ns 4), (keyAt 5, leafAt ns 5)] := rfl
  have sm : ∀ i, (leafAt ns i).natAbs ≤ 500 := fun i => by
    unfold leafAt
    generalize (pickI ns (some i) none (some 6)).sum + firstAt i + 500 = z
    have h1 := Int.fmod_nonneg_of_pos z (b := 1000) (by decide)
    have h2 := Int.fmod_lt_of_pos z (b := 1000) (by decide)
    omega
  have al : ∀ i : Int, 0 ≤ i → i < 6 → (leavesOf ns).lookup (keyAt i) = some (leafAt ns i) := fun i h0 h1 => by
    rw [hl]
    rcases six h0 h1 with rfl | rfl | rfl | rfl | rfl | rfl <;> rfl
  refine ⟨fun i h0 h1 => ?_, fun k v hk => ?_⟩
  · unfold lkup; rw [al i h0 h1]; rfl
  · have : ∀ (l : List (Str × Int)), (∀ p ∈ l, p.2.natAbs ≤ 500) → l.lookup k = some v → v.natAbs ≤ 500 := by
      intro l
      induction l with
      | nil => intro _ h; cases h
      | cons p r ih =>
        intro h e
        rw [List.lookup_cons] at e
        cases hb : k == p.1 with
        | true => rw [hb] at e; cases e; exact h p (by simp)
        | false => rw [hb] at e; exact ih (fun q hq => h q (List.mem_cons_of_mem _ hq)) e
    refine this _ (fun p hp => ?_) hk
    rw [hl] at hp
    simp only [List.mem_cons, List.not_mem_nil, or_false] at hp
    rcases hp with rfl | rfl | rfl | rfl | rfl | rfl <;> exact sm _
end Mine

namespace Mine

section
variable {prog : Program} {w : World}

theorem setIn_bounds {lv : List (Str × Int)} {m : Int} (h1 : 1 ≤ m) (h3 : m ≤ 3) {t : T} (ht : wfT lv t) (hz : szT t ≤ 40) : (setIn m t).length ≤ 40 ∧ ∀ x ∈ setIn m t, x.length ≤ 200 := by
  have hs := plT_short t (wf_ok t ht)
  have hd := dp_le_sz t
  refine ⟨by unfold setIn; rw [List.length_map, plT_length]; exact hz, fun x hx => ?_⟩
  obtain ⟨y, hy, rfl⟩ := List.mem_map.mp hx
  have := hs y hy
  have e := blk_length m (by omega)
  rw [Str.length_append]; omega

/-- _law_cut of a formula's rows below its first -/
theorem fn_cut_T {n : Nat} {lv : List (Str × Int)} {m : Int} {ps : List T} (h1 : 1 ≤ m) (h3 : m ≤ 3) (hw : wfTs lv ps) (hz : szTs ps ≤ 40) : FnC prog w (n + 1) 14 [.lst ((plTs m ps).map .str)] (.lst (ps.map fun p => .str (Txt.join "\n" (setIn m p)))) := by
  cases ps with
  | nil => rw [plTs]; exact fn_cut_nil
  | cons p r =>
    have hw' := hw
    rw [wfTs] at hw'
    obtain ⟨nm, m', ps', v⟩ := p
    have hp := hw'.1
    rw [wfT] at hp
    obtain ⟨⟨ch, hc, hne⟩, _⟩ := nameOkB_iff (name_ok hp.2.2.2)
    have hrows : plTs m (.node nm m' ps' v :: r) = (blk m ++ nm) :: ((plTs m' ps').map (blk m ++ ·) ++ plTs m r) := by rw [plTs, plT]; rfl
    have hg := gather (m := m) (by omega) _ hw []
    rw [List.nil_append] at hg
    have := fn_cut (prog := prog) (w := w) (n := n) (rows := plTs m (.node nm m' ps' v :: r)) (m := m) (gs := (T.node nm m' ps' v :: r).map (setIn m)) (by omega) (by omega) hrows hc hne (fun x hx => ?_) (by rw [plTs_length]; omega) ?_ hg (fun g hg => ?_)
    · rw [List.map_map] at this
      exact this
    · -- a sign at place m
      have : ∀ (qs : List T), wfTs lv qs → ∀ x ∈ plTs m qs, ∃ ch, x.cps[m.toNat]? = some ch := by
        intro qs
        induction qs with
        | nil => intro _ x hx; simp [plTs] at hx
        | cons q qs ih =>
          intro hq x hx
          rw [wfTs] at hq
          rw [plTs] at hx
          rcases List.mem_append.mp hx with hx | hx
          · obtain ⟨y, hy, rfl⟩ := List.mem_map.mp hx
            rw [at_blk (by omega)]
            obtain ⟨nm, m', ps', v⟩ := q
            have hq1 := hq.1
            rw [wfT] at hq1
            rw [plT] at hy
            rcases List.mem_cons.mp hy with rfl | hy
            · obtain ⟨⟨ch, hc, _⟩, _⟩ := nameOkB_iff (name_ok hq1.2.2.2)
              exact ⟨ch, hc⟩
            · exact ⟨32, plTs_in hq1.1 ps' y hy⟩
          · exact ih hq.2 x hx
      exact this _ hw x hx
    · have := nodeOk_short hp.2.2.2
      omega
    · obtain ⟨p', hp', rfl⟩ := List.mem_map.mp hg
      have hwp := wfTs_mem hw p' hp'
      have hzp := szTs_mem p' hp'
      have hb := setIn_bounds h1 h3 hwp (by omega)
      refine joinOk_of (B := 200) hb.2 ?_
      have := Nat.mul_le_mul hb.1 (Nat.le_refl 200)
      omega
/-- _dedent of a part -/
theorem fn_dedent_T {n : Nat} {lv : List (Str × Int)} {m : Int} {t : T} (h1 : 1 ≤ m) (h3 : m ≤ 3) (hw : wfT lv t) (hz : szT t ≤ 40) : FnC prog w (n + 1) 1 [.str (Txt.join "\n" (setIn m t))] (.str (Txt.join "\n" (plT t))) := by
  have hb := setIn_bounds h1 h3 hw hz
  have hpl := plT_plain t hw
  have hf : ∀ l ∈ setIn m t, 10 ∉ l.cps.toList := fun l hl => by
    obtain ⟨y, hy, rfl⟩ := List.mem_map.mp hl
    exact plain_free (plain_blk (by omega) (hpl y hy))
  have hd := dedent_setIn (m := m) (by omega) t
  obtain ⟨nm, m', ps', v⟩ := t
  have hp := hw
  rw [wfT] at hp
  obtain ⟨⟨ch, hc, hne⟩, _⟩ := nameOkB_iff (name_ok hp.2.2.2)
  have hmul := Nat.mul_le_mul hb.1 (Nat.le_refl 200)
  have := fn_dedent (prog := prog) (w := w) (n := n) (ls := setIn m (.node nm m' ps' v)) (i := m) (y := nm) (ch := ch) (r := (plTs m' ps').map (blk m ++ ·)) (M := 200) (by omega) (by unfold setIn; rw [plT]; rfl) hc hne hf hb.2 (by omega) (by decide) (by omega)
  rw [hd] at this
  exact this

theorem upd_back {c : Str → Option D} {x p b : Str} {d d' e f : D} (hp : c p = none) (hb : c b = none) (hpx : ¬ p = x) (hbx : ¬ b = x) : ∀ y q, upd c x d y = some q → upd (upd (upd (upd c x d') p e) b f) x d y = some q := by
  intro y q h
  unfold upd at h ⊢
  by_cases h1 : y = x
  · rw [if_pos h1] at h ⊢; exact h
  · rw [if_neg h1] at h ⊢
    rw [if_neg (fun z => by rw [z, hb] at h; cases h), if_neg (fun z => by rw [z, hp] at h; cases h), if_neg h1]
    exact h

/-- _law_read -/
theorem fn_read {lv : List (Str × Int)} : ∀ (n : Nat) (t : T), dpT t ≤ n → wfT lv t → szT t ≤ 40 → FnC prog w (n + 2) 16 [.str (Txt.join "\n" (plT t)), .tab lv] (.lst ((dueT t).map pairD)) := by
  intro n
  induction n with
  | zero => intro t h; cases t; rw [dpT] at h; omega
  | succ n ih =>
    intro t hdp hw hsz
    have hok := wf_ok t hw
    have hshort := plT_short t hok
    have hlen := plT_length t
    have hdz := dp_le_sz t
    have hpl := plT_plain t hw
    obtain ⟨nm, m, ps, v⟩ := t
    have hB : ∀ y ∈ plT (.node nm m ps v), y.length ≤ 120 := fun y hy => by have := hshort y hy; omega
    have hjl := join_len hB
    have hpp := parts_le (Txt.join "\n" (plT (.node nm m ps v)))
    have hmul := Nat.mul_le_mul (show (plT (.node nm m ps v)).length ≤ 40 by omega) (Nat.le_refl 120)
    have hspl : Txt.split (Txt.join "\n" (plT (.node nm m ps v))) "\n" = plT (.node nm m ps v) := split_join (by rw [plT]; simp) fun l hl => plain_free (hpl l hl)
    rw [wfT] at hw
    rw [dpT] at hdp
    rw [szT] at hsz
    refine fnc_plain rfl ["text", "leaves"] (fun pm code doc vs hl => ?_) (by decide) rfl rfl rfl (by decide) (fun A X₀ s₀ L a' cd X s R G B => ?_)
    · match vs, hl with
      | [_, _], _ => rfl
    refine ex_assign G B rfl (ev_split (ev_name rfl) ev_str (by decide) (by rw [sizeLine_eq]; omega) hspl (by rw [sizeLine_eq]; omega)) (fun s₁ B₁ => ?_)
    refine ex_new_own G B₁ rfl fun q s₂ X₂ hX₂ hn₂ B₂ => ?_
    have hq : X₂ q := (hX₂ q).mpr (.inr rfl)
    refine ex_assign G B₂ rfl (ev_list evl_nil (by rw [sizeLine_eq]; simp)) (fun s₃ B₃ => ?_)
    have hrow : (plT (.node nm m ps v)).map D.str = .str nm :: (plTs m ps).map .str := by rw [plT]; rfl
    refine ex_for (fun i => upd _ "told" (.lst ((dueTs (ps.take i)).map pairD))) (fun i => Own prog w X₂ q ((ps.take i).map fun p => .int p.val)) G R.1 B₃ (fun b hb => by rw [List.mem_singleton.mp hb]; exact hq) (fun _ => stab_own) rfl (ds := ps.map fun p => .str (Txt.join "\n" (setIn m p)))
      (ev_call (fn_cut_T (n := n) hw.1 hw.2.1 hw.2.2.1 (by omega)) (rm_mono R (by omega)) rfl rfl (evl_cons (ev_cast (ev_slice_list (l := some 1) (u := none) (k := none) (ev_name rfl) ev_int trivial trivial (by decide) (by rw [sizeLine_eq, List.length_map]; omega)) (by rw [hrow]; exact congrArg D.lst (pickD_from _ 1))) evl_nil)) (fun y d h => h) (fun i d fp₂ P₂ s E hd hf hst B₄ => ?_) (fun s₄ B₄ => ?_)
    · rw [List.getElem?_map] at hd
      cases hp : ps[i]? with
      | none => rw [hp] at hd; cases hd
      | some p =>
        rw [hp] at hd
        cases hd
        have hm := List.mem_of_getElem? hp
        have e1 : ps.take (i + 1) = ps.take i ++ [p] := by simp [List.take_add_one, hp]
        have e2 : dueTs (ps.take (i + 1)) = dueTs (ps.take i) ++ dueT p := by
          rw [e1, dueTs_append]; simp [dueTs]
        have e3 : ((ps.take (i + 1)).map fun p : T => D.int p.val) = ((ps.take i).map fun p : T => D.int p.val) ++ [.int p.val] := by rw [e1]; simp
        have l1 := dueTs_length (ps.take i)
        have l2 := dueT_length p
        have l3 := szTs_take ps (i + 1)
        rw [e1, szTs_append] at l3
        simp only [szTs] at l3
        have wp := wfTs_mem hw.2.2.1 p hm
        have dpp := dpTs_mem p hm
        have szp := szTs_mem p hm
        refine ex_assign G B₄ rfl (ev_call (ih p (by omega) wp (by omega)) (rm_mono R (by omega)) rfl rfl (evl_cons (ev_call (fn_dedent_T (n := n) hw.1 hw.2.1 wp (by omega)) (rm_mono R (by omega)) rfl rfl (evl_cons (ev_name rfl) evl_nil)) (evl_cons (ev_name rfl) evl_nil))) (fun s₅ B₅ => ?_)
        have hd0 : ((dueT p).map pairD)[(0 : Int).toNat]? = some (.tup [.str (Txt.join "\n" (plT p)), .int p.val]) := by
          cases p; rw [dueT]; rfl
        have hqf : q ∉ fp₂ := fun z => hf q z (by simp)
        refine ex_append (d := .int p.val) G B₅ hq hn₂ (by simp) rfl (ev_sub_tup (ev_sub_list (ev_name rfl) ev_int (by decide) (by decide) hd0) ev_int (by decide) (by decide) rfl) (by rw [sizeLine_eq, List.length_map, List.length_take]; have := len_le_sz ps; omega) (stab_and stab_own hst)
          (fun h h' hP hs => hst h h' hP (fun b hb o e => (hs.2 b (fun z => hqf (z ▸ hb))).trans e) fun b o _ nx e => (hs.2 b (fun z => nx (z ▸ hq))).trans e) rfl (fun s₆ B₆ => ?_)
        refine ex_assign G B₆ rfl (ev_bin (ev_name rfl) (ev_name rfl) (op_add_list (by rw [sizeLine_eq]; simp only [List.length_map]; omega))) (fun s₇ B₇ => ?_)
        rw [← e3] at B₇
        refine ex_nil ⟨rfl, B₇.weak fun y q h => ?_⟩
        rw [e2] at h
        rw [← List.map_append]
        exact upd_back rfl rfl (by decide) (by decide) y q h
    · rw [List.length_map, List.take_length] at B₄
      have B₅ := B₄.freeze (x := "values") (X' := fun a => X₂ a ∧ a ≠ q) (fun a => Iff.rfl) hn₂ (by simp) rfl B₄.ex
      have l1 := dueTs_length ps
      rw [dueT]
      refine ex_return B₅ (ev_bin (ev_list (evl_cons (ev_tup (evl_cons (ev_name rfl) (evl_cons (ev_call (fn_worked (n := n) hw.2.2.2) R rfl rfl (evl_cons (ev_sub_list (ev_name rfl) ev_int (by decide) (by decide) (by rw [hrow]; rfl)) (evl_cons (ev_name rfl) (evl_cons (ev_name rfl) evl_nil)))) evl_nil)) (by rw [sizeLine_eq]; simp)) evl_nil) (by rw [sizeLine_eq]; simp)) (ev_name rfl) (op_add_list (by rw [sizeLine_eq]; simp only [List.length_map, List.length_cons, List.length_nil]; omega)))
end
end Mine

namespace Mine

theorem mem_jl {s c : Nat} : ∀ {L : List (List Nat)}, c ∈ jl s L → c = s ∨ ∃ l ∈ L, c ∈ l
  | [], h => by simp [jl] at h
  | [x], h => .inr ⟨x, by simp, by simpa [jl] using h⟩
  | x :: y :: r, h => by
    rw [jl] at h
    rcases List.mem_append.mp h with h | h
    · exact .inr ⟨x, by simp, h⟩
    · rcases List.mem_cons.mp h with h | h
      · exact .inl h
      · rcases mem_jl h with h | ⟨l, hl, hc⟩
        · exact .inl h
        · exact .inr ⟨l, List.mem_cons_of_mem _ hl, hc⟩
theorem join_ok {ls : List Str} (h : ∀ l ∈ ls, Plain l) : PyData.strOk (Txt.join "\n" ls) = true := by
  have e : Txt.join ("\n" : Str) ls = Str.join "\n" ls := StrLaws.glued_eq_join _ _
  rw [e, nl_eq]
  have hl := join_toList 10 ls
  unfold PyData.strOk
  rw [← Array.all_toList, hl, List.all_eq_true]
  intro c hc
  rw [decide_eq_true_eq]
  rcases mem_jl hc with rfl | ⟨l, hl, hc⟩
  · decide
  · obtain ⟨x, hx, rfl⟩ := List.mem_map.mp hl
    have := (h x hx c hc).2
    omega
mutual
theorem due_ok {lv : List (Str × Int)} : ∀ t : T, wfT lv t → ∀ p ∈ dueT t, PyData.strOk p.1 = true
  | .node nm m ps v, h, p, hp => by
    have hpl := plT_plain _ h
    rw [wfT] at h
    rw [dueT] at hp
    rcases List.mem_cons.mp hp with rfl | hp
    · exact join_ok hpl
    · exact dues_ok ps h.2.2.1 p hp
theorem dues_ok {lv : List (Str × Int)} : ∀ ps : List T, wfTs lv ps → ∀ p ∈ dueTs ps, PyData.strOk p.1 = true
  | [], _, p, hp => by simp [dueTs] at hp
  | t :: r, h, p, hp => by
    rw [wfTs] at h
    rw [dueTs] at hp
    rcases List.mem_append.mp hp with hp | hp
    · exact due_ok t h.1 p hp
    · exact dues_ok r h.2 p hp
end

section
variable {prog : Program} {w : World} {A : Around} {X : Addr → Prop}
def pairP (p : Str × Int) : PyData := .tuple [.str p.1, .int p.2]
theorem pairs_read {h : Heap} : ∀ {ps : List (Str × Int)} {vs : List Value}, RpA prog w (Gd h X) vs (ps.map pairD) → ∃ as, ReadsAll h vs (ps.map pairP) as
  | [], vs, r => by cases r; exact ⟨_, .nil⟩
  | p :: ps, vs, r => by
    cases r with
    | cons r1 r2 =>
      obtain ⟨bs, q⟩ := pairs_read r2
      obtain ⟨a, us, rfl, ⟨o, e, hc, n, hd⟩, ra⟩ := rp_tup r1
      have : ∃ t u, us.toList = [.str p.1 t, .int p.2 u] := by
        generalize us.toList = l at ra
        cases ra with
        | cons x1 y1 => cases y1 with
          | cons x2 y2 => cases y2; cases x1; cases x2; exact ⟨_, _, rfl⟩
      obtain ⟨t, u, hu⟩ := this
      have hr : ReadsAll h us.toList [.str p.1, .int p.2] ([] ++ ([] ++ [])) := by
        rw [hu]
        exact .cons (.str _ _) (.cons (.int _ _) .nil)
      exact ⟨_, .cons (.tuple (xs := [.str p.1, .int p.2]) e hc hd hr) q⟩
theorem pairs_eqv : ∀ ps : List (Str × Int), PyData.eqvAll (ps.map pairP) (ps.map pairP) = true
  | [] => by simp [PyData.eqvAll]
  | p :: ps => by
    rw [List.map_cons, PyData.eqvAll, pairs_eqv ps]
    simp [pairP, PyData.eqv, PyData.eqvAll]
theorem pairs_lay : ∀ ps : List (Str × Int), (∀ p ∈ ps, PyData.strOk p.1 = true) → PyData.canLayAll0 (ps.map pairP) = true ∧ PyData.depthAll (ps.map pairP) ≤ 1
  | [], _ => by simp [PyData.canLayAll0, PyData.depthAll]
  | p :: ps, h => by
    have ih := pairs_lay ps fun q hq => h q (List.mem_cons_of_mem _ hq)
    have hp := h p (by simp)
    rw [List.map_cons, PyData.canLayAll0, PyData.depthAll, ih.1]
    refine ⟨?_, ?_⟩
    · simp [pairP, PyData.canLay0, PyData.canLayAll0, hp]
    · have : PyData.depth (pairP p) = 1 := by simp [pairP, PyData.depth, PyData.depthAll]
      rw [this]; omega
theorem cmp_eq_pairs {ps : List (Str × Int)} (h : ∀ p ∈ ps, PyData.strOk p.1 = true) (hu : A.units + 64 < cLine) : Cmp prog w A X .Eq (.lst (ps.map pairD)) (.lst (ps.map pairD)) true := by
  intro s E v₁ v₂ r₁ r₂
  obtain ⟨a, vs, rfl, ⟨o, e, hc, n, hd⟩, q, _⟩ := rp_list r₁
  obtain ⟨a', vs', rfl, ⟨o', e', hc', n', hd'⟩, q', _⟩ := rp_list r₂
  obtain ⟨as, ra⟩ := pairs_read q
  obtain ⟨bs, rb⟩ := pairs_read q'
  have hl := pairs_lay ps h
  have hs : SeqAt.shaped (.list (ps.map pairP)) = true := by
    unfold SeqAt.shaped
    rw [Bool.and_eq_true, decide_eq_true_eq]
    exact ⟨by rw [PyData.canLay0]; exact hl.1, by rw [PyData.depth]; omega⟩
  refine eq_dataH (reads_list_at e hc hd ra) (reads_list_at e' hc' hd' rb) hs hs hu ⟨?_, keeps_refl s⟩
  rw [PyData.eqv, pairs_eqv]

/-- law -/
theorem fn_law {ns : List Int} (hl : ns.length ≤ 63) : FnC prog w 50 17 [.lst (ns.map .int)] (.bool true) := by
  obtain ⟨f, hw, hz, hform⟩ := fn_formula (prog := prog) (w := w) (n := 0) (lvOk_leaves ns) hl
  have hok := wf_ok f hw
  have hdz := dp_le_sz f
  have hb0 : 0 ≤ ((ns.length : Int).fmod 4) := Int.fmod_nonneg_of_pos _ (by decide)
  have hb4 : ((ns.length : Int).fmod 4) < 4 := Int.fmod_lt_of_pos _ (by decide)
  generalize hbl : (ns.length : Int).fmod 4 + 1 = b at *
  have hb : 1 ≤ b ∧ b ≤ 4 := by omega
  have hrp := rows_plain f b (by omega) hw
  have hpl := plT_plain f hw
  have hshort := plT_short f hok
  have hlen := plT_length f
  -- the whole text's rows
  have hdots : (Txt.mul "." (b + 1)).cps.toList = List.replicate (b + 1).toNat 46 := by rw [dot_eq]; exact mul_toList (by omega)
  have hdl : (Txt.mul "." (b + 1)).length ≤ 200 := by rw [← len_toList, hdots, List.length_replicate]; omega
  have hM : ∀ x ∈ rowsT f b ++ [Txt.mul "." (b + 1)], x.length ≤ 200 := fun x hx => by
    rcases List.mem_append.mp hx with hx | hx
    · rw [hrp] at hx
      obtain ⟨y, hy, rfl⟩ := List.mem_map.mp hx
      have := hshort y hy
      have e := blk_length b (by omega)
      rw [Str.length_append]; omega
    · rw [List.mem_singleton.mp hx]; exact hdl
  have hln : (rowsT f b ++ [Txt.mul "." (b + 1)]).length ≤ 41 := by rw [List.length_append, rowsT_length]; simp; omega
  have hmul := Nat.mul_le_mul hln (Nat.le_refl 200)
  have hfree : ∀ x ∈ rowsT f b ++ [Txt.mul "." (b + 1)], 10 ∉ x.cps.toList := fun x hx => by
    rcases List.mem_append.mp hx with hx | hx
    · rw [hrp] at hx
      obtain ⟨y, hy, rfl⟩ := List.mem_map.mp hx
      exact plain_free (plain_blk (by omega) (hpl y hy))
    · rw [List.mem_singleton.mp hx, hdots]
      intro hm; have := (List.mem_replicate.mp hm).2; revert this; decide
  have hded : ((rowsT f b ++ [Txt.mul "." (b + 1)]).map fun l => Txt.slice l (some b) none) = plT f ++ [(".": Str)] := by
    rw [List.map_append, hrp]
    have := dedent_setIn (m := b) (by omega) f
    unfold setIn at this
    rw [this, List.map_singleton, slice_dots (by omega)]
  have hne : plT f ≠ [] := by cases f; rw [plT]; simp
  have hjoin : Txt.join "\n" (plT f ++ [(".": Str)]) = Txt.join "\n" (plT f) ++ ("\n." : Str) := by
    rw [join_snoc hne, Str.append_assoc]; rfl
  have hdfn : FnC prog w 49 1 [.str (Txt.join "\n" (rowsT f b ++ [Txt.mul "." (b + 1)]))] (.str (Txt.join "\n" (plT f) ++ ("\n." : Str))) := by
    obtain ⟨nm, m', ps', v⟩ := f
    have hp := hw
    rw [wfT] at hp
    obtain ⟨⟨ch, hc, hne'⟩, _⟩ := nameOkB_iff (name_ok hp.2.2.2)
    have := fn_dedent (prog := prog) (w := w) (n := 48) (ls := rowsT (.node nm m' ps' v) b ++ [Txt.mul "." (b + 1)]) (i := b) (y := nm) (ch := ch) (r := rowsTs ps' (b + m') ++ [Txt.mul "." (b + 1)]) (M := 200) (by omega) (by rw [rowsT]; rfl) hc hne' hfree hM (by omega) (by decide) (by omega)
    rw [hded, hjoin] at this
    exact this
  have hjl := join_len (ls := plT f) (B := 200) (fun y hy => by have := hshort y hy; omega)
  have hmul2 := Nat.mul_le_mul (show (plT f).length ≤ 40 by omega) (Nat.le_refl 200)
  have h2 : (Str.length "\n.") = 2 := by decide
  have hwl : (Txt.join "\n" (plT f) ++ ("\n." : Str)).length ≤ 10000 := by rw [Str.length_append, h2]; omega
  have hdue0 : ((dueT f).map pairD)[(0 : Int).toNat]? = some (.tup [.str (Txt.join "\n" (plT f)), .int f.val]) := by
    cases f; rw [dueT]; rfl
  refine fnc_plain rfl ["script"] (fun pm code doc vs hl => ?_) (by decide) rfl rfl rfl (by decide) (fun A X₀ s₀ L a' cd X s R G B => ?_)
  · match vs, hl with
    | [_], _ => rfl
  refine ex_assign G B rfl (ev_call (fn_leaves (n := 0) hl) (rm_mono R (by omega)) rfl rfl (evl_cons (ev_name rfl) evl_nil)) (fun s₁ B₁ => ?_)
  refine ex_assign G B₁ rfl (ev_call hform (rm_mono R (by omega)) rfl rfl (evl_cons (ev_name rfl) (evl_cons (ev_name rfl) evl_nil))) (fun s₂ B₂ => ?_)
  refine ex_assign G B₂ rfl (ev_call (fn_due 40 f (by omega) hok (by omega) (by omega)) (rm_mono R (by omega)) rfl rfl (evl_cons (ev_name rfl) evl_nil)) (fun s₃ B₃ => ?_)
  refine ex_assign (d := .int b) G B₃ rfl (ev_cast (ev_bin (ev_bin (ev_len_list (ds := ns.map .int) rfl (ev_name rfl) (by rw [List.length_map]; omega)) ev_int (op_mod_int (by decide))) ev_int op_add_int) (by rw [List.length_map]; exact congrArg D.int hbl)) (fun s₄ B₄ => ?_)
  refine ex_assign (d := .lst ((rowsT f b ++ [Txt.mul "." (b + 1)]).map .str)) G B₄ rfl (ev_cast (ev_bin (ev_call (fn_rows 40 f b (by omega) hok (by omega) (by omega) (by omega)) (rm_mono R (by omega)) rfl rfl (evl_cons (ev_name rfl) (evl_cons (ev_name rfl) evl_nil)))
    (ev_list (evl_cons (ev_bin ev_str (ev_bin (ev_name rfl) ev_int op_add_int) (op_mul_str (mulOk_small (by decide) (by omega) (by omega)))) evl_nil) (by rw [sizeLine_eq]; simp)) (op_add_list (by rw [sizeLine_eq, List.length_map, rowsT_length]; simp; omega))) (by rw [List.map_append]; rfl)) (fun s₅ B₅ => ?_)
  refine ex_assign G B₅ rfl (ev_call hdfn R rfl rfl (evl_cons (ev_join ev_str (ev_name rfl) (joinOk_of (B := 200) hM (by omega))) evl_nil)) (fun s₆ B₆ => ?_)
  refine ex_return B₆ (ev_and_true (ev_cast (ev_cmp (ev_name rfl) (ev_bin (ev_sub_tup (ev_sub_list (ev_name rfl) ev_int (by decide) (by decide) hdue0) ev_int (by decide) (by decide) rfl) ev_str (op_add_str (by rw [sizeLine_eq, h2]; omega))) cmp_eq_str) (by simp)) ?_)
  refine ev_cmp (ev_call (fn_read 40 f (by omega) hw (by omega)) (rm_mono R (by omega)) rfl rfl (evl_cons (ev_cast (ev_slice_str (l := none) (u := some (-2)) (ev_name rfl) trivial (ev_neg ev_int) (by rw [sizeLine_eq]; omega)) (congrArg D.str (slice_but2 _ _ h2))) (evl_cons (ev_name rfl) evl_nil))) (ev_name rfl) (cmp_eq_pairs (due_ok f hw) (by have := R.2.2; omega))
end
end Mine

namespace Mine
theorem fnAt_lt {k : Nat} {q} (h : fnAt k = some q) : k < 18 := by
  rcases Nat.lt_or_ge k 18 with h' | h'
  · exact h'
  · have e : PySem.Challenge.pw_nb0012_01.main.body.length = 18 := rfl
    unfold fnAt at h
    rw [List.getElem?_eq_none (by rw [e]; exact h')] at h
    cases h
/-- what the top leaves behind is what the layer asks -/
theorem glb_top {p : Program} {loose : List Str} {mean : ExcName → Option Value} {mg mb : Str → Option Value} {h : Heap} (T : Top p loose mean mg mb h)
    (hr : ((recsOf p).map fun d => (d.name, d.params, d.body, d.scope)) = (List.range 18).filterMap fnAt)
    (hall : ∀ x ∈ (["len", "sum", "min", "range", "enumerate"] : List Str), x ∉ startupNames ∧ x ∉ loose ∧ x ∉ (recsOf p).map (·.name) ∧ x ∉ (litsOf p).map (·.1) ∧ x ∉ (clssOf p loose).map (·.name) ∧ x ≠ "__name__") : GlbM mg mb h := by
  refine ⟨T.g, T.b, T.nolimit, fun x hx => ?_, fun k n p b sc hf => ?_⟩
  · obtain ⟨h1, h2, h3, h4, h5, h6⟩ := hall x hx
    exact ⟨T.free x h1 h2 h3 h4 h5, T.builtins x h6⟩
  · have hm : (n, p, b, sc) ∈ (List.range 18).filterMap fnAt := List.mem_filterMap.mpr ⟨k, List.mem_range.mpr (fnAt_lt hf), hf⟩
    rw [← hr] at hm
    obtain ⟨d, hd, e⟩ := List.mem_map.mp hm
    cases e
    exact T.fn d hd
theorem rm_caller : Rm 50 callerA := by
  refine ⟨rfl, ?_, ?_⟩ <;> decide +kernel
end Mine

set_option maxHeartbeats 8000000 in
theorem PySem.Challenge.cw_nb0012_01_holds : PySem.Challenge.rw_nb0012_01.Holds := by
  w_on
  o_law
  k_head
  (case hw => w_witness2)
  intro w s₀ s₁ mg mb G Y fa o pm cd doc dV kV ho hd hcd hD hmg hg args vals as hpre hlay hrd hwl hlo
  refine Ground.open G ?_
  intro T B D TE TW
  have hmg' : mg (Str.ofString "law") = some (.ref fa) := hmg
  clear hd hcd hD hmg
  wrow_args hpre hlay hrd hwl hlo
  rename_i ns _ _ _ _ _ _ _ l vs _ hL _ _ _ hI _ hc _
  have GM := Mine.glb_top T rfl (by decide +kernel)
  have hlen : ns.length ≤ 63 := by omega
  have hfn : Mine.IsFn 17 s₁.heap fa := by
    obtain ⟨_, _, _, _, hf⟩ := GM
    obtain ⟨a, o', pm', code', doc', h1, h2, h3, h4⟩ := hf 17 _ _ _ _ rfl
    have ea : a = fa := by
      have h1' : mg (Str.ofString "law") = some (.ref a) := h1
      rw [hmg'] at h1'
      injection h1' with z
      injection z with z
      exact z.symm
    subst ea
    exact ⟨_, _, _, _, o', pm', code', doc', rfl, h2, h3, h4⟩
  obtain ⟨ol, e1, e2, n', e3⟩ := hL
  refine wpAny_mono ((Mine.fn_law hlen).run callerA (fun _ => False) s₁ _ [.ref l] fa Mine.rm_caller ⟨mg, mb, GM⟩ (fun _ h => h.elim) hfn (.cons (.lst ⟨e1, fun h => h⟩ e2 e3 (Mine.ints_rpa (by simpa using hI))) .nil)) (fun v s' g => ?_) (fun _ _ e => e)
  obtain ⟨⟨h', t', rfl, kp⟩, r⟩ := g
  cases r
  exact GoodW.toG ⟨.inl ⟨.bool true, .bool true, [], rfl, fun _ => rfl, .bool true, by wrow_post, fun _ => ⟨List.nodup_nil, fun _ h => (by cases h)⟩⟩, kp, rfl, hg⟩
