import PyProof.Rows.All
import Wide.All
import OpenK.AllK
import Wide.FinOn
import PySem.Challenge.RW_pm0038_01
open PySem PySem.W PyProof.Rows
set_option Elab.async false
set_option maxRecDepth 100000
set_option maxHeartbeats 8000000
set_option compiler.extract_closed false
namespace Mine
-- part M1
section
/-- data as trees -/
inductive D where
  | none
  | bool (b : Bool)
  | int (i : Int)
  | flt (x : UInt64)
  | str (x : PySem.Str)
  | list (ds : List D)
  | tup (ds : List D)
  | range (a n c : Int)
  | own (a : Addr) (ds : List D)

def PTup (h : Heap) (a : Addr) (items : Array Value) : Prop := ∃ n, h.get? a = some { cls := .type "tuple", data := .seq items n }
def PRange (h : Heap) (r : Addr) (a n c : Int) : Prop := ∃ b t u v, IsRange h r a b c t u v ∧ Builtin.Range.small a b c = true ∧ Builtin.Range.rangeSize a b c = n

mutual
/-- the value bears the datum; no address of X is met -/
inductive Den (X : List Addr) (h : Heap) : Value → D → Prop
  | none : Den X h .none .none
  | bool (b : Bool) : Den X h (.bool b) (.bool b)
  | int (i : Int) (t : Tok) : Den X h (.int i t) (.int i)
  | flt (x : UInt64) (t : Tok) : Den X h (.float x t) (.flt x)
  | str (x : PySem.Str) (t : Tok) : Den X h (.str x t) (.str x)
  | list {a : Addr} {vs : List Value} {ds : List D} : a ∉ X → h.PlainList a vs.toArray → DenL X h vs ds → Den X h (.ref a) (.list ds)
  | tup {a : Addr} {vs : List Value} {ds : List D} : a ∉ X → PTup h a vs.toArray → DenL X h vs ds → Den X h (.ref a) (.tup ds)
  | range {r : Addr} {a n c : Int} : r ∉ X → PRange h r a n c → Den X h (.ref r) (.range a n c)
  | own {a : Addr} {vs : List Value} {ds : List D} : a ∉ X → h.IsList a vs.toArray → DenL X h vs ds → Den X h (.ref a) (.own a ds)
inductive DenL (X : List Addr) (h : Heap) : List Value → List D → Prop
  | nil : DenL X h [] []
  | cons {v : Value} {d : D} {vs : List Value} {ds : List D} : Den X h v d → DenL X h vs ds → DenL X h (v :: vs) (d :: ds)
end

def Grows (h h' : Heap) : Prop := ∀ b o, h.get? b = some o → h'.get? b = some o
theorem Grows.refl (h : Heap) : Grows h h := fun _ _ e => e
theorem Grows.trans {a b c : Heap} (x : Grows a b) (y : Grows b c) : Grows a c := fun i o e => y i o (x i o e)
theorem Grows.push (h : Heap) (o : Obj) : Grows h (h.push o) := fun _ _ e => Heap.get?_push_of_some _ e

/-- every list, tuple and range stands as it stood, but those of X -/
def DataKeep (X : List Addr) (h h' : Heap) : Prop := ∀ b o, b ∉ X → h.get? b = some o → ((∃ xs n, o.data = .seq xs n) ∨ ((∃ vs, o.data = .fields vs) ∧ o.cls = .type "range")) → h'.get? b = some o
theorem Grows.data {X : List Addr} {h h' : Heap} (g : Grows h h') : DataKeep X h h' := fun b o _ e _ => g b o e
theorem DataKeep.refl {X : List Addr} (h : Heap) : DataKeep X h h := fun _ _ _ e _ => e
theorem DataKeep.trans {X : List Addr} {a b c : Heap} (x : DataKeep X a b) (y : DataKeep X b c) : DataKeep X a c := fun i o n e p => y i o n (x i o n e p) p

theorem PlainList.dk {X : List Addr} {h h' : Heap} {a : Addr} {xs : Array Value} (k : DataKeep X h h') (n : a ∉ X) (x : h.PlainList a xs) : h'.PlainList a xs :=
  let ⟨m, e⟩ := x; ⟨m, k _ _ n e (.inl ⟨_, _, rfl⟩)⟩
theorem IsList.dk {X : List Addr} {h h' : Heap} {a : Addr} {xs : Array Value} (k : DataKeep X h h') (n : a ∉ X) (x : h.IsList a xs) : h'.IsList a xs :=
  let ⟨o, e, c, m, d⟩ := x; ⟨o, k _ _ n e (.inl ⟨_, _, d⟩), c, m, d⟩
theorem PTup.dk {X : List Addr} {h h' : Heap} {a : Addr} {xs : Array Value} (k : DataKeep X h h') (n : a ∉ X) (x : PTup h a xs) : PTup h' a xs :=
  let ⟨m, e⟩ := x; ⟨m, k _ _ n e (.inl ⟨_, _, rfl⟩)⟩
theorem PRange.dk {X : List Addr} {h h' : Heap} {r : Addr} {a n c : Int} (k : DataKeep X h h') (m : r ∉ X) (x : PRange h r a n c) : PRange h' r a n c :=
  let ⟨b, t, u, v, e, p⟩ := x; ⟨b, t, u, v, k _ _ m e (.inr ⟨⟨_, rfl⟩, rfl⟩), p⟩

mutual
theorem Den.dk {X : List Addr} {h h' : Heap} (k : DataKeep X h h') : ∀ {v : Value} {d : D}, Den X h v d → Den X h' v d
  | _, _, .none => .none
  | _, _, .bool b => .bool b
  | _, _, .int i t => .int i t
  | _, _, .flt x t => .flt x t
  | _, _, .str x t => .str x t
  | _, _, .list n hl hd => .list n (PlainList.dk k n hl) (DenL.dk k hd)
  | _, _, .tup n hl hd => .tup n (PTup.dk k n hl) (DenL.dk k hd)
  | _, _, .range n hr => .range n (PRange.dk k n hr)
  | _, _, .own n hl hd => .own n (IsList.dk k n hl) (DenL.dk k hd)
theorem DenL.dk {X : List Addr} {h h' : Heap} (k : DataKeep X h h') : ∀ {vs : List Value} {ds : List D}, DenL X h vs ds → DenL X h' vs ds
  | _, _, .nil => .nil
  | _, _, .cons hd ht => .cons (Den.dk k hd) (DenL.dk k ht)
end
theorem Den.grow {X : List Addr} {h h' : Heap} (g : Grows h h') {v : Value} {d : D} (x : Den X h v d) : Den X h' v d := x.dk g.data
theorem DenL.grow {X : List Addr} {h h' : Heap} (g : Grows h h') {vs : List Value} {ds : List D} (x : DenL X h vs ds) : DenL X h' vs ds := x.dk g.data

mutual
/-- other addresses may be left out, if none of them stands -/
theorem Den.re {X Y : List Addr} {h : Heap} (k : ∀ a o, h.get? a = some o → a ∉ X → a ∉ Y) : ∀ {v : Value} {d : D}, Den X h v d → Den Y h v d
  | _, _, .none => .none
  | _, _, .bool b => .bool b
  | _, _, .int i t => .int i t
  | _, _, .flt x t => .flt x t
  | _, _, .str x t => .str x t
  | _, _, .list n hl hd => .list (let ⟨_, e⟩ := hl; k _ _ e n) hl (DenL.re k hd)
  | _, _, .tup n hl hd => .tup (let ⟨_, e⟩ := hl; k _ _ e n) hl (DenL.re k hd)
  | _, _, .range n hr => .range (let ⟨_, _, _, _, e, _⟩ := hr; k _ _ e n) hr
  | _, _, .own n hl hd => .own (let ⟨_, e, _⟩ := hl; k _ _ e n) hl (DenL.re k hd)
theorem DenL.re {X Y : List Addr} {h : Heap} (k : ∀ a o, h.get? a = some o → a ∉ X → a ∉ Y) : ∀ {vs : List Value} {ds : List D}, DenL X h vs ds → DenL Y h vs ds
  | _, _, .nil => .nil
  | _, _, .cons hd ht => .cons (Den.re k hd) (DenL.re k ht)
end

theorem DenL.length {X : List Addr} {h : Heap} : ∀ {vs : List Value} {ds : List D}, DenL X h vs ds → vs.length = ds.length
  | _, _, .nil => rfl
  | _, _, .cons _ t => by rw [List.length_cons, List.length_cons, t.length]
theorem DenL.append {X : List Addr} {h : Heap} : ∀ {vs us : List Value} {ds es : List D}, DenL X h vs ds → DenL X h us es → DenL X h (vs ++ us) (ds ++ es)
  | _, _, _, _, .nil, y => y
  | _, _, _, _, .cons a t, y => .cons a (t.append y)
theorem DenL.get {X : List Addr} {h : Heap} : ∀ {vs : List Value} {ds : List D}, DenL X h vs ds → ∀ (i : Nat) (d : D), ds[i]? = some d → ∃ v, vs[i]? = some v ∧ Den X h v d
  | _, _, .nil, i, d, e => by simp at e
  | _, _, .cons a t, 0, d, e => by simp at e; subst e; exact ⟨_, by simp, a⟩
  | _, _, .cons a t, i + 1, d, e => by simp at e; obtain ⟨v, h1, h2⟩ := t.get i d e; exact ⟨v, by simpa using h1, h2⟩
theorem DenL.get' {X : List Addr} {h : Heap} : ∀ {vs : List Value} {ds : List D}, DenL X h vs ds → ∀ (i : Nat) (v : Value), vs[i]? = some v → ∃ d, ds[i]? = some d ∧ Den X h v d
  | _, _, .nil, i, v, e => by simp at e
  | _, _, .cons a t, 0, v, e => by simp at e; subst e; exact ⟨_, by simp, a⟩
  | _, _, .cons a t, i + 1, v, e => by simp at e; obtain ⟨d, h1, h2⟩ := t.get' i v e; exact ⟨d, by simpa using h1, h2⟩
theorem DenL.take {X : List Addr} {h : Heap} : ∀ {vs : List Value} {ds : List D} (n : Nat), DenL X h vs ds → DenL X h (vs.take n) (ds.take n)
  | _, _, 0, _ => by simpa using DenL.nil
  | _, _, _ + 1, .nil => .nil
  | _, _, n + 1, .cons a t => .cons a (t.take n)
theorem DenL.drop {X : List Addr} {h : Heap} : ∀ {vs : List Value} {ds : List D} (n : Nat), DenL X h vs ds → DenL X h (vs.drop n) (ds.drop n)
  | _, _, 0, x => by simpa using x
  | _, _, _ + 1, .nil => .nil
  | _, _, n + 1, .cons _ t => t.drop n
theorem DenL.snoc {X : List Addr} {h : Heap} {vs : List Value} {ds : List D} {v : Value} {d : D} (x : DenL X h vs ds) (y : Den X h v d) : DenL X h (vs ++ [v]) (ds ++ [d]) := x.append (.cons y .nil)
theorem DenL.set {X : List Addr} {h : Heap} : ∀ {vs : List Value} {ds : List D}, DenL X h vs ds → ∀ (i : Nat) {v : Value} {d : D}, Den X h v d → DenL X h (vs.set i v) (ds.set i d)
  | _, _, .nil, _, _, _, _ => .nil
  | _, _, .cons _ t, 0, _, _, e => .cons e t
  | _, _, .cons a t, i + 1, _, _, e => .cons a (t.set i e)

/-- the room that is left: frames, C units -/
def Aok (n : Nat) (A : Around) : Prop := A.handled = none ∧ A.depth + n < recursionLimit ∧ A.units + 8 * n + 64 < cLine
theorem Aok.le {n k : Nat} {A : Around} (x : Aok n A) (h : k ≤ n) : Aok k A := ⟨x.1, by have := x.2.1; omega, by have := x.2.2; omega⟩
theorem Aok.in1 {n : Nat} {A : Around} (x : Aok (n + 1) A) : Aok n A.in1 := ⟨x.1, by have := x.2.1; show A.depth + n < _; omega, by have := x.2.2; show A.units + 1 + 8 * n + 64 < _; omega⟩
theorem Aok.deeper {n : Nat} {A : Around} {env : Env} (x : Aok (n + 1) A) : Aok n (A.deeper env) := ⟨x.1, by have := x.2.1; show A.depth + 1 + n < _; omega, by have := x.2.2; show A.units + 3 + 8 * n + 64 < _; omega⟩

/-- what stands around every call: the program, the world, the heap behind the top -/
structure Cx where
  prog : Program
  w : World
  hT : Heap
  mg : PySem.Str → Option Value
  mb : PySem.Str → Option Value
  g : hT.Ns mainGlobals mg
  b : hT.Ns builtinsNs mb
  nolimit : hT.NoLimit
  nodigits : ∃ mc, hT.Ns cStatics mc ∧ mc "sys.int_max_str_digits" = none
  bi : ∀ x : PySem.Str, x ≠ "__name__" → mb x = bootBuiltins x
abbrev Cx.M (C : Cx) : Model := model C.prog C.w

abbrev Store := List (PySem.Str × D)

structure EnvOK (sc : Scope) (env : Env) : Prop where
  kind : env.scope.kind = .function
  glob : env.globals = mainGlobals
  blt : env.builtins = builtinsNs
  gl : ∀ x, sc.names.lookup x = some .globalImplicit → env.kindOf x = some .globalImplicit
  lo : ∀ x, sc.names.lookup x = some .local → env.kindOf x = some .local
  ce : ∀ x, sc.names.lookup x = some .cell → env.kindOf x = some .cell ∧ ∃ c, env.cells.lookup x = some c
  fr : ∀ x, sc.names.lookup x = some .free → (env.kindOf x = some .cell ∨ env.kindOf x = some .free) ∧ ∃ c, env.cells.lookup x = some c

/-- reading the name gives the datum -/
def Rd (X : List Addr) (env : Env) (h : Heap) (x : PySem.Str) (d : D) : Prop :=
  (env.kindOf x = some .local ∧ ∃ m v, h.Ns env.locals m ∧ m x = some v ∧ Den X h v d) ∨
  ((env.kindOf x = some .cell ∨ env.kindOf x = some .free) ∧ ∃ c v, env.cells.lookup x = some c ∧ h.IsCell c (some v) ∧ Den X h v d)
theorem Rd.grow {X : List Addr} {env : Env} {h h' : Heap} {x : PySem.Str} {d : D} (g : Grows h h') : Rd X env h x d → Rd X env h' x d
  | .inl ⟨k, m, v, n, e, y⟩ => .inl ⟨k, m, v, n.keeps g, e, y.grow g⟩
  | .inr ⟨k, c, v, e, n, y⟩ => .inr ⟨k, c, v, e, n.keeps g, y.grow g⟩

def Vars (X : List Addr) (env : Env) (h : Heap) (ρ : Store) : Prop := ∀ p ∈ ρ, Rd X env h p.1 p.2
theorem Vars.grow {X : List Addr} {env : Env} {h h' : Heap} {ρ : Store} (g : Grows h h') (x : Vars X env h ρ) : Vars X env h' ρ := fun p hp => (x p hp).grow g

/-- the heap has only grown -/
structure Kp (s s' : Shared) : Prop where
  same : ∃ h t, s' = { s with heap := h, toks := t }
  grows : Grows s.heap s'.heap
theorem Kp.rfl {s : Shared} : Kp s s := ⟨⟨s.heap, s.toks, by cases s; exact Eq.refl _⟩, Grows.refl _⟩
theorem Kp.trans {a b c : Shared} (x : Kp a b) (y : Kp b c) : Kp a c := by
  obtain ⟨⟨h, t, rfl⟩, g⟩ := x; obtain ⟨⟨h', t', rfl⟩, g'⟩ := y
  exact ⟨⟨h', t', Eq.refl _⟩, g.trans g'⟩
theorem Kp.of {s : Shared} {h : Heap} {t : Nat} (g : Grows s.heap h) : Kp s { s with heap := h, toks := t } := ⟨⟨h, t, Eq.refl _⟩, g⟩
theorem Kp.ofH {s : Shared} {h : Heap} (g : Grows s.heap h) : Kp s { s with heap := h } := ⟨⟨h, s.toks, Eq.refl _⟩, g⟩
theorem Kp.toks {s : Shared} {t : Nat} : Kp s { s with toks := t } := ⟨⟨s.heap, t, Eq.refl _⟩, Grows.refl _⟩
theorem Kp.pushed {s : Shared} {o : Obj} {t : Nat} : Kp s { s with heap := s.heap.push o, toks := t } := ⟨⟨_, t, Eq.refl _⟩, Grows.push _ _⟩
theorem Kp.pushed' {s : Shared} {o : Obj} : Kp s { s with heap := s.heap.push o } := ⟨⟨_, s.toks, Eq.refl _⟩, Grows.push _ _⟩
theorem Kp.keeps {s s' : Shared} (k : Kp s s') : Keeps s s' := let ⟨⟨h, t, e⟩, g⟩ := k; ⟨h, t, e, by subst e; exact g⟩
theorem Kp.ofKeeps {s s' : Shared} (k : Keeps s s') : Kp s s' := let ⟨h, t, e, g⟩ := k; ⟨⟨h, t, e⟩, by subst e; exact g⟩

/-- the heap behind the top stands, and so does what is left out -/
structure Gd (C : Cx) (X : List Addr) (h : Heap) : Prop where
  top : Grows C.hT h
  live : ∀ a ∈ X, ∃ o, h.get? a = some o
theorem Gd.trans {C : Cx} {X : List Addr} {h h' : Heap} (x : Gd C X h) (g : Grows h h') : Gd C X h' := ⟨x.top.trans g, fun a ha => let ⟨o, e⟩ := x.live a ha; ⟨o, g _ _ e⟩⟩
theorem Gd.new {C : Cx} {X : List Addr} {h : Heap} (x : Gd C X h) {a : Addr} (e : h.get? a = none) : a ∉ X := fun ha => by obtain ⟨o, q⟩ := x.live a ha; rw [e] at q; cases q
theorem fresh_none {h : Heap} : h.get? h.objs.size = none := by
  cases q : h.get? h.objs.size with
  | none => rfl
  | some o => exact absurd (Heap.lt_size q) (Nat.lt_irrefl _)
theorem Gd.size {C : Cx} {X : List Addr} {h : Heap} (x : Gd C X h) : h.objs.size ∉ X := x.new fresh_none

/-- an expression's value -/
def Ev (C : Cx) (n : Nat) (sc : Scope) (ρ : Store) (e : Expr) (d : D) : Prop :=
  ∀ {X : List Addr} (env : Env) (A : Around) (s : Shared) (Q : Value → Shared → Prop) (E : Value → Shared → Prop), EnvOK sc env → Aok n A → Gd C X s.heap → Vars X env s.heap ρ →
    (∀ v s', Kp s s' → Den X s'.heap v d → Q v s') → wpAny C.M A (eval e env) Q E s
/-- a test's answer -/
def EvB (C : Cx) (n : Nat) (sc : Scope) (ρ : Store) (e : Expr) (b : Bool) : Prop :=
  ∀ {X : List Addr} (env : Env) (A : Around) (s : Shared) (Q : Bool → Shared → Prop) (E : Value → Shared → Prop), EnvOK sc env → Aok n A → Gd C X s.heap → Vars X env s.heap ρ →
    (∀ s', Kp s s' → Q b s') → wpAny C.M A (isTrue e env (eval e env)) Q E s
/-- several, from the left -/
def EvL (C : Cx) (n : Nat) (sc : Scope) (ρ : Store) (es : List Expr) (ds : List D) : Prop :=
  ∀ {X : List Addr} (pos : Pos) (env : Env) (A : Around) (s : Shared) (Q : List Value → Shared → Prop) (E : Value → Shared → Prop), EnvOK sc env → Aok n A → Gd C X s.heap → Vars X env s.heap ρ →
    (∀ vs s', Kp s s' → DenL X s'.heap vs ds → Q vs s') → wpAny C.M A (spliced (backTo pos (starEach es env))) Q E s
/-- a call's answer -/
def Fn (C : Cx) (n : Nat) (f : Value) (ds : List D) (d : D) : Prop :=
  ∀ {X : List Addr} (A : Around) (s : Shared) (vs : List Value) (Q : Value → Shared → Prop) (E : Value → Shared → Prop), Aok n A → Gd C X s.heap → DenL X s.heap vs ds →
    (∀ v s', Kp s s' → Den X s'.heap v d → Q v s') → wpAny C.M A (call f vs) Q E s
/-- a binary operation's -/
def Bin (C : Cx) (n : Nat) (op : Operator) (a b d : D) : Prop :=
  ∀ {X : List Addr} (A : Around) (s : Shared) (u v : Value) (Q : Value → Shared → Prop) (E : Value → Shared → Prop), Aok n A → Gd C X s.heap → Den X s.heap u a → Den X s.heap v b →
    (∀ v s', Kp s s' → Den X s'.heap v d → Q v s') → wpAny C.M A (binaryOp op u v) Q E s
/-- a comparison's -/
def Cmp (C : Cx) (n : Nat) (op : CmpOp) (a b : D) (r : Bool) : Prop :=
  ∀ {X : List Addr} (A : Around) (s : Shared) (u v : Value) (Q : Value → Shared → Prop) (E : Value → Shared → Prop), Aok n A → Gd C X s.heap → Den X s.heap u a → Den X s.heap v b →
    (∀ s', Kp s s' → Q (.bool r) s') → wpAny C.M A (compareOp op u v) Q E s
/-- truth -/
def Tr (C : Cx) (n : Nat) (d : D) (r : Bool) : Prop :=
  ∀ {X : List Addr} (A : Around) (s : Shared) (v : Value) (Q : Bool → Shared → Prop) (E : Value → Shared → Prop), Aok n A → Gd C X s.heap → Den X s.heap v d →
    (∀ s', Kp s s' → Q r s') → wpAny C.M A (truthy v) Q E s
/-- an item -/
def Itm (C : Cx) (n : Nat) (a i d : D) : Prop :=
  ∀ {X : List Addr} (A : Around) (s : Shared) (u v : Value) (Q : Value → Shared → Prop) (E : Value → Shared → Prop), Aok n A → Gd C X s.heap → Den X s.heap u a → Den X s.heap v i →
    (∀ v s', Kp s s' → Den X s'.heap v d → Q v s') → wpAny C.M A (getItem u v) Q E s

section
variable {C : Cx} {n : Nat} {sc : Scope} {ρ : Store}

theorem Ev.int {i : Int} {k : Nat} {pos : Pos} : Ev C n sc ρ (.Constant (.int i) k pos) (.int i) := fun _ _ _ _ _ _ _ _ _ h => wpAny_Constant_int (h _ _ Kp.toks (.int _ _))
theorem Ev.flt {x : UInt64} {k : Nat} {pos : Pos} : Ev C n sc ρ (.Constant (.float x) k pos) (.flt x) := fun _ _ _ _ _ _ _ _ _ h => wpAny_Constant_float (h _ _ Kp.toks (.flt _ _))
theorem Ev.str {x : PySem.Str} {k : Nat} {pos : Pos} : Ev C n sc ρ (.Constant (.str x) k pos) (.str x) := fun _ _ _ _ _ _ _ _ _ h => Calls.Constant_str (h _ _ Kp.toks (.str _ _))
theorem Ev.bool {b : Bool} {k : Nat} {pos : Pos} : Ev C n sc ρ (.Constant (.bool b) k pos) (.bool b) := fun _ _ _ _ _ _ _ _ _ h => wpAny_Constant_bool (h _ _ Kp.rfl (.bool _))
theorem Ev.none {k : Nat} {pos : Pos} : Ev C n sc ρ (.Constant .none k pos) .none := fun _ _ _ _ _ _ _ _ _ h => wpAny_Constant_none (h _ _ Kp.rfl .none)

theorem Ev.var {x : PySem.Str} {d : D} {pos : Pos} (hm : (x, d) ∈ ρ) (hd : (x == ("__debug__" : PySem.Str)) = false) (hc : (x == ("__classdict__" : PySem.Str)) = false) : Ev C n sc ρ (.Name x pos) d := by
  intro X env A s Q E O _ _ V h
  rcases V _ hm with ⟨hk, m, v, hn, hv, y⟩ | ⟨hk, c, v, hc', hn, y⟩
  · exact wpAny_Name (wpAny_loadName_local O.kind hk hn hv (h _ _ Kp.rfl y)) hd
  · rcases hk with hk | hk
    · exact wpAny_Name (wpAny_loadName_cell O.kind hk hc' hn (h _ _ Kp.rfl y)) hd
    · exact wpAny_Name (wpAny_loadName_free O.kind hk hc' hn (h _ _ Kp.rfl y) hc) hd

/-- a global's value, whatever it is -/
theorem Ev.globalV {x : PySem.Str} {v : Value} {pos : Pos} (hx : sc.names.lookup x = some .globalImplicit) (hv : C.mg x = some v) (hd : (x == ("__debug__" : PySem.Str)) = false)
    {env : Env} {A : Around} {s : Shared} {Q : Value → Shared → Prop} {E : Value → Shared → Prop} (O : EnvOK sc env) {X : List Addr} (G : Gd C X s.heap) (h : Q v s) : wpAny C.M A (eval (.Name x pos) env) Q E s :=
  Calls.Name_function_global O.kind (O.gl x hx) (Calls.loadGlobal_global (by rw [O.glob]; exact C.g.keeps G.top) hv h) hd
theorem Ev.builtinV {x : PySem.Str} {v : Value} {pos : Pos} (hx : sc.names.lookup x = some .globalImplicit) (hg : C.mg x = Option.none) (hv : bootBuiltins x = some v) (hd : (x == ("__debug__" : PySem.Str)) = false) (hn : x ≠ "__name__")
    {env : Env} {A : Around} {s : Shared} {Q : Value → Shared → Prop} {E : Value → Shared → Prop} (O : EnvOK sc env) {X : List Addr} (G : Gd C X s.heap) (h : Q v s) : wpAny C.M A (eval (.Name x pos) env) Q E s :=
  Calls.Name_function_global O.kind (O.gl x hx) (Calls.loadGlobal_builtin (by rw [O.glob]; exact C.g.keeps G.top) hg (by rw [O.blt]; exact C.b.keeps G.top) (by rw [C.bi x hn]; exact hv) h) hd
theorem Ev.global {x : PySem.Str} {v : Value} {d : D} {pos : Pos} (hx : sc.names.lookup x = some .globalImplicit) (hv : C.mg x = some v) (hd : (x == ("__debug__" : PySem.Str)) = false) (y : Den [] C.hT v d) (yf : ∀ X h, Den [] h v d → Den X h v d) : Ev C n sc ρ (.Name x pos) d :=
  fun _ _ _ _ _ O _ G _ h => Ev.globalV hx hv hd O G (h _ _ Kp.rfl (yf _ _ (y.grow G.top)))

theorem Ev.bin {l r : Expr} {op : Operator} {pos : Pos} {a b d : D} (hl : Ev C n sc ρ l a) (hr : Ev C n sc ρ r b) (ho : Bin C n op a b d) : Ev C n sc ρ (.BinOp l op r pos) d := by
  intro X env A s Q E O hA G V h
  refine wpAny_BinOp (hl env A s _ E O hA G V fun u s₁ k₁ y₁ => hr env A s₁ _ E O hA (G.trans k₁.grows) (V.grow k₁.grows) fun v s₂ k₂ y₂ => ?_)
  exact ho A s₂ u v Q E hA ((G.trans k₁.grows).trans k₂.grows) (y₁.grow k₂.grows) y₂ fun r s₃ k₃ y₃ => h r s₃ ((k₁.trans k₂).trans k₃) y₃

theorem Ev.cmp {l r : Expr} {op : CmpOp} {pos : Pos} {a b : D} {q : Bool} (hl : Ev C n sc ρ l a) (hr : Ev C n sc ρ r b) (ho : Cmp C n op a b q) (hm : behindInMarks op r = false) : Ev C n sc ρ (.Compare l [op] [r] pos) (.bool q) := by
  intro X env A s Q E O hA G V h
  refine wpAny_Compare1 (hl env A s _ E O hA G V fun u s₁ k₁ y₁ => hr env A s₁ _ E O hA (G.trans k₁.grows) (V.grow k₁.grows) fun v s₂ k₂ y₂ => ?_) hm
  exact ho A s₂ u v Q E hA ((G.trans k₁.grows).trans k₂.grows) (y₁.grow k₂.grows) y₂ fun s₃ k₃ => h _ s₃ ((k₁.trans k₂).trans k₃) (.bool q)
theorem EvB.cmp {l r : Expr} {op : CmpOp} {pos : Pos} {a b : D} {q : Bool} (hl : Ev C n sc ρ l a) (hr : Ev C n sc ρ r b) (ho : Cmp C n op a b q) (hm : behindInMarks op r = false) : EvB C n sc ρ (.Compare l [op] [r] pos) q := by
  intro X env A s Q E O hA G V h
  refine wpAny_isTrue_Compare1 (hl env A s _ E O hA G V fun u s₁ k₁ y₁ => hr env A s₁ _ E O hA (G.trans k₁.grows) (V.grow k₁.grows) fun v s₂ k₂ y₂ => ?_) hm
  exact ho A s₂ u v _ E hA ((G.trans k₁.grows).trans k₂.grows) (y₁.grow k₂.grows) y₂ fun s₃ k₃ => wpAny_truthy_bool (h s₃ ((k₁.trans k₂).trans k₃))
end
end

-- part M2
section
section
variable {C : Cx} {n : Nat} {x y : Int} {a b : UInt64}

theorem ofInt_ok {n : Int} (h : n.natAbs < 2 ^ 1023) : ¬ Float64.isInf (Float64.ofInt n) = true := Float64.ofInt_fits h

theorem Bin.add_ii : Bin C n .Add (.int x) (.int y) (.int (x + y)) := by
  intro X A s u v Q E _ _ hu hv h; cases hu; cases hv; exact wpAny_add_int (h _ _ Kp.toks (.int _ _))
theorem Bin.sub_ii : Bin C n .Sub (.int x) (.int y) (.int (x - y)) := by
  intro X A s u v Q E _ _ hu hv h; cases hu; cases hv; exact sub_int' (h _ _ Kp.toks (.int _ _))
theorem Bin.mul_ii (hm : IntMulOk x y) : Bin C n .Mult (.int x) (.int y) (.int (x * y)) := by
  intro X A s u v Q E _ _ hu hv h; cases hu; cases hv; exact mul_int (h _ _ Kp.toks (.int _ _)) hm
theorem Bin.mod_ii (hb : y ≠ 0) : Bin C n .Mod (.int x) (.int y) (.int (x.fmod y)) := by
  intro X A s u v Q E _ _ hu hv h; cases hu; cases hv; exact mod_int' hb (h _ _ Kp.toks (.int _ _))
theorem Bin.fdiv_ii (hb : y ≠ 0) (hs : y.natAbs < 1073741824) : Bin C n .FloorDiv (.int x) (.int y) (.int (x.fdiv y)) := by
  intro X A s u v Q E _ _ hu hv h; cases hu; cases hv; exact floordiv_int hb (h _ _ Kp.toks (.int _ _)) (.inl (PyProof.noPylong_small hs))
theorem Bin.div_ii (hb : y ≠ 0) (hf : Float64.isInf (Float64.ofFrac (decide (x < 0) != decide (y < 0)) x.natAbs y.natAbs) = false) :
    Bin C n .Div (.int x) (.int y) (.flt (Float64.ofFrac (decide (x < 0) != decide (y < 0)) x.natAbs y.natAbs)) := by
  intro X A s u v Q E _ _ hu hv h; cases hu; cases hv
  exact AutoIntOps.truediv_2 (by simpa using hb) (by rw [hf]; exact Bool.false_ne_true) (h _ _ Kp.toks (.flt _ _))
theorem Bin.pow_ii (hy : 0 ≤ y) (h0 : (y == 0) = false) (h1 : (x == 0 || x == 1) = false) (h2 : (x == -1) = false) (h3 : Builtin.Int.intTooBig (((Builtin.Int.intBits x : Nat) : Int) * y) = false) :
    Bin C n .Pow (.int x) (.int y) (.int (x ^ y.toNat)) := by
  intro X A s u v Q E _ _ hu hv h; cases hu; cases hv
  exact AutoIntOps.pow_4 hy (by rw [h0]; exact Bool.false_ne_true) (by rw [h1]; exact Bool.false_ne_true) (by rw [h2]; exact Bool.false_ne_true) (by rw [h3]; exact Bool.false_ne_true) (h _ _ Kp.toks (.int _ _))

theorem Bin.add_ff : Bin C n .Add (.flt a) (.flt b) (.flt (Float64.add a b)) := by
  intro X A s u v Q E _ _ hu hv h; cases hu; cases hv; exact AutoFloatOps.add_0 (h _ _ Kp.toks (.flt _ _))
theorem Bin.sub_ff : Bin C n .Sub (.flt a) (.flt b) (.flt (Float64.sub a b)) := by
  intro X A s u v Q E _ _ hu hv h; cases hu; cases hv; exact AutoFloatOps.sub_0 (h _ _ Kp.toks (.flt _ _))
theorem Bin.mul_ff : Bin C n .Mult (.flt a) (.flt b) (.flt (Float64.mul a b)) := by
  intro X A s u v Q E _ _ hu hv h; cases hu; cases hv; exact AutoFloatOps.mul_0 (h _ _ Kp.toks (.flt _ _))
theorem Bin.div_ff (hb : Float64.isZero b = false) : Bin C n .Div (.flt a) (.flt b) (.flt (Float64.div a b)) := by
  intro X A s u v Q E _ _ hu hv h; cases hu; cases hv; exact AutoFloatOps.truediv_1 (by rw [hb]; exact Bool.false_ne_true) (h _ _ Kp.toks (.flt _ _))
theorem Bin.mod_ff (hb : Float64.isZero b = false) : Bin C n .Mod (.flt a) (.flt b) (.flt (Float64.divmod a b).2) := by
  intro X A s u v Q E _ _ hu hv h; cases hu; cases hv; exact AutoFloatOps.mod_1 (by rw [hb]; exact Bool.false_ne_true) (h _ _ Kp.toks (.flt _ _))
theorem Bin.add_fi (hy : y.natAbs < 2 ^ 1023) : Bin C n .Add (.flt a) (.int y) (.flt (Float64.add a (Float64.ofInt y))) := by
  intro X A s u v Q E _ _ hu hv h; cases hu; cases hv; exact add_fi_fits hy (h _ _ Kp.toks (.flt _ _))
theorem Bin.sub_fi (hy : y.natAbs < 2 ^ 1023) : Bin C n .Sub (.flt a) (.int y) (.flt (Float64.sub a (Float64.ofInt y))) := by
  intro X A s u v Q E _ _ hu hv h; cases hu; cases hv; exact sub_fi_fits hy (h _ _ Kp.toks (.flt _ _))
theorem Bin.mul_if (hx : x.natAbs < 2 ^ 1023) : Bin C n .Mult (.int x) (.flt a) (.flt (Float64.mul (Float64.ofInt x) a)) := by
  intro X A s u v Q E _ _ hu hv h; cases hu; cases hv; exact mul_if_fits hx (h _ _ Kp.toks (.flt _ _))
theorem Bin.mod_fi (hy : y.natAbs < 2 ^ 1023) (hz : Float64.isZero (Float64.ofInt y) = false) : Bin C n .Mod (.flt a) (.int y) (.flt (Float64.divmod a (Float64.ofInt y)).2) := by
  intro X A s u v Q E _ _ hu hv h; cases hu; cases hv; exact AutoFloatOps.mod_fi_2 (ofInt_ok hy) (by rw [hz]; exact Bool.false_ne_true) (h _ _ Kp.toks (.flt _ _))
theorem Bin.add_ss {x y : PySem.Str} (hx : x.length + y.length ≤ sizeLine) : Bin C n .Add (.str x) (.str y) (.str (x ++ y)) := by
  intro X A s u v Q E _ _ hu hv h; cases hu; cases hv
  refine PySem.P.add_str ?_
  by_cases h1 : (x.length == 0) = true
  · rw [if_pos h1]
    have e : x ++ y = y := by
      have : x = PySem.Str.empty := by
        obtain ⟨a⟩ := x
        have h2 : a.size = 0 := beq_iff_eq.mp h1
        show PySem.Str.mk a = PySem.Str.mk #[]
        rw [Array.size_eq_zero_iff.mp h2]
      rw [this]; exact PySem.Str.empty_append y
    rw [e] at h
    exact h _ _ Kp.rfl (.str _ _)
  · rw [if_neg h1]
    by_cases h2 : (y.length == 0) = true
    · rw [if_pos h2]
      have e : x ++ y = x := by
        have h3 : y.cps.size = 0 := beq_iff_eq.mp h2
        show PySem.Str.mk (x.cps ++ y.cps) = x
        rw [Array.size_eq_zero_iff.mp h3, Array.append_empty]
      rw [e] at h
      exact h _ _ Kp.rfl (.str _ _)
    · rw [if_neg h2]
      exact ⟨by rw [PySem.Str.length_append]; exact hx, h _ _ Kp.toks (.str _ _)⟩

theorem Cmp.eq_ii : Cmp C n .Eq (.int x) (.int y) (x == y) := by
  intro X A s u v Q E _ _ hu hv h; cases hu; cases hv; exact PySem.P.eq_int (h _ Kp.rfl)
theorem Cmp.ne_ii : Cmp C n .NotEq (.int x) (.int y) (x != y) := by
  intro X A s u v Q E _ _ hu hv h; cases hu; cases hv; exact PySem.P.ne_int (h _ Kp.rfl)
theorem Cmp.lt_ii : Cmp C n .Lt (.int x) (.int y) (decide (x < y)) := by
  intro X A s u v Q E _ _ hu hv h; cases hu; cases hv; exact wpAny_lt_int (h _ Kp.rfl)
theorem Cmp.gt_ii : Cmp C n .Gt (.int x) (.int y) (decide (y < x)) := by
  intro X A s u v Q E _ _ hu hv h; cases hu; cases hv; exact PyProof.Rows.gt_int (h _ Kp.rfl)
theorem Cmp.eq_ff : Cmp C n .Eq (.flt a) (.flt b) (Float64.cmp a b == some Ordering.eq) := by
  intro X A s u v Q E _ _ hu hv h; cases hu; cases hv; exact AutoFloatOps.eq_0 (h _ Kp.rfl)
theorem Cmp.lt_ff : Cmp C n .Lt (.flt a) (.flt b) (Float64.cmp a b == some Ordering.lt) := by
  intro X A s u v Q E _ _ hu hv h; cases hu; cases hv; exact AutoFloatOps.lt_0 (h _ Kp.rfl)
theorem Cmp.le_ff : Cmp C n .LtE (.flt a) (.flt b) (Float64.cmp a b == some Ordering.lt || Float64.cmp a b == some Ordering.eq) := by
  intro X A s u v Q E _ _ hu hv h; cases hu; cases hv; exact AutoFloatOps.le_0 (h _ Kp.rfl)
theorem Cmp.lt_fi : Cmp C n .Lt (.flt a) (.int y) (Float64.cmpInt a y == some Ordering.lt) := by
  intro X A s u v Q E _ _ hu hv h; cases hu; cases hv; exact PyProof.Rows.lt_fi (h _ Kp.rfl)
theorem Cmp.eq_ss {x y : PySem.Str} : Cmp C n .Eq (.str x) (.str y) (x == y) := by
  intro X A s u v Q E _ _ hu hv h; cases hu; cases hv
  refine PySem.P.eq_str ?_
  have e : (x.cps.toList == y.cps.toList) = (x == y) := by
    rw [Bool.eq_iff_iff, beq_iff_eq, beq_iff_eq]
    exact ⟨fun e => by cases x; cases y; exact congrArg PySem.Str.mk (Array.toList_inj.mp e), fun e => by rw [e]⟩
  rw [e]; exact h _ Kp.rfl
end
end

-- part M3
section
section
variable {C : Cx} {n : Nat} {sc : Scope} {ρ : Store}

theorem PTup.isTup {h : Heap} {a : Addr} {xs : Array Value} (x : PTup h a xs) : IsTup h a xs := let ⟨n, e⟩ := x; ⟨_, e, rfl, n, rfl⟩

/-- it is a str, a list or a tuple -/
def Seqy (d : D) : Prop := match d with | .str _ => True | .list _ => True | .tup _ => True | .own _ _ => True | _ => False
theorem Seqy.look {X : List Addr} {d : D} (q : Seqy d) {s : Shared} {v : Value} (y : Den X s.heap v d) : ∃ T id, typeLookup (.type T) "__getitem__" = pure (some (.builtin id)) ∧ s.TypeIs v T := by
  cases y with
  | str x t => exact ⟨_, _, F.slot_str_getitem.lookup, typeIs_str _ _ _⟩
  | list _ hl _ => exact ⟨_, _, slot_list_getitem.lookup, hl.isList.typeIs⟩
  | own _ hl _ => exact ⟨_, _, slot_list_getitem.lookup, hl.typeIs⟩
  | tup _ hl _ => obtain ⟨k, e⟩ := hl; exact ⟨_, _, slot_tuple_getitem.lookup, ⟨_, e, rfl⟩⟩
  | _ => exact q.elim

theorem subscript_tail {X : List Addr} {value slice : Expr} {d : D} {A : Around} {s : Shared} {o i : Value} {ops : List Value} {Q : Value → Shared → Prop} {E : Value → Shared → Prop} (q : Seqy d) (y : Den X s.heap o d)
    (hs : subscripted slice false o i = operate ops (getItem o i)) (h : wpAny C.M A (getItem o i) Q E s) :
    wpAny C.M A (getitemInPython o >>= fun b => subscripted slice b o i >>= fun r => letTemporaryGo value o r >>= fun _ => pure r) Q E s := by
  obtain ⟨T, id, hl, hT⟩ := q.look y
  refine wpAny_bind ?_
  rw [getitemInPython_of_ne hT.not_modules]
  refine wpAny_bind (wpAny_specialOf hT hl ?_)
  have fin : wpAny C.M A (subscripted slice false o i) (fun r s₃ => wpAny C.M A (letTemporaryGo value o r >>= fun _ => pure r) Q E s₃) E s := by
    rw [hs]
    exact wpAny_operating (wpAny_mono h (fun r s₃ h₃ => wpAny_bind (wpAny_letTemporaryGo (wpAny_pure h₃))) fun _ _ x => x)
  first
    | exact wpAny_pure (wpAny_bind fin)
    | exact wpAny_bind (wpAny_pure (wpAny_bind fin))
    | exact wpAny_bind fin

theorem Ev.sub {value slice : Expr} {pos : Pos} {a i d : D} (hv : Ev C n sc ρ value a) (hi : Ev C n sc ρ slice i) (hd : Itm C n a i d) (q : Seqy a)
    (hs : ∀ o i, subscripted slice false o i = operate [o, i] (getItem o i)) : Ev C n sc ρ (.Subscript value slice pos) d := by
  intro X env A s Q E O hA G V h
  rw [eval_Subscript]
  refine wpAny_bind (hv env A s _ E O hA G V fun u s₁ k₁ y₁ => wpAny_bind (wpAny_holding (hi env A s₁ _ E O hA (G.trans k₁.grows) (V.grow k₁.grows) fun w s₂ k₂ y₂ => wpAny_bind (wpAny_standAt ?_))))
  exact subscript_tail q (y₁.grow k₂.grows) (hs _ _) (hd A s₂ u w Q E hA ((G.trans k₁.grows).trans k₂.grows) (y₁.grow k₂.grows) y₂ fun r s₃ k₃ y₃ => h r s₃ ((k₁.trans k₂).trans k₃) y₃)

/-- a slice's bound -/
def EvP (C : Cx) (n : Nat) (sc : Scope) (ρ : Store) (e : Option Expr) (o : Option Int) : Prop :=
  ∀ {X : List Addr} (env : Env) (A : Around) (s : Shared) (Q : Value → Shared → Prop) (E : Value → Shared → Prop), EnvOK sc env → Aok n A → Gd C X s.heap → Vars X env s.heap ρ →
    (∀ v s', Kp s s' → IsPart v o → Q v s') → wpAny C.M A (evalPart e env) Q E s
theorem EvP.nil : EvP C n sc ρ none none := fun _ _ _ _ _ _ _ _ _ h => by rw [evalPart_none]; exact wpAny_pure (h _ _ Kp.rfl .none)
theorem EvP.int {e : Expr} {i : Int} (he : Ev C n sc ρ e (.int i)) : EvP C n sc ρ (some e) (some i) := fun env A s Q E O hA G V h => by
  rw [evalPart_some]; exact he env A s Q E O hA G V fun v s' k y => by cases y; exact h _ _ k (.int _ _)
theorem EvP.none {e : Expr} (he : Ev C n sc ρ e .none) : EvP C n sc ρ (some e) Option.none := fun env A s Q E O hA G V h => by
  rw [evalPart_some]; exact he env A s Q E O hA G V fun v s' k y => by cases y; exact h _ _ k .none

def Slc (C : Cx) (n : Nat) (a : D) (l u : Option Int) (d : D) : Prop :=
  ∀ {X : List Addr} (A : Around) (s : Shared) (v vl vu : Value) (sl : Addr) (Q : Value → Shared → Prop) (E : Value → Shared → Prop), Aok n A → Gd C X s.heap → Den X s.heap v a → s.heap.IsSliceOf sl vl vu .none → IsPart vl l → IsPart vu u →
    (∀ v s', Kp s s' → Den X s'.heap v d → Q v s') → wpAny C.M A (getItem v (.ref sl)) Q E s

theorem Ev.slice {value : Expr} {lower upper : Option Expr} {p pos : Pos} {a d : D} {l u : Option Int} (hv : Ev C n sc ρ value a) (hl : EvP C n sc ρ lower l) (hu : EvP C n sc ρ upper u) (hd : Slc C n a l u d) (q : Seqy a) :
    Ev C n sc ρ (.Subscript value (.Slice lower upper Option.none p) pos) d := by
  intro X env A s Q E O hA G V h
  rw [eval_Subscript]
  refine wpAny_bind (hv env A s _ E O hA G V fun ov s₁ k₁ y₁ => wpAny_bind (wpAny_holding (wpAny_Slice (hl env A s₁ _ E O hA (G.trans k₁.grows) (V.grow k₁.grows) fun vl s₂ k₂ y₂ =>
    hu env A s₂ _ E O hA ((G.trans k₁.grows).trans k₂.grows) ((V.grow k₁.grows).grow k₂.grows) fun vu s₃ k₃ y₃ => ?_))))
  rw [evalPart_none]
  refine wpAny_pure (wpAny_bind (wpAny_standAt ?_))
  have k₄ : Kp s₃ { s₃ with heap := s₃.heap.push { cls := .type "slice", data := .fields #[vl, vu, .none] } } := Kp.pushed'
  have y₄ := ((y₁.grow k₂.grows).grow k₃.grows).grow k₄.grows
  exact subscript_tail q y₄ rfl (hd A _ ov vl vu _ Q E hA ((((G.trans k₁.grows).trans k₂.grows).trans k₃.grows).trans k₄.grows) y₄ (Heap.IsSliceOf.new ..) y₂ y₃
    fun r s₅ k₅ y₅ => h r s₅ ((((k₁.trans k₂).trans k₃).trans k₄).trans k₅) y₅)

-- items
theorem Itm.list {ds : List D} {i : Int} {d : D} (h0 : 0 ≤ i) (hi : i < 2 ^ 63) (hd : ds[i.toNat]? = some d) : Itm C n (.list ds) (.int i) d := by
  intro X A s u v Q E _ _ hu hv h; cases hv
  cases hu with | list hX hl hds =>
  obtain ⟨x, hx, y⟩ := hds.get _ _ hd
  exact wpAny_getItem_list hl.isList h0 hi (by simpa using hx) (h _ _ Kp.rfl y)
theorem Itm.own {a : Addr} {ds : List D} {i : Int} {d : D} (h0 : 0 ≤ i) (hi : i < 2 ^ 63) (hd : ds[i.toNat]? = some d) : Itm C n (.own a ds) (.int i) d := by
  intro X A s u v Q E _ _ hu hv h; cases hv
  cases hu with | own hX hl hds =>
  obtain ⟨x, hx, y⟩ := hds.get _ _ hd
  exact wpAny_getItem_list hl h0 hi (by simpa using hx) (h _ _ Kp.rfl y)
theorem Itm.listNeg {ds : List D} {i : Int} {d : D} (h0 : i < 0) (hi : -(2 ^ 63) ≤ i) (hn : -(ds.length : Int) ≤ i) (hd : ds[(i + ds.length).toNat]? = some d) : Itm C n (.list ds) (.int i) d := by
  intro X A s u v Q E _ _ hu hv h; cases hv
  cases hu with | list hX hl hds =>
  obtain ⟨x, hx, y⟩ := hds.get _ _ hd
  have e := hds.length
  exact wpAny_getItem_list_neg hl.isList h0 (by simpa [e] using hn) hi (by simpa [e] using hx) (h _ _ Kp.rfl y)
theorem Itm.tup {ds : List D} {i : Int} {d : D} (h0 : 0 ≤ i) (hi : i < 2 ^ 63) (hd : ds[i.toNat]? = some d) : Itm C n (.tup ds) (.int i) d := by
  intro X A s u v Q E _ _ hu hv h; cases hv
  cases hu with | tup hX hl hds =>
  obtain ⟨x, hx, y⟩ := hds.get _ _ hd
  have hlt : i.toNat < ds.length := (List.getElem?_eq_some_iff.mp hd).1
  have e := hds.length
  exact PyProof.Rows.getItem_tuple hl.isTup (by omega) hi (seqIndex_of h0 (by rw [List.size_toArray, e]; omega)) (by simpa using hx) (h _ _ Kp.rfl y)
theorem Itm.str {x : PySem.Str} {i : Int} {c : Nat} (h0 : -(2 ^ 63) ≤ i) (hi : i < 2 ^ 63) (hc : (seqIndex? i x.length).bind (x.cps[·]?) = some c) : Itm C n (.str x) (.int i) (.str ⟨#[c]⟩) := by
  intro X A s u v Q E _ _ hu hv h; cases hv; cases hu
  exact PySem.P.getItem_str (by simp; omega) hc (h _ _ Kp.toks (.str _ _))

def pick (ds : List D) (lo hi : Option Int) : List D := (ds.drop (kms_lo lo ds.length)).take (kms_hi hi ds.length - kms_lo lo ds.length)
theorem Slc.list {ds : List D} {lo hi : Option Int} (hz : ds.length ≤ sizeLine) : Slc C n (.list ds) lo hi (.list (pick ds lo hi)) := by
  intro X A s v vl vu sl Q E _ G hv hs pl pu h
  cases hv with | @list a vs _ hX hl hds =>
  have e := hds.length
  refine wpAny_getItem_list_slice hl.isList hs pl pu .none (by simp) (h _ _ Kp.pushed' (.list (vs := (vs.drop (kms_lo lo vs.length)).take (kms_hi hi vs.length - kms_lo lo vs.length)) G.size ⟨0, ?_⟩ ?_)) (by rw [List.size_toArray, e]; exact hz)
  · rw [kms_pick_eq]; exact Heap.get?_push_size _ rfl
  · unfold pick; rw [e]; exact ((hds.drop _).take _).grow (Grows.push _ _)
theorem Slc.tupFrom {ds : List D} {k : Nat} (h1 : 1 ≤ k) (hk : k ≤ ds.length) (hz : ds.length ≤ sizeLine) : Slc C n (.tup ds) (some (k : Int)) none (.tup (ds.drop k)) := by
  intro X A s v vl vu sl Q E _ G hv hs pl pu h
  cases hv with | @tup a vs _ hX hl hds =>
  have e := hds.length
  cases pl; cases pu
  refine getItem_tuple_from hl.isTup hs h1 (by rw [List.size_toArray, e]; exact hk) (h _ _ Kp.pushed' (.tup (vs := vs.drop k) G.size ⟨0, ?_⟩ ((hds.drop _).grow (Grows.push _ _)))) (by rw [List.size_toArray, e]; exact hz)
  exact Heap.get?_push_size _ rfl
theorem Slc.str {x : PySem.Str} {lo hi : Option Int} (hz : x.length ≤ sizeLine) : Slc C n (.str x) lo hi (.str (Txt.slice x lo hi)) := by
  intro X A s v vl vu sl Q E _ G hv hs pl pu h
  cases hv with | str _ t =>
  obtain ⟨l, hl1, hl2⟩ : ∃ l : Option (Int × Tok), vl = partValue l ∧ lo = l.map (·.1) := by cases pl with | none => exact ⟨Option.none, rfl, rfl⟩ | int i t => exact ⟨some (i, t), rfl, rfl⟩
  obtain ⟨u, hu1, hu2⟩ : ∃ u : Option (Int × Tok), vu = partValue u ∧ hi = u.map (·.1) := by cases pu with | none => exact ⟨Option.none, rfl, rfl⟩ | int i t => exact ⟨some (i, t), rfl, rfl⟩
  subst hl1 hl2 hu1 hu2
  exact wpAny_getItem_str_slice (l := l) (u := u) (st := Option.none) hs rfl (post_val_or_str ⟨Nat.le_trans (Txt.slice_le x _ _) hz, fun t' k => h _ _ Kp.toks (.str _ t')⟩)

-- truth
theorem Tr.bool {b : Bool} : Tr C n (.bool b) b := by
  intro X A s v Q E _ _ hv h; cases hv; exact wpAny_truthy_bool (h _ Kp.rfl)

theorem EvB.val {e : Expr} {d : D} {b : Bool} (he : Ev C n sc ρ e d) (ht : Tr C n d b) (hi : ∀ env w, isTrue e env w = (do let v ← w; standAt e.pos; holding [v] (truthy v))) : EvB C n sc ρ e b := by
  intro X env A s Q E O hA G V h
  exact wpAny_isTrue_value (he env A s _ E O hA G V fun v s₁ k₁ y₁ => ht A s₁ v Q E hA (G.trans k₁.grows) y₁ fun s₂ k₂ => h s₂ (k₁.trans k₂)) (hi env _)
theorem EvB.not {e : Expr} {pos : Pos} {b : Bool} (he : EvB C n sc ρ e b) : EvB C n sc ρ (.UnaryOp .Not e pos) (!b) := by
  intro X env A s Q E O hA G V h
  exact wpAny_isTrue_Not (he env A s _ E O hA G V fun s₁ k₁ => h s₁ k₁)

/-- all of them, in short -/
def EvA (C : Cx) (n : Nat) (sc : Scope) (ρ : Store) (op : BoolOp) (es : List Expr) (b : Bool) : Prop :=
  ∀ {X : List Addr} (env : Env) (A : Around) (s : Shared) (Q : Bool → Shared → Prop) (E : Value → Shared → Prop), EnvOK sc env → Aok n A → Gd C X s.heap → Vars X env s.heap ρ →
    (∀ s', Kp s s' → Q b s') → wpAny C.M A (allTrue op es env) Q E s
theorem EvB.boolOp {op : BoolOp} {es : List Expr} {pos : Pos} {b : Bool} (h : EvA C n sc ρ op es b) : EvB C n sc ρ (.BoolOp op es pos) b :=
  fun env A s Q E O hA G V hq => wpAny_isTrue_BoolOp (h env A s Q E O hA G V hq)
theorem EvA.andNil : EvA C n sc ρ .And [] true := fun _ _ _ _ _ _ _ _ _ h => wpAny_allTrue_And_nil (h _ Kp.rfl)
theorem EvA.orNil : EvA C n sc ρ .Or [] false := fun _ _ _ _ _ _ _ _ _ h => wpAny_allTrue_Or_nil (h _ Kp.rfl)
theorem EvA.and {e : Expr} {es : List Expr} {a b : Bool} (he : EvB C n sc ρ e a) (hr : a = true → EvA C n sc ρ .And es b) : EvA C n sc ρ .And (e :: es) (a && b) := by
  intro X env A s Q E O hA G V h
  refine wpAny_allTrue_And_cons (he env A s _ E O hA G V fun s₁ k₁ => ?_)
  cases a with
  | false => exact h s₁ k₁
  | true => exact hr rfl env A s₁ Q E O hA (G.trans k₁.grows) (V.grow k₁.grows) fun s₂ k₂ => h s₂ (k₁.trans k₂)
theorem EvA.or {e : Expr} {es : List Expr} {a b : Bool} (he : EvB C n sc ρ e a) (hr : a = false → EvA C n sc ρ .Or es b) : EvA C n sc ρ .Or (e :: es) (a || b) := by
  intro X env A s Q E O hA G V h
  refine wpAny_allTrue_Or_cons (he env A s _ E O hA G V fun s₁ k₁ => ?_)
  cases a with
  | true => exact h s₁ k₁
  | false => exact hr rfl env A s₁ Q E O hA (G.trans k₁.grows) (V.grow k₁.grows) fun s₂ k₂ => h s₂ (k₁.trans k₂)

theorem Ev.ifT {test body orelse : Expr} {pos : Pos} {d : D} (ht : EvB C n sc ρ test true) (hb : Ev C n sc ρ body d) : Ev C n sc ρ (.IfExp test body orelse pos) d := by
  intro X env A s Q E O hA G V h
  exact wpAny_IfExp (ht env A s _ E O hA G V fun s₁ k₁ => hb env A s₁ Q E O hA (G.trans k₁.grows) (V.grow k₁.grows) fun v s₂ k₂ y => h v s₂ (k₁.trans k₂) y)
theorem Ev.ifF {test body orelse : Expr} {pos : Pos} {d : D} (ht : EvB C n sc ρ test false) (hb : Ev C n sc ρ orelse d) : Ev C n sc ρ (.IfExp test body orelse pos) d := by
  intro X env A s Q E O hA G V h
  exact wpAny_IfExp (ht env A s _ E O hA G V fun s₁ k₁ => hb env A s₁ Q E O hA (G.trans k₁.grows) (V.grow k₁.grows) fun v s₂ k₂ y => h v s₂ (k₁.trans k₂) y)
theorem Ev.ite {test body orelse : Expr} {pos : Pos} {b : Bool} {d e : D} (ht : EvB C n sc ρ test b) (hb : b = true → Ev C n sc ρ body d) (ho : b = false → Ev C n sc ρ orelse e) : Ev C n sc ρ (.IfExp test body orelse pos) (if b then d else e) := by
  cases b with
  | true => exact Ev.ifT ht (hb rfl)
  | false => exact Ev.ifF ht (ho rfl)
theorem Ev.or2 {x y : Expr} {pos : Pos} {a : D} {b : Bool} {e : D} (hx : Ev C n sc ρ x a) (ht : Tr C n a b) (hy : b = false → Ev C n sc ρ y e) : Ev C n sc ρ (.BoolOp .Or [x, y] pos) (if b then a else e) := by
  intro X env A s Q E O hA G V h
  refine wpAny_Or2 (hx env A s _ E O hA G V fun v s₁ k₁ y₁ => ht A s₁ v _ E hA (G.trans k₁.grows) y₁ fun s₂ k₂ => ?_)
  cases b with
  | true => exact h v s₂ (k₁.trans k₂) (y₁.grow k₂.grows)
  | false => exact hy rfl env A s₂ Q E O hA ((G.trans k₁.grows).trans k₂.grows) ((V.grow k₁.grows).grow k₂.grows) fun v s₃ k₃ y₃ => h v s₃ ((k₁.trans k₂).trans k₃) y₃

-- several
theorem EvL.nil : EvL C n sc ρ [] [] := fun _ _ _ _ _ _ _ _ _ _ h => Calls.spliced_nil (h _ _ Kp.rfl .nil)
theorem EvL.cons {e : Expr} {es : List Expr} {d : D} {ds : List D} (he : Ev C n sc ρ e d) (hes : EvL C n sc ρ es ds) (hn : ∀ env, starEach (e :: es) env = (false, eval e env) :: starEach es env) : EvL C n sc ρ (e :: es) (d :: ds) := by
  intro X pos env A s Q E O hA G V h
  rw [hn]
  show wpAny _ _ (spliced ((false, if false = true then _ else eval e env) :: backTo pos (starEach es env))) _ _ _
  exact Calls.spliced_cons (he env A s _ E O hA G V fun v s₁ k₁ y₁ => hes pos env A s₁ _ E O hA (G.trans k₁.grows) (V.grow k₁.grows) fun vs s₂ k₂ y₂ => h _ s₂ (k₁.trans k₂) (.cons (y₁.grow k₂.grows) y₂))
theorem Ev.tup {es : List Expr} {k : Nat} {pos : Pos} {ds : List D} (h : EvL C n sc ρ es ds) (hz : ds.length ≤ sizeLine) : Ev C n sc ρ (.Tuple es k pos) (.tup ds) := by
  intro X env A s Q E O hA G V hq
  refine PyProof.Rows.Tuple_ (h pos env A s _ E O hA G V fun vs s₁ k₁ y₁ => wpAny_newObj_type (hq _ _ (k₁.trans Kp.pushed') (.tup (G.trans k₁.grows).size ⟨0, Heap.get?_push_size _ rfl⟩ (y₁.grow (Grows.push _ _)))) ?_)
  show vs.toArray.size ≤ sizeLine
  rw [List.size_toArray, y₁.length]; exact hz
theorem Ev.list {es : List Expr} {pos : Pos} {ds : List D} (h : EvL C n sc ρ es ds) (hz : ds.length ≤ sizeLine) : Ev C n sc ρ (.List es pos) (.list ds) := by
  intro X env A s Q E O hA G V hq
  refine PyProof.Rows.List_ (h pos env A s _ E O hA G V fun vs s₁ k₁ y₁ => wpAny_newObj_type (hq _ _ (k₁.trans Kp.pushed') (.list (G.trans k₁.grows).size ⟨0, Heap.get?_push_size _ rfl⟩ (y₁.grow (Grows.push _ _)))) ?_)
  show vs.toArray.size ≤ sizeLine
  rw [List.size_toArray, y₁.length]; exact hz
end
end

-- part M4
section
theorem DenL.one {X : List Addr} {h : Heap} {vs : List Value} {a : D} (x : DenL X h vs [a]) : ∃ v, vs = [v] ∧ Den X h v a := by
  cases x with | cons y r => cases r; exact ⟨_, rfl, y⟩
theorem DenL.two {X : List Addr} {h : Heap} {vs : List Value} {a b : D} (x : DenL X h vs [a, b]) : ∃ u v, vs = [u, v] ∧ Den X h u a ∧ Den X h v b := by
  cases x with | cons y r => obtain ⟨v, rfl, z⟩ := r.one; exact ⟨_, _, rfl, y, z⟩
theorem DenL.three {X : List Addr} {h : Heap} {vs : List Value} {a b c : D} (x : DenL X h vs [a, b, c]) : ∃ u v w, vs = [u, v, w] ∧ Den X h u a ∧ Den X h v b ∧ Den X h w c := by
  cases x with | cons y r => obtain ⟨v, w, rfl, z, z'⟩ := r.two; exact ⟨_, _, _, rfl, y, z, z'⟩

/-- what an iterator over ds knows -/
structure It (C : Cx) (X : List Addr) (A : Around) (ds : List D) (h : Heap) (I : Addr) (fp : List Addr) (P : Nat → Value → Prop) (St : Nat → Heap → Prop) : Prop where
  walks : Walks C.prog C.w A I fp [I] ds.length P St
  items : ∀ i u h', DataKeep X h h' → P i u → ∃ d, ds[i]? = some d ∧ Den X h' u d
  iobj : ∀ i h', St i h' → ∃ o vs, h'.get? I = some o ∧ o.data = .fields vs ∧ o.cls ≠ .type "range"
  fpd : ∀ b ∈ fp, b = I ∨ (b ∉ X ∧ ∃ o xs n, h.get? b = some o ∧ o.data = .seq xs n)

def Iter (C : Cx) (r : Bool) (d : D) (ds : List D) : Prop :=
  ∀ {X : List Addr} (A : Around) (s : Shared) (v : Value) (Q : Value → Shared → Prop) (E : Value → Shared → Prop), A.handled = none → Gd C X s.heap → Den X s.heap v d →
    (∀ o fp P St, (r = true → fp = [s.heap.objs.size] ∧ ∀ i u h', P i u → ∃ d, ds[i]? = some d ∧ Den X h' u d) → It C X A ds s.heap s.heap.objs.size fp P St → St 0 (s.heap.push o) → Q (.ref s.heap.objs.size) { s with heap := s.heap.push o }) → wpAny C.M A (pyIter v) Q E s

def rItems (a n c : Int) : List D := (List.range n.toNat).map fun (i : Nat) => D.int (a + (i : Int) * c)

section
variable {C : Cx} {n : Nat}

theorem PTup.isTuple {h : Heap} {a : Addr} {xs : Array Value} (x : PTup h a xs) : h.IsTuple a xs := let ⟨n, e⟩ := x; ⟨_, e, rfl, n, rfl⟩
theorem ne_size {h : Heap} {a : Addr} {o : Obj} (e : h.get? a = some o) : a ≠ h.objs.size := Nat.ne_of_lt (Heap.lt_size e)

theorem Iter.list {ds : List D} : Iter C false (.list ds) ds := by
  intro X A s v Q E hh G hv h
  cases hv with | @list a vs _ hX hl hds =>
  have hlen := hds.length
  have hne : a ≠ s.heap.objs.size := let ⟨_, e⟩ := hl; ne_size e
  have hsz : vs.toArray.size = ds.length := by rw [List.size_toArray, hlen]
  refine wpAny_pyIter_list hl.isList (h _ [s.heap.objs.size, a] (fun i v => vs.toArray[i]? = some v) (fun i h => h.IsListIter s.heap.objs.size a i ∧ h.IsList a vs.toArray) (fun q => by cases q) ⟨hsz ▸ Walks.list (prog := C.prog) (w := C.w) hh s.heap.objs.size a hne vs.toArray, ?_, ?_, ?_⟩ ⟨⟨_, Heap.get?_push_size _ rfl, rfl, rfl⟩, hl.isList.push _⟩)
  · intro i u h' k hP
    obtain ⟨d, h1, h2⟩ := (DenL.dk k hds).get' i u (by simpa using hP)
    exact ⟨d, h1, h2⟩
  · rintro i h' ⟨⟨o, ho, hc, hd⟩, _⟩; exact ⟨o, _, ho, hd, by rw [hc]; decide⟩
  · intro b hb
    rcases List.mem_cons.mp hb with e | hb
    · exact .inl e
    · rw [List.mem_singleton.mp hb]
      obtain ⟨k, e⟩ := hl
      exact .inr ⟨hX, _, _, _, e, rfl⟩
theorem Iter.tup {ds : List D} : Iter C false (.tup ds) ds := by
  intro X A s v Q E hh G hv h
  cases hv with | @tup a vs _ hX hl hds =>
  have hlen := hds.length
  have hne : a ≠ s.heap.objs.size := let ⟨_, e⟩ := hl; ne_size e
  have hsz : vs.toArray.size = ds.length := by rw [List.size_toArray, hlen]
  refine wpAny_pyIter_tuple (PTup.isTuple hl) (h _ [s.heap.objs.size, a] (fun i v => vs.toArray[i]? = some v) (fun i h => h.IsTupleIter s.heap.objs.size a i ∧ h.IsTuple a vs.toArray) (fun q => by cases q) ⟨hsz ▸ Walks.tuple (prog := C.prog) (w := C.w) hh s.heap.objs.size a hne vs.toArray, ?_, ?_, ?_⟩ ⟨⟨_, Heap.get?_push_size _ rfl, rfl, rfl⟩, (PTup.isTuple hl).push _⟩)
  · intro i u h' k hP
    obtain ⟨d, h1, h2⟩ := (DenL.dk k hds).get' i u (by simpa using hP)
    exact ⟨d, h1, h2⟩
  · rintro i h' ⟨⟨o, ho, hc, hd⟩, _⟩; exact ⟨o, _, ho, hd, by rw [hc]; decide⟩
  · intro b hb
    rcases List.mem_cons.mp hb with e | hb
    · exact .inl e
    · rw [List.mem_singleton.mp hb]
      obtain ⟨k, e⟩ := hl
      exact .inr ⟨hX, _, _, _, e, rfl⟩
theorem Iter.range {a k c : Int} (hk : 0 ≤ k) : Iter C true (.range a k c) (rItems a k c) := by
  intro X A s v Q E hh G hv h
  cases hv with | @range r _ _ _ hX hr =>
  obtain ⟨b, t, u, w, hr, hsm, hsz⟩ := hr
  have hl : (rItems a k c).length = k.toNat := by simp [rItems]
  refine wpAny_pyIter_range hr hsm (h _ [s.heap.objs.size] (fun i v => i < k.toNat ∧ ∃ t, v = .int (a + (i : Int) * c) t) (fun i h => IsRangeIter h s.heap.objs.size (a + (i : Nat) * c) (((k.toNat : Nat) : Int) - (i : Nat)) c) (fun _ => ⟨rfl, fun i u h' hP => ?_⟩) ⟨?_, ?_, ?_, ?_⟩ ?_)
  · obtain ⟨hi, t, rfl⟩ := hP
    refine ⟨.int (a + (i : Int) * c), ?_, .int _ _⟩
    simp [rItems, List.getElem?_range hi]
  · rw [hl]; exact (Walks.range (prog := C.prog) (w := C.w) hh s.heap.objs.size a c k.toNat).bound
  · rintro i u h' _ ⟨hi, t, rfl⟩
    refine ⟨.int (a + (i : Int) * c), ?_, .int _ _⟩
    simp [rItems, List.getElem?_range hi]
  · rintro i h' e; exact ⟨_, _, e, rfl, fun q => absurd (Value.type.inj q) (by decide)⟩
  · intro b hb; exact .inl (List.mem_singleton.mp hb)
  · have e1 : (a + ((0 : Nat) : Int) * c) = a := by simp
    have e2 : (((k.toNat : Nat) : Int) - ((0 : Nat) : Int)) = Builtin.Range.rangeSize a b c := by rw [hsz]; simp; omega
    show (s.heap.push _).get? _ = _
    rw [e1, e2]; exact Heap.get?_push_size _ rfl

-- len
theorem Fn.len_list {ds : List D} (hz : ds.length < 2 ^ 62) : Fn C n (.builtin "len") [.list ds] (.int ds.length) := by
  intro X A s vs Q E hA G hv h
  obtain ⟨v, rfl, y⟩ := hv.one
  cases y with | @list a us _ hX hl hds =>
  have e := hds.length
  exact Calls.call_len_list hl.isList (by rw [List.size_toArray, e]; omega) (h _ _ Kp.toks (by rw [List.size_toArray, e]; exact .int _ _))
theorem Fn.len_str {x : PySem.Str} (hz : x.length < 2 ^ 62) : Fn C n (.builtin "len") [.str x] (.int x.length) := by
  intro X A s vs Q E hA G hv h
  obtain ⟨v, rfl, y⟩ := hv.one
  cases y
  exact PySem.P.len_str (by omega) (h _ _ Kp.toks (.int _ _))

-- range
theorem Fn.range1 {b : Int} (h0 : -(2 ^ 62) ≤ b) (h1 : b < 2 ^ 62) : Fn C n (.type "range") [.int b] (.range 0 (if 0 < b then b else 0) 1) := by
  intro X A s vs Q E hA G hv h
  obtain ⟨v, rfl, y⟩ := hv.one
  cases y
  exact call_range_1 (h _ _ Kp.pushed (.range G.size ⟨_, _, _, _, IsRange.new .., small_one (by decide) (by decide) h0 h1, by rw [rangeSize_one]; simp⟩))
theorem Fn.range3 {a b c k : Int} (hc : c ≠ 0) (hs : Builtin.Range.small a b c = true) (hk : Builtin.Range.rangeSize a b c = k) (hp : c.natAbs < 1073741824) : Fn C n (.type "range") [.int a, .int b, .int c] (.range a k c) := by
  intro X A s vs Q E hA G hv h
  obtain ⟨u, v, w, rfl, h1, h2, h3⟩ := hv.three
  cases h1; cases h2; cases h3
  exact call_range_3 hc (h _ _ Kp.pushed (.range G.size ⟨_, _, _, _, IsRange.new .., hs, hk⟩)) (.inl (PyProof.noPylong_small hp))

-- int, round, str
theorem Fn.int_flt {x : UInt64} (hx : Float64.isFinite x = true) : Fn C n (.type "int") [.flt x] (.int (PySem.Flt.toInt Float64.truncOf x)) := by
  intro X A s vs Q E hA G hv h
  obtain ⟨v, rfl, y⟩ := hv.one
  cases y
  refine PySem.Flt.call_int_float3 hA.1 (fun hn => ?_) (fun hn => ?_) fun _ => h _ _ Kp.toks (.int _ _)
  · exact absurd hx (by unfold Float64.isFinite; unfold Float64.isNaN at hn; split at hn <;> simp_all)
  · exact absurd hx (by unfold Float64.isFinite; unfold Float64.isInf at hn; split at hn <;> simp_all)
theorem Fn.round_flt {x : UInt64} (hx : Float64.isFinite x = true) : Fn C n (.builtin "round") [.flt x] (.int (PySem.Flt.toInt Float64.nearestOf x)) := by
  intro X A s vs Q E hA G hv h
  obtain ⟨v, rfl, y⟩ := hv.one
  cases y
  refine PySem.Flt.call_round_float hA.1 (fun hn => ?_) (fun hn => ?_) fun _ => h _ _ Kp.toks (.int _ _)
  · exact absurd hx (by unfold Float64.isFinite; unfold Float64.isNaN at hn; split at hn <;> simp_all)
  · exact absurd hx (by unfold Float64.isFinite; unfold Float64.isInf at hn; split at hn <;> simp_all)
end
end

-- part M5
section
open PySem.SeqAt

abbrev DI (ns : List Int) : List D := ns.map D.int
abbrev DS (xs : List PySem.Str) : List D := xs.map D.str

theorem DenL.ofGet {X : List Addr} {h : Heap} : ∀ {vs : List Value} {ds : List D}, vs.length = ds.length → (∀ (i : Nat) (v : Value), vs[i]? = some v → ∃ d, ds[i]? = some d ∧ Den X h v d) → DenL X h vs ds
  | [], [], _, _ => .nil
  | v :: vs, d :: ds, e, x => by
    obtain ⟨d', h1, h2⟩ := x 0 v (by simp)
    rw [List.getElem?_cons_zero] at h1
    obtain rfl := Option.some.inj h1
    exact .cons h2 (DenL.ofGet (by simpa using e) fun i u hu => by simpa using x (i + 1) u (by simpa using hu))
  | [], _ :: _, e, _ => by simp at e
  | _ :: _, [], e, _ => by simp at e
theorem DenL.ints {X : List Addr} {h : Heap} : ∀ {vs : List Value} {ns : List Int}, DenL X h vs (DI ns) → IntsAre vs ns
  | [], [], _ => .nil
  | v :: vs, k :: ns, x => by
    cases x with | cons y r => cases y; exact .cons _ _ (DenL.ints r)
  | [], _ :: _, x => nomatch x
  | _ :: _, [], x => nomatch x
theorem DenL.ofInts {X : List Addr} {h : Heap} : ∀ {vs : List Value} {ns : List Int}, IntsAre vs ns → DenL X h vs (DI ns)
  | _, _, .nil => .nil
  | _, _, .cons n t r => .cons (.int n t) (DenL.ofInts r)
theorem DenL.strs {X : List Addr} {h : Heap} : ∀ {vs : List Value} {xs : List PySem.Str}, DenL X h vs (DS xs) → ∃ l : List (PySem.Str × Tok), strValues l = vs ∧ l.map (·.1) = xs
  | [], [], _ => ⟨[], rfl, rfl⟩
  | v :: vs, k :: ns, x => by
    cases x with | cons y r =>
      cases y with | str _ t =>
        obtain ⟨l, rfl, rfl⟩ := DenL.strs r
        exact ⟨(k, t) :: l, rfl, rfl⟩
  | [], _ :: _, x => nomatch x
  | _ :: _, [], x => nomatch x

theorem reads_strs {X : List Addr} {h : Heap} : ∀ {vs : List Value} {xs : List PySem.Str}, DenL X h vs (DS xs) → ReadsAll h vs (xs.map PyData.str) []
  | [], [], _ => .nil
  | v :: vs, k :: ns, x => by
    cases x with | cons y r =>
      cases y with | str _ t =>
        have := ReadsAll.cons (Reads.str (h := h) k t) (reads_strs r)
        simpa using this
  | [], _ :: _, x => nomatch x
  | _ :: _, [], x => nomatch x
theorem canLayAll0_strs : ∀ xs : List PySem.Str, (∀ x ∈ xs, PyData.strOk x = true) → PyData.canLayAll0 (xs.map PyData.str) = true
  | [], _ => by simp [PyData.canLayAll0]
  | x :: r, h => by simp [PyData.canLayAll0, PyData.canLay0, canLayAll0_strs r fun y hy => h y (.tail _ hy), h x (.head _)]
theorem depthAll_strs : ∀ xs : List PySem.Str, PyData.depthAll (xs.map PyData.str) ≤ 1
  | [] => by simp [PyData.depthAll]
  | x :: r => by
    have := depthAll_strs r
    simp only [List.map_cons, PyData.depthAll, PyData.depth]
    omega
theorem shaped_strs (xs : List PySem.Str) (ho : ∀ x ∈ xs, PyData.strOk x = true) : shaped (.list (xs.map PyData.str)) = true := by
  have h1 := depthAll_strs xs
  have h2 : PyData.depth (.list (xs.map PyData.str)) ≤ 64 := by simp only [PyData.depth]; omega
  show (PyData.canLay0 (.list (xs.map PyData.str)) && decide (PyData.depth (.list (xs.map PyData.str)) ≤ 64)) = true
  rw [Bool.and_eq_true]
  exact ⟨by simp only [PyData.canLay0]; exact canLayAll0_strs xs ho, decide_eq_true h2⟩
theorem noMix_strs : ∀ xs ys : List PySem.Str, noMixAll (xs.map PyData.str) (ys.map PyData.str) = true
  | [], [] => by simp [noMixAll]
  | [], _ :: _ => by simp [noMixAll]
  | _ :: _, [] => by simp [noMixAll]
  | _ :: r, _ :: q => by simp [noMixAll, noMix, noMix_strs r q]
theorem same_strs : ∀ xs ys : List PySem.Str, PySem.Spec.sameAll (xs.map PyData.str) (ys.map PyData.str) = decide (xs = ys)
  | [], [] => by simp [PySem.Spec.sameAll]
  | [], _ :: _ => by simp [PySem.Spec.sameAll]
  | _ :: _, [] => by simp [PySem.Spec.sameAll]
  | x :: r, y :: q => by
    simp only [List.map_cons, PySem.Spec.sameAll, PySem.Spec.same, same_strs r q]
    by_cases h : x = y <;> simp [h]

def imax : List Int → Int
  | [] => 0
  | x :: r => r.foldl max x
def imin : List Int → Int
  | [] => 0
  | x :: r => r.foldl min x

theorem argBest_val {bt : Nat → Nat → Bool} {val : Nat → Int} {f : Int → Int → Int} (h : ∀ i j, val (if bt i j then i else j) = f (val j) (val i)) : ∀ k, val (argBest bt k) = (List.range k).foldl (fun a i => f a (val (i + 1))) (val 0)
  | 0 => rfl
  | k + 1 => by
    rw [argBest, h, argBest_val h k, List.range_succ, List.foldl_append]
    rfl
theorem foldl_range {f : Int → Int → Int} : ∀ (r : List Int) (x a : Int), (List.range r.length).foldl (fun a i => f a (((x :: r)[i + 1]?).getD 0)) a = r.foldl f a
  | [], x, a => rfl
  | y :: r, x, a => by
    rw [List.length_cons, List.range_succ_eq_map, List.foldl_cons, List.foldl_map, List.foldl_cons]
    have := foldl_range (f := f) r y (f a y)
    simpa using this

section
variable {C : Cx} {n : Nat}

theorem Bin.add_ll {a b : List D} (hz : a.length + b.length ≤ sizeLine) : Bin C n .Add (.list a) (.list b) (.list (a ++ b)) := by
  intro X A s u v Q E _ G hu hv h
  cases hu with | @list l vs _ hX hl hds =>
  cases hv with | @list l2 ws _ hX2 hl2 hds2 =>
  have e1 := hds.length
  have e2 := hds2.length
  obtain ⟨n1, ho⟩ := hl
  obtain ⟨n2, ho2⟩ := hl2
  have e : vs.toArray ++ ws.toArray = (vs ++ ws).toArray := by simp
  refine concat_meets ⟨_, ho, rfl⟩ ⟨_, ho2, rfl⟩ noFill_list_add seq_list_add PySem.F.slot_list_add PySem.F.entry_list_add (PySem.F.args_list_add_2 _ _) (list_addW l l2 vs.toArray ws.toArray n1 n2 _ _ _ _ (by simp only [List.size_toArray]; omega)) ⟨ho, ho2, ?_⟩
  rw [e]
  exact h _ _ Kp.pushed' (.list G.size ⟨0, Heap.get?_push_size _ rfl⟩ ((hds.append hds2).grow (Grows.push _ _)))

theorem Cmp.eq_ints {xs ys : List Int} : Cmp C n .Eq (.list (DI xs)) (.list (DI ys)) (decide (xs = ys)) := by
  intro X A s u v Q E hA _ hu hv h
  cases hu with | @list l vs _ hX hl hds =>
  cases hv with | @list l2 ws _ hX2 hl2 hds2 =>
  exact eq_intsK hl.isList hds.ints hl2.isList hds2.ints (by have := hA.2.2; omega) (h _ Kp.rfl)
theorem Cmp.ne_strs {xs ys : List PySem.Str} (hx : ∀ x ∈ xs, PyData.strOk x = true) (hy : ∀ x ∈ ys, PyData.strOk x = true) : Cmp C n .NotEq (.list (DS xs)) (.list (DS ys)) (!decide (xs = ys)) := by
  intro X A s u v Q E hA _ hu hv h
  cases hu with | @list l vs _ hX hl hds =>
  cases hv with | @list l2 ws _ hX2 hl2 hds2 =>
  obtain ⟨n1, ho⟩ := hl
  obtain ⟨n2, ho2⟩ := hl2
  refine ne_dataH_same (Reads.list ho rfl rfl (by simpa using reads_strs hds)) (Reads.list ho2 rfl rfl (by simpa using reads_strs hds2)) (shaped_strs xs hx) (shaped_strs ys hy) (by have := hA.2.2; omega)
    (by simp only [noMix]; exact noMix_strs xs ys) (by simp only [PySem.Spec.same]; rw [same_strs]; exact h _ Kp.rfl)

/-- behind an iterator's turns -/
theorem after_wr {h h' : Heap} {o : Obj} (hk : ∀ b x, b ∉ [h.objs.size] → (h.push o).get? b = some x → h'.get? b = some x) : Grows h h' := fun b x e =>
  hk b x (fun hm => ne_size e (List.mem_singleton.mp hm)) (Heap.get?_push_of_some _ e)
theorem It.lt {C : Cx} {X : List Addr} {A : Around} {ds : List D} {h : Heap} {fp : List Addr} {P : Nat → Value → Prop} {St : Nat → Heap → Prop} {o : Obj} (I : It C X A ds h h.objs.size fp P St) : ∀ b ∈ fp, b < (h.push o).objs.size := fun b hb => by
  rw [Heap.size_push]
  rcases I.fpd b hb with e | ⟨_, x, _, _, e, _⟩
  · rw [e]; exact Nat.lt_succ_self _
  · exact Nat.lt_succ_of_lt (Heap.lt_size e)
theorem It.int {C : Cx} {X : List Addr} {A : Around} {ns : List Int} {h : Heap} {a : Addr} {fp : List Addr} {P : Nat → Value → Prop} {St : Nat → Heap → Prop} (I : It C X A (DI ns) h a fp P St) : ∀ i v, P i v → ∃ t, v = .int (ns.getD i 0) t := fun i v hp => by
  obtain ⟨d, h1, h2⟩ := I.items i v h (DataKeep.refl _) hp
  rw [List.getElem?_map, Option.map_eq_some_iff] at h1
  obtain ⟨k, hk, rfl⟩ := h1
  cases h2 with | int _ t => exact ⟨t, by rw [List.getD_eq_getElem?_getD, hk]; rfl⟩

theorem imax_val {ns : List Int} {x : Int} {r : List Int} (e : ns = x :: r) : ns.getD (argBest (fun i j => decide (ns.getD i 0 > ns.getD j 0)) (ns.length - 1)) 0 = imax ns := by
  have := argBest_val (bt := fun i j => decide (ns.getD i 0 > ns.getD j 0)) (val := fun i => ns.getD i 0) (f := max) (fun i j => by
    by_cases h : ns.getD i 0 > ns.getD j 0
    · simp only [decide_eq_true h, if_true]; omega
    · simp only [decide_eq_false h, Bool.false_eq_true, if_false]; omega) (ns.length - 1)
  rw [this]; subst e
  have h2 := foldl_range (f := max) r x x
  simpa [imax, List.getD_eq_getElem?_getD] using h2
theorem imin_val {ns : List Int} {x : Int} {r : List Int} (e : ns = x :: r) : ns.getD (argBest (fun i j => decide (ns.getD i 0 < ns.getD j 0)) (ns.length - 1)) 0 = imin ns := by
  have := argBest_val (bt := fun i j => decide (ns.getD i 0 < ns.getD j 0)) (val := fun i => ns.getD i 0) (f := min) (fun i j => by
    by_cases h : ns.getD i 0 < ns.getD j 0
    · simp only [decide_eq_true h, if_true]; omega
    · simp only [decide_eq_false h, Bool.false_eq_true, if_false]; omega) (ns.length - 1)
  rw [this]; subst e
  have h2 := foldl_range (f := min) r x x
  simpa [imin, List.getD_eq_getElem?_getD] using h2

theorem Fn.max_list {ns : List Int} (hn : ns ≠ []) : Fn C n (.builtin "max") [.list (DI ns)] (.int (imax ns)) := by
  intro X A s vs Q E hA G hv h
  obtain ⟨v, rfl, y⟩ := hv.one
  obtain ⟨x, r, e⟩ := List.exists_cons_of_ne_nil hn
  refine call_max_walk (Iter.list A.in1 s v _ E hA.1 G y fun o fp P St _ I st => ?_)
  refine ⟨_, fp, _, _, P, St, _, rfl, I.walks, st, I.lt, by rw [e]; simp, CmpOf.ints_gt (fun i => ns.getD i 0) I.int, fun v h' tk hP hk => ?_⟩
  obtain ⟨t, rfl⟩ := I.int _ _ hP
  rw [List.length_map, imax_val e]
  exact h _ _ (Kp.of (after_wr hk)) (.int _ _)
theorem Fn.min_list {ns : List Int} (hn : ns ≠ []) : Fn C n (.builtin "min") [.list (DI ns)] (.int (imin ns)) := by
  intro X A s vs Q E hA G hv h
  obtain ⟨v, rfl, y⟩ := hv.one
  obtain ⟨x, r, e⟩ := List.exists_cons_of_ne_nil hn
  refine call_min_walk (Iter.list A.in1 s v _ E hA.1 G y fun o fp P St _ I st => ?_)
  refine ⟨_, fp, _, _, P, St, _, rfl, I.walks, st, I.lt, by rw [e]; simp, CmpOf.ints_lt (fun i => ns.getD i 0) I.int, fun v h' tk hP hk => ?_⟩
  obtain ⟨t, rfl⟩ := I.int _ _ hP
  rw [List.length_map, imin_val e]
  exact h _ _ (Kp.of (after_wr hk)) (.int _ _)

theorem preSum_take (ns : List Int) : ∀ k, k ≤ ns.length → preSum (fun i => ns.getD i 0) k = (ns.take k).sum
  | 0, _ => by simp [preSum]
  | k + 1, h => by
    rw [preSum, preSum_take ns k (by omega), List.take_add_one, List.sum_append, List.getD_eq_getElem?_getD, List.getElem?_eq_getElem (by omega)]
    simp
theorem Fn.sum_list {ns : List Int} (hf : ∀ k, k < ns.length → InLong (ns.getD k 0) ∧ InLong (ns.take (k + 1)).sum) : Fn C n (.builtin "sum") [.list (DI ns)] (.int ns.sum) := by
  intro X A s vs Q E hA G hv h
  obtain ⟨v, rfl, y⟩ := hv.one
  refine call_sum_walk (Iter.list A.in1 s v _ E hA.1 G y fun o fp P St _ I st => ?_)
  refine ⟨_, fp, _, _, P, St, fun i => ns.getD i 0, rfl, I.walks, st, I.lt, I.int, fun j hj => ?_, fun h' tk t' hk => ?_⟩
  · rw [List.length_map] at hj
    rw [preSum_take ns _ (by omega)]; exact hf j hj
  · rw [List.length_map, preSum_take ns _ (Nat.le_refl _), List.take_length]
    exact h _ _ (Kp.of (after_wr hk)) (.int _ _)

/-- the iterator that a pair's or a triple's min and max make -/
theorem Iter.args {X : List Addr} {A : Around} {s : Shared} {vs : List Value} {ds : List D} {Q : Value → Shared → Prop} {E : Value → Shared → Prop} (hA : A.handled = none) (G : Gd C X s.heap) (hd : DenL X s.heap vs ds)
    (h : ∀ fp P St s₂, It C X A ds (s.heap.push { cls := .type "tuple", data := .seq vs.toArray }) (s.heap.objs.size + 1) fp P St → St 0 s₂.heap → (∀ b ∈ fp, b < s₂.heap.objs.size) → (∀ h' tk, (∀ b x, b ∉ [s.heap.objs.size + 1] → s₂.heap.get? b = some x → h'.get? b = some x) → Kp s { s₂ with heap := h', toks := tk }) →
      Q (.ref (s.heap.objs.size + 1)) s₂) :
    wpAny C.M A (pyIter (.ref s.heap.objs.size)) Q E { s with heap := s.heap.push { cls := .type "tuple", data := .seq vs.toArray } } := by
  have hsz : (s.heap.push { cls := .type "tuple", data := .seq vs.toArray }).objs.size = s.heap.objs.size + 1 := Heap.size_push ..
  refine Iter.tup A _ _ Q E hA (G.trans (Grows.push _ _)) (.tup G.size ⟨0, Heap.get?_push_size _ rfl⟩ (hd.grow (Grows.push _ _))) fun o fp P St _ I st => ?_
  simp only [hsz] at I ⊢
  refine h fp P St _ I st (fun b hb => ?_) fun h' tk hk => ⟨⟨h', tk, rfl⟩, fun b x e => hk b x (fun hm => ?_) (Heap.get?_push_of_some _ (Heap.get?_push_of_some _ e))⟩
  · show b < ((s.heap.push _).push o).objs.size
    rw [Heap.size_push, hsz]
    rcases I.fpd b hb with e | ⟨_, x, _, _, e, _⟩
    · rw [e]; exact Nat.lt_succ_self _
    · have := Heap.lt_size e; rw [hsz] at this; exact Nat.lt_succ_of_lt this
  · have := Heap.lt_size e; rw [List.mem_singleton.mp hm] at this; exact Nat.lt_irrefl _ (Nat.lt_of_succ_lt this)

theorem Fn.min_ii {a b : Int} : Fn C n (.builtin "min") [.int a, .int b] (.int (min a b)) := by
  intro X A s vs Q E hA G hv h
  obtain ⟨u, v, rfl, y, z⟩ := hv.two
  refine call_min_two (Iter.args (ds := DI [a, b]) hA.1 G (.cons y (.cons z .nil)) fun fp P St s₂ I st lt kp => ?_)
  refine ⟨_, fp, _, _, P, St, _, rfl, I.walks, st, lt, by simp, CmpOf.ints_lt (fun i => [a, b].getD i 0) I.int, fun v h' tk hP hk => ?_⟩
  obtain ⟨t, rfl⟩ := I.int _ _ hP
  rw [List.length_map, imin_val rfl]
  exact h _ _ (kp _ _ hk) (.int _ _)

theorem CmpOf.flts_gt {prog : Program} {w : World} {A : Around} {P : Nat → Value → Prop} (val : Nat → UInt64) (hval : ∀ i v, P i v → ∃ t, v = .float (val i) t) :
    CmpOf prog w A .Gt P (fun i j => Float64.cmp (val i) (val j) == some Ordering.gt) := fun i j vi vj s Q E hi hj h => by
  obtain ⟨t, rfl⟩ := hval i vi hi
  obtain ⟨u, rfl⟩ := hval j vj hj
  exact AutoFloatOps.gt_0 h
theorem CmpOf.flts_lt {prog : Program} {w : World} {A : Around} {P : Nat → Value → Prop} (val : Nat → UInt64) (hval : ∀ i v, P i v → ∃ t, v = .float (val i) t) :
    CmpOf prog w A .Lt P (fun i j => Float64.cmp (val i) (val j) == some Ordering.lt) := fun i j vi vj s Q E hi hj h => by
  obtain ⟨t, rfl⟩ := hval i vi hi
  obtain ⟨u, rfl⟩ := hval j vj hj
  exact AutoFloatOps.lt_0 h
theorem It.flt {C : Cx} {X : List Addr} {A : Around} {ns : List UInt64} {h : Heap} {a : Addr} {fp : List Addr} {P : Nat → Value → Prop} {St : Nat → Heap → Prop} (I : It C X A (ns.map D.flt) h a fp P St) : ∀ i v, P i v → ∃ t, v = .float (ns.getD i 0) t := fun i v hp => by
  obtain ⟨d, h1, h2⟩ := I.items i v h (DataKeep.refl _) hp
  rw [List.getElem?_map, Option.map_eq_some_iff] at h1
  obtain ⟨k, hk, rfl⟩ := h1
  cases h2 with | flt _ t => exact ⟨t, by rw [List.getD_eq_getElem?_getD, hk]; rfl⟩
def fmax2 (a b : UInt64) : UInt64 := if Float64.cmp b a == some Ordering.gt then b else a
def fmin2 (a b : UInt64) : UInt64 := if Float64.cmp b a == some Ordering.lt then b else a
theorem fmax_val {a b c : UInt64} : [a, b, c].getD (argBest (fun i j => Float64.cmp ([a, b, c].getD i 0) ([a, b, c].getD j 0) == some Ordering.gt) 2) 0 = fmax2 (fmax2 a b) c := by
  simp only [argBest, fmax2]
  by_cases h1 : (Float64.cmp b a == some Ordering.gt) = true
  · by_cases h2 : (Float64.cmp c b == some Ordering.gt) = true <;> simp_all
  · by_cases h2 : (Float64.cmp c a == some Ordering.gt) = true <;> simp_all
theorem fmin_val {a b c : UInt64} : [a, b, c].getD (argBest (fun i j => Float64.cmp ([a, b, c].getD i 0) ([a, b, c].getD j 0) == some Ordering.lt) 2) 0 = fmin2 (fmin2 a b) c := by
  simp only [argBest, fmin2]
  by_cases h1 : (Float64.cmp b a == some Ordering.lt) = true
  · by_cases h2 : (Float64.cmp c b == some Ordering.lt) = true <;> simp_all
  · by_cases h2 : (Float64.cmp c a == some Ordering.lt) = true <;> simp_all
theorem Fn.max_fff {a b c : UInt64} : Fn C n (.builtin "max") [.flt a, .flt b, .flt c] (.flt (fmax2 (fmax2 a b) c)) := by
  intro X A s vs Q E hA G hv h
  obtain ⟨u, v, w, rfl, y, z, z'⟩ := hv.three
  refine call_max_three (Iter.args (ds := [a, b, c].map D.flt) hA.1 G (.cons y (.cons z (.cons z' .nil))) fun fp P St s₂ I st lt kp => ?_)
  refine ⟨_, fp, _, _, P, St, _, rfl, I.walks, st, lt, by simp, CmpOf.flts_gt (fun i => [a, b, c].getD i 0) I.flt, fun v h' tk hP hk => ?_⟩
  obtain ⟨t, rfl⟩ := I.flt _ _ hP
  have e := fmax_val (a := a) (b := b) (c := c)
  rw [show ([a, b, c].map D.flt).length - 1 = 2 from rfl, e]
  exact h _ _ (kp _ _ hk) (.flt _ _)
theorem Fn.min_fff {a b c : UInt64} : Fn C n (.builtin "min") [.flt a, .flt b, .flt c] (.flt (fmin2 (fmin2 a b) c)) := by
  intro X A s vs Q E hA G hv h
  obtain ⟨u, v, w, rfl, y, z, z'⟩ := hv.three
  refine call_min_three (Iter.args (ds := [a, b, c].map D.flt) hA.1 G (.cons y (.cons z (.cons z' .nil))) fun fp P St s₂ I st lt kp => ?_)
  refine ⟨_, fp, _, _, P, St, _, rfl, I.walks, st, lt, by simp, CmpOf.flts_lt (fun i => [a, b, c].getD i 0) I.flt, fun v h' tk hP hk => ?_⟩
  obtain ⟨t, rfl⟩ := I.flt _ _ hP
  have e := fmin_val (a := a) (b := b) (c := c)
  rw [show ([a, b, c].map D.flt).length - 1 = 2 from rfl, e]
  exact h _ _ (kp _ _ hk) (.flt _ _)

theorem Fn.sorted {ns : List Int} {d : D} (h64 : ns.length < 64) (hd : ∀ ms : List Int, ms.Perm ns → ms.Pairwise (· ≤ ·) → D.list (DI ms) = d) : Fn C n (.builtin "sorted") [.list (DI ns)] d := by
  intro X A s vs Q E hA G hv h
  obtain ⟨v, rfl, y⟩ := hv.one
  cases y with | @list l us _ hX hl hds =>
  have e := hds.length
  refine sorted_ints hl.isList hds.ints (by rw [e, List.length_map]; exact h64) fun out ms a1 a2 a3 => ?_
  obtain ⟨k, he⟩ := sortedAll_at s.heap us out
  refine h _ _ (Kp.ofH fun _ _ => sortedAll_old) ?_
  rw [← hd ms a2 a3]
  have := DenL.ofInts (X := X) (h := sortedAll s.heap us out) a1
  exact .list (vs := out.toList) (G.new (by
    cases q : s.heap.get? (s.heap.objs.size + 1) with
    | none => rfl
    | some o => exact absurd (Heap.lt_size q) (Nat.not_lt.mpr (Nat.le_succ _)))) ⟨k, by simpa using he⟩ this

theorem Fn.list_range {X : List Addr} {a k c : Int} (h0 : 0 ≤ k) (hk : k ≤ 2 ^ 24) {Q : Value → Shared → Prop} {A : Around} {s : Shared} {v : Value} {E : Value → Shared → Prop} (hA : Aok n A) (hv : Den X s.heap v (.range a k c))
    (G : Gd C X s.heap) (h : ∀ b s', Kp s s' → s.heap.get? b = none → Den X s'.heap (.ref b) (.list (rItems a k c)) → Q (.ref b) s') : wpAny C.M A (call (.type "list") [v]) Q E s := by
  cases hv with | range hX hr =>
  obtain ⟨b, t, u, w, hr, hsm, hsz⟩ := hr
  refine call_list_range (n := k.toNat) hA.1 hr hsm (by rw [hsz]; omega) (by omega) fun h' tk acc c' hk' hS hacc => ?_
  refine h _ _ (Kp.of hk') ?_ (.list (vs := acc.toList) G.size ⟨c', by simpa using hS⟩ ?_)
  · cases q : s.heap.get? s.heap.objs.size with
    | none => rfl
    | some o => exact absurd (Heap.lt_size q) (Nat.lt_irrefl _)
  · refine DenL.ofGet (by rw [Array.length_toList, hacc.1]; simp [rItems]) fun i v hv => ?_
    obtain ⟨t, rfl⟩ := hacc.2 i v (by simpa using hv)
    have hi : i < k.toNat := by
      have := (List.getElem?_eq_some_iff.mp hv).1
      rwa [Array.length_toList, hacc.1] at this
    exact ⟨.int (a + (i : Int) * c), by simp [rItems, List.getElem?_range hi], .int _ _⟩
end
end

-- part M6
section
section
variable {C : Cx} {n : Nat} {sc : Scope} {ρ : Store}

theorem Fn.str_int {a : Int} (ha : a.natAbs.log2 < 1920) : Fn C n (.type "str") [.int a] (.str (PySem.Str.ofString (toString a))) := by
  intro X A s vs Q E hA _ hv h
  obtain ⟨v, rfl, y⟩ := hv.one
  cases y
  exact PySem.P.str_of_int ha (h _ _ Kp.toks (.str _ _))

theorem Fn.lower {x : PySem.Str} (hf : Builtin.Str.tooLong (Txt.lower x).length = false) : Fn C n (.builtin "str.lower") [.str x] (.str (Txt.lower x)) := by
  intro X A s vs Q E hA _ hv h
  obtain ⟨v, rfl, y⟩ := hv.one
  cases y with | str _ t =>
  exact call_gives F.slot_str_lower (typeIs_str _ _ _) F.entry_str_lower (F.args_str_lower_1 _) (gives_str_lower x t hf) ⟨fit_le hf, h _ _ Kp.toks (.str _ _)⟩

theorem Fn.join {x : PySem.Str} {xs : List PySem.Str} (hok : JoinOk x xs = true) : Fn C n (.builtin "str.join") [.str x, .list (DS xs)] (.str (Txt.join x xs)) := by
  intro X A s vs Q E hA _ hv h
  obtain ⟨u, v, rfl, y, z⟩ := hv.two
  cases y with | str _ t =>
  cases z with | @list D us _ hX hl hds =>
  obtain ⟨l, rfl, rfl⟩ := hds.strs
  unfold JoinOk at hok
  rw [Bool.not_eq_true'] at hok
  exact call_meets F.slot_str_join (typeIs_str _ _ _) F.entry_str_join (F.args_str_join_2 _ _) (meets_str_join_list x t D l hok) ⟨hl.isList, post_join l ⟨joinFit_length hok, fun t' k => h _ _ Kp.toks (.str _ t')⟩⟩

theorem kf_ints_of : ∀ {vs : List Value} {ns : List Int}, IntsAre vs ns → kf_ints vs = true
  | _, _, .nil => rfl
  | _, _, .cons n t r => by rw [kf_ints]; exact kf_ints_of r

theorem Fn.index {ns : List Int} {k : Int} {j : Nat} (hz : ns.length ≤ sizeLine) (hj : ns[j]? = some k) (hf : ∀ i, i < j → ns[i]? ≠ some k) : Fn C n (.builtin "list.index") [.list (DI ns), .int k] (.int j) := by
  intro X A s vs Q E hA _ hv h
  obtain ⟨u, v, rfl, y, z⟩ := hv.two
  cases z with | int _ t =>
  cases y with | @list D us _ hX hl hds =>
  have hi := hds.ints
  have e := hds.length
  rw [List.length_map] at e
  obtain ⟨n1, ho⟩ := hl
  rw [sizeLine_eq] at hz
  have hlt : j < ns.length := (List.getElem?_eq_some_iff.mp hj).1
  have at' : ∀ (i : Nat) (q : i < us.length), ∃ t, us[i] = .int (ns.getD i 0) t := fun i q => by
    obtain ⟨m, t, h1, h2⟩ := hi.at i us[i] (List.getElem?_eq_getElem q)
    exact ⟨t, by rw [h1, List.getD_eq_getElem?_getD, h2]; rfl⟩
  refine call_meets PySem.F.slot_list_index ⟨_, ho, rfl⟩ PySem.F.entry_list_index (PySem.F.args_list_index_2 _ _)
    (MeetsSeq.list_index D us.toArray n1 (.int k t) (isInt k) (fun y hy => kf_eq (kf_ints_of hi) y (by simpa using hy)) j (by rw [List.size_toArray]; omega) (by omega) ?_ ?_) ⟨ho, h _ _ Kp.toks (.int _ _)⟩
  · obtain ⟨t', e'⟩ := at' j (by omega)
    simp only [List.getElem_toArray, e', List.getD_eq_getElem?_getD, hj]
    simp [isInt]
  · intro i hi' hlt'
    obtain ⟨t', e'⟩ := at' i (by simpa using hi')
    have h1 := hf i hlt'
    have h2 : i < ns.length := by rw [← e]; simpa using hi'
    simp only [List.getElem_toArray, e', List.getD_eq_getElem?_getD]
    rw [List.getElem?_eq_getElem h2] at h1 ⊢
    simp only [isInt, Option.getD_some]
    simpa using h1

-- calls
theorem spliced_args {X : List Addr} {e : Expr} {es : List Expr} {ds : List D} {pos : Pos} {f : Value} {env : Env} {A : Around} {s : Shared} {Q : Args → Shared → Prop} {E : Value → Shared → Prop}
    (ha : EvL C n sc ρ (e :: es) ds) (hn : starEach (e :: es) env = (false, eval e env) :: starEach es env) (O : EnvOK sc env) (hA : Aok n A) (G : Gd C X s.heap) (V : Vars X env s.heap ρ)
    (h : ∀ vs s', Kp s s' → DenL X s'.heap vs ds → Q ⟨vs, []⟩ s') : wpAny C.M A (evalArgs f true (backTo pos (starEach (e :: es) env)) []) Q E s := by
  have hs := ha pos env A s (fun vs s' => Q ⟨vs, []⟩ s') E O hA G V h
  rw [hn] at hs ⊢
  exact Calls.evalArgs_plain hs

/-- what a name that is no local gives -/
def Gl (C : Cx) (sc : Scope) (x : PySem.Str) (v : Value) : Prop :=
  ∀ {X : List Addr} (pos : Pos) (env : Env) (A : Around) (s : Shared) (Q : Value → Shared → Prop) (E : Value → Shared → Prop), EnvOK sc env → Gd C X s.heap → Q v s → wpAny C.M A (eval (.Name x pos) env) Q E s
theorem Gl.top {x : PySem.Str} {v : Value} (hx : sc.names.lookup x = some .globalImplicit) (hv : C.mg x = some v) (hd : (x == ("__debug__" : PySem.Str)) = false) : Gl C sc x v :=
  fun _ _ _ _ _ _ O G h => Ev.globalV hx hv hd O G h
theorem Gl.boot {x : PySem.Str} {v : Value} (hx : sc.names.lookup x = some .globalImplicit) (hg : C.mg x = none) (hv : bootBuiltins x = some v) (hd : (x == ("__debug__" : PySem.Str)) = false) (hn : x ≠ "__name__") : Gl C sc x v :=
  fun _ _ _ _ _ _ O G h => Ev.builtinV hx hg hv hd hn O G h

theorem Ev.callB {x : PySem.Str} {p pos : Pos} {id : String} {e : Expr} {es : List Expr} {ds : List D} {d : D} (hx : Gl C sc x (.builtin id)) (ha : EvL C n sc ρ (e :: es) ds)
    (hn : ∀ env, starEach (e :: es) env = (false, eval e env) :: starEach es env) (hp : ∀ env, (backTo pos (starEach (e :: es) env)).any (·.1) = false) (hf : Fn C n (.builtin id) ds d) : Ev C n sc ρ (.Call (.Name x p) (e :: es) [] pos) d := by
  intro X env A s Q E O hA G V h
  refine wpAny_Call_NameR (hx p env A s _ E O G (Calls.callWith_builtin (hp env) (spliced_args ha (hn env) O hA G V fun vs s₁ k₁ y₁ => ?_)))
  exact hf A s₁ vs Q E hA (G.trans k₁.grows) y₁ fun v s₂ k₂ y₂ => h v s₂ (k₁.trans k₂) y₂
theorem Ev.callT {x : PySem.Str} {p pos : Pos} {id : String} {e : Expr} {es : List Expr} {ds : List D} {d : D} (hx : Gl C sc x (.type id)) (ha : EvL C n sc ρ (e :: es) ds)
    (hn : ∀ env, starEach (e :: es) env = (false, eval e env) :: starEach es env) (hp : ∀ env, (backTo pos (starEach (e :: es) env)).any (·.1) = false) (hf : Fn C n (.type id) ds d) : Ev C n sc ρ (.Call (.Name x p) (e :: es) [] pos) d := by
  intro X env A s Q E O hA G V h
  refine wpAny_Call_NameR (hx p env A s _ E O G (PySem.callWith_type (hp env) (spliced_args ha (hn env) O hA G V fun vs s₁ k₁ y₁ => ?_)))
  exact hf A s₁ vs Q E hA (G.trans k₁.grows) y₁ fun v s₂ k₂ y₂ => h v s₂ (k₁.trans k₂) y₂
theorem Ev.callF {x : PySem.Str} {p pos : Pos} {f : Addr} {o : Obj} {fd : FuncData} {e : Expr} {es : List Expr} {ds : List D} {d : D} (hx : Gl C sc x (.ref f)) (ho : C.hT.get? f = some o) (hd : o.data = .func fd) (ha : EvL C n sc ρ (e :: es) ds)
    (hn : ∀ env, starEach (e :: es) env = (false, eval e env) :: starEach es env) (hf : Fn C n (.ref f) ds d) : Ev C n sc ρ (.Call (.Name x p) (e :: es) [] pos) d := by
  intro X env A s Q E O hA G V h
  refine wpAny_Call_NameR (hx p env A s _ E O G (Calls.callWith_function (o := o) (fd := fd) (spliced_args ha (hn env) O hA G V fun vs s₁ k₁ y₁ => ⟨⟨(G.trans k₁.grows).top _ _ ho, hd⟩, ?_⟩)))
  exact hf A s₁ vs Q E hA (G.trans k₁.grows) y₁ fun v s₂ k₂ y₂ => h v s₂ (k₁.trans k₂) y₂

/-- a method's owner -/
def Mth (d : D) (name : PySem.Str) (id : String) : Prop := ∀ {X : List Addr} (h : Heap) (v : Value), Den X h v d → ∃ T, PlainAttrs T ∧ Slot T name id ∧ typeOf (.builtin id) = pure (.type "method_descriptor") ∧
  (∀ s : Shared, s.heap = h → s.TypeIs v T) ∧ ∀ a, v = .ref a → ∃ ob, h.get? a = some ob ∧ ob.dict = none
theorem Mth.join {x : PySem.Str} : Mth (.str x) "join" "str.join" := fun {X} h v y => by
  cases y; exact ⟨"str", F.plainAttrs_str, F.slot_str_join, F.type_str_join, fun _ _ => typeIs_str _ _ _, fun a e => nomatch e⟩
theorem Mth.lower {x : PySem.Str} : Mth (.str x) "lower" "str.lower" := fun h v y => by
  cases y; exact ⟨"str", F.plainAttrs_str, F.slot_str_lower, F.type_str_lower, fun _ _ => typeIs_str _ _ _, fun a e => nomatch e⟩
theorem Mth.index {ds : List D} : Mth (.list ds) "index" "list.index" := fun h v y => by
  cases y with | list _ hl _ =>
  exact ⟨"list", F.plainAttrs_list, F.slot_list_index, F.type_list_index, fun s e => (e ▸ hl.isList : s.heap.IsList _ _).typeIs, fun a e => by cases e; obtain ⟨k, e⟩ := hl; exact ⟨_, e, rfl⟩⟩

theorem Ev.meth {o : Expr} {name : PySem.Str} {apos pos : Pos} {id : String} {e : Expr} {es : List Expr} {a : D} {ds : List D} {d : D} (ho : Ev C n sc ρ o a) (hm : Mth a name id) (ha : EvL C n sc ρ (e :: es) ds)
    (hn : ∀ env, starEach (e :: es) env = (false, eval e env) :: starEach es env) (hp : ∀ env, (backTo pos (starEach (e :: es) env)).any (·.1) = false)
    (hbase : ∀ env, attributeBase o name env (eval o env) = eval o env)
    (hfew : ∀ env, ((backTo pos (starEach (e :: es) env)).all (fun x => !x.1) && (backToKw pos (keywordEach [] env)).all (fun x => x.1.isSome)
      && decide ((e :: es).length + ([] : List Keyword).length + (if ([] : List Keyword).isEmpty then 0 else 1) < 30)) = true) (hline : (apos.endLine == pos.line) = true)
    (hf : Fn C n (.builtin id) (a :: ds) d) : Ev C n sc ρ (.Call (.Attribute o name apos) (e :: es) [] pos) d := by
  intro X env A s Q E O hA G V h
  refine wpAny_Call_method_lateS (hbase env) (hfew env) hline (ho env A s _ E O hA G V fun ov s₁ k₁ y₁ => ?_)
  obtain ⟨T, pa, sl, ty, hT, hd⟩ := hm _ _ y₁
  refine ⟨T, id, pa, sl, ty, hT s₁ rfl, hd, Calls.callWith_builtin (hp env) (spliced_args ha (hn env) O hA (G.trans k₁.grows) (V.grow k₁.grows) fun vs s₂ k₂ y₂ => ?_)⟩
  exact hf A s₂ (ov :: vs) Q E hA ((G.trans k₁.grows).trans k₂.grows) (.cons (y₁.grow k₂.grows) y₂) fun v s₃ k₃ y₃ => h v s₃ ((k₁.trans k₂).trans k₃) y₃
theorem Ev.meth0 {o : Expr} {name : PySem.Str} {apos pos : Pos} {id : String} {a : D} {d : D} (ho : Ev C n sc ρ o a) (hm : Mth a name id)
    (hbase : ∀ env, attributeBase o name env (eval o env) = eval o env) (hline : (apos.endLine == pos.line) = true)
    (hf : Fn C n (.builtin id) [a] d) : Ev C n sc ρ (.Call (.Attribute o name apos) [] [] pos) d := by
  intro X env A s Q E O hA G V h
  refine wpAny_Call_method_lateS (args := []) (hbase env) rfl hline (ho env A s _ E O hA G V fun ov s₁ k₁ y₁ => ?_)
  obtain ⟨T, pa, sl, ty, hT, hd⟩ := hm _ _ y₁
  refine ⟨T, id, pa, sl, ty, hT s₁ rfl, hd, Calls.callWith_builtin rfl (PyProof.Rows.evalArgs_nil3 ?_)⟩
  exact hf A s₁ [ov] Q E hA (G.trans k₁.grows) (.cons y₁ .nil) fun v s₃ k₃ y₃ => h v s₃ (k₁.trans k₃) y₃
end
end

-- part M7
section
/-- how a frame holds a name -/
def Held (env : Env) (m cm : PySem.Str → Option Value) (x : PySem.Str) (v : Value) : Prop :=
  (env.kindOf x = some .local ∧ m x = some v) ∨ (env.kindOf x = some .cell ∧ (∃ c, env.cells.lookup x = some c) ∧ cm x = some v)

/-- a frame's state: W are the lists that it may still change -/
def FSt (X W : List Addr) (env : Env) (s₀ s : Shared) (ρ : Store) : Prop :=
  ∃ m cm, InCallC s₀ env.locals m env.cells cm s ∧ (∀ a ∈ W, s₀.heap.get? a = none ∧ ∃ vs, s.heap.IsList a vs) ∧ ∀ p ∈ ρ, ∃ v, Den X s.heap v p.2 ∧ Held env m cm p.1 v

/-- all but the frame's own stands -/
def Upd (W : List Addr) (env : Env) (h h' : Heap) : Prop := ∀ b o, b ≠ env.locals → (∀ x c, env.cells.lookup x = some c → b ≠ c) → b ∉ W → h.get? b = some o → h'.get? b = some o
theorem Upd.refl {W : List Addr} {env : Env} {h : Heap} : Upd W env h h := fun _ _ _ _ _ e => e
theorem Upd.trans {W : List Addr} {env : Env} {a b c : Heap} (x : Upd W env a b) (y : Upd W env b c) : Upd W env a c := fun i o p q r e => y i o p q r (x i o p q r e)
theorem Upd.any {W : List Addr} {env : Env} {a b : Heap} (x : Upd [] env a b) : Upd W env a b := fun i o p q _ e => x i o p q (fun h => nomatch h) e
theorem Upd.grow {W : List Addr} {env : Env} {h h' : Heap} (g : Grows h h') : Upd W env h h' := fun b o _ _ _ e => g b o e

inductive Out where
  | next (ρ : Store)
  | ret (d : D)
def Post (X W : List Addr) (env : Env) (s₀ s : Shared) (out : Out) (Q : Flow → Shared → Prop) : Prop := match out with
  | .next ρ' => ∀ s', FSt X W env s₀ s' ρ' → Upd W env s.heap s'.heap → Q .next s'
  | .ret d => ∀ v s', Kp s₀ s' → Den X s'.heap v d → Q (.ret v) s'
def Ex (C : Cx) (n : Nat) (sc : Scope) (W : List Addr) (ρ : Store) (ss : List Stmt) (out : Out) : Prop :=
  ∀ {X : List Addr} (env : Env) (A : Around) (s₀ s : Shared) (Q : Flow → Shared → Prop) (E : Value → Shared → Prop), EnvOK sc env → Aok n A → Gd C X s₀.heap → FSt X W env s₀ s ρ → Post X W env s₀ s out Q → wpAny C.M A (execs ss env) Q E s
def Ex1 (C : Cx) (n : Nat) (sc : Scope) (W : List Addr) (ρ : Store) (st : Stmt) (out : Out) : Prop :=
  ∀ {X : List Addr} (env : Env) (A : Around) (s₀ s : Shared) (Q : Flow → Shared → Prop) (E : Value → Shared → Prop), EnvOK sc env → Aok n A → Gd C X s₀.heap → FSt X W env s₀ s ρ → Post X W env s₀ s out Q → wpAny C.M A (exec st env) Q E s

section
variable {C : Cx} {n : Nat} {sc : Scope} {X W : List Addr} {ρ : Store} {env : Env} {s₀ s s' : Shared}

theorem InCallC.kp {L : Addr} {m cm : PySem.Str → Option Value} {cs : List (PySem.Str × Addr)} (x : InCallC s₀ L m cs cm s) (k : Kp s s') : InCallC s₀ L m cs cm s' := by
  obtain ⟨⟨h, t, rfl⟩, g⟩ := k
  obtain ⟨h₁, t₁, e⟩ := x.toInCall.same
  exact ⟨⟨⟨h, t, by rw [e]⟩, x.toInCall.ns.keeps g, fun b o e => g b o (x.toInCall.keep b o e), x.toInCall.fresh⟩, fun n c hc => (x.cell n c hc).keeps g, x.apart, x.above⟩
theorem FSt.kp (F : FSt X W env s₀ s ρ) (k : Kp s s') : FSt X W env s₀ s' ρ := by
  obtain ⟨m, cm, K, hW, hv⟩ := F
  exact ⟨m, cm, InCallC.kp K k, fun a ha => ⟨(hW a ha).1, let ⟨vs, e⟩ := (hW a ha).2; let ⟨o, q, r⟩ := e; ⟨vs, o, k.grows _ _ q, r⟩⟩, fun p hp => let ⟨v, y, q⟩ := hv p hp; ⟨v, y.grow k.grows, q⟩⟩
theorem FSt.sub {ρ' : Store} (F : FSt X W env s₀ s ρ) (h : ∀ p ∈ ρ', p ∈ ρ) : FSt X W env s₀ s ρ' := by
  obtain ⟨m, cm, K, hW, hv⟩ := F
  exact ⟨m, cm, K, hW, fun p hp => hv p (h p hp)⟩
theorem FSt.vars (F : FSt X W env s₀ s ρ) : Vars X env s.heap ρ := by
  obtain ⟨m, cm, K, _, hv⟩ := F
  intro p hp
  obtain ⟨v, y, h | ⟨h1, ⟨c, h2⟩, h3⟩⟩ := hv p hp
  · exact .inl ⟨h.1, m, v, K.toInCall.ns, h.2, y⟩
  · exact .inr ⟨.inl h1, c, v, h2, h3 ▸ K.cell _ _ h2, y⟩
theorem FSt.base (F : FSt X W env s₀ s ρ) : Kp s₀ s := by
  obtain ⟨m, cm, K, _, _⟩ := F
  exact ⟨K.toInCall.same, K.toInCall.keep⟩
theorem FSt.top (F : FSt X W env s₀ s ρ) (G : Gd C X s₀.heap) : Gd C X s.heap := G.trans F.base.grows

theorem Ns.not_data {h : Heap} {L : Addr} {m : PySem.Str → Option Value} (x : h.Ns L m) {b : Addr} {o : Obj} (e : h.get? b = some o) (d : (∃ xs n, o.data = .seq xs n) ∨ ∃ vs, o.data = .fields vs) : b ≠ L := by
  rintro rfl
  obtain ⟨o', es, ep, e', hd, _⟩ := x
  rw [e] at e'; cases e'
  rcases d with ⟨_, _, d⟩ | ⟨_, d⟩ <;> rw [d] at hd <;> cases hd
theorem IsCell.not_data {h : Heap} {c : Addr} {v : Option Value} (x : h.IsCell c v) {b : Addr} {o : Obj} (e : h.get? b = some o) (d : (∃ xs n, o.data = .seq xs n) ∨ ∃ vs, o.data = .fields vs) : b ≠ c := by
  rintro rfl
  obtain ⟨o', e', hd⟩ := x
  rw [e] at e'; cases e'
  rcases d with ⟨_, _, d⟩ | ⟨_, d⟩ <;> rw [d] at hd <;> cases hd
theorem FSt.apartOf (F : FSt X W env s₀ s ρ) {b : Addr} {o : Obj} (e : s.heap.get? b = some o) (d : (∃ xs n, o.data = .seq xs n) ∨ ∃ vs, o.data = .fields vs) : b ≠ env.locals ∧ ∀ x c, env.cells.lookup x = some c → b ≠ c := by
  obtain ⟨m, cm, K, _, _⟩ := F
  exact ⟨Ns.not_data K.toInCall.ns e d, fun x c hc => IsCell.not_data (K.cell x c hc) e d⟩

theorem SameBut.dk {h h' : Heap} {a : Addr} (hs : Heap.SameBut a h h') (hn : ∀ b o, h.get? b = some o → ((∃ xs n, o.data = .seq xs n) ∨ ∃ vs, o.data = .fields vs) → b ≠ a) : DataKeep X h h' := fun b o _ e d =>
  hs.extBut b o (hn b o e (d.imp id fun q => q.1)) e

theorem FSt.dk (F : FSt X W env s₀ s ρ) {h : Heap} (U : Upd [] env s.heap h) : DataKeep X s.heap h := fun b o _ e dd =>
  have ap := F.apartOf e (dd.imp id fun q => q.1)
  U b o ap.1 ap.2 (fun h => nomatch h) e

/-- a store -/
theorem FSt.store {x : PySem.Str} {v : Value} {d : D} {ρ' : Store} {A : Around} {Q : Unit → Shared → Prop} {E : Value → Shared → Prop} (O : EnvOK sc env) (F : FSt X W env s₀ s ρ) (hx : sc.names.lookup x = some .local ∨ sc.names.lookup x = some .cell)
    (hs : ∀ p ∈ ρ', p ∈ ρ) (hn : ∀ p ∈ ρ', p.1 ≠ x) (y : Den X s.heap v d) (h : ∀ s', FSt X W env s₀ s' ((x, d) :: ρ') → Upd [] env s.heap s'.heap → Q () s') : wpAny C.M A (storeName env x v) Q E s := by
  obtain ⟨m, cm, K, hW, hv⟩ := F
  rcases hx with hx | hx
  · have hk := O.lo x hx
    refine wpAny_storeName_local hk K.toInCall.ns (fun h' hn' hs' => ?_) (by rw [O.kind]; rfl)
    have dk : DataKeep X s.heap h' := SameBut.dk hs' fun b o e q => Ns.not_data K.toInCall.ns e q
    have dk0 : DataKeep [] s.heap h' := SameBut.dk hs' fun b o e q => Ns.not_data K.toInCall.ns e q
    refine h _ ⟨fun z => if z = x then some v else m z, cm, ⟨⟨?_, hn', fun b o e => ?_, K.toInCall.fresh⟩, fun k c hc => ?_, K.apart, K.above⟩, fun a ha => ⟨(hW a ha).1, let ⟨vs, e⟩ := (hW a ha).2; ⟨vs, IsList.dk dk0 (fun h => nomatch h) e⟩⟩, fun p hp => ?_⟩
      fun b o hb _ _ e => hs'.extBut b o hb e
    · obtain ⟨h₁, tk, rfl⟩ := K.toInCall.same
      exact ⟨h', _, rfl⟩
    · exact hs'.extBut b o (Nat.ne_of_lt (Nat.lt_of_lt_of_le (Heap.lt_size e) K.toInCall.fresh)) (K.toInCall.keep b o e)
    · exact (K.cell k c hc).sameBut hs' (Nat.ne_of_gt (K.above k c (mem_of_lookup hc)))
    · rcases List.mem_cons.mp hp with rfl | hp
      · exact ⟨v, y.dk dk, .inl ⟨hk, if_pos rfl⟩⟩
      · obtain ⟨u, yu, q⟩ := hv p (hs p hp)
        refine ⟨u, yu.dk dk, q.imp (fun q => ⟨q.1, ?_⟩) id⟩
        exact (if_neg (hn p hp)).trans q.2
  · obtain ⟨hk, c, hc⟩ := O.ce x hx
    have hLc := K.above x c (mem_of_lookup hc)
    refine wpAny_storeName_cell O.kind hk hc (K.cell x c hc) fun h' hc' hs' => ?_
    have dk : DataKeep X s.heap h' := SameBut.dk hs' fun b o e q => IsCell.not_data (K.cell x c hc) e q
    have dk0 : DataKeep [] s.heap h' := SameBut.dk hs' fun b o e q => IsCell.not_data (K.cell x c hc) e q
    refine h _ ⟨m, fun z => if z = x then some v else cm z, ⟨⟨?_, K.toInCall.ns.sameBut hs' (Nat.ne_of_lt hLc), fun b o e => ?_, K.toInCall.fresh⟩, fun k c' hk' => ?_, K.apart, K.above⟩, fun a ha => ⟨(hW a ha).1, let ⟨vs, e⟩ := (hW a ha).2; ⟨vs, IsList.dk dk0 (fun h => nomatch h) e⟩⟩, fun p hp => ?_⟩
      fun b o _ hb _ e => hs'.extBut b o (hb x c hc) e
    · obtain ⟨h₁, tk, rfl⟩ := K.toInCall.same
      exact ⟨h', _, rfl⟩
    · exact hs'.extBut b o (Nat.ne_of_lt (Nat.lt_trans (Nat.lt_of_lt_of_le (Heap.lt_size e) K.toInCall.fresh) hLc)) (K.toInCall.keep b o e)
    · by_cases hkn : k = x
      · subst hkn
        rw [hc] at hk'; cases hk'
        simpa using hc'
      · rw [if_neg hkn]
        exact (K.cell k c' hk').sameBut hs' fun e => hkn (name_of_addr K.apart (mem_of_lookup hk') (e ▸ mem_of_lookup hc))
    · rcases List.mem_cons.mp hp with rfl | hp
      · exact ⟨v, y.dk dk, .inr ⟨hk, ⟨c, hc⟩, if_pos rfl⟩⟩
      · obtain ⟨u, yu, q⟩ := hv p (hs p hp)
        refine ⟨u, yu.dk dk, q.imp id fun q => ⟨q.1, q.2.1, ?_⟩⟩
        exact (if_neg (hn p hp)).trans q.2.2

theorem Post.mono {out : Out} {s₁ : Shared} {Q : Flow → Shared → Prop} (h : Post X W env s₀ s out Q) (u : Upd W env s.heap s₁.heap) : Post X W env s₀ s₁ out Q := by
  cases out with
  | next ρ' => exact fun s' F U => h s' F (u.trans U)
  | ret d => exact h

theorem Ex.nil : Ex C n sc W ρ [] (.next ρ) := fun _ _ _ _ _ _ _ _ _ F h => wpAny_execs_nil (h _ F Upd.refl)
theorem Ex.cons {st : Stmt} {ss : List Stmt} {ρ₁ : Store} {out : Out} (h1 : Ex1 C n sc W ρ st (.next ρ₁)) (h2 : Ex C n sc W ρ₁ ss out) : Ex C n sc W ρ (st :: ss) out := by
  intro X env A s₀ s Q E O hA G F h
  exact wpAny_execs_cons (h1 env A s₀ s _ E O hA G F fun s' F' U => h2 env A s₀ s' Q E O hA G F' (h.mono U))
theorem Ex.consRet {st : Stmt} {ss : List Stmt} {d : D} (h1 : Ex1 C n sc W ρ st (.ret d)) : Ex C n sc W ρ (st :: ss) (.ret d) := by
  intro X env A s₀ s Q E O hA G F h
  exact wpAny_execs_cons (h1 env A s₀ s _ E O hA G F fun v s' k y => h v s' k y)
theorem Ex1.sub {st : Stmt} {ρ₁ ρ₂ : Store} (h : Ex1 C n sc W ρ st (.next ρ₁)) (hs : ∀ p ∈ ρ₂, p ∈ ρ₁) : Ex1 C n sc W ρ st (.next ρ₂) :=
  fun env A s₀ s Q E O hA G F hq => h env A s₀ s Q E O hA G F fun s' F' U => hq s' (F'.sub hs) U
theorem Ex.sub {ss : List Stmt} {ρ₁ ρ₂ : Store} (h : Ex C n sc W ρ ss (.next ρ₁)) (hs : ∀ p ∈ ρ₂, p ∈ ρ₁) : Ex C n sc W ρ ss (.next ρ₂) :=
  fun env A s₀ s Q E O hA G F hq => h env A s₀ s Q E O hA G F fun s' F' U => hq s' (F'.sub hs) U
theorem Ex.pre {ss : List Stmt} {ρ₁ : Store} {out : Out} (h : Ex C n sc W ρ₁ ss out) (hs : ∀ p ∈ ρ₁, p ∈ ρ) : Ex C n sc W ρ ss out :=
  fun env A s₀ s Q E O hA G F hq => h env A s₀ s Q E O hA G (F.sub hs) hq

theorem Ex1.ret {e : Expr} {pos : Pos} {d : D} (he : Ev C n sc ρ e d) : Ex1 C n sc W ρ (.Return (some e) pos) (.ret d) := by
  intro X env A s₀ s Q E O hA G F h
  exact wpAny_Return_some (he env A s _ E O hA (F.top G) F.vars fun v s' k y => h v s' (F.base.trans k) y)

theorem Ex1.assign {x : PySem.Str} {e : Expr} {pos' pos : Pos} {d : D} {ρ' : Store} (he : Ev C n sc ρ e d) (hx : sc.names.lookup x = some .local ∨ sc.names.lookup x = some .cell) (hs : ∀ p ∈ ρ', p ∈ ρ) (hn : ∀ p ∈ ρ', p.1 ≠ x)
    (hw : ∀ env, EnvOK sc env → swapsWith e (some (.Name x pos')) pos.line env = pure false) : Ex1 C n sc W ρ (.Assign [.Name x pos'] e pos) (.next ((x, d) :: ρ')) := by
  intro X env A s₀ s Q E O hA G F h
  exact wpAny_Assign_Name (he env A s _ E O hA (F.top G) F.vars fun v s₁ k y => (F.kp k).store O hx hs hn y fun s₂ F₂ U₂ => h s₂ F₂ ((Upd.grow k.grows).trans U₂.any)) (hw env O)

theorem Ex1.assign2 {x z : PySem.Str} {e : Expr} {p1 p2 pos : Pos} {d : D} {ρ' : Store} (he : Ev C n sc ρ e d) (hx : sc.names.lookup x = some .local ∨ sc.names.lookup x = some .cell) (hz : sc.names.lookup z = some .local ∨ sc.names.lookup z = some .cell)
    (hs : ∀ p ∈ ρ', p ∈ ρ) (hn : ∀ p ∈ ρ', p.1 ≠ x) (hn2 : ∀ p ∈ ρ', p.1 ≠ z) (hxz : x ≠ z)
    (hw : ∀ env, swappedStores [.Name x p1, .Name z p2] e env = pure none) : Ex1 C n sc W ρ (.Assign [.Name x p1, .Name z p2] e pos) (.next ((z, d) :: (x, d) :: ρ')) := by
  intro X env A s₀ s Q E O hA G F h
  refine wpAny_Assign_two (he env A s _ E O hA (F.top G) F.vars fun v s₁ k y => wpAny_assign_Name ((F.kp k).store O hx hs hn y fun s₂ F₂ U₂ => wpAny_assign_Name ?_)) rfl (hw env)
  have yv : Den X s₂.heap v d := y.dk ((F.kp k).dk U₂)
  refine F₂.store O hz (ρ' := (x, d) :: ρ') (fun _ h => h) (fun p hp => ?_) yv fun s₃ F₃ U₃ => h s₃ F₃ (((Upd.grow k.grows).trans U₂.any).trans U₃.any)
  rcases List.mem_cons.mp hp with rfl | hp
  · exact hxz
  · exact hn2 p hp
end
end

-- part M8
section
section
variable {C : Cx} {n : Nat} {sc : Scope} {X W : List Addr} {ρ : Store} {env : Env} {s₀ s s' : Shared}

def Sto (sc : Scope) (x : PySem.Str) : Prop := sc.names.lookup x = some .local ∨ sc.names.lookup x = some .cell

/-- several stores, in order -/
theorem stores_ok {A : Around} {E : Value → Shared → Prop} (O : EnvOK sc env) {f : PySem.Str → Value → Sem Unit} (hf : ∀ x v s Q, wpAny C.M A (storeName env x v) Q E s → wpAny C.M A (f x v) Q E s) :
    ∀ (xs : List PySem.Str) (ds : List D) (vs : List Value) (ρ : Store) (s : Shared) (Q : Unit → Shared → Prop), xs.length = ds.length → xs.Nodup → (∀ x ∈ xs, Sto sc x) → (∀ p ∈ ρ, p.1 ∉ xs) → DenL X s.heap vs ds → FSt X W env s₀ s ρ →
      (∀ s', FSt X W env s₀ s' ((xs.zip ds).reverse ++ ρ) → Upd [] env s.heap s'.heap → Q () s') → wpAny C.M A (assignInOrder (xs.map f) vs) Q E s
  | [], [], _, ρ, s, Q, _, _, _, _, hd, F, h => by cases hd; exact wpAny_assignInOrder_none (h s F Upd.refl)
  | x :: xs, d :: ds, _, ρ, s, Q, hl, hnd, hx, hp, hd, F, h => by
    cases hd with | @cons v _ vs _ y hr =>
    refine wpAny_assignInOrder_more (hf x v s _ (F.store O (hx x (.head _)) (ρ' := ρ) (fun _ h => h) (fun p q e => hp p q (e ▸ .head _)) y fun s₁ F₁ U₁ => ?_))
    have hnd' := List.nodup_cons.mp hnd
    refine stores_ok O hf xs ds vs ((x, d) :: ρ) s₁ Q (by simpa using hl) hnd'.2 (fun z hz => hx z (.tail _ hz)) (fun p q hm => ?_) (hr.dk (F.dk U₁)) F₁ fun s₂ F₂ U₂ => h s₂ ?_ (U₁.trans U₂)
    · rcases List.mem_cons.mp q with rfl | q
      · exact hnd'.1 hm
      · exact hp p q (.tail _ hm)
    · have e : ((x :: xs).zip (d :: ds)).reverse ++ ρ = (xs.zip ds).reverse ++ ((x, d) :: ρ) := by simp
      rw [e]; exact F₂
  | [], _ :: _, _, _, _, _, hl, _, _, _, _, _, _ => by simp at hl
  | _ :: _, [], _, _, _, _, hl, _, _, _, _, _, _ => by simp at hl

theorem push_kp {h h' : Heap} (e : Heap.ExtBut h.objs.size h h') : Grows h h' := fun b o q => e b o (ne_size q) q

/-- x, y, .. = a tuple, by the usual way -/
theorem Ex1.unpack {xs : List (PySem.Str × Pos)} {e : Expr} {k : Nat} {tpos pos : Pos} {ds : List D} {ρ' ρ₂ : Store} (he : Ev C n sc ρ e (.tup ds)) (hl : xs.length = ds.length) (hnd : (xs.map (·.1)).Nodup) (hx : ∀ x ∈ xs, Sto sc x.1)
    (hs : ∀ p ∈ ρ', p ∈ ρ) (hn : ∀ p ∈ ρ', p.1 ∉ xs.map (·.1)) (h2 : ∀ p ∈ ρ₂, p ∈ ((xs.map (·.1)).zip ds).reverse ++ ρ')
    (hw : ∀ env, EnvOK sc env → swappedStores [.Tuple (xs.map fun x => Expr.Name x.1 x.2) k tpos] e env = pure none) (hsw : ∀ env, swapsWithSole [.Tuple (xs.map fun x => Expr.Name x.1 x.2) k tpos] e pos.line env = pure false) :
    Ex1 C n sc W ρ (.Assign [.Tuple (xs.map fun x => Expr.Name x.1 x.2) k tpos] e pos) (.next ρ₂) := by
  intro X env A s₀ s Q E O hA G F h
  have ea : ∀ l : List (PySem.Str × Pos), (assignEach (l.map fun x => Expr.Name x.1 x.2) env).map (·.2) = l.map (fun x => PySem.assign (Expr.Name x.1 x.2) env) := by
    intro l; induction l with
    | nil => rfl
    | cons x l ih => rw [List.map_cons, List.map_cons, ← ih]; rfl
  have eb : ∀ l : List (PySem.Str × Pos), (assignEach (l.map fun x => Expr.Name x.1 x.2) env).length = l.length ∧ (assignEach (l.map fun x => Expr.Name x.1 x.2) env).findIdx? (·.1) = none := by
    intro l; induction l with
    | nil => exact ⟨rfl, rfl⟩
    | cons x l ih =>
      rw [List.map_cons]
      refine ⟨congrArg Nat.succ ih.1, ?_⟩
      show List.findIdx? _ ((false, PySem.assign (Expr.Name x.1 x.2) env) :: assignEach (l.map fun x => Expr.Name x.1 x.2) env) = none
      rw [List.findIdx?_cons, ih.2]; rfl
  refine PyProof.Rows.Assign_Tuple (he env A s _ E O hA (F.top G) F.vars fun v s₁ k₁ y => ?_) (hsw env) (hw env O)
  cases y with | @tup a vs _ hXa ht hds =>
  refine wpAny_assign_Tuple hA.1 (PTup.isTuple ht) (by rw [(eb xs).1, List.size_toArray, hds.length, hl]) (eb xs).2 fun h' hx' => ?_
  have k₂ : Kp s₁ { s₁ with heap := h' } := Kp.ofH (push_kp hx')
  -- the positions do not matter
  have gen : ∀ (l : List (PySem.Str × Pos)) (ds : List D) (vs : List Value) (ρ : Store) (s : Shared) (Q : Unit → Shared → Prop), l.length = ds.length → (l.map (·.1)).Nodup → (∀ x ∈ l, Sto sc x.1) → (∀ p ∈ ρ, p.1 ∉ l.map (·.1)) → DenL X s.heap vs ds → FSt X W env s₀ s ρ →
      (∀ s', FSt X W env s₀ s' (((l.map (·.1)).zip ds).reverse ++ ρ) → Upd [] env s.heap s'.heap → Q () s') → wpAny C.M A (assignInOrder (l.map fun x => PySem.assign (Expr.Name x.1 x.2) env) vs) Q E s := by
    intro l
    induction l with
    | nil => intro ds vs ρ s Q e _ _ _ hd F h; cases ds with
      | nil => cases hd; exact wpAny_assignInOrder_none (h s F Upd.refl)
      | cons _ _ => simp at e
    | cons x l ih => intro ds vs ρ s Q e hnd hx hp hd F h; cases ds with
      | nil => simp at e
      | cons d ds =>
        cases hd with | @cons v _ vs _ y hr =>
        rw [List.map_cons] at hnd
        have hnd' := List.nodup_cons.mp hnd
        refine wpAny_assignInOrder_more (wpAny_assign_Name (F.store O (hx x (.head _)) (ρ' := ρ) (fun _ h => h) (fun p q e => hp p q (e ▸ .head _)) y fun s₁ F₁ U₁ => ?_))
        refine ih ds vs ((x.1, d) :: ρ) s₁ Q (by simpa using e) hnd'.2 (fun z hz => hx z (.tail _ hz)) (fun p q hm => ?_) (hr.dk (F.dk U₁)) F₁ fun s₂ F₂ U₂ => h s₂ ?_ (U₁.trans U₂)
        · rcases List.mem_cons.mp q with rfl | q
          · exact hnd'.1 hm
          · exact hp p q (.tail _ hm)
        · have e2 : (((x :: l).map (·.1)).zip (d :: ds)).reverse ++ ρ = ((l.map (·.1)).zip ds).reverse ++ ((x.1, d) :: ρ) := by simp
          rw [e2]; exact F₂
  rw [ea]
  exact gen xs ds vs ρ' _ _ hl hnd hx hn (hds.grow k₂.grows) ((F.kp (k₁.trans k₂)).sub hs) fun s₃ F₃ U₃ => h s₃ (F₃.sub h2) ((Upd.grow (k₁.trans k₂).grows).trans U₃.any)

/-- x, y = a, b and x, y, z = a, b, c of plain locals: the stores go the other way round -/
theorem Ex1.swap {xs : List PySem.Str} {elts : List Expr} {e : Expr} {k : Nat} {tpos pos : Pos} {ds : List D} {ρ' ρ₂ : Store} (he : Ev C n sc ρ e (.tup ds)) (hl : xs.length = ds.length) (hnd : xs.Nodup) (hx : ∀ x ∈ xs, Sto sc x)
    (hs : ∀ p ∈ ρ', p ∈ ρ) (hn : ∀ p ∈ ρ', p.1 ∉ xs) (h2 : ∀ p ∈ ρ₂, p ∈ xs.zip ds ++ ρ')
    (hw : ∀ env, EnvOK sc env → swappedStores [.Tuple elts k tpos] e env = pure (some xs)) (hsw : ∀ env, swapsWithSole [.Tuple elts k tpos] e pos.line env = pure false) :
    Ex1 C n sc W ρ (.Assign [.Tuple elts k tpos] e pos) (.next ρ₂) := by
  intro X env A s₀ s Q E O hA G F h
  refine PyProof.Rows.Assign_Tuple_swapped (names := xs) (he env A s _ E O hA (F.top G) F.vars fun v s₁ k₁ y => ?_) (hsw env) (hw env O)
  cases y with | @tup a vs _ hXa ht hds =>
  have hlen : xs.length = vs.toArray.size := by rw [List.size_toArray, hds.length, hl]
  rw [hlen]
  refine wpAny_unpackItems_tuple hA.1 (PTup.isTuple ht) fun h' hx' => ?_
  have k₂ : Kp s₁ { s₁ with heap := h' } := Kp.ofH (push_kp hx')
  have rev : ∀ {vs : List Value} {ds : List D} {h : Heap}, DenL X h vs ds → DenL X h vs.reverse ds.reverse := by
    intro vs ds h x
    induction vs generalizing ds with
    | nil => cases x; exact .nil
    | cons v vs ih => cases x with | cons y r => rw [List.reverse_cons, List.reverse_cons]; exact (ih r).snoc y
  have hd' : DenL X h' vs.reverse ds.reverse := rev (hds.grow k₂.grows)
  refine stores_ok O (f := fun x v => bindName env x v) (fun x v s Q hq => wpAny_bindName hq) xs.reverse ds.reverse _ ρ' _ _ (by simp [hl]) (List.pairwise_reverse.mpr (hnd.imp Ne.symm)) (fun x hx' => hx x (List.mem_reverse.mp hx')) (fun p hp hm => hn p hp (List.mem_reverse.mp hm)) hd' ((F.kp (k₁.trans k₂)).sub hs)
    fun s₃ F₃ U₃ => h s₃ (F₃.sub fun p hp => ?_) ((Upd.grow (k₁.trans k₂).grows).trans U₃.any)
  have hz : ∀ (a : List PySem.Str) (b : List D), a.length = b.length → a.reverse.zip b.reverse = (a.zip b).reverse := by
    intro a
    induction a with
    | nil => intro b e; simp
    | cons x a ih => intro b e; cases b with
      | nil => simp at e
      | cons y b =>
        rw [List.reverse_cons, List.reverse_cons, List.zip_append (by simpa using e), ih b (by simpa using e)]
        simp
  rw [hz xs ds hl, List.reverse_reverse]
  exact h2 p hp

def Inp (C : Cx) (n : Nat) (op : Operator) (a b d : D) : Prop :=
  ∀ {X : List Addr} (A : Around) (s : Shared) (u v : Value) (Q : Value → Shared → Prop) (E : Value → Shared → Prop), Aok n A → Gd C X s.heap → Den X s.heap u a → Den X s.heap v b →
    (∀ v s', Kp s s' → Den X s'.heap v d → Q v s') → wpAny C.M A (inplaceOp op u v) Q E s
theorem Inp.add {x y : Int} : Inp C n .Add (.int x) (.int y) (.int (x + y)) := by
  intro X A s u v Q E _ _ hu hv h; cases hu; cases hv; exact wpAny_iadd_int (h _ _ Kp.toks (.int _ _))
theorem Inp.sub {x y : Int} : Inp C n .Sub (.int x) (.int y) (.int (x - y)) := by
  intro X A s u v Q E _ _ hu hv h; cases hu; cases hv; exact PyProof.Rows.isub_int (h _ _ Kp.toks (.int _ _))

theorem Ex1.aug {x : PySem.Str} {e : Expr} {op : Operator} {pos' pos : Pos} {a b d : D} {ρ' : Store} (hm : (x, a) ∈ ρ) (he : Ev C n sc ρ e b) (hi : Inp C n op a b d) (hx : sc.names.lookup x = some .local) (hs : ∀ p ∈ ρ', p ∈ ρ) (hn : ∀ p ∈ ρ', p.1 ≠ x) :
    Ex1 C n sc W ρ (.AugAssign (.Name x pos') op e pos) (.next ((x, d) :: ρ')) := by
  intro X env A s₀ s Q E O hA G F h
  refine wpAny_AugAssign_Name ?_
  have hk := O.lo x hx
  rcases F.vars _ hm with ⟨_, m, v, hn', hv, y⟩ | ⟨hk', _⟩
  · refine wpAny_loadName_local O.kind hk hn' hv (he env A s _ E O hA (F.top G) F.vars fun w s₁ k₁ y₁ => hi A s₁ v w _ E hA ((F.top G).trans k₁.grows) (y.grow k₁.grows) y₁ fun r s₂ k₂ y₂ => ?_)
    exact (F.kp (k₁.trans k₂)).store O (.inl hx) hs hn y₂ fun s₃ F₃ U₃ => h s₃ F₃ ((Upd.grow (k₁.trans k₂).grows).trans U₃.any)
  · rw [hk] at hk'; rcases hk' with h | h <;> cases h

theorem Ex1.ifT {test : Expr} {body orelse : List Stmt} {pos : Pos} {out : Out} (ht : EvB C n sc ρ test true) (hb : Ex C n sc W ρ body out) : Ex1 C n sc W ρ (.If test body orelse pos) out := by
  intro X env A s₀ s Q E O hA G F h
  exact wpAny_If (ht env A s _ E O hA (F.top G) F.vars fun s₁ k₁ => hb env A s₀ s₁ Q E O hA G (F.kp k₁) (h.mono (Upd.grow k₁.grows)))
theorem Ex1.ifF {test : Expr} {body orelse : List Stmt} {pos : Pos} {out : Out} (ht : EvB C n sc ρ test false) (hb : Ex C n sc W ρ orelse out) : Ex1 C n sc W ρ (.If test body orelse pos) out := by
  intro X env A s₀ s Q E O hA G F h
  exact wpAny_If (ht env A s _ E O hA (F.top G) F.vars fun s₁ k₁ => hb env A s₀ s₁ Q E O hA G (F.kp k₁) (h.mono (Upd.grow k₁.grows)))
theorem Ex1.ite {test : Expr} {body orelse : List Stmt} {pos : Pos} {b : Bool} {o1 o2 : Out} (ht : EvB C n sc ρ test b) (h1 : b = true → Ex C n sc W ρ body o1) (h2 : b = false → Ex C n sc W ρ orelse o2) : Ex1 C n sc W ρ (.If test body orelse pos) (if b then o1 else o2) := by
  cases b with
  | true => exact Ex1.ifT ht (h1 rfl)
  | false => exact Ex1.ifF ht (h2 rfl)

/-- a while of K turns -/
theorem Ex1.while {test : Expr} {body : List Stmt} {pos : Pos} (ρs : Nat → Store) (K : Nat) (ht : ∀ k, k < K → EvB C n sc (ρs k) test true) (hb : ∀ k, k < K → Ex C n sc W (ρs k) body (.next (ρs (k + 1)))) (hf : EvB C n sc (ρs K) test false) :
    Ex1 C n sc W (ρs 0) (.While test body [] pos) (.next (ρs K)) := by
  intro X env A s₀ s Q E O hA G F h
  refine wpAny_While (codeAny_whileLoop (fun k s' => ∃ j, j ≤ K ∧ k = K - j ∧ FSt X W env s₀ s' (ρs j) ∧ Upd W env s.heap s'.heap) ?_ K ⟨0, Nat.zero_le _, rfl, F, Upd.refl⟩)
  rintro k s' ⟨j, hj, rfl, F', U'⟩
  by_cases hjK : j < K
  · refine ht j hjK env A s' _ _ O hA (F'.top G) F'.vars fun s₁ k₁ => ?_
    simp only [if_true]
    exact hb j hjK env A s₀ s₁ _ _ O hA G (F'.kp k₁) fun s₂ F₂ U₂ => ⟨K - (j + 1), by omega, j + 1, hjK, rfl, F₂, (U'.trans (Upd.grow k₁.grows)).trans U₂⟩
  · obtain rfl : j = K := by omega
    refine hf env A s' _ _ O hA (F'.top G) F'.vars fun s₁ k₁ => ?_
    simp only [Bool.false_eq_true, if_false]
    exact wpAny_execs_nil (h s₁ (F'.kp k₁) (U'.trans (Upd.grow k₁.grows)))

/-- what an iterator's turn leaves -/
theorem FSt.turn {I : Addr} {o : Obj} {vs : Array Value} (F : FSt X W env s₀ s ρ) (hI : s.heap.get? I = some o) (hd : o.data = .fields vs) (hc : o.cls ≠ .type "range") (h₀ : s₀.heap.get? I = none) {h' : Heap} {t : Nat}
    (hk : ∀ b x, b ∉ [I] → s.heap.get? b = some x → h'.get? b = some x) : FSt X W env s₀ { s with heap := h', toks := t } ρ := by
  have ap := F.apartOf hI (.inr ⟨_, hd⟩)
  obtain ⟨m, cm, K', hW, hv⟩ := F
  have hk' : ∀ b x, b ≠ I → s.heap.get? b = some x → h'.get? b = some x := fun b x hb => hk b x fun hm => hb (List.mem_singleton.mp hm)
  have dk : DataKeep [] s.heap h' := fun b x _ e dd => hk' b x (fun hb => by
    subst hb; rw [hI] at e; cases e
    rcases dd with ⟨xs, k, q⟩ | ⟨_, q⟩
    · rw [hd] at q; cases q
    · exact hc q) e
  obtain ⟨h₁, t₁, e₁⟩ := K'.toInCall.same
  refine ⟨m, cm, ⟨⟨⟨h', t, by rw [e₁]⟩, K'.toInCall.ns.at' fun x e => hk' _ x (Ne.symm ap.1) e, fun b x e => hk' b x (fun hb => by rw [hb, h₀] at e; cases e) (K'.toInCall.keep b x e), K'.toInCall.fresh⟩,
    fun k c hc' => let ⟨x, e, d⟩ := K'.cell k c hc'; ⟨x, hk' c x (Ne.symm (ap.2 k c hc')) e, d⟩, K'.apart, K'.above⟩, fun a ha => ⟨(hW a ha).1, let ⟨us, e⟩ := (hW a ha).2; ⟨us, IsList.dk dk (fun h => nomatch h) e⟩⟩, fun p hp => let ⟨v, y, q⟩ := hv p hp; ⟨v, y.dk (fun b o _ e dd => dk b o (fun h => nomatch h) e dd), q⟩⟩

/-- for over items: K turns, then (K < the items' number) a return, or the end -/
theorem Ex1.forG {x : PySem.Str} {px pos : Pos} {iter : Expr} {body : List Stmt} {d : D} {ds : List D} {r : Bool} {out : Out} (hi : Ev C n sc ρ iter d) (hit : Iter C r d ds) (hr : W = [] ∨ r = true) (hx : Sto sc x) (ρs : Nat → Store) (K : Nat) (hK : K ≤ ds.length)
    (h0 : ∀ p ∈ ρs 0, p ∈ ρ) (hn : ∀ k, k ≤ K → ∀ p ∈ ρs k, p.1 ≠ x)
    (hb : ∀ k e, k < K → ds[k]? = some e → Ex C n sc W ((x, e) :: ρs k) body (.next (ρs (k + 1))))
    (hend : (K = ds.length ∧ out = .next (ρs K)) ∨ ∃ e d', ds[K]? = some e ∧ out = .ret d' ∧ Ex C n sc W ((x, e) :: ρs K) body (.ret d'))
    (hs : ∀ env x, foldedSetIterable iter env x = pure x) (ht : ∀ it v, letOwnedTupleGo (.Name x px) it v = pure ()) :
    Ex1 C n sc W ρ (.For (.Name x px) iter body [] pos) out := by
  intro X env A s₀ s Q E O hA G F h
  refine wpAny_For (hi env A s _ E O hA (F.top G) F.vars fun v s₁ k₁ y₁ => hit A s₁ v _ E hA.1 ((F.top G).trans k₁.grows) y₁ fun o fp P St hfr I st => ?_) (hs env)
  have F₁ : FSt X W env s₀ { s₁ with heap := s₁.heap.push o } (ρs 0) := ((F.kp k₁).kp Kp.pushed').sub h0
  have hI₀ : s₀.heap.get? s₁.heap.objs.size = none := by
    cases q : s₀.heap.get? s₁.heap.objs.size with
    | none => rfl
    | some x => exact absurd (Heap.lt_size ((F.kp k₁).base.grows _ _ q)) (Nat.lt_irrefl _)
  have hlen : ds.length = ds.length := rfl
  refine codeAny_forLoop (fun k s' => ∃ j, j ≤ K ∧ k = K - j ∧ FSt X W env s₀ s' (ρs j) ∧ St j s'.heap ∧ (∃ h t, s' = { s₀ with heap := h, toks := t }) ∧ (W = [] → DataKeep X s₁.heap s'.heap) ∧ ∀ b x, b ≠ s₁.heap.objs.size → b ≠ env.locals → (∀ x c, env.cells.lookup x = some c → b ≠ c) → b ∉ W → s₁.heap.get? b = some x → s'.heap.get? b = some x) ?_ K
    ⟨0, Nat.zero_le _, rfl, F₁, st, F₁.base.same, fun _ => (Grows.push _ _).data, fun b x _ _ _ _ e => Heap.get?_push_of_some _ e⟩ (fun v => ht _ v)
  rintro k s' ⟨j, hj, rfl, F', st', hsame, dk', U'⟩
  obtain ⟨oI, vI, hoI, hdI, hcI⟩ := I.iobj j _ st'
  have hRdone : ∀ s₂ : Shared, FSt X W env s₀ s₂ (ρs K) → (∀ b x, b ≠ s₁.heap.objs.size → b ≠ env.locals → (∀ x c, env.cells.lookup x = some c → b ≠ c) → b ∉ W → s₁.heap.get? b = some x → s₂.heap.get? b = some x) → Upd W env s.heap s₂.heap := fun s₂ _ U b x p q w e =>
    U b x (ne_size (k₁.grows b x e)) p q w (k₁.grows b x e)
  by_cases hjl : j < ds.length
  · refine I.walks.item j s' _ _ hjl st' fun u h₂ tk₂ hP st₂ hk₂ => ?_
    have F₂ : FSt X W env s₀ { s' with heap := h₂, toks := tk₂ } (ρs j) := F'.turn hoI hdI hcI hI₀ hk₂
    have dk₂ : W = [] → DataKeep X s₁.heap h₂ := fun w b x hb e dd => hk₂ b x (fun hm => by
      rw [List.mem_singleton.mp hm] at e; exact absurd (Heap.lt_size e) (Nat.lt_irrefl _)) (dk' w b x hb e dd)
    obtain ⟨e, he, ye⟩ : ∃ d, ds[j]? = some d ∧ Den X h₂ u d := hr.elim (fun w => I.items j u h₂ (dk₂ w) hP) fun q => (hfr q).2 j u h₂ hP
    refine wpAny_assign_Name (F₂.store O hx (ρ' := ρs j) (fun _ h => h) (hn j hj) ye fun s₃ F₃ U₃ => ?_)
    obtain ⟨oI₂, vI₂, hoI₂, hdI₂, hcI₂⟩ := I.iobj (j + 1) _ st₂
    -- what the turn's body keeps
    have keepI : ∀ {s₄ : Shared}, Upd W env h₂ s₄.heap → St (j + 1) s₄.heap := fun {s₄} U => by
      refine I.walks.frame _ _ _ st₂ fun b hbf x e => ?_
      have own : b = s₁.heap.objs.size → (∃ xs n, x.data = .seq xs n) ∨ ∃ vs, x.data = .fields vs := fun hb => by
        rw [hb, hoI₂] at e; cases e; exact .inr ⟨_, hdI₂⟩
      have seq : (∃ xs n, x.data = .seq xs n) ∨ ∃ vs, x.data = .fields vs := by
        rcases hr with w | q
        · rcases I.fpd b hbf with hb | ⟨hbX, x', xs, k', e', q⟩
          · exact own hb
          · have := dk₂ w b x' hbX e' (.inl ⟨_, _, q⟩)
            rw [e] at this; cases this; exact .inl ⟨_, _, q⟩
        · rw [(hfr q).1] at hbf
          exact own (List.mem_singleton.mp hbf)
      have ap := F₂.apartOf e seq
      refine U b x ap.1 ap.2 (fun hw => ?_) e
      rcases hr with w | q
      · rw [w] at hw; cases hw
      · rw [(hfr q).1] at hbf
        obtain rfl := List.mem_singleton.mp hbf
        obtain ⟨_, _, _, hW, _⟩ := F₂
        obtain ⟨us, x', hu, _, _, hd'⟩ := (hW _ hw).2
        have hu' : h₂.get? s₁.heap.objs.size = some x' := hu
        rw [hoI₂] at hu'; cases hu'
        rw [hdI₂] at hd'; cases hd'
    have U23 : ∀ b x, b ≠ s₁.heap.objs.size → b ≠ env.locals → (∀ x c, env.cells.lookup x = some c → b ≠ c) → b ∉ W → s₁.heap.get? b = some x → s₃.heap.get? b = some x := fun b x p q r w e => U₃ b x q r (fun h => nomatch h) (hk₂ b x (fun hm => p (List.mem_singleton.mp hm)) (U' b x p q r w e))
    by_cases hjK : j < K
    · refine hb j e hjK he env A s₀ s₃ _ _ O hA G F₃ fun s₄ F₄ U₄ => ⟨K - (j + 1), by omega, j + 1, hjK, rfl, F₄, keepI (Upd.trans U₃.any U₄), F₄.base.same, fun w b x hbX ex dd => ?_, fun b x p q r w e => U₄ b x q r w (U23 b x p q r w e)⟩
      have e₂ := dk₂ w b x hbX ex dd
      have ap := F₂.apartOf e₂ (dd.imp id fun q => q.1)
      exact (Upd.trans U₃.any U₄) b x ap.1 ap.2 (by rw [w]; exact fun h => nomatch h) e₂
    · obtain rfl : j = K := by omega
      rcases hend with ⟨hK', _⟩ | ⟨e', d', he', rfl, hret⟩
      · omega
      · rw [he] at he'; cases he'
        exact hret env A s₀ s₃ _ _ O hA G F₃ fun v s₄ k₄ y₄ => h v s₄ k₄ y₄
  · have hjl' : j = ds.length := by omega
    have hjK : j = K := by omega
    subst hjK
    rcases hend with ⟨_, rfl⟩ | ⟨e', d', he', _⟩
    · refine I.walks.done s' _ _ (hjl' ▸ st') fun h₂ tk₂ hk₂ => wpAny_execs_nil ?_
      refine h _ (F'.turn hoI hdI hcI hI₀ hk₂) fun b x p q w e => ?_
      exact hk₂ b x (fun hm => ne_size (k₁.grows b x e) (List.mem_singleton.mp hm)) (hRdone s' F' U' b x p q w e)
    · rw [hjl', List.getElem?_eq_none (Nat.le_refl _)] at he'; cases he'
end
end

-- part M9
section
section
variable {C : Cx} {n : Nat} {sc : Scope} {X W : List Addr} {ρ : Store} {env : Env} {s₀ s s' : Shared}

/-- it hangs on no heap -/
def D.flat : D → Bool
  | .none | .bool _ | .int _ | .flt _ | .str _ => true
  | _ => false
theorem Den.flat {X : List Addr} {h h' : Heap} {v : Value} {d : D} (y : Den X h v d) (f : d.flat = true) : Den X h' v d := by
  cases y with
  | none => exact .none
  | bool b => exact .bool b
  | int i t => exact .int i t
  | flt x t => exact .flt x t
  | str x t => exact .str x t
  | _ => cases f
theorem DenL.flat {X : List Addr} {h h' : Heap} : ∀ {vs : List Value} {ds : List D}, DenL X h vs ds → (∀ d ∈ ds, d.flat = true) → DenL X h' vs ds
  | _, _, .nil, _ => .nil
  | _, _, .cons y r, f => .cons (y.flat (f _ (.head _))) (r.flat fun d hd => f d (.tail _ hd))

/-- row[i] = e, row the frame's own -/
theorem Ex1.setOwn {x : PySem.Str} {p p' pos : Pos} {e i : Expr} {a : Addr} {ds : List D} {k : Int} {d : D} {ρ' : Store} (hm : (x, .own a ds) ∈ ρ) (he : Ev C n sc ρ e d) (hi : Ev C n sc ρ i (.int k)) (h0 : 0 ≤ k) (hk : k < 2 ^ 63) (hl : k < ds.length)
    (hd : (x == ("__debug__" : PySem.Str)) = false) (hc : (x == ("__classdict__" : PySem.Str)) = false) (hs : ∀ q ∈ ρ', q ∈ ρ ∧ q.2.flat = true) (hf : d.flat = true) (hfs : ∀ q ∈ ds, q.flat = true) (hw : a ∈ W)
    (hsw : ∀ env, swapsWith e (some (.Subscript (.Name x p) i p')) pos.line env = pure false) :
    Ex1 C n sc W ρ (.Assign [.Subscript (.Name x p) i p'] e pos) (.next ((x, .own a (ds.set k.toNat d)) :: ρ')) := by
  intro X env A s₀ s Q E O hA G F h
  refine wpAny_Assign_Subscript (he env A s _ E O hA (F.top G) F.vars fun v s₁ k₁ y₁ => Ev.var hm hd hc env A s₁ _ E O hA ((F.top G).trans k₁.grows) (F.vars.grow k₁.grows) fun ov s₂ k₂ y₂ =>
    hi env A s₂ _ E O hA (((F.top G).trans k₁.grows).trans k₂.grows) ((F.vars.grow k₁.grows).grow k₂.grows) fun iv s₃ k₃ y₃ => ?_) (hsw env)
  cases y₃ with | int _ t =>
  have F₃ := ((F.kp k₁).kp k₂).kp k₃
  have y₂' := y₂.grow k₃.grows
  cases y₂' with | @own _ vs _ hXa hl₃ hds₃ =>
  have e₃ := hds₃.length
  refine wpAny_setItem_list hl₃ h0 hk (by rw [List.size_toArray, e₃]; exact hl) fun h' hl' hs' => ?_
  have hset : vs.toArray.setIfInBounds k.toNat v = (vs.set k.toNat v).toArray := by simp
  rw [hset] at hl'
  obtain ⟨o₃, ho₃, _, n₃, hd₃⟩ := id hl₃
  have ap := F₃.apartOf ho₃ (.inl ⟨_, _, hd₃⟩)
  obtain ⟨m, cm, K', hW, hv⟩ := F₃
  obtain ⟨h₁, t₁, e₁⟩ := K'.toInCall.same
  have hself : ∃ w, Den X s₃.heap w (.own a ds) ∧ Held env m cm x w := hv _ hm
  obtain ⟨w, yw, qw⟩ := hself
  have hwe : w = .ref a := by cases yw; rfl
  subst hwe
  have new : DenL X h' (vs.set k.toNat v) (ds.set k.toNat d) := (hds₃.flat hfs).set _ (((y₁.grow k₂.grows).grow k₃.grows).flat hf)
  refine h _ ⟨m, cm, ⟨⟨⟨h', _, by rw [e₁]⟩, K'.toInCall.ns.sameBut hs' (Ne.symm ap.1), fun b o e => hs'.extBut b o (fun hb => ?_) (K'.toInCall.keep b o e), K'.toInCall.fresh⟩, fun z c hz => (K'.cell z c hz).sameBut hs' (Ne.symm (ap.2 z c hz)), K'.apart, K'.above⟩, fun b hb => ⟨(hW b hb).1, ?_⟩, fun q hq => ?_⟩ fun b o p q r e => ?_
  · have := (hW a hw).1
    rw [hb] at e; rw [this] at e; cases e
  · by_cases hba : b = a
    · subst hba; exact ⟨_, hl'⟩
    · obtain ⟨us, x', hx', r⟩ := (hW b hb).2
      exact ⟨us, x', (hs'.2 b hba).trans hx', r⟩
  · rcases List.mem_cons.mp hq with rfl | hq
    · exact ⟨.ref a, .own hXa hl' new, qw⟩
    · obtain ⟨u, yu, qu⟩ := hv q (hs q hq).1
      exact ⟨u, yu.flat (hs q hq).2, qu⟩
  · have hb : b ≠ a := fun hb => r (hb ▸ hw)
    exact (hs'.2 b hb).trans (k₃.grows _ _ (k₂.grows _ _ (k₁.grows _ _ e)))

/-- row = list(range(..)): from here on the list is the frame's own -/
theorem Ex.ownRange {x f : PySem.Str} {p pf pc pos : Pos} {e : Expr} {a k c : Int} {ss : List Stmt} {out : Out} {ρ' : Store} (he : Ev C n sc ρ e (.range a k c)) (hfn : Gl C sc f (.type "list")) (h0 : 0 ≤ k) (hk : k ≤ 2 ^ 24)
    (hx : sc.names.lookup x = some .local) (hs : ∀ q ∈ ρ', q ∈ ρ) (hn : ∀ q ∈ ρ', q.1 ≠ x) (hw : ∀ env, swapsWith (.Call (.Name f pf) [e] [] pc) (some (.Name x p)) pos.line env = pure false)
    (hst : ∀ env, starEach [e] env = (false, eval e env) :: starEach [] env) (hp : ∀ env, (backTo pc (starEach [e] env)).any (·.1) = false)
    (hr : ∀ b, Ex C n sc [b] ((x, .own b (rItems a k c)) :: ρ') ss out) (hno : ∀ ρ₂, out ≠ .next ρ₂) : Ex C n sc [] ρ (.Assign [.Name x p] (.Call (.Name f pf) [e] [] pc) pos :: ss) out := by
  intro X env A s₀ s Q E O hA G F h
  refine wpAny_execs_cons (wpAny_Assign_Name (wpAny_Call_NameR (hfn pf env A s _ E O (F.top G) (PySem.callWith_type (hp env) (spliced_args (EvL.cons he EvL.nil hst) (hst env) O hA (F.top G) F.vars fun vs s₁ k₁ y₁ => ?_)))) (hw env))
  obtain ⟨v, rfl, y⟩ := y₁.one
  refine Fn.list_range h0 hk hA y ((F.top G).trans k₁.grows) fun b s₂ k₂ hb y₂ => ?_
  have F₂ := (F.kp k₁).kp k₂
  cases y₂ with | @list _ us _ hXb hl hds =>
  have hb₀ : s₀.heap.get? b = none := by
    cases q : s₀.heap.get? b with
    | none => rfl
    | some o => rw [(F.kp k₁).base.grows _ _ q] at hb; cases hb
  have F₂' : FSt X [b] env s₀ s₂ ρ := by
    obtain ⟨m, cm, K', _, hv⟩ := F₂
    exact ⟨m, cm, K', fun a ha => by rw [List.mem_singleton.mp ha]; exact ⟨hb₀, _, hl.isList⟩, hv⟩
  refine F₂'.store O (.inl hx) hs hn (d := .own b (rItems a k c)) (.own hXb hl.isList hds) fun s₃ F₃ U₃ => hr b env A s₀ s₃ Q E O hA G F₃ ?_
  cases out with
  | next ρ₂ => exact absurd rfl (hno ρ₂)
  | ret d => exact h
end

/-- the store of a call's parameters -/
def parStore (ps : List PySem.Str) (ds : List D) : Store := ps.zip ds

theorem bindL_get {kindOf : PySem.Str → Option NameKind} {x : PySem.Str} {v : Value} (hk : kindOf x = some .local) : ∀ (binds : List (PySem.Str × Value)) (m : PySem.Str → Option Value), (binds.map (·.1)).Nodup → (x, v) ∈ binds → bindL kindOf binds m x = some v
  | [], _, _, h => nomatch h
  | (y, u) :: r, m, hn, h => by
    have hn' := List.nodup_cons.mp hn
    unfold bindL
    rcases List.mem_cons.mp h with e | h
    · cases e
      rw [if_pos hk]
      have : ∀ (r : List (PySem.Str × Value)) (m : PySem.Str → Option Value), x ∉ r.map (·.1) → m x = some v → bindL kindOf r m x = some v := by
        intro r
        induction r with
        | nil => intro m _ h; exact h
        | cons z r ih => intro m hz h; unfold bindL; exact ih _ (fun q => hz (.tail _ q)) (by
            split
            · exact (if_neg (fun e : x = z.1 => hz (by rw [e]; exact .head _))).trans h
            · exact h)
      exact this r _ hn'.1 (if_pos rfl)
    · exact bindL_get hk r _ hn'.2 h
theorem bindC_get {kindOf : PySem.Str → Option NameKind} {x : PySem.Str} {v : Value} (hk : kindOf x = some .cell) : ∀ (binds : List (PySem.Str × Value)) (m : PySem.Str → Option Value), (binds.map (·.1)).Nodup → (x, v) ∈ binds → bindC kindOf binds m x = some v
  | [], _, _, h => nomatch h
  | (y, u) :: r, m, hn, h => by
    have hn' := List.nodup_cons.mp hn
    unfold bindC
    rcases List.mem_cons.mp h with e | h
    · cases e
      rw [if_neg (by rw [hk]; decide)]
      have : ∀ (r : List (PySem.Str × Value)) (m : PySem.Str → Option Value), x ∉ r.map (·.1) → m x = some v → bindC kindOf r m x = some v := by
        intro r
        induction r with
        | nil => intro m _ h; exact h
        | cons z r ih => intro m hz h; unfold bindC; exact ih _ (fun q => hz (.tail _ q)) (by
            split
            · exact h
            · exact (if_neg (fun e : x = z.1 => hz (by rw [e]; exact .head _))).trans h)
      exact this r _ hn'.1 (if_pos rfl)
    · exact bindC_get hk r _ hn'.2 h

/-- what is asked of a def's scope -/
structure ScOK (sc : Scope) : Prop where
  co : sc.isCoroutine = false
  gen : sc.isGenerator = false
  kind : sc.kind = .function
  nofree : ∀ x ∈ sc.names, x.2 ≠ .free

theorem cellsFrom_isSome {x : PySem.Str} : ∀ (names : List (PySem.Str × NameKind)) (k : Nat) (acc : List (PySem.Str × Addr)), names.lookup x = some .cell ∨ (acc.lookup x).isSome = true → ((cellsFrom k names acc).lookup x).isSome = true := cellsFrom_some

theorem Fn.def {C : Cx} {n : Nat} {f : Addr} {o : Obj} {fd : FuncData} {body : List Stmt} {ps : List PySem.Str} {ds : List D} {d : D} (ho : C.hT.get? f = some o) (hd : o.data = .func fd) (hcd : C.hT.CodeRec fd.code fd.qualname) (hbody : fd.body = .stmts body) (hclo : fd.closure = [])
    (hg : fd.globals = mainGlobals) (hb : fd.builtins = builtinsNs) (S : ScOK fd.scope) (hl : ps.length = ds.length) (hbind : ∀ vs : List Value, vs.length = ps.length → bindArgs fd ⟨vs, []⟩ = pure (ps.zip vs)) (hnd : ps.Nodup)
    (hk : ∀ x ∈ ps, fd.scope.names.lookup x = some .local ∨ fd.scope.names.lookup x = some .cell)
    (hx : Ex C n fd.scope [] (ps.zip ds) body (.ret d)) : Fn C (n + 1) (.ref f) ds d := by
  intro X A s vs Q E hA G hv h
  have hlen : vs.length = ps.length := by rw [hv.length, hl]
  have hkind : ∀ k, ∀ x ∈ ps.zip vs, fd.scope.names.lookup x.1 = some .local ∨ (fd.scope.names.lookup x.1 = some .cell ∧ ((cellsFrom k fd.scope.names []).lookup x.1).isSome = true) := fun k x hx =>
    (hk x.1 (List.of_mem_zip hx).1).imp id fun q => ⟨q, cellsFrom_isSome _ _ _ (.inl q)⟩
  refine wpAny_call (codeAny_call_cells (o := o) (binds := ps.zip vs) (by have := hA.2.1; omega) (G.top _ _ ho) hd (C.nolimit.keeps G.top) (hcd.keeps G.top) hbody (hbind vs hlen) hclo (hkind _) (fun s₁ K' => ?_) S.co S.gen S.kind)
  have O : EnvOK fd.scope (callEnvC fd s.heap.objs.size f) := by
    refine ⟨S.kind, hg, hb, fun x hx => hx, fun x hx => hx, fun x hx => ⟨hx, Option.isSome_iff_exists.mp (cellsFrom_isSome _ _ _ (.inl hx))⟩, fun x hx => ?_⟩
    exact absurd rfl (S.nofree _ (mem_of_lookup hx))
  have hz : ((ps.zip vs).map (·.1)).Nodup := by rw [List.map_fst_zip (by omega)]; exact hnd
  have F : FSt X [] (callEnvC fd s.heap.objs.size f) s s₁ (ps.zip ds) := by
    refine ⟨_, _, K', (fun a ha => nomatch ha), fun p hp => ?_⟩
    obtain ⟨i, hi⟩ := List.mem_iff_getElem?.mp hp
    rw [List.getElem?_zip_eq_some] at hi
    obtain ⟨v, h1, h2⟩ := hv.get i p.2 hi.2
    have hm : (p.1, v) ∈ ps.zip vs := List.mem_iff_getElem?.mpr ⟨i, List.getElem?_zip_eq_some.mpr ⟨hi.1, h1⟩⟩
    refine ⟨v, h2.grow K'.toInCall.keep, ?_⟩
    rcases hk p.1 (List.mem_of_getElem? hi.1) with q | q
    · exact .inl ⟨q, bindL_get (kindOf := (callEnvC fd s.heap.objs.size f).kindOf) q _ _ hz hm⟩
    · exact .inr ⟨q, (O.ce p.1 q).2, bindC_get (kindOf := (callEnvC fd s.heap.objs.size f).kindOf) q _ _ hz hm⟩
  refine wpAny_mono (hx _ _ s s₁ (fun fl s' => match fl with | .ret v => Q v s' | _ => False) (fun _ _ => False) O hA.deeper G F fun v s' k y => h v s' k y) (fun fl s' hq => ?_) fun _ _ q => q.elim
  cases fl with
  | ret v => exact hq
  | _ => exact hq.elim
end

-- part M10
section
def clOf (env : Env) : List (PySem.Str × NameKind) → List (PySem.Str × Addr) → List (PySem.Str × Addr)
  | [], acc => acc
  | (n, k) :: r, acc => clOf env r (if k == .free then (n, (env.cells.lookup n).getD 0) :: acc else acc)

theorem closure_loop {env : Env} (f : PySem.Str × NameKind → List (PySem.Str × Addr) → Sem (ForInStep (List (PySem.Str × Addr))))
    (hf : ∀ n k c, f (n, k) c = if (k == .free) = true then (do let a ← cellOf env n; pure (.yield ((n, a) :: c))) else pure (.yield c)) :
    ∀ (l : List (PySem.Str × NameKind)) (acc : List (PySem.Str × Addr)), (∀ y ∈ l, y.2 = .free → ∃ c, env.cells.lookup y.1 = some c) → forIn l acc f = pure (clOf env l acc)
  | [], acc, _ => by rw [List.forIn_nil]; rfl
  | (n, k) :: r, acc, h => by
    rw [List.forIn_cons, hf]
    have ih := fun acc => closure_loop f hf r acc fun y hy => h y (.tail _ hy)
    unfold clOf
    by_cases hk : (k == .free) = true
    · obtain ⟨c, hc⟩ := h (n, k) (.head _) (by simpa using hk)
      rw [if_pos hk, if_pos hk]
      have e : cellOf env n = pure c := by unfold cellOf; rw [hc]
      rw [e, hc]
      simp only [pure_bind]
      exact ih _
    · rw [if_neg hk, if_neg hk]
      simp only [pure_bind]
      exact ih _
theorem closureFor_is {scope : Scope} {env : Env} (h : ∀ y ∈ scope.names, y.2 = .free → ∃ c, env.cells.lookup y.1 = some c) : closureFor scope env = pure (clOf env scope.names []) := by
  simp only [closureFor]
  rw [closure_loop _ (fun n k c => by cases hk : (k == NameKind.free) <;> simp [hk]) _ _ h]
  rfl
theorem clOf_lookup {env : Env} {x : PySem.Str} {c : Addr} (hc : env.cells.lookup x = some c) : ∀ (l : List (PySem.Str × NameKind)) (acc : List (PySem.Str × Addr)), (∀ d, acc.lookup x = some d → d = c) → ((x, .free) ∈ l ∨ acc.lookup x = some c) → (clOf env l acc).lookup x = some c
  | [], acc, _, h => h.elim (fun h => nomatch h) id
  | (n, k) :: r, acc, ha, h => by
    unfold clOf
    by_cases hk : (k == .free) = true
    · rw [if_pos hk]
      by_cases hx : x = n
      · subst hx
        have e : ((x, (env.cells.lookup x).getD 0) :: acc).lookup x = some c := by rw [List.lookup_cons, hc]; simp
        exact clOf_lookup hc r _ (fun d hd => by rw [e] at hd; exact (Option.some.inj hd).symm) (.inr e)
      · have e : ((n, (env.cells.lookup n).getD 0) :: acc).lookup x = acc.lookup x := by rw [List.lookup_cons, beq_eq_false_iff_ne.mpr hx]
        refine clOf_lookup hc r _ (fun d hd => ha d (e ▸ hd)) (h.imp (fun h => ?_) fun h => by rw [e]; exact h)
        rcases List.mem_cons.mp h with q | q
        · cases q; exact absurd rfl hx
        · exact q
    · rw [if_neg hk]
      refine clOf_lookup hc r acc ha (h.imp (fun h => ?_) id)
      rcases List.mem_cons.mp h with q | q
      · cases q; exact absurd rfl hk
      · exact q

theorem cellsFrom_app : ∀ (names : List (PySem.Str × NameKind)) (n : Nat) (acc : List (PySem.Str × Addr)), cellsFrom n names acc = cellsFrom n names [] ++ acc
  | [], _, _ => rfl
  | (x, k) :: r, n, acc => by
    unfold cellsFrom
    split
    · rw [cellsFrom_app r _ ((x, n) :: acc), cellsFrom_app r _ [(x, n)]]; simp
    · exact cellsFrom_app r n acc
theorem cellsFrom_mem : ∀ (names : List (PySem.Str × NameKind)) (n : Nat) (x : PySem.Str) (c : Addr), (x, c) ∈ cellsFrom n names [] → (x, .cell) ∈ names
  | [], _, _, _, h => nomatch h
  | (y, k) :: r, n, x, c, h => by
    unfold cellsFrom at h
    split at h
    · rename_i hk
      rw [cellsFrom_app] at h
      rcases List.mem_append.mp h with h | h
      · exact .tail _ (cellsFrom_mem r _ x c h)
      · cases List.mem_singleton.mp h
        obtain rfl : k = .cell := by simpa using hk
        exact .head _
    · exact .tail _ (cellsFrom_mem r n x c h)

theorem lookup_relabel {env : Env} {x : PySem.Str} : ∀ {names : List (PySem.Str × NameKind)},
    (names.map fun (n, k) => if (k == NameKind.free && env.scope.kind == .function && env.kindOf n == some .cell) then (n, NameKind.cell) else (n, k)).lookup x =
      (names.lookup x).map fun k => if (k == NameKind.free && env.scope.kind == .function && env.kindOf x == some .cell) then NameKind.cell else k
  | [] => rfl
  | (n, k) :: r => by
    have ih := @lookup_relabel env x r
    show List.lookup x ((if (k == NameKind.free && env.scope.kind == .function && env.kindOf n == some .cell) = true then (n, NameKind.cell) else (n, k)) :: _) = _
    cases hx : x == n with
    | true =>
      have : x = n := beq_iff_eq.mp hx
      subst this
      by_cases hc : (k == NameKind.free && env.scope.kind == .function && env.kindOf x == some .cell) = true
      · rw [if_pos hc, List.lookup_cons, hx, List.lookup_cons, hx]; exact congrArg some (if_pos hc).symm
      · rw [if_neg hc, List.lookup_cons, hx, List.lookup_cons, hx]; exact congrArg some (if_neg hc).symm
    | false =>
      by_cases hc : (k == NameKind.free && env.scope.kind == .function && env.kindOf n == some .cell) = true
      · rw [if_pos hc]; simp only [List.lookup_cons, hx]; exact ih
      · rw [if_neg hc]; simp only [List.lookup_cons, hx]; exact ih

theorem lookup_of_mem {α : Type} : ∀ {l : List (PySem.Str × α)} {x : PySem.Str} {v : α}, (l.map (·.1)).Nodup → (x, v) ∈ l → l.lookup x = some v
  | (y, u) :: r, x, v, hn, h => by
    have hn' := List.nodup_cons.mp hn
    rcases List.mem_cons.mp h with e | h
    · cases e; simp [List.lookup_cons]
    · have : x ≠ y := fun e => hn'.1 (List.mem_map.mpr ⟨(x, v), h, e⟩)
      rw [List.lookup_cons, beq_eq_false_iff_ne.mpr this]
      exact lookup_of_mem hn'.2 h

/-- what is asked of a comprehension's scope -/
structure CompOK (sc scope : Scope) (x : PySem.Str) : Prop where
  kind : scope.kind = .function
  nodup : (scope.names.map (·.1)).Nodup
  tgt : scope.names.lookup x = some .local ∨ scope.names.lookup x = some .cell
  free : ∀ y ∈ scope.names, y.2 = .free → sc.names.lookup y.1 = some .cell ∨ sc.names.lookup y.1 = some .free

def compEnvG (scope : Scope) (env : Env) (L : Addr) : Env :=
  { scope := relabel scope env, locals := L, globals := env.globals, cells := cellsFrom (L + 1) scope.names (clOf env scope.names []), qual := env.qual, func := none, code := env.code, frame := env.frame, builtins := env.builtins }

section
variable {C : Cx} {n : Nat} {sc : Scope} {X W : List Addr} {ρ : Store} {env : Env} {s₀ s s' : Shared}

theorem EnvOK.cellOf (O : EnvOK sc env) {y : PySem.Str} (h : sc.names.lookup y = some .cell ∨ sc.names.lookup y = some .free) : (env.kindOf y = some .cell ∨ env.kindOf y = some .free) ∧ ∃ c, env.cells.lookup y = some c :=
  h.elim (fun h => ⟨.inl (O.ce y h).1, (O.ce y h).2⟩) fun h => O.fr y h
theorem EnvOK.closes (O : EnvOK sc env) {scope : Scope} {x : PySem.Str} (K : CompOK sc scope x) : ∀ y ∈ scope.names, y.2 = .free → ∃ c, env.cells.lookup y.1 = some c := fun y hy hf => (O.cellOf (K.free y hy hf)).2

theorem free_cell (O : EnvOK sc env) {scope : Scope} {x y : PySem.Str} (K : CompOK sc scope x) (hy : scope.names.lookup y = some .free) (L : Addr) : ∃ c, env.cells.lookup y = some c ∧ (compEnvG scope env L).cells.lookup y = some c ∧ (env.kindOf y = some .cell ∨ env.kindOf y = some .free) := by
  have hm := mem_of_lookup hy
  obtain ⟨hk, c, hc⟩ := O.cellOf (K.free _ hm rfl)
  refine ⟨c, hc, ?_, hk⟩
  show List.lookup y (cellsFrom (L + 1) scope.names (clOf env scope.names [])) = some c
  rw [cellsFrom_app, List.lookup_append]
  have hn : (cellsFrom (L + 1) scope.names []).lookup y = none := by
    cases q : (cellsFrom (L + 1) scope.names []).lookup y with
    | none => rfl
    | some d =>
      have := lookup_of_mem K.nodup (cellsFrom_mem _ _ _ _ (mem_of_lookup q))
      rw [hy] at this; cases this
  rw [hn]
  exact clOf_lookup hc _ _ (fun d hd => nomatch hd) (.inl hm)

theorem EnvOK.comp (O : EnvOK sc env) {scope : Scope} {x : PySem.Str} (K : CompOK sc scope x) (L : Addr) : EnvOK scope (compEnvG scope env L) := by
  have hl : ∀ y, (compEnvG scope env L).kindOf y = (scope.names.lookup y).map fun k => if (k == NameKind.free && env.scope.kind == .function && env.kindOf y == some .cell) then NameKind.cell else k := fun y => lookup_relabel
  refine ⟨K.kind, O.glob, O.blt, fun y h => by rw [hl, h]; rfl, fun y h => by rw [hl, h]; rfl, fun y h => ⟨by rw [hl, h]; rfl, ?_⟩, fun y h => ⟨?_, ?_⟩⟩
  · obtain ⟨c, hc⟩ := Option.isSome_iff_exists.mp (cellsFrom_isSome scope.names (L + 1) [] (.inl h))
    refine ⟨c, ?_⟩
    show List.lookup y (cellsFrom (L + 1) scope.names (clOf env scope.names [])) = some c
    rw [cellsFrom_app, List.lookup_append, hc]; rfl
  · rw [hl, h]
    by_cases hc : (NameKind.free == NameKind.free && env.scope.kind == .function && env.kindOf y == some .cell) = true
    · exact .inl (congrArg some (if_pos hc))
    · exact .inr (congrArg some (if_neg hc))
  · obtain ⟨c, _, h2, _⟩ := free_cell O K h L
    exact ⟨c, h2⟩

theorem newCompEnv {M : Model} {A : Around} {E : Value → Shared → Prop} {scope : Scope} {globals : Addr} {cl : List (PySem.Str × Addr)} {qual : PySem.Str} {Q : Env → Shared → Prop}
    (h : Q (newEnv scope s.heap.objs.size globals (cellsFrom (s.heap.objs.size + 1) scope.names cl) qual none .none (some env) builtinsNs) { s with heap := pushCells (s.heap.push { cls := .type "dict", data := .dict #[] }) scope.names }) :
    wpAny M A (newFunctionEnv scope globals cl [] qual none .none (some env)) Q E s := by
  simp only [newFunctionEnv, Option.isSome_some, if_true]
  refine wpAny_bind (wpAny_alloc ?_)
  refine wpAny_bind (wpAny_layCells _ (fun name kind cells => by cases hkc : kind == NameKind.cell <;> simp [hkc]) _ _ _ _ ?_)
  rw [show ({ s with heap := s.heap.push { cls := .type "dict", data := .dict #[] } } : Shared).heap.objs.size = s.heap.objs.size + 1 from Heap.size_push ..]
  rw [List.forIn_nil]
  exact wpAny_bind (wpAny_pure (wpAny_pure h))

/-- the ifs of a clause -/
def EvIfs (C : Cx) (n : Nat) (sc : Scope) (ρ : Store) (ifs : List Expr) (b : Bool) : Prop :=
  ∀ {X : List Addr} (env : Env) (A : Around) (s : Shared) (Q : Bool → Shared → Prop) (E : Value → Shared → Prop), EnvOK sc env → Aok n A → Gd C X s.heap → Vars X env s.heap ρ →
    (∀ s', Kp s s' → Q b s') → wpAny C.M A (forIn ifs true fun c r => if r = true then do let ok ← isTrue c env (eval c env); pure (ForInStep.yield ok) else pure (ForInStep.yield r)) Q E s
theorem EvIfs.nil : EvIfs C n sc ρ [] true := fun _ _ _ _ _ _ _ _ _ h => wpAny_tests_nil (h _ Kp.rfl)
theorem EvIfs.one {c : Expr} {b : Bool} (h : EvB C n sc ρ c b) : EvIfs C n sc ρ [c] b := fun env A s Q E O hA G V hq => wpAny_tests_one (h env A s Q E O hA G V hq)

theorem Den.hide {X : List Addr} {h : Heap} {d₀ : Addr} (hD : h.get? d₀ = Option.none) {v : Value} {d : D} (y : Den X h v d) : Den (d₀ :: X) h v d :=
  y.re fun a o e n hm => (List.mem_cons.mp hm).elim (fun q => by rw [q, hD] at e; cases e) n
theorem DenL.show {X : List Addr} {h : Heap} {d₀ : Addr} {vs : List Value} {ds : List D} (y : DenL (d₀ :: X) h vs ds) : DenL X h vs ds := y.re fun _ _ _ n hm => n (.tail _ hm)

theorem PlainList.at' {h h' : Heap} {a : Addr} {xs : Array Value} (x : h.PlainList a xs) (k : ∀ o, h.get? a = some o → h'.get? a = some o) : h'.PlainList a xs := let ⟨m, e⟩ := x; ⟨m, k _ e⟩

/-- the block of a comprehension with one clause -/
theorem comp_block {elt iter : Expr} {x : PySem.Str} {px : Pos} {ifs : List Expr} {scope : Scope} {pos : Pos} {d : D} {ds : List D} {r : Bool} {p : D → Bool} {f : D → D} {ρf : Store} {A : Around} {E : Value → Shared → Prop} {RR : Value → Addr → Result → Shared → Prop} {v : Value}
    (O : EnvOK sc env) (hA : Aok n A) (G : Gd C X s.heap) (V : Vars X env s.heap ρ) (hit : Iter C r d ds) (K : CompOK sc scope x) (hρ : ∀ q ∈ ρf, q ∈ ρ ∧ scope.names.lookup q.1 = some .free) (hz : ds.length ≤ sizeLine)
    (hp : ∀ e ∈ ds, EvIfs C n scope ((x, e) :: ρf) ifs (p e)) (hf : ∀ e ∈ ds, p e = true → Ev C n scope ((x, e) :: ρf) elt (f e)) (hv : Den X s.heap v d)
    (ht : ∀ it v, letOwnedTupleGo (.Name x px) it v = pure ())
    (hRR : ∀ d₀ L h' tk m' us, Grows s.heap h' → s.heap.get? d₀ = none → s.heap.get? L = none → d₀ ≠ L → h'.Ns L m' → h'.PlainList d₀ us.toArray → DenL X h' us ((ds.filter p).map f) → RR (.ref d₀) L (.ok .next) { s with heap := h', toks := tk }) :
    wpAny C.M A (pyIter v) (fun it s₂ => wpAny C.M A (newList []) (fun acc s₃ => wpAny C.M A (newFunctionEnv scope env.globals (clOf env scope.names []) [] env.qual none .none (some env)) (fun cenv s₄ =>
      codeAny C.M A (.compStart (.ListComp elt [⟨.Name x px, iter, ifs, 0⟩] scope pos) 0 it acc { cenv with scope := relabel scope env }) (RR acc cenv.locals) s₄) E s₃) E s₂) E s := by
  refine hit A s v _ E hA.1 G hv fun o fp P St _ I st => wpAny_newObj_type (newCompEnv ?_)
  generalize hh1 : s.heap.push o = H1 at st ⊢
  have hz1 : H1.objs.size = s.heap.objs.size + 1 := by rw [← hh1, Heap.size_push]
  dsimp only
  generalize hh2 : H1.push { cls := .type "list", dict := none, data := .seq ([] : List Value).toArray } = H2
  have hz2 : H2.objs.size = s.heap.objs.size + 2 := by rw [← hh2, Heap.size_push, hz1]
  generalize hh3 : H2.push { cls := .type "dict", data := .dict #[] } = H3
  have hz3 : H3.objs.size = s.heap.objs.size + 3 := by rw [← hh3, Heap.size_push, hz2]
  generalize hh4 : pushCells H3 scope.names = H4
  have g1 : Grows s.heap H1 := hh1 ▸ Grows.push _ _
  have g2 : Grows H1 H2 := hh2 ▸ Grows.push _ _
  have g3 : Grows H2 H3 := hh3 ▸ Grows.push _ _
  have g4 : Grows H3 H4 := hh4 ▸ pushCells_keeps scope.names H3
  have none' : ∀ a, s.heap.objs.size ≤ a → s.heap.get? a = Option.none := fun a ha => by
    cases q : s.heap.get? a with
    | none => rfl
    | some o => exact absurd (Heap.lt_size q) (Nat.not_lt.mpr ha)
  have hD₀ : s.heap.get? H1.objs.size = Option.none := none' _ (by rw [hz1]; exact Nat.le_succ _)
  have hL₀ : s.heap.get? H2.objs.size = Option.none := none' _ (by rw [hz2]; exact Nat.le_add_right _ _)
  have hDL : H1.objs.size ≠ H2.objs.size := by rw [hz1, hz2]; exact Nat.ne_of_lt (Nat.lt_succ_self _)
  have accD : H4.PlainList H1.objs.size #[] := ⟨0, g4 _ _ (g3 _ _ (by rw [← hh2]; exact Heap.get?_push_size _ rfl))⟩
  have nsL : H4.Ns H2.objs.size fun _ => Option.none := by
    have := Heap.Ns.new H2 (.type "dict")
    rw [hh3] at this
    exact this.keeps g4
  have ok := cellsFrom_ok scope.names H3 (H2.objs.size + 1) [] ⟨fun _ _ hm => (nomatch hm), List.Pairwise.nil⟩ (by rw [hz3, hz2]; exact Nat.le_refl _)
  have hz3' : H3.objs.size = H2.objs.size + 1 := by rw [hz3, hz2]
  rw [hh4, hz3'] at ok
  have cel : ∀ y c, (cellsFrom (H2.objs.size + 1) scope.names []).lookup y = some c → ∃ w, H4.IsCell c w := fun y c hc => ⟨_, (ok.empty y c (mem_of_lookup hc)).1⟩
  show codeAny C.M A (.compStart _ 0 (.ref s.heap.objs.size) (.ref H1.objs.size) (compEnvG scope env H2.objs.size)) (RR (.ref H1.objs.size) H2.objs.size) _
  have O' : EnvOK scope (compEnvG scope env H2.objs.size) := O.comp K _
  have stI : ∀ i h, St i h → ∃ o vs, h.get? s.heap.objs.size = some o ∧ o.data = .fields vs ∧ o.cls ≠ .type "range" := I.iobj
  -- where the names stand
  have vars : ∀ (H : Heap) (e : D) (u : Value), Grows s.heap H → Rd (H1.objs.size :: X) (compEnvG scope env H2.objs.size) H x e → Vars (H1.objs.size :: X) (compEnvG scope env H2.objs.size) H ((x, e) :: ρf) := fun H e u g hx q hq => by
    rcases List.mem_cons.mp hq with rfl | hq
    · exact hx
    · obtain ⟨hm, hfr⟩ := hρ q hq
      obtain ⟨c, hc, hc', hk⟩ := free_cell O K hfr H2.objs.size
      rcases V q hm with ⟨hk', _⟩ | ⟨_, c', v', hc'', hcell, y⟩
      · rw [hk'] at hk; rcases hk with h | h <;> cases h
      · rw [hc] at hc''; cases hc''
        exact .inr ⟨(O'.fr q.1 hfr).1, c, v', hc', hcell.keeps g, (y.hide hD₀).grow g⟩
  have loop : codeAny C.M A (.compLoop (.ListComp elt [⟨.Name x px, iter, ifs, 0⟩] scope pos) 0 (.ref s.heap.objs.size) (.ref H1.objs.size) (compEnvG scope env H2.objs.size)) (RR (.ref H1.objs.size) H2.objs.size) { s with heap := H4 } := by
    refine codeAny_compLoop_tests (fun k s' => ∃ j, j ≤ ds.length ∧ k = ds.length - j ∧ (∃ h t, s' = { s with heap := h, toks := t }) ∧ Grows s.heap s'.heap ∧ St j s'.heap ∧
        (∃ us, s'.heap.PlainList H1.objs.size us.toArray ∧ DenL (H1.objs.size :: X) s'.heap us (((ds.take j).filter p).map f)) ∧ (∃ m, s'.heap.Ns H2.objs.size m) ∧
        (∀ y c, (cellsFrom (H2.objs.size + 1) scope.names []).lookup y = some c → ∃ w, s'.heap.IsCell c w)) ?_ ds.length
      ⟨0, Nat.zero_le _, rfl, ⟨H4, s.toks, rfl⟩, ((g1.trans g2).trans g3).trans g4, I.walks.frame _ _ _ st fun b _ o e => g4 _ _ (g3 _ _ (g2 _ _ e)), ⟨[], accD, .nil⟩, ⟨_, nsL⟩, cel⟩ (fun v => ht _ v)
    rintro k s' ⟨j, hj, rfl, hsame, g, st', ⟨us, hacc, hus⟩, ⟨m, hns⟩, hcel⟩
    obtain ⟨oI, vI, hoI, hdI, hcI⟩ := stI j _ st'
    have hID : s.heap.objs.size ≠ H1.objs.size := by rw [hz1]; exact Nat.ne_of_lt (Nat.lt_succ_self _)
    have hIL : s.heap.objs.size ≠ H2.objs.size := (Ns.not_data hns hoI (.inr ⟨_, hdI⟩))
    by_cases hjl : j < ds.length
    · refine I.walks.item j s' _ _ hjl st' fun u h₂ tk₂ hP st₂ hk₂ => ?_
      have hk₂' : ∀ b o, b ≠ s.heap.objs.size → s'.heap.get? b = some o → h₂.get? b = some o := fun b o hb => hk₂ b o fun hm => hb (List.mem_singleton.mp hm)
      have dk₂ : DataKeep (H1.objs.size :: X) s'.heap h₂ := fun b o _ e dd => hk₂' b o (fun hb => by
        rw [hb, hoI] at e; cases e
        rcases dd with ⟨_, _, q⟩ | ⟨_, q⟩
        · rw [hdI] at q; cases q
        · exact hcI q) e
      have gr₂ : Grows s.heap h₂ := fun b o e => hk₂' b o (ne_size e) (g b o e)
      have hus₂ := hus.dk dk₂
      have hacc₂ := PlainList.at' hacc fun o => hk₂' _ o (Ne.symm hID)
      have hns₂ : h₂.Ns H2.objs.size m := hns.at' fun o => hk₂' _ o (Ne.symm hIL)
      have hcel₂ : ∀ y c, (cellsFrom (H2.objs.size + 1) scope.names []).lookup y = some c → ∃ w, h₂.IsCell c w := fun y c hc => by
        obtain ⟨w, hw⟩ := hcel y c hc
        have hne := IsCell.not_data hw hoI (.inr ⟨_, hdI⟩)
        obtain ⟨o', q1, q2⟩ := hw
        exact ⟨w, o', hk₂' c o' (Ne.symm hne) q1, q2⟩
      obtain ⟨e, he, ye⟩ := I.items j u s.heap (DataKeep.refl _) hP
      have hem : e ∈ ds := List.mem_of_getElem? he
      have ye' : Den (H1.objs.size :: X) s.heap u e := ye.hide hD₀
      -- the target is bound
      have tgt : ∀ (Q' : Unit → Shared → Prop) (E' : Value → Shared → Prop), (∀ h₃ tk₃ m₃, Grows s.heap h₃ → St (j + 1) h₃ → h₃.PlainList H1.objs.size us.toArray → DenL (H1.objs.size :: X) h₃ us (((ds.take j).filter p).map f) → h₃.Ns H2.objs.size m₃ →
          (∀ y c, (cellsFrom (H2.objs.size + 1) scope.names []).lookup y = some c → ∃ w, h₃.IsCell c w) → Rd (H1.objs.size :: X) (compEnvG scope env H2.objs.size) h₃ x e → Q' () { s with heap := h₃, toks := tk₃ }) →
          wpAny C.M A (assign (.Name x px) (compEnvG scope env H2.objs.size) u) Q' E' { s' with heap := h₂, toks := tk₂ } := by
        intro Q' E' hq
        obtain ⟨hh, tt, rfl⟩ := hsame
        obtain ⟨oI₂, vI₂, hoI₂, hdI₂, hcI₂⟩ := stI (j + 1) _ st₂
        rcases K.tgt with hx | hx
        · refine wpAny_assign_Name (wpAny_storeName_local (O'.lo x hx) hns₂ (fun h₃ hn₃ hs₃ => ?_) (by rw [O'.kind]; rfl))
          have dk₃ : DataKeep (H1.objs.size :: X) h₂ h₃ := SameBut.dk hs₃ fun b o e q => Ns.not_data hns₂ e q
          have gr₃ : Grows s.heap h₃ := fun b o e => hs₃.extBut b o (fun hb => by have hb' : b = H2.objs.size := hb; rw [hb', hL₀] at e; cases e) (gr₂ b o e)
          refine hq h₃ _ _ gr₃ (I.walks.frame _ _ _ st₂ fun b hb o e => hs₃.extBut b o (fun hbL => ?_) e) (PlainList.at' hacc₂ fun o => hs₃.extBut _ o hDL) (hus₂.dk dk₃) hn₃ (fun y c hc => ?_) (.inl ⟨O'.lo x hx, _, u, hn₃, if_pos rfl, ye'.grow gr₃⟩)
          · rcases I.fpd b hb with q | ⟨_, o', _, _, q, _⟩
            · exact hIL (q.symm.trans hbL)
            · have hbL' : b = H2.objs.size := hbL
              rw [hbL', hL₀] at q; cases q
          · obtain ⟨w, hw⟩ := hcel₂ y c hc
            refine ⟨w, hw.sameBut hs₃ fun hcL => ?_⟩
            have hcL : c = H2.objs.size := hcL
            obtain ⟨_, es, _, q1, q2, _⟩ := hns₂
            obtain ⟨_, q3, q4⟩ := hw
            rw [hcL, q1] at q3; cases q3; rw [q2] at q4; cases q4
        · obtain ⟨hkc, c, hc⟩ := O'.ce x hx
          have hc' : (cellsFrom (H2.objs.size + 1) scope.names []).lookup x = some c := by
            obtain ⟨c', q⟩ := Option.isSome_iff_exists.mp (cellsFrom_isSome scope.names (H2.objs.size + 1) [] (.inl hx))
            have : List.lookup x (cellsFrom (H2.objs.size + 1) scope.names (clOf env scope.names [])) = some c := hc
            rw [cellsFrom_app, List.lookup_append, q] at this
            rw [q]; exact this
          obtain ⟨w, hw⟩ := hcel₂ x c hc'
          have hcge : s.heap.get? c = Option.none := none' _ (by
            have := (ok.empty x c (mem_of_lookup hc')).2
            rw [hz2] at this; exact Nat.le_trans (Nat.le_add_right _ 3) this)
          refine wpAny_assign_Name (wpAny_storeName_cell O'.kind hkc hc hw fun h₃ hc₃ hs₃ => ?_)
          have dk₃ : DataKeep (H1.objs.size :: X) h₂ h₃ := SameBut.dk hs₃ fun b o e q => IsCell.not_data hw e q
          have gr₃ : Grows s.heap h₃ := fun b o e => hs₃.extBut b o (fun hb => by subst hb; rw [hcge] at e; cases e) (gr₂ b o e)
          have hcD : H1.objs.size ≠ c := by obtain ⟨_, q⟩ := hacc₂; exact IsCell.not_data hw q (.inl ⟨_, _, rfl⟩)
          have hcI' : s.heap.objs.size ≠ c := IsCell.not_data hw hoI₂ (.inr ⟨_, hdI₂⟩)
          have hcL : H2.objs.size ≠ c := fun q => by
            obtain ⟨_, es, _, q1, q2, _⟩ := hns₂
            obtain ⟨_, q3, q4⟩ := hw
            rw [← q, q1] at q3; cases q3; rw [q2] at q4; cases q4
          refine hq h₃ _ _ gr₃ (I.walks.frame _ _ _ st₂ fun b hb o e => hs₃.extBut b o (fun hbL => ?_) e) (PlainList.at' hacc₂ fun o => hs₃.extBut _ o hcD) (hus₂.dk dk₃) (hns₂.sameBut hs₃ hcL) (fun y c' hc'' => ?_) (.inr ⟨.inl hkc, c, u, hc, hc₃, ye'.grow gr₃⟩)
          · rcases I.fpd b hb with q | ⟨_, o', _, _, q, _⟩
            · exact hcI' (q.symm.trans hbL)
            · rw [hbL, hcge] at q; cases q
          · by_cases hcc : c' = c
            · subst hcc; exact ⟨_, hc₃⟩
            · obtain ⟨w', hw'⟩ := hcel₂ y c' hc''
              exact ⟨w', hw'.sameBut hs₃ hcc⟩
      refine tgt _ _ fun h₃ tk₃ m₃ gr₃ st₃ hacc₃ hus₃ hns₃ hcel₃ rd₃ => ?_
      have live : ∀ {h : Heap}, Grows s.heap h → (∃ xs, h.PlainList H1.objs.size xs) → Gd C (H1.objs.size :: X) h := fun gr hD => ⟨G.top.trans gr, fun a ha => by
        rcases List.mem_cons.mp ha with rfl | ha
        · obtain ⟨_, _, q⟩ := hD; exact ⟨_, q⟩
        · exact (G.trans gr).live a ha⟩
      have G₃ := live gr₃ ⟨_, hacc₃⟩
      have V₃ := vars h₃ e u gr₃ rd₃
      refine hp e hem _ A _ _ _ O' hA G₃ V₃ fun s₄ k₄ => ?_
      have tk : (ds.take (j + 1)) = ds.take j ++ [e] := by rw [List.take_add_one, he]; rfl
      obtain ⟨⟨h₄, tk₄, rfl⟩, gr₄⟩ := k₄
      have gr₄' : Grows h₃ h₄ := gr₄
      cases hpe : p e with
      | false =>
        simp only [Bool.false_eq_true, if_false]
        refine ⟨ds.length - (j + 1), by omega, j + 1, hjl, rfl, ⟨h₄, tk₄, rfl⟩, gr₃.trans gr₄', I.walks.frame _ _ _ st₃ fun b _ o e => gr₄' _ _ e, ⟨us, PlainList.at' hacc₃ fun o => gr₄' _ o, ?_⟩, ⟨_, hns₃.keeps gr₄'⟩, fun y c hc => let ⟨w, hw⟩ := hcel₃ y c hc; ⟨w, hw.keeps gr₄'⟩⟩
        rw [tk, List.filter_append]
        simpa [hpe] using hus₃.grow gr₄'
      | true =>
        simp only [if_true]
        refine hf e hem hpe _ A _ _ _ O' hA (G₃.trans gr₄') (V₃.grow gr₄') fun w s₅ k₅ y₅ => ?_
        obtain ⟨⟨h₅, tk₅, rfl⟩, gr₅⟩ := k₅
        have gr₅' : Grows h₄ h₅ := gr₅
        have hlen := hus₃.length
        have hacc₅ := PlainList.at' hacc₃ fun o e => gr₅' _ o (gr₄' _ _ e)
        refine wpAny_list_append_plain hacc₅ (fun h₆ hl₆ hs₆ => ?_) (by
          rw [List.size_toArray, hlen, List.length_map]
          exact Nat.le_trans (List.length_filter_le _ _) (Nat.le_trans (List.length_take_le _ _) (by omega)))
        have y₅' : Den (H1.objs.size :: X) h₅ w (f e) := y₅
        have hus₅ : DenL (H1.objs.size :: X) h₅ us (((ds.take j).filter p).map f) := (hus₃.grow gr₄').grow gr₅'
        have dk₆ : DataKeep (H1.objs.size :: X) h₅ h₆ := fun b o hb e _ => hs₆.extBut b o (fun q => hb (q ▸ .head _)) e
        have hns₅ := (hns₃.keeps gr₄').keeps gr₅'
        have hLD : H2.objs.size ≠ H1.objs.size := Ne.symm hDL
        have st₅ : St (j + 1) h₅ := I.walks.frame _ _ _ st₃ fun b _ o e => gr₅' _ _ (gr₄' _ _ e)
        obtain ⟨oI₅, vI₅, hoI₅, hdI₅, _⟩ := stI (j + 1) _ st₅
        refine ⟨ds.length - (j + 1), by omega, j + 1, hjl, rfl, ⟨h₆, tk₅, rfl⟩, fun b o q => hs₆.extBut b o (fun hb => by rw [hb, hD₀] at q; cases q) (gr₅' _ _ (gr₄' _ _ (gr₃ _ _ q))), I.walks.frame _ _ _ st₅ fun b hb o q => hs₆.extBut b o (fun hbD => ?_) q,
          ⟨us ++ [w], by simpa using hl₆, ?_⟩, ⟨_, hns₅.sameBut hs₆ hLD⟩, fun y c hc => ?_⟩
        · rcases I.fpd b hb with q' | ⟨_, o', _, _, q', _⟩
          · exact hID (q'.symm.trans hbD)
          · rw [hbD, hD₀] at q'; cases q'
        · rw [tk, List.filter_append]
          simpa [hpe] using (hus₅.snoc y₅').dk dk₆
        · obtain ⟨w', hw'⟩ := hcel₃ y c hc
          have hw₅ := (hw'.keeps gr₄').keeps gr₅'
          refine ⟨w', hw₅.sameBut hs₆ fun q => ?_⟩
          obtain ⟨_, q1⟩ := hacc₅
          exact IsCell.not_data hw₅ q1 (.inl ⟨_, _, rfl⟩) q.symm
    · have hjl' : j = ds.length := by omega
      subst hjl'
      obtain ⟨hh, tt, rfl⟩ := hsame
      refine I.walks.done _ _ _ st' fun h₂ tk₂ hk₂ => ?_
      have hk₂' : ∀ b o, b ≠ s.heap.objs.size → hh.get? b = some o → h₂.get? b = some o := fun b o hb => hk₂ b o fun hm => hb (List.mem_singleton.mp hm)
      have dk₂ : DataKeep (H1.objs.size :: X) hh h₂ := fun b o _ e dd => hk₂' b o (fun hb => by
        have hoI' : hh.get? s.heap.objs.size = some oI := hoI
        rw [hb, hoI'] at e; cases e
        rcases dd with ⟨_, _, q⟩ | ⟨_, q⟩
        · rw [hdI] at q; cases q
        · exact hcI q) e
      have := hus.dk dk₂
      rw [List.take_length] at this
      exact hRR _ _ h₂ tk₂ m us (fun b o e => hk₂' b o (ne_size e) (g b o e)) hD₀ hL₀ hDL (hns.at' fun o => hk₂' _ o (Ne.symm hIL)) (PlainList.at' hacc fun o => hk₂' _ o (Ne.symm hID)) this.show
  exact codeAny_compStart_list loop (I.walks.self 0 _ _ _ (I.walks.frame _ _ _ st fun b _ o e => g4 _ _ (g3 _ _ (g2 _ _ e))) loop)

theorem Ev.comp {elt iter : Expr} {x : PySem.Str} {px : Pos} {ifs : List Expr} {scope : Scope} {pos : Pos} {d : D} {ds : List D} {r : Bool} {p : D → Bool} {f : D → D} (ρf : Store)
    (hi : Ev C n sc ρ iter d) (hit : Iter C r d ds) (K : CompOK sc scope x) (hρ : ∀ q ∈ ρf, q ∈ ρ ∧ scope.names.lookup q.1 = some .free) (hz : ds.length ≤ sizeLine)
    (hp : ∀ e ∈ ds, EvIfs C n scope ((x, e) :: ρf) ifs (p e)) (hf : ∀ e ∈ ds, p e = true → Ev C n scope ((x, e) :: ρf) elt (f e))
    (ht : ∀ it v, letOwnedTupleGo (.Name x px) it v = pure ()) (hs : ∀ env x, foldedSetIterable iter env x = pure x) : Ev C n sc ρ (.ListComp elt [⟨.Name x px, iter, ifs, 0⟩] scope pos) (.list ((ds.filter p).map f)) := by
  intro X env A s Q E O hA G V h
  rw [eval_ListComp]
  refine wpAny_comprehension_free (use := Option.none) rfl (hs env) (closureFor_is (O.closes K)) K.kind (fun y hy hl => lookup_of_mem K.nodup (hl ▸ hy)) (hi env A s _ E O hA G V fun v s₁ k₁ y₁ => ?_)
  refine comp_block (RR := fun acc L => compPost C.M A E Option.none Q acc L) O hA (G.trans k₁.grows) (V.grow k₁.grows) hit K hρ hz hp hf y₁ ht ?_
  intro d₀ L h' tk m' us g hD hL hDL hn hl hus
  refine ⟨m', hn, fun h'' hs'' => h _ _ ?_ (.list ((G.trans k₁.grows).new hD) (hl.extBut hs''.extBut hDL) (hus.dk (SameBut.dk hs'' fun b o e q => Ns.not_data hn e q)))⟩
  refine k₁.trans (Kp.of fun b o e => hs''.extBut b o (fun q => by rw [q, hL] at e; cases e) (g b o e))
end
end

-- part FL1
section
noncomputable section
abbrev bt {α : Type} (b : Bool) (x y : α) : α := Bool.rec (motive := fun _ => α) y x b
abbrev force {α : Type} (n : Nat) (f : Nat → α) : α := Nat.rec (motive := fun _ => α) (f (nat_lit 0)) (fun k _ => f (Nat.succ k)) n

def lgS (k : Nat) (n acc : Nat) (f : Nat → Nat → Nat) : Nat := bt (Nat.ble (Nat.pow (nat_lit 2) k) n) (force (Nat.div n (Nat.pow (nat_lit 2) k)) fun n => force (Nat.add acc k) fun acc => f n acc) (f n acc)
def lgN (n : Nat) (f : Nat → Nat) : Nat := lgS (nat_lit 64) n (nat_lit 0) fun n a => lgS (nat_lit 32) n a fun n a => lgS (nat_lit 16) n a fun n a => lgS (nat_lit 8) n a fun n a => lgS (nat_lit 4) n a fun n a => lgS (nat_lit 2) n a fun n a => lgS (nat_lit 1) n a fun _ a => f a
def hevN (n d : Nat) : Nat := force (Nat.div n d) fun q => force (Nat.mul (Nat.mod n d) (nat_lit 2)) fun r => bt (Nat.ble (Nat.succ d) r) (Nat.succ q) (bt (Nat.beq r d) (bt (Nat.beq (Nat.mod q (nat_lit 2)) (nat_lit 1)) (Nat.succ q) q) q)
def okP (W X : Nat) : Bool := bt (Nat.ble (Nat.mul (nat_lit 9007199254740992) X) W) false (Nat.ble (Nat.mul (nat_lit 4503599627370496) X) W)
def capN (t : Nat) : Nat := force t fun t => bt (Nat.ble t (nat_lit 9218868437227405312)) t (nat_lit 9218868437227405312)
def atP (P W X : Nat) : Nat := capN (Nat.add (Nat.mul P (nat_lit 4503599627370496)) (hevN W X))
def sN (s : Bool) (t : Nat) : Nat := bt s (Nat.add (nat_lit 9223372036854775808) t) t
def tryK (s : Bool) (k W D G slow : Nat) : Nat := force (Nat.mul D (Nat.pow (nat_lit 2) k)) fun X => bt (okP W X) (sN s (atP (Nat.add G k) W X)) slow
def upK (s : Bool) (j W G slow : Nat) : Nat := force (Nat.mul W (Nat.pow (nat_lit 2) j)) fun W => bt (okP W (nat_lit 1)) (bt (Nat.ble j G) (sN s (capN (Nat.add (Nat.mul (Nat.sub G j) (nat_lit 4503599627370496)) W))) slow) slow
def rndL (s : Bool) (W G slow : Nat) : Nat := lgN W fun b => bt (Nat.ble (nat_lit 52) b) (tryK s (Nat.sub b (nat_lit 52)) W (nat_lit 1) G slow) (upK s (Nat.sub (nat_lit 52) b) W G slow)
def magN (a : Nat) : Nat := Nat.mod a (nat_lit 9223372036854775808)
def negN (a : Nat) : Bool := Nat.beq (Nat.mod (Nat.div a (nat_lit 9223372036854775808)) (nat_lit 2)) (nat_lit 1)
def finN (a : Nat) : Bool := bt (Nat.ble (nat_lit 9218868437227405312) a) false true
def bxor (s t : Bool) : Bool := bt s (bt t false true) t
def decN (t : Nat) (f : Nat → Nat → Nat) : Nat := force (Nat.div t (nat_lit 4503599627370496)) fun x => bt (Nat.beq x (nat_lit 0)) (f t (nat_lit 0)) (force (Nat.add (nat_lit 4503599627370496) (Nat.mod t (nat_lit 4503599627370496))) fun m => force (Nat.pred x) fun e => f m e)

def addGo (s : Bool) (p : Nat) (t : Bool) (q G d slow : Nat) : Nat :=
  bt (bxor s t) (bt (Nat.beq p q) (nat_lit 0) (bt (Nat.ble q p) (force (Nat.sub p q) fun W => rndL s W G slow) (force (Nat.sub q p) fun W => rndL t W G slow)))
    (force (Nat.add p q) fun W => bt (Nat.beq W (nat_lit 0)) (sN s (nat_lit 0)) (tryK s d W (nat_lit 1) G (tryK s (Nat.succ d) W (nat_lit 1) G slow)))
def slowN (f : UInt64 → UInt64 → UInt64) (a b : Nat) : Nat := (f (UInt64.ofNat a) (UInt64.ofNat b)).toNat
def binN (f : UInt64 → UInt64 → UInt64) (g : Bool → Nat → Nat → Bool → Nat → Nat → Nat → Nat) (a b : Nat) : Nat :=
  force a fun a => force b fun b => force (magN a) fun m => force (magN b) fun k => bt (finN m) (bt (finN k) (decN m fun m e => decN k fun k f' => g (negN a) m e (negN b) k f' (slowN f a b)) (slowN f a b)) (slowN f a b)
def addF (s : Bool) (m e : Nat) (t : Bool) (k f slow : Nat) : Nat := bt (Nat.ble e f) (force (Nat.sub f e) fun d => force (Nat.mul k (Nat.pow (nat_lit 2) d)) fun q => addGo s m t q e d slow) (force (Nat.sub e f) fun d => force (Nat.mul m (Nat.pow (nat_lit 2) d)) fun p => addGo s p t k f d slow)
def mulF (s : Bool) (m e : Nat) (t : Bool) (k f slow : Nat) : Nat := force (Nat.mul m k) fun W => bt (Nat.beq W (nat_lit 0)) (sN (bxor s t) (nat_lit 0)) (bt (Nat.ble (nat_lit 1074) (Nat.add e f)) (force (Nat.sub (Nat.add e f) (nat_lit 1074)) fun G => tryK (bxor s t) (nat_lit 52) W (nat_lit 1) G (tryK (bxor s t) (nat_lit 53) W (nat_lit 1) G slow)) slow)
def divF (s : Bool) (m e : Nat) (t : Bool) (k f slow : Nat) : Nat := bt (Nat.beq k (nat_lit 0)) slow (bt (Nat.beq m (nat_lit 0)) (sN (bxor s t) (nat_lit 0)) (bt (Nat.ble (Nat.add f (nat_lit 53)) (Nat.add e (nat_lit 1074))) (force (Nat.sub (Nat.add e (nat_lit 1074)) (Nat.add f (nat_lit 53))) fun G => force (Nat.mul m (nat_lit 9007199254740992)) fun W => tryK (bxor s t) (nat_lit 0) W k G (tryK (bxor s t) (nat_lit 1) W k G slow)) slow))
def modF (s : Bool) (t : Bool) (p q G slow b : Nat) : Nat := bt t slow (bt (Nat.beq q (nat_lit 0)) slow (force (Nat.mod p q) fun r => bt (Nat.beq r (nat_lit 0)) (nat_lit 0) (bt s (force (rndL true r G (Float64.ofBin true r (Int.subNatNat G (nat_lit 1074))).toNat) fun c => binN Float64.add addF c b) (rndL false r G slow))))
def addN : Nat → Nat → Nat := binN Float64.add addF
def subN : Nat → Nat → Nat := binN Float64.sub fun s m e t k f slow => addF s m e (bt t false true) k f slow
def mulN : Nat → Nat → Nat := binN Float64.mul mulF
def divN : Nat → Nat → Nat := binN Float64.div divF
def modN (a b : Nat) : Nat := force b fun b => binN (fun x y => (Float64.divmod x y).2) (fun s m e t k f slow => bt (Nat.ble e f) (force (Nat.mul k (Nat.pow (nat_lit 2) (Nat.sub f e))) fun q => modF s t m q e slow b) (force (Nat.mul m (Nat.pow (nat_lit 2) (Nat.sub e f))) fun p => modF s t p k f slow b)) a b
theorem force_eq {α : Type} (n : Nat) (f : Nat → α) : force n f = f n := by cases n <;> rfl
theorem bt_t {α : Type} {b : Bool} {x y : α} (h : b = true) : bt b x y = x := by subst h; rfl
theorem bt_f {α : Type} {b : Bool} {x y : α} (h : b = false) : bt b x y = y := by subst h; rfl
end

open PySem.Float64 (V V_at V_mono V_lt roundMag place place_ge place_spec scaled roundMag_eq' shift_pos Right infMag dist pack val decode sgn)

theorem halfEven_scale {a b c : Nat} (hc : 0 < c) : Float64.halfEven (a * c) (b * c) = Float64.halfEven a b := by
  unfold Float64.halfEven
  rw [Nat.mul_div_mul_right _ _ hc, Nat.mul_mod_mul_right]
  have h0 : 2 * (a % b * c) = 2 * (a % b) * c := by rw [Nat.mul_assoc]
  have h1 : decide (2 * (a % b * c) > b * c) = decide (2 * (a % b) > b) := by
    rw [h0]; exact decide_eq_decide.mpr ⟨fun h => Nat.lt_of_mul_lt_mul_right h, fun h => Nat.mul_lt_mul_of_pos_right h hc⟩
  have h2 : (2 * (a % b * c) == b * c) = (2 * (a % b) == b) := by
    rw [h0, Bool.eq_iff_iff, beq_iff_eq, beq_iff_eq]; exact ⟨fun h => Nat.eq_of_mul_eq_mul_right hc h, fun h => by rw [h]⟩
  simp only [h1, h2]

theorem round_core {n d a b P : Nat} (hn : n ≠ 0) (hd : 0 < d) (hb : 0 < b) (hup : a < 2 ^ 53 * b) (hlo : P = 0 ∨ 2 ^ 52 * b ≤ a) (h : n * 2 ^ 1074 * b = a * 2 ^ P * d) :
    roundMag n d = min infMag (P * 2 ^ 52 + Float64.halfEven a b) := by
  rw [roundMag_eq' hn]
  have hs := place_spec hn hd
  have hsc := @scaled n d
  have hge := place_ge n d
  have hb' := shift_pos n d (-(place n d)) hd
  have hpl : place n d = -1074 → (place n d + 1074).toNat = 0 := by omega
  generalize (place n d + 1074).toNat = k at *
  generalize (Float64.shift n d (-(place n d))).1 = a' at *
  generalize (Float64.shift n d (-(place n d))).2 = b' at *
  generalize (2 : Nat) ^ 1074 = K at *
  have e : a' * 2 ^ k * b = a * 2 ^ P * b' := by
    refine Nat.eq_of_mul_eq_mul_left hd ?_
    calc d * (a' * 2 ^ k * b) = d * (a' * 2 ^ k) * b := by ac_rfl
      _ = n * K * b' * b := by rw [← hsc]
      _ = n * K * b * b' := by ac_rfl
      _ = a * 2 ^ P * d * b' := by rw [h]
      _ = d * (a * 2 ^ P * b') := by ac_rfl
  have no : ∀ {a b P a' b' k : Nat}, 0 < b → 0 < b' → a' < 2 ^ 53 * b' → (P = 0 ∨ 2 ^ 52 * b ≤ a) → a' * 2 ^ k * b = a * 2 ^ P * b' → ¬ k < P := by
    intro a b P a' b' k hb hb' hu hl e hlt
    have hl' : 2 ^ 52 * b ≤ a := hl.elim (fun h => by omega) id
    have hk : 2 ^ (k + 1) ≤ 2 ^ P := Nat.pow_le_pow_right (by decide) hlt
    have h1 : 2 ^ 52 * b * 2 ^ (k + 1) * b' ≤ a * 2 ^ P * b' := Nat.mul_le_mul_right _ (Nat.mul_le_mul hl' hk)
    have h2 : a' * 2 ^ k * b < 2 ^ 53 * b' * 2 ^ k * b := Nat.mul_lt_mul_of_pos_right (Nat.mul_lt_mul_of_pos_right hu (Nat.two_pow_pos k)) hb
    have h3 : 2 ^ 52 * b * 2 ^ (k + 1) * b' = 2 ^ 53 * b' * 2 ^ k * b := by
      have e1 : 2 ^ (k + 1) = 2 ^ k * 2 := Nat.pow_succ ..
      have e2 : (2 : Nat) ^ 53 = 2 ^ 52 * 2 := rfl
      rw [e1, e2]
      generalize (2 : Nat) ^ 52 = z
      ac_rfl
    omega
  have hk : k = P := by
    have n1 := no hb hb' hs.1 hlo e
    have n2 := no hb' hb hup (hs.2.imp hpl id) e.symm
    omega
  subst hk
  have e2 : a' * b = a * b' := by
    refine Nat.eq_of_mul_eq_mul_right (Nat.two_pow_pos k) ?_
    calc a' * b * 2 ^ k = a' * 2 ^ k * b := by ac_rfl
      _ = a * 2 ^ k * b' := e
      _ = a * b' * 2 ^ k := by ac_rfl
  congr 2
  rw [← halfEven_scale (a := a') (b := b') hb, e2, Nat.mul_comm b' b, halfEven_scale hb']

theorem near_unique {W D t u : Nat} (hD : 0 < D) (ht : ∀ t', dist W (D * V t) ≤ dist W (D * V t') ∧ (V t' ≠ V t → dist W (D * V t) = dist W (D * V t') → t % 2 = 0))
    (hu : ∀ t', dist W (D * V u) ≤ dist W (D * V t') ∧ (V t' ≠ V u → dist W (D * V u) = dist W (D * V t') → u % 2 = 0)) : t = u := by
  have key : ∀ {t u : Nat}, (∀ t', dist W (D * V t) ≤ dist W (D * V t') ∧ (V t' ≠ V t → dist W (D * V t) = dist W (D * V t') → t % 2 = 0)) → (∀ t', dist W (D * V u) ≤ dist W (D * V t') ∧ (V t' ≠ V u → dist W (D * V u) = dist W (D * V t') → u % 2 = 0)) → ¬ t < u := by
    intro t u ht hu hlt
    have hV := V_lt hlt
    have e : dist W (D * V t) = dist W (D * V u) := Nat.le_antisymm (ht u).1 (hu t).1
    have p1 := (ht u).2 (by omega) e
    have p2 := (hu t).2 (by omega) e.symm
    have h1 : D * V t < D * V u := Nat.mul_lt_mul_of_pos_left hV hD
    have hm1 : D * V t < D * V (t + 1) := Nat.mul_lt_mul_of_pos_left (V_lt (by omega)) hD
    have hm2 : D * V (t + 1) < D * V u := Nat.mul_lt_mul_of_pos_left (V_lt (by omega)) hD
    have n1 := (ht (t + 1)).1
    unfold dist at *
    omega
  have a := key ht hu
  have b := key hu ht
  omega
theorem right_is {r : UInt64} {neg : Bool} {W D : Nat} (hD : 0 < D) (h : Right r neg W D) : r = pack neg (roundMag W (D * 2 ^ 1074)) := by
  obtain ⟨t, rfl, hle, hov, hn⟩ := h
  have hd : 0 < D * 2 ^ 1074 := Nat.mul_pos hD (Nat.two_pow_pos _)
  obtain ⟨u, hu, hle', hov', hn'⟩ := Float64.ofFrac_right (neg := neg) (n := W) (d := D * 2 ^ 1074) (W := W) (D := D) hd (by ac_rfl) hD
  have hu0 : (roundMag W (D * 2 ^ 1074)) = roundMag W (D * 2 ^ 1074) := rfl
  -- the rounding itself
  have hov2 := Float64.over_of (n := W) (d := D * 2 ^ 1074) (W := W) (D := D) hd (by ac_rfl) hD
  have hle2 : roundMag W (D * 2 ^ 1074) ≤ infMag := by rw [Float64.roundMag_min]; omega
  congr 1
  by_cases hi : t = infMag
  · rw [hi]; exact (hov2.mpr (hov.mp hi)).symm
  · have hlt : t < infMag := by omega
    have hlt2 : roundMag W (D * 2 ^ 1074) < infMag := by
      refine Nat.lt_of_le_of_ne hle2 fun e => hi (hov.mpr (hov2.mp e))
    exact near_unique hD (hn hlt) fun t' => Float64.right_of hd (by ac_rfl) hD hlt2 t'

/-- the nearest to W / D, if the place is P -/
theorem right_at {r : UInt64} {neg : Bool} {W D a b P : Nat} (hD : 0 < D) (h : Right r neg W D) (hW : W ≠ 0) (hb : 0 < b) (hup : a < 2 ^ 53 * b) (hlo : P = 0 ∨ 2 ^ 52 * b ≤ a) (e : W * b = a * 2 ^ P * D) :
    r = pack neg (min infMag (P * 2 ^ 52 + Float64.halfEven a b)) := by
  rw [right_is hD h, round_core hW (Nat.mul_pos hD (Nat.two_pow_pos _)) hb hup hlo]
  calc W * 2 ^ 1074 * b = W * b * 2 ^ 1074 := by ac_rfl
    _ = a * 2 ^ P * D * 2 ^ 1074 := by rw [e]
    _ = a * 2 ^ P * (D * 2 ^ 1074) := by ac_rfl
end

-- part FL2
section
open PySem.Float64 (V V_at V_mono V_lt roundMag Right infMag dist pack val decode sgn)

theorem p52 : (2 : Nat) ^ 52 = 4503599627370496 := rfl
theorem p53 : (2 : Nat) ^ 53 = 9007199254740992 := rfl
theorem infMag_is : infMag = 9218868437227405312 := rfl

theorem sN_pack (s : Bool) (t : Nat) : UInt64.ofNat (sN s t) = pack s t := by
  cases s
  · show UInt64.ofNat t = (0 + t).toUInt64
    rw [Nat.zero_add]
    try rfl
  · rfl
theorem ofNat_pack (a : Nat) : UInt64.ofNat a = pack (negN a) (magN a) := by
  rw [← sN_pack]
  apply UInt64.toNat_inj.mp
  rw [UInt64.toNat_ofNat', UInt64.toNat_ofNat']
  unfold sN negN magN bt
  have h : a / 9223372036854775808 % 2 = 0 ∨ a / 9223372036854775808 % 2 = 1 := by omega
  rcases h with h | h
  · have : Nat.beq (Nat.mod (Nat.div a 9223372036854775808) 2) 1 = false := by
      show Nat.beq (a / 9223372036854775808 % 2) 1 = false
      rw [h]; rfl
    rw [this]
    show a % 2 ^ 64 = a % 9223372036854775808 % 2 ^ 64
    omega
  · have : Nat.beq (Nat.mod (Nat.div a 9223372036854775808) 2) 1 = true := by
      show Nat.beq (a / 9223372036854775808 % 2) 1 = true
      rw [h]; rfl
    rw [this]
    show a % 2 ^ 64 = (9223372036854775808 + a % 9223372036854775808) % 2 ^ 64
    omega

theorem hevN_eq (n d : Nat) : hevN n d = Float64.halfEven n d := by
  unfold hevN Float64.halfEven
  simp only [force_eq]
  show bt (Nat.ble (Nat.succ d) (n % d * 2)) (Nat.succ (n / d)) (bt (Nat.beq (n % d * 2) d) (bt (Nat.beq (n / d % 2) 1) (Nat.succ (n / d)) (n / d)) (n / d)) = _
  by_cases h1 : 2 * (n % d) > d
  · rw [bt_t (Nat.ble_eq.mpr (by omega)), if_pos (by simp [h1])]
  · rw [bt_f (by rw [← Bool.not_eq_true, Nat.ble_eq]; omega)]
    by_cases h2 : 2 * (n % d) = d
    · rw [bt_t (Nat.beq_eq.mpr (by omega))]
      by_cases h3 : n / d % 2 = 1
      · rw [bt_t (Nat.beq_eq.mpr h3), if_pos (by simp [h2, h3])]
      · rw [bt_f (by rw [← Bool.not_eq_true, Nat.beq_eq]; exact h3), if_neg (by simp [h2, h3])]
    · rw [bt_f (by rw [← Bool.not_eq_true, Nat.beq_eq]; omega), if_neg (by simp [h2]; omega)]
theorem capN_eq (t : Nat) : capN t = min infMag t := by
  unfold capN
  simp only [force_eq]
  rw [infMag_is]
  show bt (Nat.ble t 9218868437227405312) t 9218868437227405312 = _
  by_cases h : t ≤ 9218868437227405312
  · rw [bt_t (Nat.ble_eq.mpr h), Nat.min_eq_right h]
  · rw [bt_f (by rw [← Bool.not_eq_true, Nat.ble_eq]; exact h), Nat.min_eq_left (by omega)]
theorem okP_spec {W X : Nat} (h : okP W X = true) : W < 2 ^ 53 * X ∧ 2 ^ 52 * X ≤ W := by
  unfold okP at h
  by_cases h1 : Nat.ble (Nat.mul 9007199254740992 X) W = true
  · rw [bt_t h1] at h; cases h
  · rw [bt_f (by rw [← Bool.not_eq_true]; exact h1)] at h
    rw [Nat.ble_eq] at h1 h
    have h1' : ¬ 9007199254740992 * X ≤ W := h1
    have h' : 4503599627370496 * X ≤ W := h
    omega

theorem tryK_gen {r : UInt64} {s : Bool} {k W D G slow W' D' : Nat} (hD : 0 < D) (hD' : 0 < D') (hW : W' ≠ 0) (e : W' * D = W * 2 ^ G * D') (h : Right r s W' D') (hs : UInt64.ofNat slow = r) : UInt64.ofNat (tryK s k W D G slow) = r := by
  unfold tryK
  rw [force_eq]
  by_cases hk : okP W (Nat.mul D (Nat.pow 2 k)) = true
  · rw [bt_t hk, sN_pack]
    obtain ⟨h1, h2⟩ := okP_spec hk
    have h1' : W < 2 ^ 53 * (D * 2 ^ k) := h1
    have h2' : 2 ^ 52 * (D * 2 ^ k) ≤ W := h2
    unfold atP
    rw [capN_eq, hevN_eq]
    refine (right_at hD' h hW (Nat.mul_pos hD (Nat.two_pow_pos k)) h1' (.inr h2') ?_).symm
    show W' * (D * 2 ^ k) = W * 2 ^ (G + k) * D'
    rw [Nat.pow_add, ← Nat.mul_assoc, e]; ac_rfl
  · rw [bt_f (by rw [← Bool.not_eq_true]; exact hk)]; exact hs
theorem tryK_ok {r : UInt64} {s : Bool} {k W D G slow : Nat} (hD : 0 < D) (hW : W ≠ 0) (h : Right r s (W * 2 ^ G) D) (hs : UInt64.ofNat slow = r) : UInt64.ofNat (tryK s k W D G slow) = r :=
  tryK_gen hD hD (Nat.mul_ne_zero hW (Nat.ne_of_gt (Nat.two_pow_pos _))) rfl h hs
theorem upK_ok {r : UInt64} {s : Bool} {j W G slow : Nat} (hW : W ≠ 0) (h : Right r s (W * 2 ^ G) 1) (hs : UInt64.ofNat slow = r) : UInt64.ofNat (upK s j W G slow) = r := by
  unfold upK
  rw [force_eq]
  by_cases hk : okP (Nat.mul W (Nat.pow 2 j)) 1 = true
  · rw [bt_t hk]
    by_cases hj : Nat.ble j G = true
    · rw [bt_t hj, sN_pack, capN_eq]
      have hj' : j ≤ G := Nat.ble_eq.mp hj
      obtain ⟨h1, h2⟩ := okP_spec hk
      have h1' : W * 2 ^ j < 2 ^ 53 * 1 := h1
      have h2' : 2 ^ 52 * 1 ≤ W * 2 ^ j := h2
      have e : Float64.halfEven (W * 2 ^ j) 1 = W * 2 ^ j := by unfold Float64.halfEven; simp [Nat.mod_one]
      refine ((right_at (P := G - j) (by decide) h (Nat.mul_ne_zero hW (Nat.ne_of_gt (Nat.two_pow_pos _))) (by decide) h1' (.inr h2') ?_).trans (by rw [e]; rfl)).symm
      rw [Nat.mul_one, Nat.mul_one, Nat.mul_assoc, ← Nat.pow_add, Nat.add_sub_cancel' hj']
    · rw [bt_f (by rw [← Bool.not_eq_true]; exact hj)]; exact hs
  · rw [bt_f (by rw [← Bool.not_eq_true]; exact hk)]; exact hs
theorem lgN_some (n : Nat) (f : Nat → Nat) : ∃ b, lgN n f = f b := by
  have one : ∀ (k n a : Nat) (g : Nat → Nat → Nat), ∃ n' a', lgS k n a g = g n' a' := by
    intro k n a g
    unfold lgS
    by_cases h : Nat.ble (Nat.pow 2 k) n = true
    · rw [bt_t h, force_eq, force_eq]; exact ⟨_, _, rfl⟩
    · rw [bt_f (by rw [← Bool.not_eq_true]; exact h)]; exact ⟨_, _, rfl⟩
  unfold lgN
  obtain ⟨n1, a1, e⟩ := one 64 n 0 _; rw [e]
  obtain ⟨n1, a1, e⟩ := one 32 n1 a1 _; rw [e]
  obtain ⟨n1, a1, e⟩ := one 16 n1 a1 _; rw [e]
  obtain ⟨n1, a1, e⟩ := one 8 n1 a1 _; rw [e]
  obtain ⟨n1, a1, e⟩ := one 4 n1 a1 _; rw [e]
  obtain ⟨n1, a1, e⟩ := one 2 n1 a1 _; rw [e]
  obtain ⟨n1, a1, e⟩ := one 1 n1 a1 _; rw [e]
  exact ⟨_, rfl⟩
theorem rndL_ok {r : UInt64} {s : Bool} {W G slow : Nat} (hW : W ≠ 0) (h : Right r s (W * 2 ^ G) 1) (hs : UInt64.ofNat slow = r) : UInt64.ofNat (rndL s W G slow) = r := by
  unfold rndL
  obtain ⟨b, e⟩ := lgN_some W fun b => bt (Nat.ble (nat_lit 52) b) (tryK s (Nat.sub b (nat_lit 52)) W (nat_lit 1) G slow) (upK s (Nat.sub (nat_lit 52) b) W G slow)
  rw [e]
  cases Nat.ble 52 b
  · exact upK_ok hW h hs
  · exact tryK_ok (by decide) hW h hs

theorem decN_some {t : Nat} (f : Nat → Nat → Nat) : ∃ m e, decN t f = f m e ∧ m * 2 ^ e = V t := by
  unfold decN
  rw [force_eq]
  show ∃ m e, bt (Nat.beq (t / 4503599627370496) 0) (f t 0) _ = f m e ∧ _
  unfold V
  by_cases h : t / 4503599627370496 = 0
  · rw [bt_t (Nat.beq_eq.mpr h), if_pos (by rw [p52]; exact h)]
    exact ⟨t, 0, rfl, by simp⟩
  · rw [bt_f (by rw [← Bool.not_eq_true, Nat.beq_eq]; exact h), if_neg (by rw [p52]; exact h), force_eq, force_eq]
    exact ⟨_, _, rfl, rfl⟩

theorem slowN_eq (f : UInt64 → UInt64 → UInt64) (a b : Nat) : UInt64.ofNat (slowN f a b) = f (UInt64.ofNat a) (UInt64.ofNat b) := by
  unfold slowN; exact UInt64.ofNat_toNat ..
theorem finN_lt {m : Nat} (h : finN m = true) : m < infMag := by
  unfold finN at h
  by_cases h1 : Nat.ble 9218868437227405312 m = true
  · rw [bt_t h1] at h; cases h
  · rw [Nat.ble_eq] at h1; rw [infMag_is]; exact Nat.not_le.mp h1

theorem binN_eq {f : UInt64 → UInt64 → UInt64} {g : Bool → Nat → Nat → Bool → Nat → Nat → Nat → Nat} (a b : Nat)
    (hg : ∀ (s t : Bool) (m k M E K F slow : Nat), UInt64.ofNat a = pack s m → UInt64.ofNat b = pack t k → m < infMag → k < infMag → M * 2 ^ E = V m → K * 2 ^ F = V k → UInt64.ofNat slow = f (pack s m) (pack t k) → UInt64.ofNat (g s M E t K F slow) = f (pack s m) (pack t k)) :
    UInt64.ofNat (binN f g a b) = f (UInt64.ofNat a) (UInt64.ofNat b) := by
  unfold binN
  rw [force_eq, force_eq, force_eq, force_eq]
  cases h1 : finN (magN a) with
  | false => rw [bt_f rfl]; exact slowN_eq f a b
  | true =>
    rw [bt_t rfl]
    cases h2 : finN (magN b) with
    | false => rw [bt_f rfl]; exact slowN_eq f a b
    | true =>
      rw [bt_t rfl]
      obtain ⟨m, e, h3, h4⟩ := decN_some (t := magN a) fun m e => decN (magN b) fun k f' => g (negN a) m e (negN b) k f' (slowN f a b)
      rw [h3]
      obtain ⟨k, e', h5, h6⟩ := decN_some (t := magN b) fun k f' => g (negN a) m e (negN b) k f' (slowN f a b)
      rw [h5, ofNat_pack a, ofNat_pack b]
      exact hg _ _ _ _ _ _ _ _ _ (ofNat_pack a) (ofNat_pack b) (finN_lt h1) (finN_lt h2) h4 h6 (by rw [slowN_eq, ← ofNat_pack, ← ofNat_pack])

theorem bxor_eq (s t : Bool) : bxor s t = (s != t) := by cases s <;> cases t <;> rfl

theorem sgn_ne {s : Bool} {z : Nat} (h : z ≠ 0) : sgn s z ≠ 0 := by unfold sgn; cases s <;> simp <;> omega
theorem sgn_lt {s : Bool} {z : Nat} (h : z ≠ 0) : decide (sgn s z < 0) = s := by
  unfold sgn; cases s
  · simp; try omega
  · simp; try omega
theorem sgn_add (s : Bool) (a b : Nat) : sgn s a + sgn s b = sgn s (a + b) := by unfold sgn; cases s <;> simp <;> omega
theorem sgn_sub (s : Bool) {a b : Nat} (h : b ≤ a) : sgn s a + sgn (!s) b = sgn s (a - b) := by unfold sgn; cases s <;> simp <;> omega
theorem sgn_sub' (s : Bool) {a b : Nat} (h : a ≤ b) : sgn s a + sgn (!s) b = sgn (!s) (b - a) := by unfold sgn; cases s <;> simp <;> omega
theorem sgn_zero (s : Bool) : sgn s 0 = 0 := by cases s <;> rfl

theorem addGo_ok {s t : Bool} {m k p q G d slow : Nat} (hm : m < infMag) (hk : k < infMag) (hp : p * 2 ^ G = V m) (hq : q * 2 ^ G = V k) (hs : UInt64.ofNat slow = Float64.add (pack s m) (pack t k)) :
    UInt64.ofNat (addGo s p t q G d slow) = Float64.add (pack s m) (pack t k) := by
  obtain ⟨M, E, hx, _⟩ := Float64.decode_pack s hm
  obtain ⟨K, F, hy, _⟩ := Float64.decode_pack t hk
  have h := Float64.add_right hx hy
  rw [Float64.val_pack s hm, Float64.val_pack t hk, ← hp, ← hq] at h
  have hG := Nat.two_pow_pos G
  unfold addGo
  cases hb : bxor s t with
  | false =>
    have hst : s = t := by rw [bxor_eq] at hb; simpa using hb
    subst hst
    rw [bt_f rfl, force_eq]
    show UInt64.ofNat (bt (Nat.beq (p + q) 0) _ _) = _
    have e : sgn s (p * 2 ^ G) + sgn s (q * 2 ^ G) = sgn s ((p + q) * 2 ^ G) := by
      rw [Nat.add_mul]; exact sgn_add ..
    rw [e] at h
    by_cases h0 : p + q = 0
    · rw [bt_t (Nat.beq_eq.mpr h0), sN_pack]
      have := h.1 (by rw [h0, Nat.zero_mul]; exact sgn_zero s)
      rw [this, Bool.and_self]; rfl
    · rw [bt_f (by rw [← Bool.not_eq_true, Nat.beq_eq]; exact h0)]
      have hz : (p + q) * 2 ^ G ≠ 0 := Nat.mul_ne_zero h0 (Nat.ne_of_gt hG)
      have r := h.2 (sgn_ne hz)
      rw [sgn_lt hz, Float64.sgn_natAbs] at r
      exact tryK_ok (by decide) h0 r (tryK_ok (by decide) h0 r hs)
  | true =>
    have hst : t = !s := by rw [bxor_eq] at hb; cases s <;> cases t <;> simp_all
    subst hst
    rw [bt_t rfl]
    by_cases hpq : p = q
    · rw [bt_t (Nat.beq_eq.mpr hpq)]
      have := h.1 (by rw [hpq, sgn_sub s (Nat.le_refl _), Nat.sub_self]; exact sgn_zero s)
      rw [this, Bool.and_not_self]; rfl
    · rw [bt_f (by rw [← Bool.not_eq_true, Nat.beq_eq]; exact hpq)]
      by_cases hle : q ≤ p
      · rw [bt_t (Nat.ble_eq.mpr hle), force_eq]
        rw [sgn_sub s (Nat.mul_le_mul_right _ hle), ← Nat.sub_mul] at h
        have h0 : p - q ≠ 0 := by omega
        have hz : (p - q) * 2 ^ G ≠ 0 := Nat.mul_ne_zero h0 (Nat.ne_of_gt hG)
        have r := h.2 (sgn_ne hz)
        rw [sgn_lt hz, Float64.sgn_natAbs] at r
        exact rndL_ok h0 r hs
      · rw [bt_f (by rw [← Bool.not_eq_true, Nat.ble_eq]; exact hle), force_eq]
        rw [sgn_sub' s (Nat.mul_le_mul_right _ (by omega)), ← Nat.sub_mul] at h
        have h0 : q - p ≠ 0 := by omega
        have hz : (q - p) * 2 ^ G ≠ 0 := Nat.mul_ne_zero h0 (Nat.ne_of_gt hG)
        have r := h.2 (sgn_ne hz)
        rw [sgn_lt hz, Float64.sgn_natAbs] at r
        exact rndL_ok h0 r hs

theorem addF_ok {s t : Bool} {m k M E K F slow : Nat} (hm : m < infMag) (hk : k < infMag) (h4 : M * 2 ^ E = V m) (h6 : K * 2 ^ F = V k) (hs : UInt64.ofNat slow = Float64.add (pack s m) (pack t k)) :
    UInt64.ofNat (addF s M E t K F slow) = Float64.add (pack s m) (pack t k) := by
  unfold addF
  by_cases h : E ≤ F
  · rw [bt_t (Nat.ble_eq.mpr h), force_eq, force_eq]
    refine addGo_ok hm hk h4 ?_ hs
    show K * 2 ^ (F - E) * 2 ^ E = _
    rw [Nat.mul_assoc, ← Nat.pow_add, Nat.sub_add_cancel h, h6]
  · rw [bt_f (by rw [← Bool.not_eq_true, Nat.ble_eq]; exact h), force_eq, force_eq]
    refine addGo_ok hm hk ?_ h6 hs
    show M * 2 ^ (E - F) * 2 ^ F = _
    rw [Nat.mul_assoc, ← Nat.pow_add, Nat.sub_add_cancel (by omega), h4]

theorem addN_eq (a b : Nat) : UInt64.ofNat (addN a b) = Float64.add (UInt64.ofNat a) (UInt64.ofNat b) :=
  binN_eq a b fun _ _ _ _ _ _ _ _ _ _ _ hm hk h4 h6 hs => addF_ok hm hk h4 h6 hs

theorem neg_pack (t : Bool) {k : Nat} (hk : k < infMag) : Float64.neg (pack t k) = pack (!t) k := by
  obtain ⟨K, F, hy, _⟩ := Float64.decode_pack t hk
  have hn := Float64.neg_toNat (y := pack t k) (by unfold Float64.isNaN; rw [hy])
  have hi : infMag = 9218868437227405312 := rfl
  have e1 := Float64.pack_toNat t (t := k) (by omega)
  have e2 := Float64.pack_toNat (!t) (t := k) (by omega)
  apply UInt64.toNat_inj.mp
  rw [e2]
  have hlt := (Float64.neg (pack t k)).toNat_lt
  obtain ⟨n1, n2⟩ := hn
  rw [e1] at n1 n2
  cases t
  · have h2 : ((Float64.neg (pack false k)).toNat / 2 ^ 63 == 1) = true := by
      rw [n2]; simp; omega
    rw [beq_iff_eq] at h2
    simp at n1 ⊢
    omega
  · have h2 : ((Float64.neg (pack true k)).toNat / 2 ^ 63 == 1) = false := by
      rw [n2]; simp; omega
    have h3 : (Float64.neg (pack true k)).toNat / 2 ^ 63 ≠ 1 := by simpa using h2
    simp at n1 ⊢
    omega
theorem subN_eq (a b : Nat) : UInt64.ofNat (subN a b) = Float64.sub (UInt64.ofNat a) (UInt64.ofNat b) := by
  refine binN_eq a b fun s t m k M E K F slow _ _ hm hk h4 h6 hs => ?_
  have e : bt t false true = !t := by cases t <;> rfl
  unfold Float64.sub at hs ⊢
  rw [neg_pack t hk] at hs ⊢
  rw [e]
  exact addF_ok hm hk h4 h6 hs
end

-- part FL3
section
open PySem.Float64 (V V_at V_mono V_lt roundMag Right infMag dist pack val decode sgn)

theorem right_zero {r : UInt64} {s : Bool} {D : Nat} (hD : 0 < D) (h : Right r s 0 D) : r = pack s 0 := by
  rw [right_is hD h]
  congr 1

theorem mulN_eq (a b : Nat) : UInt64.ofNat (mulN a b) = Float64.mul (UInt64.ofNat a) (UInt64.ofNat b) := by
  refine binN_eq a b fun s t m k M E K F slow _ _ hm hk h4 h6 hs => ?_
  obtain ⟨M', E', hx, _⟩ := Float64.decode_pack s hm
  obtain ⟨K', F', hy, _⟩ := Float64.decode_pack t hk
  have h := Float64.mul_right hx hy
  rw [Float64.val_pack s hm, Float64.val_pack t hk, Float64.sgn_natAbs, Float64.sgn_natAbs, ← h4, ← h6] at h
  have hp : (0 : Nat) < 2 ^ 1074 := Nat.two_pow_pos _
  unfold mulF
  rw [force_eq, bxor_eq]
  show UInt64.ofNat (bt (Nat.beq (M * K) 0) _ _) = _
  by_cases h0 : M * K = 0
  · rw [bt_t (Nat.beq_eq.mpr h0), sN_pack]
    have e : M * 2 ^ E * (K * 2 ^ F) = 0 := by
      rw [show M * 2 ^ E * (K * 2 ^ F) = M * K * (2 ^ E * 2 ^ F) by ac_rfl, h0, Nat.zero_mul]
    rw [e] at h
    exact (right_zero hp h).symm
  · rw [bt_f (by rw [← Bool.not_eq_true, Nat.beq_eq]; exact h0)]
    by_cases hE : 1074 ≤ E + F
    · have hE' : Nat.ble (nat_lit 1074) (Nat.add E F) = true := Nat.ble_eq.mpr hE
      rw [bt_t hE', force_eq]
      have e : M * 2 ^ E * (K * 2 ^ F) * 1 = M * K * 2 ^ (E + F - 1074) * 2 ^ 1074 := by
        rw [Nat.mul_assoc (M * K), ← Nat.pow_add, Nat.sub_add_cancel hE, Nat.pow_add]; ac_rfl
      have hW : M * 2 ^ E * (K * 2 ^ F) ≠ 0 := by
        rw [show M * 2 ^ E * (K * 2 ^ F) = M * K * (2 ^ E * 2 ^ F) by ac_rfl]
        exact Nat.mul_ne_zero h0 (Nat.mul_ne_zero (Nat.ne_of_gt (Nat.two_pow_pos _)) (Nat.ne_of_gt (Nat.two_pow_pos _)))
      exact tryK_gen (by decide) hp hW e h (tryK_gen (by decide) hp hW e h hs)
    · have hE' : Nat.ble (nat_lit 1074) (Nat.add E F) = false := by rw [← Bool.not_eq_true, Nat.ble_eq]; exact hE
      rw [bt_f hE']
      exact hs

theorem divN_eq (a b : Nat) : UInt64.ofNat (divN a b) = Float64.div (UInt64.ofNat a) (UInt64.ofNat b) := by
  refine binN_eq a b fun s t m k M E K F slow _ _ hm hk h4 h6 hs => ?_
  obtain ⟨M', E', hx, _⟩ := Float64.decode_pack s hm
  obtain ⟨K', F', hy, hy'⟩ := Float64.decode_pack t hk
  unfold divF
  by_cases hK : K = 0
  · rw [bt_t (Nat.beq_eq.mpr hK)]; exact hs
  rw [bt_f (by rw [← Bool.not_eq_true, Nat.beq_eq]; exact hK)]
  have hVk : 0 < K * 2 ^ F := Nat.mul_pos (by omega) (Nat.two_pow_pos _)
  have h := Float64.div_right hx hy (by
    intro e
    rw [e, Nat.zero_mul] at hy'
    rw [h6, ← hy'] at hVk
    exact Nat.lt_irrefl _ hVk)
  rw [Float64.val_pack s hm, Float64.val_pack t hk, Float64.sgn_natAbs, Float64.sgn_natAbs, ← h4, ← h6] at h
  by_cases hM : M = 0
  · rw [bt_t (Nat.beq_eq.mpr hM), sN_pack, bxor_eq]
    rw [hM, Nat.zero_mul, Nat.zero_mul] at h
    exact (right_zero hVk h).symm
  rw [bt_f (by rw [← Bool.not_eq_true, Nat.beq_eq]; exact hM)]
  by_cases hE : F + 53 ≤ E + 1074
  · have hE' : Nat.ble (Nat.add F (nat_lit 53)) (Nat.add E (nat_lit 1074)) = true := Nat.ble_eq.mpr hE
    rw [bt_t hE', force_eq, force_eq, bxor_eq]
    have e : M * 2 ^ E * 2 ^ 1074 * K = M * 9007199254740992 * 2 ^ (E + 1074 - (F + 53)) * (K * 2 ^ F) := by
      rw [← p53]
      calc M * 2 ^ E * 2 ^ 1074 * K = M * K * 2 ^ (E + 1074) := by rw [Nat.pow_add]; ac_rfl
        _ = M * K * 2 ^ (E + 1074 - (F + 53) + (F + 53)) := by rw [Nat.sub_add_cancel hE]
        _ = M * K * (2 ^ (E + 1074 - (F + 53)) * (2 ^ F * 2 ^ 53)) := by rw [Nat.pow_add, Nat.pow_add]
        _ = _ := by ac_rfl
    have hW : M * 2 ^ E * 2 ^ 1074 ≠ 0 := Nat.mul_ne_zero (Nat.mul_ne_zero hM (Nat.ne_of_gt (Nat.two_pow_pos _))) (Nat.ne_of_gt (Nat.two_pow_pos _))
    exact tryK_gen (by omega) hVk hW e h (tryK_gen (by omega) hVk hW e h hs)
  · have hE' : Nat.ble (Nat.add F (nat_lit 53)) (Nat.add E (nat_lit 1074)) = false := by rw [← Bool.not_eq_true, Nat.ble_eq]; exact hE
    rw [bt_f hE']
    exact hs

-- comparisons
noncomputable def cmpV (a b : Nat) : Bool := bt (finN (magN a)) (finN (magN b)) false
noncomputable def zz (m k : Nat) : Bool := bt (Nat.beq m 0) (Nat.beq k 0) false
noncomputable def ltN (a b : Nat) : Bool := bt (cmpV a b) (bt (negN a) (bt (negN b) (Nat.ble (Nat.succ (magN b)) (magN a)) (bt (zz (magN a) (magN b)) false true)) (bt (negN b) false (Nat.ble (Nat.succ (magN a)) (magN b)))) (Float64.cmp (UInt64.ofNat a) (UInt64.ofNat b) == some .lt)
noncomputable def eqN (a b : Nat) : Bool := bt (cmpV a b) (bt (bxor (negN a) (negN b)) (zz (magN a) (magN b)) (Nat.beq (magN a) (magN b))) (Float64.cmp (UInt64.ofNat a) (UInt64.ofNat b) == some .eq)

theorem V_le_iff {m k : Nat} : V m < V k ↔ m < k := ⟨fun h => by
  rcases Nat.lt_or_ge m k with q | q
  · exact q
  · have := V_mono q; omega, V_lt⟩
theorem V_inj {m k : Nat} : V m = V k ↔ m = k := ⟨fun h => by
  rcases Nat.lt_trichotomy m k with q | q | q
  · have := V_lt q; omega
  · exact q
  · have := V_lt q; omega, fun h => by rw [h]⟩
theorem cmp_pack {a b : Nat} (h : cmpV a b = true) : Float64.cmp (UInt64.ofNat a) (UInt64.ofNat b) = some (compare (sgn (negN a) (V (magN a))) (sgn (negN b) (V (magN b)))) := by
  unfold cmpV at h
  cases h1 : finN (magN a) with
  | false => rw [h1, bt_f rfl] at h; cases h
  | true =>
    rw [h1, bt_t rfl] at h
    rw [ofNat_pack a, ofNat_pack b]
    obtain ⟨M', E', hx, _⟩ := Float64.decode_pack (negN a) (finN_lt h1)
    obtain ⟨K', F', hy, hy'⟩ := Float64.decode_pack (negN b) (finN_lt h)
    rw [Float64.cmp_right hx hy, Float64.val_pack _ (finN_lt h1), Float64.val_pack _ (finN_lt h)]
theorem V_zero_iff {m : Nat} : V m = 0 ↔ m = 0 := by
  have := V_inj (m := m) (k := 0)
  rw [Float64.V_zero] at this; exact this
theorem zz_eq {m k : Nat} : zz m k = true ↔ m = 0 ∧ k = 0 := by
  unfold zz
  by_cases h : m = 0
  · rw [bt_t (Nat.beq_eq.mpr h), Nat.beq_eq]; simp [h]
  · rw [bt_f (by rw [← Bool.not_eq_true, Nat.beq_eq]; exact h)]; simp [h]
theorem ltN_eq (a b : Nat) : (Float64.cmp (UInt64.ofNat a) (UInt64.ofNat b) == some .lt) = ltN a b := by
  unfold ltN
  cases h : cmpV a b with
  | false => rw [bt_f rfl]
  | true =>
    rw [bt_t rfl, cmp_pack h]
    have hv := @V_le_iff (magN a) (magN b)
    have hv' := @V_le_iff (magN b) (magN a)
    have z1 := @V_zero_iff (magN a)
    have z2 := @V_zero_iff (magN b)
    have zq := @zz_eq (magN a) (magN b)
    rw [Bool.eq_iff_iff, beq_iff_eq, Option.some_inj, Int.compare_eq_lt]
    cases negN a <;> cases negN b
    · rw [bt_f rfl, bt_f rfl, Nat.ble_eq]; simp only [sgn, Bool.false_eq_true, if_false]; omega
    · rw [bt_f rfl, bt_t rfl]
      refine ⟨fun q => ?_, fun q => by cases q⟩
      exfalso
      simp only [sgn, Bool.false_eq_true, if_false, if_true] at q; omega
    · rw [bt_t rfl, bt_f rfl]
      cases hz : zz (magN a) (magN b)
      · have hq : ¬ (magN a = 0 ∧ magN b = 0) := by rw [← zq, hz]; decide
        rw [bt_f rfl]
        refine ⟨fun _ => rfl, fun _ => ?_⟩
        simp only [sgn, Bool.false_eq_true, if_false, if_true]; omega
      · have hq := zq.mp hz
        rw [bt_t rfl]
        refine ⟨fun q => ?_, fun q => by cases q⟩
        simp only [sgn, Bool.false_eq_true, if_false, if_true] at q; omega
    · rw [bt_t rfl, bt_t rfl, Nat.ble_eq]; simp only [sgn, if_true]; omega
theorem gtN_eq (a b : Nat) : (Float64.cmp (UInt64.ofNat a) (UInt64.ofNat b) == some .gt) = (bt (cmpV a b) (ltN b a) (Float64.cmp (UInt64.ofNat a) (UInt64.ofNat b) == some .gt)) := by
  cases h : cmpV a b with
  | false => rw [bt_f rfl]
  | true =>
    have h' : cmpV b a = true := by
      unfold cmpV at h ⊢
      cases h1 : finN (magN a)
      · rw [h1, bt_f rfl] at h; cases h
      · rw [h1, bt_t rfl] at h; rw [h]
    rw [bt_t rfl, ← ltN_eq, cmp_pack h, cmp_pack h']
    rw [Bool.eq_iff_iff, beq_iff_eq, beq_iff_eq, Option.some_inj, Option.some_inj, Int.compare_eq_lt, Int.compare_eq_gt]
theorem eqN_eq (a b : Nat) : (Float64.cmp (UInt64.ofNat a) (UInt64.ofNat b) == some .eq) = eqN a b := by
  unfold eqN
  cases h : cmpV a b with
  | false => rw [bt_f rfl]
  | true =>
    rw [bt_t rfl, cmp_pack h, bxor_eq]
    have hv := @V_inj (magN a) (magN b)
    have z1 := @V_zero_iff (magN a)
    have z2 := @V_zero_iff (magN b)
    have zq := @zz_eq (magN a) (magN b)
    rw [Bool.eq_iff_iff, beq_iff_eq, Option.some_inj, Int.compare_eq_eq]
    cases negN a <;> cases negN b
    · show _ ↔ Nat.beq _ _ = true
      rw [Nat.beq_eq]; simp only [sgn, Bool.false_eq_true, if_false]; omega
    · show _ ↔ zz _ _ = true
      rw [zq]; simp only [sgn, Bool.false_eq_true, if_false, if_true]; omega
    · show _ ↔ zz _ _ = true
      rw [zq]; simp only [sgn, Bool.false_eq_true, if_false, if_true]; omega
    · show _ ↔ Nat.beq _ _ = true
      rw [Nat.beq_eq]; simp only [sgn, if_true]; omega
end

-- part FL4
section
open PySem.Float64 (V V_at V_mono V_lt roundMag Right infMag dist pack val decode sgn)

theorem subNat_add (G : Nat) : (Int.subNatNat G 1074 + 1074).toNat = G := by rw [Int.subNatNat_eq_coe]; omega

/-- a small right thing's bits -/
theorem right_bits {z : UInt64} {s : Bool} {W k : Nat} (h : Right z s W 1) (hW : W ≠ 0) (hk : W < V k) (hi : k < infMag) : ∃ t, z = pack s t ∧ t ≠ 0 ∧ t < infMag := by
  obtain ⟨t, rfl, hle, hov, hn⟩ := h
  have hA : V (infMag - 1) = (2 ^ 53 - 1) * 2 ^ 2045 := by
    have e : infMag - 1 = 2045 * 2 ^ 52 + (2 ^ 53 - 1) := by unfold infMag; omega
    rw [e]
    exact V_at (by omega) (.inl (by omega))
  have hV : V k ≤ V (infMag - 1) := V_mono (by omega)
  have hlt : t < infMag := by
    refine Nat.lt_of_le_of_ne hle fun e => ?_
    have := hov.mp e
    have e2 : (2 ^ 54 - 1) * 2 ^ 2045 = 2 * ((2 ^ 53 - 1) * 2 ^ 2045) + 2 ^ 2045 := by
      generalize (2 : Nat) ^ 2045 = K
      omega
    rw [hA] at hV
    generalize (2 ^ 53 - 1) * 2 ^ 2045 = a at *
    have := Nat.two_pow_pos 2045
    generalize (2 : Nat) ^ 2045 = K at *
    omega
  refine ⟨t, rfl, fun h0 => ?_, hlt⟩
  have := (hn hlt 1).1
  rw [h0, Float64.V_zero] at this
  have h1 : V 1 = 1 := by decide
  rw [h1] at this
  unfold dist at this
  omega

theorem isZero_pack {s : Bool} {t : Nat} (ht : t ≠ 0) (hi : t < infMag) : Float64.isZero (pack s t) = false := by
  obtain ⟨m, e, hd, hv⟩ := Float64.decode_pack s hi
  unfold Float64.isZero
  rw [hd]
  have : m ≠ 0 := by
    intro h
    rw [h, Nat.zero_mul] at hv
    exact ht (V_zero_iff.mp hv.symm)
  cases m with
  | zero => exact absurd rfl this
  | succ _ => rfl
theorem lt_zero_pack {s : Bool} {t : Nat} (ht : t ≠ 0) (hi : t < infMag) : Float64.lt (pack s t) (Float64.zero false) = s := by
  obtain ⟨m, e, hd, hv⟩ := Float64.decode_pack s hi
  have h0 : (0 : Nat) < infMag := by decide
  obtain ⟨m', e', hd', hv'⟩ := Float64.decode_pack false h0
  unfold Float64.lt Float64.zero
  rw [Float64.cmp_right hd hd', Float64.val_pack s hi, Float64.val_pack false h0, Float64.V_zero, sgn_zero, Bool.eq_iff_iff, beq_iff_eq, Option.some_inj, Int.compare_eq_lt]
  have hp : V t ≠ 0 := fun h => ht (V_zero_iff.mp h)
  unfold sgn
  cases s <;> simp <;> omega

theorem fmod_right {s : Bool} {m k : Nat} (hm : m < infMag) (hk : k < infMag) (h0 : k ≠ 0) : Right (Float64.fmod (pack s m) (pack false k)) s (V m % V k) 1 := by
  obtain ⟨M, E, hx, hx'⟩ := Float64.decode_pack s hm
  obtain ⟨K, F, hy, hy'⟩ := Float64.decode_pack false hk
  have hE := Float64.decode_ge hx
  have hF := Float64.decode_ge hy
  have hK : K ≠ 0 := by
    intro h
    rw [h, Nat.zero_mul] at hy'
    exact h0 (V_zero_iff.mp hy'.symm)
  have e : Float64.fmod (pack s m) (pack false k) = Float64.ofBin s (((M * 2 ^ (E - min E F).toNat : Nat) : Int).toNat % ((K * 2 ^ (F - min E F).toNat : Nat) : Int).toNat) (min E F) := by
    unfold Float64.fmod
    rw [hx, hy]
    simp only
    rw [if_neg (by simpa using hK)]
    rfl
  rw [e, Int.toNat_natCast, Int.toNat_natCast]
  have r := Float64.ofBin_right (neg := s) (M := (M * 2 ^ (E - min E F).toNat) % (K * 2 ^ (F - min E F).toNat)) (g := min E F) (by omega)
  rw [← Nat.mul_mod_mul_right, Nat.mul_assoc, Nat.mul_assoc, ← Nat.pow_add, ← Nat.pow_add] at r
  have e1 : (E - min E F).toNat + (min E F + 1074).toNat = (E + 1074).toNat := by omega
  have e2 : (F - min E F).toNat + (min E F + 1074).toNat = (F + 1074).toNat := by omega
  rw [e1, e2, hx', hy'] at r
  exact r

theorem divmod_pack {s : Bool} {m k : Nat} (hm : m < infMag) (hk : k < infMag) (h0 : k ≠ 0) :
    (V m % V k = 0 → (Float64.divmod (pack s m) (pack false k)).2 = pack false 0) ∧
    (V m % V k ≠ 0 → s = false → (Float64.divmod (pack s m) (pack false k)).2 = Float64.fmod (pack s m) (pack false k)) ∧
    (V m % V k ≠ 0 → s = true → (Float64.divmod (pack s m) (pack false k)).2 = Float64.add (Float64.fmod (pack s m) (pack false k)) (pack false k)) := by
  have r := fmod_right (s := s) hm hk h0
  have hV : 0 < V k := Nat.pos_of_ne_zero fun h => h0 (V_zero_iff.mp h)
  have hlt : V m % V k < V k := Nat.mod_lt _ hV
  have hy := lt_zero_pack (s := false) h0 hk
  refine ⟨fun h => ?_, fun h hs => ?_, fun h hs => ?_⟩
  · rw [h] at r
    have e := right_zero (by decide) r
    unfold Float64.divmod
    simp only
    rw [e]
    have hz : Float64.isZero (pack s 0) = true := by cases s <;> decide +kernel
    rw [hz]
    simp only [if_true]
    have hi : infMag = 9218868437227405312 := rfl
    have hs : Float64.signBit (pack false k) = false := by
      unfold Float64.signBit
      rw [Float64.pack_toNat false (t := k) (by omega)]
      simp; omega
    unfold Float64.copysign
    have e1 : Float64.isNaN (Float64.zero false) = false := by decide +kernel
    have e2 : (Float64.zero false).toNat % 2 ^ 63 = 0 := by decide +kernel
    rw [hs, e1, e2]
    rfl
  · obtain ⟨t, ht, ht0, hti⟩ := right_bits r h hlt hk
    unfold Float64.divmod
    simp only
    rw [ht, isZero_pack ht0 hti, hy, lt_zero_pack ht0 hti, hs]
    rfl
  · obtain ⟨t, ht, ht0, hti⟩ := right_bits r h hlt hk
    unfold Float64.divmod
    simp only
    rw [ht, isZero_pack ht0 hti, hy, lt_zero_pack ht0 hti, hs]
    rfl

theorem modF_ok {s t : Bool} {m k p q G slow b : Nat} (hb : UInt64.ofNat b = pack t k) (hm : m < infMag) (hk : k < infMag) (hp : p * 2 ^ G = V m) (hq : q * 2 ^ G = V k) (hs : UInt64.ofNat slow = (Float64.divmod (pack s m) (pack t k)).2) :
    UInt64.ofNat (modF s t p q G slow b) = (Float64.divmod (pack s m) (pack t k)).2 := by
  unfold modF
  cases t with
  | true => rw [bt_t rfl]; exact hs
  | false =>
    rw [bt_f rfl]
    by_cases h0 : q = 0
    · rw [bt_t (Nat.beq_eq.mpr h0)]; exact hs
    · rw [bt_f (by rw [← Bool.not_eq_true, Nat.beq_eq]; exact h0), force_eq]
      have hk0 : k ≠ 0 := by
        rintro rfl
        rw [Float64.V_zero] at hq
        exact (Nat.mul_ne_zero h0 (Nat.ne_of_gt (Nat.two_pow_pos G))) hq
      have hr : V m % V k = p % q * 2 ^ G := by rw [← hp, ← hq, Nat.mul_mod_mul_right]
      obtain ⟨d1, d2, d3⟩ := divmod_pack (s := s) hm hk hk0
      have r := fmod_right (s := s) hm hk hk0
      rw [hr] at d1 d2 d3 r
      by_cases hz : p % q = 0
      · rw [bt_t (Nat.beq_eq.mpr (show Nat.mod p q = 0 from hz)), d1 (by rw [hz, Nat.zero_mul])]
        exact (ofNat_pack 0)
      · rw [bt_f (by rw [← Bool.not_eq_true, Nat.beq_eq]; exact hz)]
        have hz' : p % q * 2 ^ G ≠ 0 := Nat.mul_ne_zero hz (Nat.ne_of_gt (Nat.two_pow_pos G))
        have r2 : ∀ s, Right (Float64.ofBin s (p % q) (Int.subNatNat G 1074)) s (p % q * 2 ^ G) 1 := fun s => by
          have := Float64.ofBin_right (neg := s) (M := p % q) (g := Int.subNatNat G 1074) (by rw [Int.subNatNat_eq_coe]; omega)
          rwa [subNat_add] at this
        cases s with
        | false =>
          rw [bt_f rfl, d2 hz' rfl]
          exact rndL_ok hz r (by rw [hs, d2 hz' rfl])
        | true =>
          rw [bt_t rfl, force_eq, d3 hz' rfl]
          have e : UInt64.ofNat (rndL true (p % q) G (Float64.ofBin true (p % q) (Int.subNatNat G 1074)).toNat) = Float64.fmod (pack true m) (pack false k) :=
            rndL_ok hz r (by rw [UInt64.ofNat_toNat, right_is (by decide) (r2 true), right_is (by decide) r])
          have := addN_eq (rndL true (p % q) G (Float64.ofBin true (p % q) (Int.subNatNat G 1074)).toNat) b
          rw [e, hb] at this
          exact this

theorem modN_eq (a b : Nat) : UInt64.ofNat (modN a b) = (Float64.divmod (UInt64.ofNat a) (UInt64.ofNat b)).2 := by
  unfold modN
  rw [force_eq]
  refine binN_eq (f := fun x y => (Float64.divmod x y).2) a b fun s t m k M E K F slow _ hb hm hk h4 h6 hs => ?_
  by_cases h : E ≤ F
  · rw [bt_t (Nat.ble_eq.mpr h), force_eq]
    refine modF_ok hb hm hk h4 ?_ hs
    show K * 2 ^ (F - E) * 2 ^ E = _
    rw [Nat.mul_assoc, ← Nat.pow_add, Nat.sub_add_cancel h, h6]
  · rw [bt_f (by rw [← Bool.not_eq_true, Nat.ble_eq]; exact h), force_eq]
    refine modF_ok hb hm hk ?_ h6 hs
    show M * 2 ^ (E - F) * 2 ^ F = _
    rw [Nat.mul_assoc, ← Nat.pow_add, Nat.sub_add_cancel (by omega), h4]

-- to ints
noncomputable def wholeN (a : Nat) : Nat := force (magN a) fun m => decN m fun M E => bt (Nat.ble (nat_lit 1074) E) (Nat.mul M (Nat.pow (nat_lit 2) (Nat.sub E (nat_lit 1074)))) (Nat.div M (Nat.pow (nat_lit 2) (Nat.sub (nat_lit 1074) E)))
noncomputable def nearN (a : Nat) : Nat := force (magN a) fun m => decN m fun M E => bt (Nat.ble (nat_lit 1074) E) (Nat.mul M (Nat.pow (nat_lit 2) (Nat.sub E (nat_lit 1074)))) (hevN M (Nat.pow (nat_lit 2) (Nat.sub (nat_lit 1074) E)))

theorem isFinite_ofNat {a : Nat} (h : finN (magN a) = true) : Float64.isFinite (UInt64.ofNat a) = true := by
  rw [ofNat_pack]
  obtain ⟨m, e, hd, _⟩ := Float64.decode_pack (negN a) (finN_lt h)
  unfold Float64.isFinite
  rw [hd]
theorem isZero_ofNat {a : Nat} (h : finN (magN a) = true) (h0 : magN a ≠ 0) : Float64.isZero (UInt64.ofNat a) = false := by
  rw [ofNat_pack]; exact isZero_pack h0 (finN_lt h)

theorem dec_same {M K : Nat} {E : Nat} {F : Int} (hF : -1074 ≤ F) (h : M * 2 ^ E = K * 2 ^ (F + 1074).toNat) :
    (1074 ≤ E → 0 ≤ F → M * 2 ^ (E - 1074) = K * 2 ^ F.toNat) ∧ (∀ {j : Nat} {f : Nat → Nat → Nat}, (∀ a b c, 0 < c → f (a * c) (b * c) = f a b) → f (if 1074 ≤ E then M * 2 ^ (E - 1074) else M) (if 1074 ≤ E then 1 else 2 ^ (1074 - E)) = f (Float64.shift K 1 F).1 (Float64.shift K 1 F).2) := by
  have hp := Nat.two_pow_pos
  refine ⟨fun h1 h2 => ?_, fun {j f} hf => ?_⟩
  · refine Nat.eq_of_mul_eq_mul_right (hp 1074) ?_
    rw [Nat.mul_assoc, Nat.mul_assoc, ← Nat.pow_add, ← Nat.pow_add, Nat.sub_add_cancel h1, h]
    congr 2; omega
  · generalize hA : (if 1074 ≤ E then M * 2 ^ (E - 1074) else M) = A
    generalize hB : (if 1074 ≤ E then 1 else 2 ^ (1074 - E)) = B
    have hAB : A * 2 ^ 1074 = M * 2 ^ E * B := by
      subst hA hB
      by_cases q : 1074 ≤ E
      · rw [if_pos q, if_pos q, Nat.mul_assoc, ← Nat.pow_add, Nat.sub_add_cancel q, Nat.mul_one]
      · rw [if_neg q, if_neg q, Nat.mul_assoc, ← Nat.pow_add]; congr 2; omega
    have hB0 : 0 < B := by subst hB; split <;> first | exact Nat.one_pos | exact hp _
    have hCD := Float64.shift_one K F 1074 (by omega)
    have hD0 := Float64.shift_pos K 1 F (by decide)
    generalize (Float64.shift K 1 F).1 = C at *
    generalize (Float64.shift K 1 F).2 = D at *
    have e : A * D = C * B := by
      refine Nat.eq_of_mul_eq_mul_right (hp 1074) ?_
      calc A * D * 2 ^ 1074 = A * 2 ^ 1074 * D := by ac_rfl
        _ = M * 2 ^ E * B * D := by rw [hAB]
        _ = K * 2 ^ (F + 1074).toNat * D * B := by rw [h]; ac_rfl
        _ = C * 2 ^ 1074 * B := by rw [show (F + 1074) = F + ((1074 : Nat) : Int) from rfl, hCD]
        _ = C * B * 2 ^ 1074 := by ac_rfl
    rw [← hf A B D hD0, e, Nat.mul_comm B D, hf C D B hB0]

theorem nearN_eq {a : Nat} (h : finN (magN a) = true) : PySem.Flt.toInt Float64.nearestOf (UInt64.ofNat a) = sgn (negN a) (nearN a) := by
  rw [ofNat_pack a]
  obtain ⟨K, F, hd, hv⟩ := Float64.decode_pack (negN a) (finN_lt h)
  rw [PySem.Flt.toInt_fin hd]
  unfold nearN Float64.nearestOf
  rw [force_eq]
  obtain ⟨M, E, e, hV⟩ := decN_some (t := magN a) fun M E => bt (Nat.ble (nat_lit 1074) E) (Nat.mul M (Nat.pow (nat_lit 2) (Nat.sub E (nat_lit 1074)))) (hevN M (Nat.pow (nat_lit 2) (Nat.sub (nat_lit 1074) E)))
  rw [e]
  have := (dec_same (Float64.decode_ge hd) (hV.trans hv.symm)).2 (j := 0) (f := Float64.halfEven) fun a b c hc => halfEven_scale hc
  simp only
  rw [← this]
  congr 1
  by_cases q : 1074 ≤ E
  · have q' : Nat.ble (nat_lit 1074) E = true := Nat.ble_eq.mpr q
    rw [bt_t q', if_pos q, if_pos q]
    unfold Float64.halfEven; simp [Nat.mod_one]
  · have q' : Nat.ble (nat_lit 1074) E = false := by rw [← Bool.not_eq_true, Nat.ble_eq]; exact q
    rw [bt_f q', if_neg q, if_neg q, hevN_eq]
    rfl
theorem wholeN_eq {a : Nat} (h : finN (magN a) = true) : PySem.Flt.toInt Float64.truncOf (UInt64.ofNat a) = sgn (negN a) (wholeN a) := by
  rw [ofNat_pack a]
  obtain ⟨K, F, hd, hv⟩ := Float64.decode_pack (negN a) (finN_lt h)
  rw [PySem.Flt.toInt_fin hd]
  have e0 : Float64.truncOf (negN a) K F = sgn (negN a) ((Float64.shift K 1 F).1 / (Float64.shift K 1 F).2) := by
    have fl : Float64.floorOf false K F = (((Float64.shift K 1 F).1 / (Float64.shift K 1 F).2 : Nat) : Int) := by
      unfold Float64.floorOf Float64.shift sgn
      split
      · simp
      · simp only [Bool.false_eq_true, if_false, Nat.one_mul]
        rw [Int.natCast_ediv, Int.fdiv_eq_ediv_of_nonneg _ (by exact Int.le_of_lt (Int.pow_pos (by decide)))]
        simp
    unfold Float64.truncOf Float64.ceilOf sgn
    cases negN a
    · simp only [Bool.false_eq_true, if_false]; exact fl
    · simp only [if_true, Bool.not_true]; rw [fl]
  rw [e0]
  unfold wholeN
  rw [force_eq]
  obtain ⟨M, E, e, hV⟩ := decN_some (t := magN a) fun M E => bt (Nat.ble (nat_lit 1074) E) (Nat.mul M (Nat.pow (nat_lit 2) (Nat.sub E (nat_lit 1074)))) (Nat.div M (Nat.pow (nat_lit 2) (Nat.sub (nat_lit 1074) E)))
  rw [e]
  have := (dec_same (Float64.decode_ge hd) (hV.trans hv.symm)).2 (j := 0) (f := fun a b => a / b) fun a b c hc => Nat.mul_div_mul_right _ _ hc
  rw [← this]
  congr 1
  by_cases q : 1074 ≤ E
  · have q' : Nat.ble (nat_lit 1074) E = true := Nat.ble_eq.mpr q
    rw [bt_t q', if_pos q, if_pos q, Nat.div_one]
    rfl
  · have q' : Nat.ble (nat_lit 1074) E = false := by rw [← Bool.not_eq_true, Nat.ble_eq]; exact q
    rw [bt_f q', if_neg q, if_neg q]
    rfl

-- from ints
/-- n / d as a float -/
noncomputable def ratN (n d : Nat) : Nat := force n fun n => force d fun d => bt (Nat.beq n (nat_lit 0)) (nat_lit 0) (bt (Nat.beq d (nat_lit 0)) (Float64.ofFrac false n d).toNat (force (Nat.mul n (nat_lit 1152921504606846976)) fun W => lgN (Nat.div W d) fun b => tryK false (Nat.sub b (nat_lit 52)) W d (nat_lit 1014) (Float64.ofFrac false n d).toNat))
theorem ratN_eq (n d : Nat) : UInt64.ofNat (ratN n d) = Float64.ofFrac false n d := by
  unfold ratN
  rw [force_eq, force_eq]
  by_cases h0 : n = 0
  · rw [bt_t (Nat.beq_eq.mpr h0)]
    subst h0
    have e : roundMag 0 d = 0 := by unfold Float64.roundMag; simp
    unfold Float64.ofFrac
    rw [e]
    exact sN_pack false 0
  · rw [bt_f (by rw [← Bool.not_eq_true, Nat.beq_eq]; exact h0)]
    by_cases hd : d = 0
    · rw [bt_t (Nat.beq_eq.mpr hd)]; exact UInt64.ofNat_toNat ..
    · rw [bt_f (by rw [← Bool.not_eq_true, Nat.beq_eq]; exact hd), force_eq]
      obtain ⟨b, e⟩ := lgN_some (Nat.div (Nat.mul n (nat_lit 1152921504606846976)) d) fun b => tryK false (Nat.sub b (nat_lit 52)) (Nat.mul n (nat_lit 1152921504606846976)) d (nat_lit 1014) (Float64.ofFrac false n d).toNat
      rw [e]
      have hd' : 0 < d := by omega
      have hp := Nat.two_pow_pos 1074
      refine tryK_gen (W' := n * 2 ^ 1074) (D' := d) hd' hd' (Nat.mul_ne_zero h0 (Nat.ne_of_gt hp)) ?_ (Float64.ofFrac_right hd' (by ac_rfl) hd') (UInt64.ofNat_toNat ..)
      show n * 2 ^ 1074 * d = n * 1152921504606846976 * 2 ^ 1014 * d
      have e1 : (2 : Nat) ^ 1074 = 1152921504606846976 * 2 ^ 1014 := by rw [show (1152921504606846976 : Nat) = 2 ^ 60 from rfl, ← Nat.pow_add]
      rw [e1]; ac_rfl
end

-- part M11
section
-- floats by their bits
def F (a : Nat) : D := .flt (UInt64.ofNat a)

section
variable {C : Cx} {n : Nat} {a b : Nat}
theorem ofInt_nat (y : Nat) : Float64.ofInt (y : Int) = UInt64.ofNat (ratN y 1) := by
  rw [ratN_eq]
  unfold Float64.ofInt
  have : decide ((y : Int) < 0) = false := by simp; try omega
  rw [this, Int.natAbs_natCast]
theorem Bin.add_F : Bin C n .Add (F a) (F b) (F (addN a b)) := by unfold F; rw [addN_eq]; exact Bin.add_ff
theorem Bin.sub_F : Bin C n .Sub (F a) (F b) (F (subN a b)) := by unfold F; rw [subN_eq]; exact Bin.sub_ff
theorem Bin.mul_F : Bin C n .Mult (F a) (F b) (F (mulN a b)) := by unfold F; rw [mulN_eq]; exact Bin.mul_ff
noncomputable def okD (b : Nat) : Bool := bt (finN (magN b)) (bt (Nat.beq (magN b) (nat_lit 0)) false true) false
theorem okD_zero (h : okD b = true) : Float64.isZero (UInt64.ofNat b) = false := by
  unfold okD at h
  cases h1 : finN (magN b) with
  | false => rw [h1, bt_f rfl] at h; cases h
  | true =>
    rw [h1, bt_t rfl] at h
    refine isZero_ofNat h1 fun h0 => ?_
    rw [bt_t (Nat.beq_eq.mpr h0)] at h
    cases h
theorem Bin.div_F (h : okD b = true) : Bin C n .Div (F a) (F b) (F (divN a b)) := by unfold F; rw [divN_eq]; exact Bin.div_ff (okD_zero h)
theorem Bin.mod_F (h : okD b = true) : Bin C n .Mod (F a) (F b) (F (modN a b)) := by unfold F; rw [modN_eq]; exact Bin.mod_ff (okD_zero h)
theorem small_abs {y : Nat} (hy : y < 2 ^ 53) : (y : Int).natAbs < 2 ^ 1023 := by
  rw [Int.natAbs_natCast]
  exact Nat.lt_of_lt_of_le hy (Nat.pow_le_pow_right (by decide) (by decide))
theorem Bin.add_FI {y : Nat} (hy : y < 2 ^ 53) : Bin C n .Add (F a) (.int y) (F (addN a (ratN y 1))) := by
  unfold F; rw [addN_eq, ← ofInt_nat]; exact Bin.add_fi (small_abs hy)
theorem Bin.sub_FI {y : Nat} (hy : y < 2 ^ 53) : Bin C n .Sub (F a) (.int y) (F (subN a (ratN y 1))) := by
  unfold F; rw [subN_eq, ← ofInt_nat]; exact Bin.sub_fi (small_abs hy)
theorem Bin.mul_IF {y : Nat} (hy : y < 2 ^ 53) : Bin C n .Mult (.int y) (F a) (F (mulN (ratN y 1) a)) := by
  unfold F; rw [mulN_eq, ← ofInt_nat]; exact Bin.mul_if (small_abs hy)
theorem Bin.mod_FI {y : Nat} (hy : y < 2 ^ 53) (h : okD (ratN y 1) = true) : Bin C n .Mod (F a) (.int y) (F (modN a (ratN y 1))) := by
  unfold F; rw [modN_eq, ← ofInt_nat]; exact Bin.mod_fi (small_abs hy) (by rw [ofInt_nat]; exact okD_zero h)
theorem Bin.div_II {x y : Nat} (hy : y ≠ 0) (h : finN (magN (ratN x y)) = true) : Bin C n .Div (.int x) (.int y) (F (ratN x y)) := by
  have e : (decide ((x : Int) < 0) != decide ((y : Int) < 0)) = false := by simp; try omega
  have hfin : Float64.isInf (UInt64.ofNat (ratN x y)) = false := by
    have := isFinite_ofNat h
    unfold Float64.isFinite at this
    unfold Float64.isInf
    split at this
    · rename_i q; rw [q]
    · cases this
  have q : Float64.ofFrac (decide ((x : Int) < 0) != decide ((y : Int) < 0)) (x : Int).natAbs (y : Int).natAbs = UInt64.ofNat (ratN x y) := by
    rw [e, Int.natAbs_natCast, Int.natAbs_natCast, ← ratN_eq]
  unfold F
  rw [← q]
  exact @Bin.div_ii C n _ _ (Int.natCast_ne_zero.mpr hy) (by rw [q]; exact hfin)
theorem Cmp.lt_F : Cmp C n .Lt (F a) (F b) (ltN a b) := by rw [← ltN_eq]; exact Cmp.lt_ff
theorem Cmp.eq_F : Cmp C n .Eq (F a) (F b) (eqN a b) := by rw [← eqN_eq]; exact Cmp.eq_ff
theorem Cmp.le_F : Cmp C n .LtE (F a) (F b) (ltN a b || eqN a b) := by rw [← ltN_eq, ← eqN_eq]; exact Cmp.le_ff

theorem wholeN_V {a : Nat} : wholeN a = Float64.V (magN a) / 2 ^ 1074 := by
  unfold wholeN
  rw [force_eq]
  obtain ⟨M, E, e, hV⟩ := decN_some (t := magN a) fun M E => bt (Nat.ble (nat_lit 1074) E) (Nat.mul M (Nat.pow (nat_lit 2) (Nat.sub E (nat_lit 1074)))) (Nat.div M (Nat.pow (nat_lit 2) (Nat.sub (nat_lit 1074) E)))
  rw [e, ← hV]
  have hp := Nat.two_pow_pos
  by_cases q : 1074 ≤ E
  · have q' : Nat.ble (nat_lit 1074) E = true := Nat.ble_eq.mpr q
    rw [bt_t q', show M * 2 ^ E = M * 2 ^ (E - 1074) * 2 ^ 1074 by rw [Nat.mul_assoc, ← Nat.pow_add, Nat.sub_add_cancel q], Nat.mul_div_cancel _ (hp 1074)]
    rfl
  · have q' : Nat.ble (nat_lit 1074) E = false := by rw [← Bool.not_eq_true, Nat.ble_eq]; exact q
    rw [bt_f q', show (2 : Nat) ^ 1074 = 2 ^ (1074 - E) * 2 ^ E by rw [← Nat.pow_add, Nat.sub_add_cancel (by omega)], Nat.mul_div_mul_right _ _ (hp E)]
    rfl
noncomputable def ltIN (a y : Nat) : Bool := bt (finN (magN a)) (bt (negN a) true (Nat.ble (Nat.succ (wholeN a)) y)) (Float64.cmpInt (UInt64.ofNat a) y == some .lt)
theorem ltIN_eq {y : Nat} (hy : 0 < y) : (Float64.cmpInt (UInt64.ofNat a) (y : Int) == some .lt) = ltIN a y := by
  unfold ltIN
  cases h : finN (magN a) with
  | false => rw [bt_f rfl]
  | true =>
    rw [bt_t rfl, ofNat_pack a]
    obtain ⟨m, e, hd, hv⟩ := Float64.decode_pack (negN a) (finN_lt h)
    rw [Float64.cmpInt_right hd, Float64.val_pack _ (finN_lt h), Bool.eq_iff_iff, beq_iff_eq, Option.some_inj, Int.compare_eq_lt, wholeN_V]
    have hc : ((y : Int) * 2 ^ 1074) = ((y * 2 ^ 1074 : Nat) : Int) := by rw [Int.natCast_mul, Int.natCast_pow]; rfl
    rw [hc]
    have hp : 0 < y * 2 ^ 1074 := Nat.mul_pos hy (Nat.two_pow_pos _)
    cases negN a with
    | true =>
      rw [bt_t rfl]
      refine ⟨fun _ => rfl, fun _ => ?_⟩
      simp only [Float64.sgn, if_true]
      omega
    | false =>
      rw [bt_f rfl, Nat.ble_eq]
      simp only [Float64.sgn, Bool.false_eq_true, if_false]
      rw [Int.ofNat_lt, Nat.succ_le_iff, Nat.div_lt_iff_lt_mul (Nat.two_pow_pos _)]
theorem Cmp.lt_FI {y : Nat} (hy : 0 < y) : Cmp C n .Lt (F a) (.int y) (ltIN a y) := by rw [← ltIN_eq hy]; exact Cmp.lt_fi

noncomputable def gtN (a b : Nat) : Bool := bt (cmpV a b) (ltN b a) (Float64.cmp (UInt64.ofNat a) (UInt64.ofNat b) == some .gt)
noncomputable def fmaxN (a b : Nat) : Nat := bt (gtN b a) b a
noncomputable def fminN (a b : Nat) : Nat := bt (ltN b a) b a
theorem fmaxN_eq : UInt64.ofNat (fmaxN a b) = fmax2 (UInt64.ofNat a) (UInt64.ofNat b) := by
  unfold fmaxN fmax2
  rw [gtN_eq]
  show UInt64.ofNat (bt (gtN b a) b a) = if gtN b a = true then _ else _
  cases gtN b a <;> rfl
theorem fminN_eq : UInt64.ofNat (fminN a b) = fmin2 (UInt64.ofNat a) (UInt64.ofNat b) := by
  unfold fminN fmin2
  rw [ltN_eq]
  cases ltN b a <;> rfl
theorem Fn.max_F {a b c : Nat} : Fn C n (.builtin "max") [F a, F b, F c] (F (fmaxN (fmaxN a b) c)) := by
  unfold F; rw [fmaxN_eq, fmaxN_eq]; exact Fn.max_fff
theorem Fn.min_F {a b c : Nat} : Fn C n (.builtin "min") [F a, F b, F c] (F (fminN (fminN a b) c)) := by
  unfold F; rw [fminN_eq, fminN_eq]; exact Fn.min_fff
theorem Fn.int_F (h : finN (magN a) = true) (hn : negN a = false) : Fn C n (.type "int") [F a] (.int (wholeN a)) := by
  have e : PySem.Flt.toInt Float64.truncOf (UInt64.ofNat a) = (wholeN a : Int) := by rw [wholeN_eq h, hn]; rfl
  rw [← e]
  unfold F
  exact @Fn.int_flt C n _ (isFinite_ofNat h)
theorem Fn.round_F (h : finN (magN a) = true) : Fn C n (.builtin "round") [F a] (.int (Float64.sgn (negN a) (nearN a))) := by
  rw [← nearN_eq h]
  unfold F
  exact @Fn.round_flt C n _ (isFinite_ofNat h)
theorem Ev.fltF {sc : Scope} {ρ : Store} {a k : Nat} {pos : Pos} : Ev C n sc ρ (.Constant (.float (UInt64.ofNat a)) k pos) (F a) := Ev.flt

-- truth
theorem Tr.str {x : PySem.Str} (hz : x.length < 2 ^ 62) : Tr C n (.str x) (x.length != 0) := by
  intro X A s v Q E _ _ hv h; cases hv
  have e : ((x.length : Int) != 0) = (x.length != 0) := by
    rw [Bool.eq_iff_iff, bne_iff_ne, bne_iff_ne]; omega
  exact PySem.P.truthy_str (by omega) (by rw [e]; exact h _ Kp.toks)
theorem Tr.int {i : Int} : Tr C n (.int i) (i != 0) := by
  intro X A s v Q E _ _ hv h; cases hv; exact PySem.P.truthy_int (h _ Kp.rfl)
end
end

-- part M12
section
section
variable {C : Cx} {n : Nat} {sc : Scope} {X W : List Addr} {ρ : Store} {env : Env} {s₀ s s' : Shared}

theorem FSt.aside (F : FSt X W env s₀ s ρ) {L : Addr} {m : PySem.Str → Option Value} (hL : s.heap.Ns L m) (h₀ : s₀.heap.get? L = Option.none) (hLl : L ≠ env.locals) (hLc : ∀ x c, env.cells.lookup x = some c → L ≠ c) {h' : Heap}
    (hs : Heap.SameBut L s.heap h') : FSt X W env s₀ { s with heap := h' } ρ := by
  obtain ⟨mm, cm, K, hW, hv⟩ := F
  have dk : DataKeep X s.heap h' := SameBut.dk hs fun b o e q => Ns.not_data hL e q
  have dk0 : DataKeep [] s.heap h' := SameBut.dk hs fun b o e q => Ns.not_data hL e q
  refine ⟨mm, cm, ⟨⟨?_, K.toInCall.ns.sameBut hs (Ne.symm hLl), fun b o e => ?_, K.toInCall.fresh⟩, fun k c hc => (K.cell k c hc).sameBut hs (Ne.symm (hLc k c hc)), K.apart, K.above⟩, fun a ha => ⟨(hW a ha).1, let ⟨vs, e⟩ := (hW a ha).2; ⟨vs, IsList.dk dk0 (fun h => nomatch h) e⟩⟩, fun p hp => ?_⟩
  · obtain ⟨h₁, tk, rfl⟩ := K.toInCall.same
    exact ⟨h', _, rfl⟩
  · exact hs.extBut b o (fun hb => by rw [hb, h₀] at e; cases e) (K.toInCall.keep b o e)
  · obtain ⟨v, y, q⟩ := hv p hp
    exact ⟨v, y.dk dk, q⟩

/-- a stands where nothing of the frame's stands -/
theorem FSt.foreign (F : FSt X W env s₀ s ρ) {L : Addr} (hL : s.heap.get? L = Option.none) : L ≠ env.locals ∧ (∀ x c, env.cells.lookup x = some c → L ≠ c) ∧ L ∉ W ∧ s₀.heap.get? L = Option.none := by
  obtain ⟨mm, cm, K, hW, hv⟩ := F
  refine ⟨fun e => ?_, fun x c hc e => ?_, fun hw => ?_, ?_⟩
  · obtain ⟨o, _, _, q, _⟩ := K.toInCall.ns
    rw [← e, hL] at q; cases q
  · obtain ⟨o, q, _⟩ := K.cell x c hc
    rw [← e, hL] at q; cases q
  · obtain ⟨vs, o, q, _⟩ := (hW L hw).2
    rw [hL] at q; cases q
  · cases q : s₀.heap.get? L with
    | none => rfl
    | some o => have := K.toInCall.keep _ _ q; rw [hL] at this; cases this

/-- x = [..], the name and the list change places -/
theorem used_assign {y : PySem.Str} {py : Pos} {A : Around} {E : Value → Shared → Prop} {Q : Flow → Shared → Prop} {ρ' : Store} {d : D} {s₁ : Shared} (O : EnvOK sc env) (F₁ : FSt X W env s₀ s₁ ρ) (hy : sc.names.lookup y = some .local) (hs : ∀ p ∈ ρ', p ∈ ρ) (hn : ∀ p ∈ ρ', p.1 ≠ y)
    (h : ∀ s', FSt X W env s₀ s' ((y, d) :: ρ') → Upd W env s₁.heap s'.heap → Q .next s') {d₀ L : Addr} {h' : Heap} {tk : Nat} {m' : PySem.Str → Option Value} (g : Grows s₁.heap h') (hL : s₁.heap.get? L = Option.none) (hn' : h'.Ns L m') (hd : Den X h' (.ref d₀) d) :
    compPost C.M A E (some (PySem.assign (.Name y py) env)) (fun _ s' => Q .next s') (.ref d₀) L (.ok .next) { s₁ with heap := h', toks := tk } := by
  show wpAny C.M A (PySem.assign (.Name y py) env (.ref d₀)) _ _ _
  have k : Kp s₁ { s₁ with heap := h', toks := tk } := Kp.of g
  obtain ⟨f1, f2, f3, f4⟩ := F₁.foreign hL
  refine wpAny_assign_Name ((F₁.kp k).store O (.inl hy) hs hn hd fun s₂ F₂ U₂ => ?_)
  obtain ⟨oL, es, ep, eL, hdL, hrest⟩ := hn'
  have hL₂ : s₂.heap.Ns L m' := ⟨oL, es, ep, U₂ L oL f1 f2 (fun h => nomatch h) eL, hdL, hrest⟩
  refine ⟨m', hL₂, fun h₃ hs₃ => h _ (F₂.aside hL₂ f4 f1 f2 hs₃) fun b o p q w e => ?_⟩
  exact hs₃.extBut b o (fun hb => by rw [hb, hL] at e; cases e) (U₂ b o p q (fun h => nomatch h) (g b o e))

theorem Ex1.assignComp {elt iter : Expr} {x y : PySem.Str} {px py : Pos} {ifs : List Expr} {scope : Scope} {pos spos : Pos} {d : D} {ds : List D} {r : Bool} {p : D → Bool} {f : D → D} {ρ' : Store} (ρf : Store)
    (hi : Ev C n sc ρ iter d) (hit : Iter C r d ds) (K : CompOK sc scope x) (hρ : ∀ q ∈ ρf, q ∈ ρ ∧ scope.names.lookup q.1 = some .free) (hz : ds.length ≤ sizeLine)
    (hp : ∀ e ∈ ds, EvIfs C n scope ((x, e) :: ρf) ifs (p e)) (hf : ∀ e ∈ ds, p e = true → Ev C n scope ((x, e) :: ρf) elt (f e))
    (hy : sc.names.lookup y = some .local) (hs : ∀ p ∈ ρ', p ∈ ρ) (hn : ∀ p ∈ ρ', p.1 ≠ y)
    (hsw : ∀ env, EnvOK sc env → swapsWith (.ListComp elt [⟨.Name x px, iter, ifs, 0⟩] scope pos) (some (.Name y py)) spos.line env = pure true)
    (ht : ∀ it v, letOwnedTupleGo (.Name x px) it v = pure ()) (hfs : ∀ env x, foldedSetIterable iter env x = pure x) :
    Ex1 C n sc W ρ (.Assign [.Name y py] (.ListComp elt [⟨.Name x px, iter, ifs, 0⟩] scope pos) spos) (.next ((y, .list ((ds.filter p).map f)) :: ρ')) := by
  intro X env A s₀ s Q E O hA G F h
  rw [exec_Assign_Name_used _ _ _ _ (hsw env O)]
  refine wpAny_bind (wpAny_standAt (wpAny_bind ?_))
  show wpAny _ A (do let _ ← comprehension (.ListComp elt [⟨.Name x px, iter, ifs, 0⟩] scope pos) scope env _ (newList []) false (eval iter env) (some (PySem.assign (.Name y py) env))) _ _ s
  refine wpAny_bind (wpAny_mono (wpAny_comprehension_free (use := some (PySem.assign (.Name y py) env)) (Q := fun _ s' => Q .next s') rfl (hfs env) (closureFor_is (O.closes K)) K.kind (fun y hy hl => lookup_of_mem K.nodup (hl ▸ hy))
    (hi env A s _ E O hA (F.top G) F.vars fun v s₁ k₁ y₁ => ?_)) (fun _ s' hq => wpAny_pure (wpAny_pure hq)) fun _ _ e => e)
  have F₁ := F.kp k₁
  refine comp_block (RR := fun acc L => compPost C.M A E (some (PySem.assign (.Name y py) env)) (fun _ s' => Q .next s') acc L) O hA (F₁.top G) F₁.vars hit K hρ hz hp hf y₁ ht ?_
  intro d₀ L h' tk m' us g hD hL hDL hn' hl hus
  exact used_assign O F₁ hy hs hn (fun s' F' U' => h s' F' ((Upd.grow k₁.grows).trans U')) g hL hn' (.list ((F₁.top G).new hD) hl hus)
end
end

-- part M13
section
section
variable {prog : Program} {w : World} {A : Around} {E : Value → Shared → Prop} {R : Result → Shared → Prop} {s : Shared} {env : Env}

theorem start_two {elt : Expr} {c1 : Comprehension} {target iter : Expr} {scope : Scope} {pos : Pos} {it acc : Value}
    (h0 : codeAny (model prog w) A (.compLoop (.ListComp elt [c1, ⟨target, iter, [], 0⟩] scope pos) 1 it acc env) R s)
    (h : wpAny (model prog w) A (pyIter it) (fun it' s' => codeAny (model prog w) A (.compLoop (.ListComp elt [c1, ⟨target, iter, [], 0⟩] scope pos) 1 it' acc env) R s') (notedBy (model prog w) A env fun x s' => R (.error x) s') s) :
    codeAny (model prog w) A (.compStart (.ListComp elt [c1, ⟨target, iter, [], 0⟩] scope pos) 1 it acc env) R s := by
  refine codeAny_of_tree ?_
  show wpAny _ _ ((compStart (.ListComp elt [c1, ⟨target, iter, [], 0⟩] scope pos) 1 it acc env).onRaise (fun x => do noteFrame x env; standAt theWindowsPlace)) _ _ s
  refine wpAny_notedAt ?_
  unfold compStart
  show wpAny _ _ (ask >>= _) _ _ s
  refine wpAny_bind (wpAny_askSetting (wpAny_ite ?_))
  split
  · first
      | exact wpAny_bind (wpAny_pure (wpAny_pure (And.intro rfl h0)))
      | exact wpAny_pure (And.intro rfl h0)
  · refine wpAny_bind (wpAny_rule ?_)
    show wpAny _ _ (standAt iter.pos >>= _) _ _ s
    exact wpAny_bind (wpAny_standAt (wpAny_bind (wpAny_mono h (fun it' s' h' => wpAny_pure (And.intro rfl h')) fun _ _ x => x)))

theorem turn_in (elt : Expr) (c1 : Comprehension) (target iter : Expr) (scope : Scope) (pos : Pos) (it acc : Value) (env : Env) :
    compTurn (.ListComp elt [c1, ⟨target, iter, [], 0⟩] scope pos) 1 it acc env = (standAt iter.pos >>= fun _ => pyNext it >>= fun r => match r with
      | none => pure (.done .next)
      | some v => letOwnedTupleGo target it v >>= fun _ => assign target env v >>= fun _ =>
        (eval elt env >>= fun x => call (.builtin "list.append") [acc, x] >>= fun _ => pure ()) >>= fun _ =>
          again (.compLoop (.ListComp elt [c1, ⟨target, iter, [], 0⟩] scope pos) 1 it acc env)) := by rfl

theorem turn_out (elt t1 i1 t2 i2 : Expr) (scope : Scope) (pos : Pos) (it acc : Value) (env : Env) :
    compTurn (.ListComp elt [⟨t1, i1, [], 0⟩, ⟨t2, i2, [], 0⟩] scope pos) 0 it acc env = (standAt i1.pos >>= fun _ => pyNext it >>= fun r => match r with
      | none => pure (.done .next)
      | some v => letOwnedTupleGo t1 it v >>= fun _ => assign t1 env v >>= fun _ =>
        eval i2 env >>= fun x => standAt i2.pos >>= fun _ => foldedSetIterable i2 env x >>= fun x => holding [x] (pyIter x) >>= fun it2 =>
          runOwn (.compStart (.ListComp elt [⟨t1, i1, [], 0⟩, ⟨t2, i2, [], 0⟩] scope pos) 1 it2 acc env) env >>= fun _ =>
          again (.compLoop (.ListComp elt [⟨t1, i1, [], 0⟩, ⟨t2, i2, [], 0⟩] scope pos) 0 it acc env)) := by rfl

theorem Kp.heap {s s' : Shared} (k : Kp s s') : ∃ h t, s' = { s with heap := h, toks := t } ∧ Grows s.heap h := by
  obtain ⟨⟨h, t, rfl⟩, g⟩ := k; exact ⟨h, t, Eq.refl _, g⟩
end

section
variable {C : Cx} {n : Nat} {sc : Scope} {X : List Addr} {env : Env} {s : Shared}

/-- free names' data -/
def Frees (X : List Addr) (env : Env) (h : Heap) (ρ : Store) : Prop := ∀ p ∈ ρ, (env.kindOf p.1 = some .cell ∨ env.kindOf p.1 = some .free) ∧ ∃ c v, env.cells.lookup p.1 = some c ∧ h.IsCell c (some v) ∧ Den X h v p.2

theorem cell_ne_ns {h : Heap} {c L : Addr} {v : Option Value} {m : PySem.Str → Option Value} (hc : h.IsCell c v) (hn : h.Ns L m) : c ≠ L := fun e => by
  obtain ⟨_, es, _, q1, q2, _⟩ := hn
  obtain ⟨_, q3, q4⟩ := hc
  rw [e, q1] at q3; cases q3; rw [q2] at q4; cases q4

theorem Frees.keep {a₀ L : Addr} {h h' : Heap} {ρ : Store} {xs : Array Value} {m : PySem.Str → Option Value} (V : Frees (a₀ :: X) env h ρ) (ha : h.PlainList a₀ xs) (hL : h.Ns L m) (k : ∀ b o, b ≠ L → b ≠ a₀ → h.get? b = some o → h'.get? b = some o) (dk : DataKeep (a₀ :: X) h h') : Frees (a₀ :: X) env h' ρ := fun p hp => by
  obtain ⟨hk, c, v, hc, hcell, y⟩ := V p hp
  have h1 := cell_ne_ns hcell hL
  have h2 : a₀ ≠ c := by obtain ⟨_, q⟩ := ha; exact IsCell.not_data hcell q (.inl ⟨_, _, rfl⟩)
  obtain ⟨o, q1, q2⟩ := hcell
  exact ⟨hk, c, v, hc, ⟨o, k c o h1 (Ne.symm h2) q1, q2⟩, y.dk dk⟩

theorem keep_dk {a₀ L : Addr} {h h' : Heap} {m : PySem.Str → Option Value} (hL : h.Ns L m) (k : ∀ b o, b ≠ L → b ≠ a₀ → h.get? b = some o → h'.get? b = some o) : DataKeep (a₀ :: X) h h' := fun b o hb e d =>
  k b o (Ns.not_data hL e (d.imp id fun q => q.1)) (fun q => hb (q ▸ .head _)) e

theorem comp_inner {elt i1 i2 t1 : Expr} {x y : PySem.Str} {py : Pos} {scope : Scope} {pos : Pos} {A : Around} {E : Value → Shared → Prop} {R : Result → Shared → Prop} {ρf : Store} {e d2 : D} {des done : List D} {r : Bool} {f : D → D} {a₀ : Addr} {us : List Value} {m : PySem.Str → Option Value} {v2 u : Value} {hb : Heap}
    (O : EnvOK scope env) (hA : Aok n A) (Gb : Gd C X hb) (gb : Grows hb s.heap) (ba : hb.get? a₀ = Option.none) (bL : hb.get? env.locals = Option.none) (hx : env.kindOf x = some .local) (hy : env.kindOf y = some .local) (hxy : x ≠ y) (ha : s.heap.PlainList a₀ us.toArray) (hus : DenL (a₀ :: X) s.heap us done) (hn : s.heap.Ns env.locals m) (hmx : m x = some u) (yu : Den (a₀ :: X) s.heap u e)
    (hF : Frees (a₀ :: X) env s.heap ρf) (hv : Den (a₀ :: X) s.heap v2 d2) (hit : Iter C r d2 des) (hz : done.length + des.length ≤ sizeLine) (hf : ∀ q ∈ des, Ev C n scope ((y, q) :: (x, e) :: ρf) elt (f q)) (ht : ∀ it v, letOwnedTupleGo (.Name y py) it v = pure ())
    (hR : ∀ h' tk us' m', (∀ b o, b ≠ env.locals → b ≠ a₀ → s.heap.get? b = some o → h'.get? b = some o) → h'.PlainList a₀ us'.toArray → DenL (a₀ :: X) h' us' (done ++ des.map f) → h'.Ns env.locals m' → R (.ok .next) { s with heap := h', toks := tk }) :
    wpAny C.M A (pyIter v2) (fun it2 s₂ => codeAny C.M A (.compStart (.ListComp elt [⟨t1, i1, [], 0⟩, ⟨.Name y py, i2, [], 0⟩] scope pos) 1 it2 (.ref a₀) env) R s₂) E s := by
  have mkG : ∀ {h : Heap}, (∀ b o, b ≠ env.locals → b ≠ a₀ → s.heap.get? b = some o → h.get? b = some o) → (∃ xs, h.PlainList a₀ xs) → Gd C (a₀ :: X) h := fun {h} k hl => by
    have gbh : Grows hb h := fun b o q => k b o (fun e => by rw [e, bL] at q; cases q) (fun e => by rw [e, ba] at q; cases q) (gb _ _ q)
    refine ⟨Gb.top.trans gbh, fun a hm => ?_⟩
    rcases List.mem_cons.mp hm with rfl | hm
    · obtain ⟨_, _, z⟩ := hl; exact ⟨_, z⟩
    · exact (Gb.trans gbh).live a hm
  have G : Gd C (a₀ :: X) s.heap := mkG (fun _ _ _ _ q => q) ⟨_, ha⟩
  refine hit A s v2 _ E hA.1 G hv fun o fp P St _ I st => ?_
  generalize hh1 : s.heap.push o = H1 at st ⊢
  have g1 : Grows s.heap H1 := hh1 ▸ Grows.push _ _
  have aneI : a₀ ≠ s.heap.objs.size := let ⟨_, q⟩ := ha; ne_size q
  have LneI : env.locals ≠ s.heap.objs.size := by obtain ⟨_, _, _, q, _⟩ := hn; exact ne_size q
  have aneL : a₀ ≠ env.locals := by obtain ⟨_, q⟩ := ha; exact Ns.not_data hn q (.inl ⟨_, _, rfl⟩)
  have loop : codeAny C.M A (.compLoop (.ListComp elt [⟨t1, i1, [], 0⟩, ⟨.Name y py, i2, [], 0⟩] scope pos) 1 (.ref s.heap.objs.size) (.ref a₀) env) R { s with heap := H1 } := by
    refine codeAny_loop rfl (fun k s' => ∃ j, j ≤ des.length ∧ k = des.length - j ∧ (∃ h t, s' = { s with heap := h, toks := t }) ∧ St j s'.heap ∧ (∀ b o, b ≠ env.locals → b ≠ a₀ → s.heap.get? b = some o → s'.heap.get? b = some o) ∧
      (∃ us, s'.heap.PlainList a₀ us.toArray ∧ DenL (a₀ :: X) s'.heap us (done ++ (des.take j).map f)) ∧ ∃ m, s'.heap.Ns env.locals m ∧ m x = some u) ?_ des.length
      ⟨0, Nat.zero_le _, rfl, ⟨H1, s.toks, rfl⟩, st, fun b o _ _ q => g1 _ _ q, ⟨us, PlainList.at' ha fun o q => g1 _ _ q, by simpa using hus.grow g1⟩, m, hn.keeps g1, hmx⟩
    rintro k s' ⟨j, hj, rfl, hsame, st', kp, ⟨us', ha', hus'⟩, m', hn', hmx'⟩
    show wpAny _ A ((compTurn (.ListComp elt [⟨t1, i1, [], 0⟩, ⟨.Name y py, i2, [], 0⟩] scope pos) 1 (.ref s.heap.objs.size) (.ref a₀) env).onRaise (fun x => do noteFrame x env; theTreesLotGoes x)) _ _ s'
    refine wpAny_noted ?_
    rw [turn_in]
    refine wpAny_bind (wpAny_standAt (wpAny_bind ?_))
    obtain ⟨oI, vI, hoI, hdI, hcI⟩ := I.iobj j _ st'
    by_cases hjl : j < des.length
    · refine I.walks.item j s' _ _ hjl st' fun q h₂ tk₂ hP st₂ hk₂ => ?_
      have hk₂' : ∀ b o, b ≠ s.heap.objs.size → s'.heap.get? b = some o → h₂.get? b = some o := fun b o hb => hk₂ b o fun hm => hb (List.mem_singleton.mp hm)
      refine wpAny_bind (wpAny_of_eq (ht _ q) ?_)
      have ha₂ := PlainList.at' ha' fun o => hk₂' _ o aneI
      have hn₂ : h₂.Ns env.locals m' := hn'.at' fun o => hk₂' _ o LneI
      obtain ⟨oI₂, vI₂, hoI₂, hdI₂, hcI₂⟩ := I.iobj (j + 1) _ st₂
      refine wpAny_bind (wpAny_assign_Name (wpAny_storeName_local hy hn₂ (fun h₃ hn₃ hs₃ => ?_) (by rw [O.kind]; rfl)))
      -- everything that stood before the loop
      have kp₃ : ∀ b o, b ≠ env.locals → b ≠ a₀ → s.heap.get? b = some o → h₃.get? b = some o := fun b o p1 p2 q => hs₃.extBut b o p1 (hk₂' b o (ne_size q) (kp b o p1 p2 q))
      have dk₃ : DataKeep (a₀ :: X) s.heap h₃ := keep_dk hn kp₃
      obtain ⟨d, hd, yd⟩ := I.items j q h₃ dk₃ hP
      have hem : d ∈ des := List.mem_of_getElem? hd
      have aneL' := aneL
      have ha₃ := PlainList.at' ha₂ fun o => hs₃.extBut _ o aneL
      have hus₃ : DenL (a₀ :: X) h₃ us' (done ++ (des.take j).map f) := hus'.dk fun b o hb q dd => by
        have hbI : b ≠ s.heap.objs.size := fun hb' => by
          rw [hb', hoI] at q; cases q
          rcases dd with ⟨_, _, q⟩ | ⟨_, q⟩
          · rw [hdI] at q; cases q
          · exact hcI q
        exact hs₃.extBut b o (Ns.not_data hn' q (dd.imp id fun z => z.1)) (hk₂' b o hbI q)
      have hFr := hF.keep ha hn kp₃ dk₃
      have V₃ : Vars (a₀ :: X) env h₃ ((y, d) :: (x, e) :: ρf) := fun p hp => by
        rcases List.mem_cons.mp hp with rfl | hp
        · exact .inl ⟨hy, _, q, hn₃, if_pos rfl, yd⟩
        rcases List.mem_cons.mp hp with rfl | hp
        · exact .inl ⟨hx, _, u, hn₃, (if_neg hxy).trans hmx', yu.dk dk₃⟩
        · exact .inr (hFr p hp)
      have G₃ : Gd C (a₀ :: X) h₃ := mkG kp₃ ⟨_, ha₃⟩
      refine wpAny_bind (wpAny_bind (hf d hem env A _ _ _ O hA G₃ V₃ fun z s₄ k₄ y₄ => ?_))
      obtain ⟨h₄, tk₄, rfl, gr₄⟩ := k₄.heap
      have gr₄' : Grows h₃ h₄ := gr₄
      have ha₄ := PlainList.at' ha₃ fun o q => gr₄' _ o q
      have hlen := hus'.length
      have st₄ : St (j + 1) h₄ := I.walks.frame _ _ _ (I.walks.frame _ _ _ st₂ fun b hbf o q => hs₃.extBut b o (fun hbL => ?_) q) fun b _ o q => gr₄' _ _ q
      · obtain ⟨hh, tt, rfl⟩ := hsame
        refine wpAny_bind (wpAny_list_append_plain (s := { s with heap := h₄, toks := tk₄ }) ha₄ (fun h₅ hl₅ hs₅ => ?_) (by
          rw [List.size_toArray, hlen, List.length_append, List.length_map, List.length_take]; omega))
        have tk : (des.take (j + 1)) = des.take j ++ [d] := by rw [List.take_add_one, hd]; rfl
        have hn₄ := hn₃.keeps gr₄'
        refine wpAny_pure (wpAny_pure ⟨rfl, des.length - (j + 1), by omega, j + 1, hjl, rfl, ⟨h₅, _, rfl⟩, ?_, ?_, ⟨us' ++ [z], by simpa using hl₅, ?_⟩, _, hn₄.sameBut hs₅ (Ne.symm aneL), (if_neg hxy).trans hmx'⟩)
        · refine I.walks.frame _ _ _ st₄ fun b hbf o q => hs₅.extBut b o (fun hbD => ?_) q
          rcases I.fpd b hbf with q' | ⟨q', _⟩
          · exact aneI (hbD.symm.trans q')
          · exact q' (hbD ▸ .head _)
        · exact fun b o p1 p2 q => hs₅.extBut b o p2 (gr₄' _ _ (kp₃ b o p1 p2 q))
        · have y₄' : Den (a₀ :: X) h₄ z (f d) := y₄
          have := ((hus₃.grow gr₄').snoc y₄').dk (h' := h₅) fun b o hb q _ => hs₅.extBut b o (fun q => hb (q ▸ .head _)) q
          rw [tk]
          simpa using this
      · rcases I.fpd b hbf with q' | ⟨q', o', xs, k', q3, q4⟩
        · exact LneI (hbL.symm.trans q')
        · exact Ns.not_data hn q3 (.inl ⟨_, _, q4⟩) hbL
    · have hjl' : j = des.length := by omega
      subst hjl'
      obtain ⟨hh, tt, rfl⟩ := hsame
      refine I.walks.done _ _ _ st' fun h₂ tk₂ hk₂ => ?_
      have hk₂' : ∀ b o, b ≠ s.heap.objs.size → hh.get? b = some o → h₂.get? b = some o := fun b o hb => hk₂ b o fun hm => hb (List.mem_singleton.mp hm)
      refine wpAny_pure (hR h₂ tk₂ us' m' (fun b o p1 p2 q => hk₂' b o (ne_size q) (kp b o p1 p2 q)) (PlainList.at' ha' fun o => hk₂' _ o aneI) ?_ (hn'.at' fun o => hk₂' _ o LneI))
      rw [List.take_length] at hus'
      refine hus'.dk fun b o _ q dd => hk₂' b o (fun hb' => ?_) q
      have hoI' : hh.get? s.heap.objs.size = some oI := hoI
      rw [hb', hoI'] at q; cases q
      rcases dd with ⟨_, _, q⟩ | ⟨_, q⟩
      · rw [hdI] at q; cases q
      · exact hcI q
  exact start_two loop (I.walks.self 0 _ _ _ st loop)
end
end

-- part M14
section
section
variable {C : Cx} {n : Nat} {sc : Scope} {X W : List Addr} {ρ : Store} {env : Env} {s₀ s s' : Shared}

/-- the block of a comprehension with two clauses and plain names -/
theorem comp_block2 {elt iter i2 : Expr} {x y : PySem.Str} {px py : Pos} {scope : Scope} {pos : Pos} {d : D} {ds : List D} {r r2 : Bool} {d2 : D → D} {des : D → List D} {f : D → D → D} {ρf : Store} {A : Around} {E : Value → Shared → Prop} {RR : Value → Addr → Result → Shared → Prop} {v : Value}
    (O : EnvOK sc env) (hA : Aok n A) (G : Gd C X s.heap) (V : Vars X env s.heap ρ) (hit : Iter C r d ds) (K : CompOK sc scope x) (hxl : scope.names.lookup x = some .local) (hyl : scope.names.lookup y = some .local) (hxy : x ≠ y) (hρ : ∀ q ∈ ρf, q ∈ ρ ∧ scope.names.lookup q.1 = some .free)
    (hz : (ds.flatMap fun e => (des e).map (f e)).length ≤ sizeLine)
    (hi2 : ∀ e ∈ ds, Ev C n scope ((x, e) :: ρf) i2 (d2 e)) (hit2 : ∀ e ∈ ds, Iter C r2 (d2 e) (des e)) (hf : ∀ e ∈ ds, ∀ q ∈ des e, Ev C n scope ((y, q) :: (x, e) :: ρf) elt (f e q)) (hv : Den X s.heap v d)
    (ht : ∀ it v, letOwnedTupleGo (.Name x px) it v = pure ()) (ht2 : ∀ it v, letOwnedTupleGo (.Name y py) it v = pure ()) (hfs2 : ∀ env x, foldedSetIterable i2 env x = pure x)
    (hRR : ∀ d₀ L h' tk m' us, Grows s.heap h' → s.heap.get? d₀ = none → s.heap.get? L = none → d₀ ≠ L → h'.Ns L m' → h'.PlainList d₀ us.toArray → DenL X h' us (ds.flatMap fun e => (des e).map (f e)) → RR (.ref d₀) L (.ok .next) { s with heap := h', toks := tk }) :
    wpAny C.M A (pyIter v) (fun it s₂ => wpAny C.M A (newList []) (fun acc s₃ => wpAny C.M A (newFunctionEnv scope env.globals (clOf env scope.names []) [] env.qual none .none (some env)) (fun cenv s₄ =>
      codeAny C.M A (.compStart (.ListComp elt [⟨.Name x px, iter, [], 0⟩, ⟨.Name y py, i2, [], 0⟩] scope pos) 0 it acc { cenv with scope := relabel scope env }) (RR acc cenv.locals) s₄) E s₃) E s₂) E s := by
  refine hit A s v _ E hA.1 G hv fun o fp P St _ I st => wpAny_newObj_type (newCompEnv ?_)
  generalize hh1 : s.heap.push o = H1 at st ⊢
  have hz1 : H1.objs.size = s.heap.objs.size + 1 := by rw [← hh1, Heap.size_push]
  dsimp only
  generalize hh2 : H1.push { cls := .type "list", dict := none, data := .seq ([] : List Value).toArray } = H2
  have hz2 : H2.objs.size = s.heap.objs.size + 2 := by rw [← hh2, Heap.size_push, hz1]
  generalize hh3 : H2.push { cls := .type "dict", data := .dict #[] } = H3
  generalize hh4 : pushCells H3 scope.names = H4
  have g1 : Grows s.heap H1 := hh1 ▸ Grows.push _ _
  have g2 : Grows H1 H2 := hh2 ▸ Grows.push _ _
  have g3 : Grows H2 H3 := hh3 ▸ Grows.push _ _
  have g4 : Grows H3 H4 := hh4 ▸ pushCells_keeps scope.names H3
  have none' : ∀ a, s.heap.objs.size ≤ a → s.heap.get? a = Option.none := fun a ha => by
    cases q : s.heap.get? a with
    | none => rfl
    | some o => exact absurd (Heap.lt_size q) (Nat.not_lt.mpr ha)
  have hD₀ : s.heap.get? H1.objs.size = Option.none := none' _ (by rw [hz1]; exact Nat.le_succ _)
  have hL₀ : s.heap.get? H2.objs.size = Option.none := none' _ (by rw [hz2]; exact Nat.le_add_right _ _)
  have hDL : H1.objs.size ≠ H2.objs.size := by rw [hz1, hz2]; exact Nat.ne_of_lt (Nat.lt_succ_self _)
  have accD : H4.PlainList H1.objs.size #[] := ⟨0, g4 _ _ (g3 _ _ (by rw [← hh2]; exact Heap.get?_push_size _ rfl))⟩
  have nsL : H4.Ns H2.objs.size fun _ => Option.none := by
    have := Heap.Ns.new H2 (.type "dict")
    rw [hh3] at this
    exact this.keeps g4
  show codeAny C.M A (.compStart _ 0 (.ref s.heap.objs.size) (.ref H1.objs.size) (compEnvG scope env H2.objs.size)) (RR (.ref H1.objs.size) H2.objs.size) _
  have O' : EnvOK scope (compEnvG scope env H2.objs.size) := O.comp K _
  have frees : ∀ (H : Heap), Grows s.heap H → Frees (H1.objs.size :: X) (compEnvG scope env H2.objs.size) H ρf := fun H g q hq => by
    obtain ⟨hm, hfr⟩ := hρ q hq
    obtain ⟨c, hc, hc', hk⟩ := free_cell O K hfr H2.objs.size
    rcases V q hm with ⟨hk', _⟩ | ⟨_, c', v', hc'', hcell, y⟩
    · rw [hk'] at hk; rcases hk with h | h <;> cases h
    · rw [hc] at hc''; cases hc''
      exact ⟨(O'.fr q.1 hfr).1, c, v', hc', hcell.keeps g, (y.hide hD₀).grow g⟩
  have hID : s.heap.objs.size ≠ H1.objs.size := by rw [hz1]; exact Nat.ne_of_lt (Nat.lt_succ_self _)
  have hIL : s.heap.objs.size ≠ H2.objs.size := by rw [hz2]; exact Nat.ne_of_lt (Nat.lt_succ_of_lt (Nat.lt_succ_self _))
  have fpD : ∀ b ∈ fp, b ≠ H1.objs.size ∧ b ≠ H2.objs.size := fun b hb => by
    rcases I.fpd b hb with q | ⟨_, o', _, _, q, _⟩
    · exact ⟨fun e => hID (q.symm.trans e), fun e => hIL (q.symm.trans e)⟩
    · exact ⟨fun e => (by rw [e, hD₀] at q; cases q), fun e => (by rw [e, hL₀] at q; cases q)⟩
  have lens : ∀ j, ((ds.take j).flatMap fun e => (des e).map (f e)).length ≤ (ds.flatMap fun e => (des e).map (f e)).length := fun j => by
    conv => rhs; rw [← List.take_append_drop j ds, List.flatMap_append, List.length_append]
    exact Nat.le_add_right _ _
  have loop : codeAny C.M A (.compLoop (.ListComp elt [⟨.Name x px, iter, [], 0⟩, ⟨.Name y py, i2, [], 0⟩] scope pos) 0 (.ref s.heap.objs.size) (.ref H1.objs.size) (compEnvG scope env H2.objs.size)) (RR (.ref H1.objs.size) H2.objs.size) { s with heap := H4 } := by
    refine codeAny_loop rfl (fun k s' => ∃ j, j ≤ ds.length ∧ k = ds.length - j ∧ (∃ h t, s' = { s with heap := h, toks := t }) ∧ Grows s.heap s'.heap ∧ St j s'.heap ∧
        (∃ us, s'.heap.PlainList H1.objs.size us.toArray ∧ DenL (H1.objs.size :: X) s'.heap us ((ds.take j).flatMap fun e => (des e).map (f e))) ∧ (∃ m, s'.heap.Ns H2.objs.size m)) ?_ ds.length
      ⟨0, Nat.zero_le _, rfl, ⟨H4, s.toks, rfl⟩, ((g1.trans g2).trans g3).trans g4, I.walks.frame _ _ _ st fun b _ o e => g4 _ _ (g3 _ _ (g2 _ _ e)), ⟨[], accD, .nil⟩, _, nsL⟩
    rintro k s' ⟨j, hj, rfl, hsame, g, st', ⟨us, hacc, hus⟩, m, hns⟩
    obtain ⟨hh, tt, rfl⟩ := hsame
    show wpAny _ A ((compTurn (.ListComp elt [⟨.Name x px, iter, [], 0⟩, ⟨.Name y py, i2, [], 0⟩] scope pos) 0 (.ref s.heap.objs.size) (.ref H1.objs.size) (compEnvG scope env H2.objs.size)).onRaise (fun x => do noteFrame x (compEnvG scope env H2.objs.size); theTreesLotGoes x)) _ _ _
    refine wpAny_noted ?_
    rw [turn_out]
    refine wpAny_bind (wpAny_standAt (wpAny_bind ?_))
    obtain ⟨oI, vI, hoI, hdI, hcI⟩ := I.iobj j _ st'
    by_cases hjl : j < ds.length
    · refine I.walks.item j _ _ _ hjl st' fun u h₂ tk₂ hP st₂ hk₂ => ?_
      have hk₂' : ∀ b o, b ≠ s.heap.objs.size → hh.get? b = some o → h₂.get? b = some o := fun b o hb => hk₂ b o fun hm => hb (List.mem_singleton.mp hm)
      have gr₂ : Grows s.heap h₂ := fun b o e => hk₂' b o (ne_size e) (g b o e)
      obtain ⟨e, he, ye⟩ := I.items j u s.heap (DataKeep.refl _) hP
      have hem : e ∈ ds := List.mem_of_getElem? he
      have tk : (ds.take (j + 1)) = ds.take j ++ [e] := by rw [List.take_add_one, he]; rfl
      have hacc₂ := PlainList.at' hacc fun o => hk₂' _ o (Ne.symm hID)
      have hns₂ : h₂.Ns H2.objs.size m := hns.at' fun o => hk₂' _ o (Ne.symm hIL)
      refine wpAny_bind (wpAny_of_eq (ht _ u) (wpAny_bind (wpAny_assign_Name (wpAny_storeName_local (O'.lo x hxl) hns₂ (fun h₃ hn₃ hs₃ => ?_) (by rw [O'.kind]; rfl)))))
      have hn₃' : h₃.Ns H2.objs.size _ := hn₃
      have hs₃' : Heap.SameBut H2.objs.size h₂ h₃ := hs₃
      have gr₃ : Grows s.heap h₃ := fun b o e => hs₃'.extBut b o (fun hb => by rw [hb, hL₀] at e; cases e) (gr₂ b o e)
      have hacc₃ : h₃.PlainList H1.objs.size us.toArray := PlainList.at' hacc₂ fun o => hs₃'.extBut _ o hDL
      have hus₃ : DenL (H1.objs.size :: X) h₃ us ((ds.take j).flatMap fun e => (des e).map (f e)) := hus.dk fun b o hb q dd => by
        have hbI : b ≠ s.heap.objs.size := fun hb' => by
          have hoI' : hh.get? s.heap.objs.size = some oI := hoI
          rw [hb', hoI'] at q; cases q
          rcases dd with ⟨_, _, q⟩ | ⟨_, q⟩
          · rw [hdI] at q; cases q
          · exact hcI q
        exact hs₃'.extBut b o (Ns.not_data hns q (dd.imp id fun z => z.1)) (hk₂' b o hbI q)
      have st₃ : St (j + 1) h₃ := I.walks.frame _ _ _ st₂ fun b hbf o q => hs₃'.extBut b o (fpD b hbf).2 q
      have live : ∀ {h : Heap}, Grows s.heap h → (∃ xs, h.PlainList H1.objs.size xs) → Gd C (H1.objs.size :: X) h := fun gr hD => ⟨G.top.trans gr, fun a ha => by
        rcases List.mem_cons.mp ha with rfl | ha
        · obtain ⟨_, _, q⟩ := hD; exact ⟨_, q⟩
        · exact (G.trans gr).live a ha⟩
      have ye₃ : Den (H1.objs.size :: X) h₃ u e := (ye.hide hD₀).grow gr₃
      have V₃ : Vars (H1.objs.size :: X) (compEnvG scope env H2.objs.size) h₃ ((x, e) :: ρf) := fun q hq => by
        rcases List.mem_cons.mp hq with rfl | hq
        · exact .inl ⟨O'.lo _ hxl, _, u, hn₃, if_pos rfl, ye₃⟩
        · exact .inr (frees h₃ gr₃ q hq)
      refine wpAny_bind (hi2 e hem _ A { s with heap := h₃, toks := _ } _ _ O' hA (live gr₃ ⟨_, hacc₃⟩) V₃ fun v2 s₄ k₄ y₄ => ?_)
      obtain ⟨h₄, tk₄, rfl, gr₄⟩ := k₄.heap
      have gr₄' : Grows h₃ h₄ := gr₄
      refine wpAny_bind (wpAny_standAt (wpAny_bind (wpAny_of_eq (hfs2 _ v2) (wpAny_bind (wpAny_holding ?_)))))
      have hz' : ((ds.take j).flatMap fun e => (des e).map (f e)).length + (des e).length ≤ sizeLine := by
        have h1 := lens (j + 1)
        rw [tk, List.flatMap_append, List.length_append] at h1
        simp only [List.flatMap_cons, List.flatMap_nil, List.append_nil, List.length_map] at h1
        omega
      have hacc₄ := PlainList.at' hacc₃ fun o q => gr₄' _ o q
      have hn₄ := hn₃'.keeps gr₄'
      have hmx : (fun z => if z = x then some u else m z) x = some u := if_pos rfl
      refine wpAny_mono (comp_inner (s := { s with heap := h₄, toks := tk₄ }) (hb := s.heap) (a₀ := H1.objs.size) (env := compEnvG scope env H2.objs.size) (x := x) (e := e) (u := u) (E := notedBy C.M A (compEnvG scope env H2.objs.size) fun e s' => RR (.ref H1.objs.size) H2.objs.size (.error e) s')
        O' hA G (gr₃.trans gr₄') hD₀ hL₀ (O'.lo x hxl) (O'.lo y hyl) hxy hacc₄ (hus₃.grow gr₄') hn₄ hmx (ye₃.grow gr₄') (frees h₄ (gr₃.trans gr₄')) y₄ (hit2 e hem) hz' (hf e hem) ht2 (R := fun r s' => match r with
          | .ok _ => ∃ m, m < ds.length - j ∧ (∃ j, j ≤ ds.length ∧ m = ds.length - j ∧ (∃ h t, s' = { s with heap := h, toks := t }) ∧ Grows s.heap s'.heap ∧ St j s'.heap ∧
            (∃ us, s'.heap.PlainList H1.objs.size us.toArray ∧ DenL (H1.objs.size :: X) s'.heap us ((ds.take j).flatMap fun e => (des e).map (f e))) ∧ (∃ m, s'.heap.Ns H2.objs.size m))
          | .error e' => cameBackBy C.M A (compEnvG scope env H2.objs.size) (notedBy C.M A (compEnvG scope env H2.objs.size) fun e s' => RR (.ref H1.objs.size) H2.objs.size (.error e) s') e' s') fun h' tk' us' m' k' hl' hd' hn' => ?_) (fun it2 s₅ h₅ => wpAny_bind (wpAny_runOwn (codeAny_mono h₅ fun r s₆ h₆ => ?_))) fun _ _ q => q
      · have k'' : ∀ b o, b ≠ H2.objs.size → b ≠ H1.objs.size → h₄.get? b = some o → h'.get? b = some o := k'
        refine ⟨ds.length - (j + 1), by omega, j + 1, hjl, rfl, ⟨h', tk', rfl⟩, fun b o q => ?_, ?_, ⟨us', hl', ?_⟩, m', hn'⟩
        · exact k'' b o (fun hb => by rw [hb, hL₀] at q; cases q) (fun hb => by rw [hb, hD₀] at q; cases q) (gr₄' _ _ (gr₃ _ _ q))
        · exact I.walks.frame _ _ _ (I.walks.frame _ _ _ st₃ fun b _ o q => gr₄' _ _ q) fun b hbf o q => k'' b o (fpD b hbf).2 (fpD b hbf).1 q
        · rw [tk, List.flatMap_append]; simpa using hd'
      · cases r with
        | ok f => exact wpAny_pure ⟨rfl, h₆⟩
        | error e' => exact h₆
    · have hjl' : j = ds.length := by omega
      subst hjl'
      refine I.walks.done _ _ _ st' fun h₂ tk₂ hk₂ => ?_
      have hk₂' : ∀ b o, b ≠ s.heap.objs.size → hh.get? b = some o → h₂.get? b = some o := fun b o hb => hk₂ b o fun hm => hb (List.mem_singleton.mp hm)
      have dk₂ : DataKeep (H1.objs.size :: X) hh h₂ := fun b o _ e dd => hk₂' b o (fun hb => by
        have hoI' : hh.get? s.heap.objs.size = some oI := hoI
        rw [hb, hoI'] at e; cases e
        rcases dd with ⟨_, _, q⟩ | ⟨_, q⟩
        · rw [hdI] at q; cases q
        · exact hcI q) e
      have := hus.dk dk₂
      rw [List.take_length] at this
      exact wpAny_pure (hRR _ _ h₂ tk₂ m us (fun b o e => hk₂' b o (ne_size e) (g b o e)) hD₀ hL₀ hDL (hns.at' fun o => hk₂' _ o (Ne.symm hIL)) (PlainList.at' hacc fun o => hk₂' _ o (Ne.symm hID)) this.show)
  exact codeAny_compStart_list loop (I.walks.self 0 _ _ _ (I.walks.frame _ _ _ st fun b _ o e => g4 _ _ (g3 _ _ (g2 _ _ e))) loop)

theorem Ex1.assignComp2 {elt iter i2 : Expr} {x y z : PySem.Str} {px py pz : Pos} {scope : Scope} {pos spos : Pos} {d : D} {ds : List D} {r r2 : Bool} {d2 : D → D} {des : D → List D} {f : D → D → D} {ρ' : Store} (ρf : Store)
    (hi : Ev C n sc ρ iter d) (hit : Iter C r d ds) (K : CompOK sc scope x) (hxl : scope.names.lookup x = some .local) (hyl : scope.names.lookup y = some .local) (hxy : x ≠ y) (hρ : ∀ q ∈ ρf, q ∈ ρ ∧ scope.names.lookup q.1 = some .free)
    (hz : (ds.flatMap fun e => (des e).map (f e)).length ≤ sizeLine)
    (hi2 : ∀ e ∈ ds, Ev C n scope ((x, e) :: ρf) i2 (d2 e)) (hit2 : ∀ e ∈ ds, Iter C r2 (d2 e) (des e)) (hf : ∀ e ∈ ds, ∀ q ∈ des e, Ev C n scope ((y, q) :: (x, e) :: ρf) elt (f e q))
    (hy : sc.names.lookup z = some .local) (hs : ∀ p ∈ ρ', p ∈ ρ) (hn : ∀ p ∈ ρ', p.1 ≠ z)
    (hsw : ∀ env, EnvOK sc env → swapsWith (.ListComp elt [⟨.Name x px, iter, [], 0⟩, ⟨.Name y py, i2, [], 0⟩] scope pos) (some (.Name z pz)) spos.line env = pure true)
    (ht : ∀ it v, letOwnedTupleGo (.Name x px) it v = pure ()) (ht2 : ∀ it v, letOwnedTupleGo (.Name y py) it v = pure ()) (hfs : ∀ env x, foldedSetIterable iter env x = pure x) (hfs2 : ∀ env x, foldedSetIterable i2 env x = pure x) :
    Ex1 C n sc W ρ (.Assign [.Name z pz] (.ListComp elt [⟨.Name x px, iter, [], 0⟩, ⟨.Name y py, i2, [], 0⟩] scope pos) spos) (.next ((z, .list (ds.flatMap fun e => (des e).map (f e))) :: ρ')) := by
  intro X env A s₀ s Q E O hA G F h
  rw [exec_Assign_Name_used _ _ _ _ (hsw env O)]
  refine wpAny_bind (wpAny_standAt (wpAny_bind ?_))
  show wpAny _ A (do let _ ← comprehension (.ListComp elt [⟨.Name x px, iter, [], 0⟩, ⟨.Name y py, i2, [], 0⟩] scope pos) scope env _ (newList []) false (eval iter env) (some (PySem.assign (.Name z pz) env))) _ _ s
  refine wpAny_bind (wpAny_mono (wpAny_comprehension_free (use := some (PySem.assign (.Name z pz) env)) (Q := fun _ s' => Q .next s') rfl (hfs env) (closureFor_is (O.closes K)) K.kind (fun y hy hl => lookup_of_mem K.nodup (hl ▸ hy))
    (hi env A s _ E O hA (F.top G) F.vars fun v s₁ k₁ y₁ => ?_)) (fun _ s' hq => wpAny_pure (wpAny_pure hq)) fun _ _ e => e)
  have F₁ := F.kp k₁
  refine comp_block2 (RR := fun acc L => compPost C.M A E (some (PySem.assign (.Name z pz) env)) (fun _ s' => Q .next s') acc L) O hA (F₁.top G) F₁.vars hit K hxl hyl hxy hρ hz hi2 hit2 hf y₁ ht ht2 hfs2 ?_
  intro d₀ L h' tk m' us g hD hL hDL hn' hl hus
  exact used_assign O F₁ hy hs hn (fun s' F' U' => h s' F' ((Upd.grow k₁.grows).trans U')) g hL hn' (.list ((F₁.top G).new hD) hl hus)
end
end

-- part G1
section
/-- the i-th statement of the text, if it is a def -/
def defAt (i : Nat) : Arguments × List Stmt × Scope := match PySem.Challenge.pw_pm0038_01.main.body[i]? with
  | some (.FunctionDef _ args body _ _ _ scope _ _ _) => (args, body, scope)
  | _ => ({ posonlyargs := [], args := [], vararg := none, kwonlyargs := [], kw_defaults := [], kwarg := none, defaults := [] }, [], default)
def bodyAt (i : Nat) : List Stmt := (defAt i).2.1
def scAt (i : Nat) : Scope := (defAt i).2.2
def parsAt (i : Nat) : List PySem.Str := (defAt i).1.args.map (·.arg)

/-- f is the text's i-th statement's function -/
structure DefAt (C : Cx) (i : Nat) (f : Addr) : Prop where
  is : ∃ o fd, C.hT.get? f = some o ∧ o.data = .func fd ∧ C.hT.CodeRec fd.code fd.qualname ∧ fd.body = .stmts (bodyAt i) ∧ fd.closure = [] ∧ fd.globals = mainGlobals ∧ fd.builtins = builtinsNs ∧ fd.scope = scAt i ∧
    ∀ vs : List Value, vs.length = (parsAt i).length → bindArgs fd ⟨vs, []⟩ = pure ((parsAt i).zip vs)

def okDef (i : Nat) : Bool := !(scAt i).isCoroutine && !(scAt i).isGenerator && ((scAt i).kind == .function) && (scAt i).names.all (fun x => !(x.2 == .free)) && decide (parsAt i).Nodup &&
  (parsAt i).all fun x => (scAt i).names.lookup x == some .local || (scAt i).names.lookup x == some .cell

theorem DefAt.fn {C : Cx} {n i : Nat} {f : Addr} {ds : List D} {d : D} (D : DefAt C i f) (ok : okDef i = true) (hl : (parsAt i).length = ds.length) (hx : Ex C n (scAt i) [] ((parsAt i).zip ds) (bodyAt i) (.ret d)) : Fn C (n + 1) (.ref f) ds d := by
  obtain ⟨o, fd, h1, h2, h3, h4, h5, h6, h7, h8, h9⟩ := D.is
  unfold okDef at ok
  simp only [Bool.and_eq_true, Bool.not_eq_true', List.all_eq_true, decide_eq_true_eq, Bool.or_eq_true, beq_iff_eq] at ok
  obtain ⟨⟨⟨⟨⟨o1, o2⟩, o3⟩, o4⟩, o5⟩, o6⟩ := ok
  refine Fn.def h1 h2 h3 h4 h5 h6 h7 (h8 ▸ ⟨o1, o2, o3, fun x hx e => ?_⟩) hl h9 o5 (fun x hx => h8 ▸ o6 x hx) (h8 ▸ hx)
  have := o4 x hx
  rw [e] at this
  cases this

abbrev gi : NameKind := .globalImplicit
set_option genInjectivity false in
set_option genSizeOf false in
/-- what the top left -/
structure Hd (C : Cx) where
  f4 : Addr
  f5 : Addr
  f10 : Addr
  f11 : Addr
  f12 : Addr
  f13 : Addr
  f14 : Addr
  f16 : Addr
  f17 : Addr
  f18 : Addr
  f19 : Addr
  f20 : Addr
  f21 : Addr
  f22 : Addr
  d4 : DefAt C 4 f4
  d5 : DefAt C 5 f5
  d10 : DefAt C 10 f10
  d11 : DefAt C 11 f11
  d12 : DefAt C 12 f12
  d13 : DefAt C 13 f13
  d14 : DefAt C 14 f14
  d16 : DefAt C 16 f16
  d17 : DefAt C 17 f17
  d18 : DefAt C 18 f18
  d19 : DefAt C 19 f19
  d20 : DefAt C 20 f20
  d21 : DefAt C 21 f21
  d22 : DefAt C 22 f22
  g4 : C.mg "_substitution_cost" = some (.ref f4)
  g5 : C.mg "_levenshtein_distance" = some (.ref f5)
  g10 : C.mg "rgb_to_hls" = some (.ref f10)
  g11 : C.mg "hls_to_rgb" = some (.ref f11)
  g12 : C.mg "_v" = some (.ref f12)
  g13 : C.mg "rgb_to_hsv" = some (.ref f13)
  g14 : C.mg "hsv_to_rgb" = some (.ref f14)
  g16 : C.mg "_law_word" = some (.ref f16)
  g17 : C.mg "_law_place" = some (.ref f17)
  g18 : C.mg "_law_paint" = some (.ref f18)
  g19 : C.mg "_law_quarters" = some (.ref f19)
  g20 : C.mg "_law_orders" = some (.ref f20)
  g21 : C.mg "_law_least" = some (.ref f21)
  k40 : ∃ t, C.mg "_MAX_STRING_SIZE" = some (.int 40 t)
  k2 : ∃ t, C.mg "_MOVE_COST" = some (.int 2 t)
  k1 : ∃ t, C.mg "_CASE_COST" = some (.int 1 t)
  t13 : ∃ t, C.mg "ONE_THIRD" = some (.float 4599676419421066581 t)
  t16 : ∃ t, C.mg "ONE_SIXTH" = some (.float 4595172819793696085 t)
  t23 : ∃ t, C.mg "TWO_THIRD" = some (.float 4604180019048437077 t)
  nb : ∀ x ∈ (["len", "range", "list", "min", "max", "sum", "sorted", "int", "round", "str"] : List PySem.Str), C.mg x = none

section
variable {C : Cx} {n : Nat} {sc : Scope} {ρ : Store} {pos : Pos} (H : Hd C)
include H

theorem Hd.e40 (h : sc.names.lookup ("_MAX_STRING_SIZE" : PySem.Str) = some gi) : Ev C n sc ρ (.Name "_MAX_STRING_SIZE" pos) (.int 40) := by
  obtain ⟨t, e⟩ := H.k40; exact Ev.global h e (by decide +kernel) (.int _ _) fun X h y => by cases y; exact .int _ _
theorem Hd.e2 (h : sc.names.lookup ("_MOVE_COST" : PySem.Str) = some gi) : Ev C n sc ρ (.Name "_MOVE_COST" pos) (.int 2) := by
  obtain ⟨t, e⟩ := H.k2; exact Ev.global h e (by decide +kernel) (.int _ _) fun X h y => by cases y; exact .int _ _
theorem Hd.e1 (h : sc.names.lookup ("_CASE_COST" : PySem.Str) = some gi) : Ev C n sc ρ (.Name "_CASE_COST" pos) (.int 1) := by
  obtain ⟨t, e⟩ := H.k1; exact Ev.global h e (by decide +kernel) (.int _ _) fun X h y => by cases y; exact .int _ _
theorem Hd.et13 (h : sc.names.lookup ("ONE_THIRD" : PySem.Str) = some gi) : Ev C n sc ρ (.Name "ONE_THIRD" pos) (F 4599676419421066581) := by
  obtain ⟨t, e⟩ := H.t13; exact Ev.global h e (by decide +kernel) (.flt _ _) fun X h y => by cases y; exact .flt _ _
theorem Hd.et16 (h : sc.names.lookup ("ONE_SIXTH" : PySem.Str) = some gi) : Ev C n sc ρ (.Name "ONE_SIXTH" pos) (F 4595172819793696085) := by
  obtain ⟨t, e⟩ := H.t16; exact Ev.global h e (by decide +kernel) (.flt _ _) fun X h y => by cases y; exact .flt _ _
theorem Hd.et23 (h : sc.names.lookup ("TWO_THIRD" : PySem.Str) = some gi) : Ev C n sc ρ (.Name "TWO_THIRD" pos) (F 4604180019048437077) := by
  obtain ⟨t, e⟩ := H.t23; exact Ev.global h e (by decide +kernel) (.flt _ _) fun X h y => by cases y; exact .flt _ _

theorem Hd.bt {x : PySem.Str} {v : Value} (h : sc.names.lookup x = some gi) (hx : x ∈ (["len", "range", "list", "min", "max", "sum", "sorted", "int", "round", "str"] : List PySem.Str)) (hv : bootBuiltins x = some v) (hd : (x == ("__debug__" : PySem.Str)) = false) (hn : x ≠ "__name__") : Gl C sc x v :=
  Gl.boot h (H.nb x hx) hv hd hn
theorem Hd.len (h : sc.names.lookup ("len" : PySem.Str) = some gi) : Gl C sc "len" (.builtin "len") := H.bt h (by decide +kernel) (by kernel_rfl) (by decide +kernel) (by decide +kernel)
theorem Hd.range (h : sc.names.lookup ("range" : PySem.Str) = some gi) : Gl C sc "range" (.type "range") := H.bt h (by decide +kernel) (by kernel_rfl) (by decide +kernel) (by decide +kernel)
theorem Hd.list (h : sc.names.lookup ("list" : PySem.Str) = some gi) : Gl C sc "list" (.type "list") := H.bt h (by decide +kernel) (by kernel_rfl) (by decide +kernel) (by decide +kernel)
theorem Hd.min (h : sc.names.lookup ("min" : PySem.Str) = some gi) : Gl C sc "min" (.builtin "min") := H.bt h (by decide +kernel) (by kernel_rfl) (by decide +kernel) (by decide +kernel)
theorem Hd.max (h : sc.names.lookup ("max" : PySem.Str) = some gi) : Gl C sc "max" (.builtin "max") := H.bt h (by decide +kernel) (by kernel_rfl) (by decide +kernel) (by decide +kernel)
theorem Hd.sum (h : sc.names.lookup ("sum" : PySem.Str) = some gi) : Gl C sc "sum" (.builtin "sum") := H.bt h (by decide +kernel) (by kernel_rfl) (by decide +kernel) (by decide +kernel)
theorem Hd.sorted (h : sc.names.lookup ("sorted" : PySem.Str) = some gi) : Gl C sc "sorted" (.builtin "sorted") := H.bt h (by decide +kernel) (by kernel_rfl) (by decide +kernel) (by decide +kernel)
theorem Hd.int (h : sc.names.lookup ("int" : PySem.Str) = some gi) : Gl C sc "int" (.type "int") := H.bt h (by decide +kernel) (by kernel_rfl) (by decide +kernel) (by decide +kernel)
theorem Hd.round (h : sc.names.lookup ("round" : PySem.Str) = some gi) : Gl C sc "round" (.builtin "round") := H.bt h (by decide +kernel) (by kernel_rfl) (by decide +kernel) (by decide +kernel)
theorem Hd.str (h : sc.names.lookup ("str" : PySem.Str) = some gi) : Gl C sc "str" (.type "str") := H.bt h (by decide +kernel) (by kernel_rfl) (by decide +kernel) (by decide +kernel)

omit H in
/-- a call of one of the text's functions -/
theorem Ev.callD {x : PySem.Str} {p pos : Pos} {f : Addr} {i : Nat} {e : Expr} {es : List Expr} {ds : List D} {d : D} (D : DefAt C i f) (hg : C.mg x = some (.ref f)) (hx : sc.names.lookup x = some gi) (hd : (x == ("__debug__" : PySem.Str)) = false) (ha : EvL C n sc ρ (e :: es) ds)
    (hn : ∀ env, starEach (e :: es) env = (false, eval e env) :: starEach es env) (hf : Fn C n (.ref f) ds d) : Ev C n sc ρ (.Call (.Name x p) (e :: es) [] pos) d := by
  obtain ⟨o, fd, h1, h2, _⟩ := D.is
  exact Ev.callF (Gl.top hx hg hd) h1 h2 ha hn hf
end
end

-- part G2
section
section
variable {C : Cx} {n : Nat} {sc : Scope} {ρ : Store}
theorem Ev.fltE {x : UInt64} {a k : Nat} {pos : Pos} (e : x = UInt64.ofNat a) : Ev C n sc ρ (.Constant (.float x) k pos) (F a) := by subst e; exact Ev.flt
theorem Ev.fltL {a k : Nat} {pos : Pos} : Ev C n sc ρ (.Constant (.float (@OfNat.ofNat UInt64 a _)) k pos) (F a) := Ev.flt
theorem mem_hd {x : PySem.Str} {d : D} {r : Store} : (x, d) ∈ (x, d) :: r := List.Mem.head _
theorem mem_tl {p q : PySem.Str × D} {r : Store} (h : p ∈ r) : p ∈ q :: r := List.Mem.tail _ h
theorem EvL.cons' {e : Expr} {es : List Expr} {d : D} {ds : List D} (hn : ∀ env, starEach (e :: es) env = (false, eval e env) :: starEach es env) (he : Ev C n sc ρ e d) (hes : EvL C n sc ρ es ds) : EvL C n sc ρ (e :: es) (d :: ds) := EvL.cons he hes hn
theorem Ev.cmp' {l r : Expr} {op : CmpOp} {pos : Pos} {a b : D} {q : Bool} (hm : behindInMarks op r = false) (hl : Ev C n sc ρ l a) (hr : Ev C n sc ρ r b) (ho : Cmp C n op a b q) : Ev C n sc ρ (.Compare l [op] [r] pos) (.bool q) := Ev.cmp hl hr ho hm
theorem EvB.cmp' {l r : Expr} {op : CmpOp} {pos : Pos} {a b : D} {q : Bool} (hm : behindInMarks op r = false) (hl : Ev C n sc ρ l a) (hr : Ev C n sc ρ r b) (ho : Cmp C n op a b q) : EvB C n sc ρ (.Compare l [op] [r] pos) q := EvB.cmp hl hr ho hm
theorem Ev.lower {o : Expr} {apos pos : Pos} {a d : D} (hbase : ∀ env, attributeBase o "lower" env (eval o env) = eval o env) (hline : (apos.endLine == pos.line) = true) (hm : Mth a "lower" "str.lower") (ho : Ev C n sc ρ o a) (hf : Fn C n (.builtin "str.lower") [a] d) :
    Ev C n sc ρ (.Call (.Attribute o "lower" apos) [] [] pos) d := Ev.meth0 ho hm hbase hline hf
theorem Ev.callB' {x : PySem.Str} {p pos : Pos} {id : String} {e : Expr} {es : List Expr} {ds : List D} {d : D} (hn : ∀ env, starEach (e :: es) env = (false, eval e env) :: starEach es env) (hp : ∀ env, (backTo pos (starEach (e :: es) env)).any (·.1) = false) (hx : Gl C sc x (.builtin id)) (ha : EvL C n sc ρ (e :: es) ds)
    (hf : Fn C n (.builtin id) ds d) : Ev C n sc ρ (.Call (.Name x p) (e :: es) [] pos) d := Ev.callB hx ha hn hp hf
theorem Ev.callT' {x : PySem.Str} {p pos : Pos} {id : String} {e : Expr} {es : List Expr} {ds : List D} {d : D} (hn : ∀ env, starEach (e :: es) env = (false, eval e env) :: starEach es env) (hp : ∀ env, (backTo pos (starEach (e :: es) env)).any (·.1) = false) (hx : Gl C sc x (.type id)) (ha : EvL C n sc ρ (e :: es) ds)
    (hf : Fn C n (.type id) ds d) : Ev C n sc ρ (.Call (.Name x p) (e :: es) [] pos) d := Ev.callT hx ha hn hp hf
def LenOK (ds : List D) : Prop := Nat.ble ds.length 1000 = true
theorem LenOK.l0 : LenOK [] := rfl
theorem LenOK.l1 {a : D} : LenOK [a] := rfl
theorem LenOK.l2 {a b : D} : LenOK [a, b] := rfl
theorem LenOK.l3 {a b c : D} : LenOK [a, b, c] := rfl
theorem LenOK.l4 {a b c d : D} : LenOK [a, b, c, d] := rfl
theorem LenOK.l5 {a b c d e : D} : LenOK [a, b, c, d, e] := rfl
theorem LenOK.l6 {a b c d e f : D} : LenOK [a, b, c, d, e, f] := rfl
theorem Ev.tup' {es : List Expr} {k : Nat} {pos : Pos} {ds : List D} (h : EvL C n sc ρ es ds) (hz : LenOK ds) : Ev C n sc ρ (.Tuple es k pos) (.tup ds) := Ev.tup h (Nat.le_trans (Nat.ble_eq.mp hz) (by decide))
theorem Ev.list' {es : List Expr} {pos : Pos} {ds : List D} (h : EvL C n sc ρ es ds) (hz : LenOK ds) : Ev C n sc ρ (.List es pos) (.list ds) := Ev.list h (Nat.le_trans (Nat.ble_eq.mp hz) (by decide))
theorem Ev.sub' {value slice : Expr} {pos : Pos} {a i d : D} (hs : ∀ o i, subscripted slice false o i = operate [o, i] (getItem o i)) (hv : Ev C n sc ρ value a) (q : Seqy a) (hi : Ev C n sc ρ slice i) (hd : Itm C n a i d) : Ev C n sc ρ (.Subscript value slice pos) d := Ev.sub hv hi hd q hs
theorem Ev.slice' {value : Expr} {lower upper : Option Expr} {p pos : Pos} {a d : D} {l u : Option Int} (hv : Ev C n sc ρ value a) (q : Seqy a) (hl : EvP C n sc ρ lower l) (hu : EvP C n sc ρ upper u) (hd : Slc C n a l u d) : Ev C n sc ρ (.Subscript value (.Slice lower upper Option.none p) pos) d := Ev.slice hv hl hu hd q
theorem Ev.var' {x : PySem.Str} {d : D} {pos : Pos} (hm : (x, d) ∈ ρ) (hd : ((x == ("__debug__" : PySem.Str)) || (x == ("__classdict__" : PySem.Str))) = false) : Ev C n sc ρ (.Name x pos) d :=
  Ev.var hm (Bool.or_eq_false_iff.mp hd).1 (Bool.or_eq_false_iff.mp hd).2
theorem EvB.is {e : Expr} {b c : Bool} (h : EvB C n sc ρ e b) (q : b = c) : EvB C n sc ρ e c := q ▸ h
theorem Ev.is {e : Expr} {b c : D} (h : Ev C n sc ρ e b) (q : b = c) : Ev C n sc ρ e c := q ▸ h
end

/-- r is ρ without x -/
inductive Rm (x : PySem.Str) : Store → Store → Prop
  | nil : Rm x [] []
  | hd {d : D} {r r' : Store} : Rm x r r' → Rm x ((x, d) :: r) r'
  | tl {y : PySem.Str} {d : D} {r r' : Store} : (y == x) = false → Rm x r r' → Rm x ((y, d) :: r) ((y, d) :: r')
theorem Rm.ok {x : PySem.Str} : ∀ {ρ ρ' : Store}, Rm x ρ ρ' → (∀ p ∈ ρ', p ∈ ρ) ∧ ∀ p ∈ ρ', p.1 ≠ x
  | _, _, .nil => ⟨fun _ h => h, fun _ h => nomatch h⟩
  | _, _, .hd h => ⟨fun p q => .tail _ (h.ok.1 p q), h.ok.2⟩
  | _, _, .tl e h => ⟨fun p q => (List.mem_cons.mp q).elim (fun q => q ▸ .head _) fun q => .tail _ (h.ok.1 p q), fun p q => (List.mem_cons.mp q).elim (fun q => q ▸ beq_eq_false_iff_ne.mp e) fun q => h.ok.2 p q⟩
theorem Rm.tl4 {x y1 y2 y3 y4 : PySem.Str} {d1 d2 d3 d4 : D} {r r' : Store} (h : ((y1 == x) || (y2 == x) || (y3 == x) || (y4 == x)) = false) (k : Rm x r r') : Rm x ((y1, d1) :: (y2, d2) :: (y3, d3) :: (y4, d4) :: r) ((y1, d1) :: (y2, d2) :: (y3, d3) :: (y4, d4) :: r') := by
  simp only [Bool.or_eq_false_iff] at h
  exact .tl h.1.1.1 (.tl h.1.1.2 (.tl h.1.2 (.tl h.2 k)))
def stoB (sc : Scope) (x : PySem.Str) : Bool := match sc.names.lookup x with | some .local => true | some .cell => true | _ => false
theorem stoB_ok {sc : Scope} {x : PySem.Str} (h : stoB sc x = true) : Sto sc x := by
  unfold stoB at h
  split at h
  · exact .inl (by assumption)
  · exact .inr (by assumption)
  · cases h
section
variable {C : Cx} {n : Nat} {sc : Scope} {W : List Addr} {ρ ρ' : Store}
theorem Ex.asg {x : PySem.Str} {e : Expr} {pos' pos : Pos} {d : D} {ss : List Stmt} {out : Out} (hw : ∀ env, EnvOK sc env → swapsWith e (some (.Name x pos')) pos.line env = pure false) (hx : stoB sc x = true) (hr : Rm x ρ ρ') (he : Ev C n sc ρ e d) (k : Ex C n sc W ((x, d) :: ρ') ss out) : Ex C n sc W ρ (.Assign [.Name x pos'] e pos :: ss) out :=
  Ex.cons (Ex1.assign he (stoB_ok hx) hr.ok.1 hr.ok.2 hw) k
theorem Ex.ifC {test : Expr} {body orelse ss : List Stmt} {pos : Pos} {b : Bool} {o1 o2 : Out} (ht : EvB C n sc ρ test b) (h1 : b = true → Ex C n sc W ρ (.If test body orelse pos :: ss) o1) (h2 : b = false → Ex C n sc W ρ (.If test body orelse pos :: ss) o2) :
    Ex C n sc W ρ (.If test body orelse pos :: ss) (if b then o1 else o2) := by
  cases b with
  | true => exact h1 rfl
  | false => exact h2 rfl
/-- an if that returns -/
theorem Ex.ifRet {test : Expr} {body ss : List Stmt} {pos : Pos} {b : Bool} {d1 d2 : D} (ht : EvB C n sc ρ test b) (h1 : b = true → Ex C n sc W ρ body (.ret d1)) (h2 : b = false → Ex C n sc W ρ ss (.ret d2)) :
    Ex C n sc W ρ (.If test body [] pos :: ss) (.ret (bt b d1 d2)) := by
  cases b with
  | true => exact Ex.consRet (Ex1.ifT ht (h1 rfl))
  | false => exact Ex.cons (Ex1.ifF ht Ex.nil) (h2 rfl)
/-- an if that goes on, whatever the way -/
theorem Ex.ifOn {test : Expr} {body orelse ss : List Stmt} {pos : Pos} {b : Bool} {ρ₁ : Store} {out : Out} (ht : EvB C n sc ρ test b) (h1 : b = true → Ex C n sc W ρ body (.next ρ₁)) (h2 : b = false → Ex C n sc W ρ orelse (.next ρ₁)) (k : Ex C n sc W ρ₁ ss out) :
    Ex C n sc W ρ (.If test body orelse pos :: ss) out := by
  cases b with
  | true => exact Ex.cons (Ex1.ifT ht (h1 rfl)) k
  | false => exact Ex.cons (Ex1.ifF ht (h2 rfl)) k
theorem Ex.rets {e : Expr} {pos : Pos} {d : D} {ss : List Stmt} (he : Ev C n sc ρ e d) : Ex C n sc W ρ (.Return (some e) pos :: ss) (.ret d) := Ex.consRet (Ex1.ret he)
end

section
variable {C : Cx} {n : Nat} {sc : Scope} {ρ : Store} {p pos : Pos} {e : Expr} {es : List Expr} {ds : List D} {d : D} (H : Hd C)
include H
theorem Hd.c4 (hn : ∀ env, starEach (e :: es) env = (false, eval e env) :: starEach es env) (hx : sc.names.lookup ("_substitution_cost" : PySem.Str) = some gi) (ha : EvL C n sc ρ (e :: es) ds) (hf : Fn C n (.ref H.f4) ds d) : Ev C n sc ρ (.Call (.Name "_substitution_cost" p) (e :: es) [] pos) d :=
  Ev.callD H.d4 H.g4 hx (by decide +kernel) ha hn hf
theorem Hd.c5 (hn : ∀ env, starEach (e :: es) env = (false, eval e env) :: starEach es env) (hx : sc.names.lookup ("_levenshtein_distance" : PySem.Str) = some gi) (ha : EvL C n sc ρ (e :: es) ds) (hf : Fn C n (.ref H.f5) ds d) : Ev C n sc ρ (.Call (.Name "_levenshtein_distance" p) (e :: es) [] pos) d :=
  Ev.callD H.d5 H.g5 hx (by decide +kernel) ha hn hf
theorem Hd.c10 (hn : ∀ env, starEach (e :: es) env = (false, eval e env) :: starEach es env) (hx : sc.names.lookup ("rgb_to_hls" : PySem.Str) = some gi) (ha : EvL C n sc ρ (e :: es) ds) (hf : Fn C n (.ref H.f10) ds d) : Ev C n sc ρ (.Call (.Name "rgb_to_hls" p) (e :: es) [] pos) d :=
  Ev.callD H.d10 H.g10 hx (by decide +kernel) ha hn hf
theorem Hd.c11 (hn : ∀ env, starEach (e :: es) env = (false, eval e env) :: starEach es env) (hx : sc.names.lookup ("hls_to_rgb" : PySem.Str) = some gi) (ha : EvL C n sc ρ (e :: es) ds) (hf : Fn C n (.ref H.f11) ds d) : Ev C n sc ρ (.Call (.Name "hls_to_rgb" p) (e :: es) [] pos) d :=
  Ev.callD H.d11 H.g11 hx (by decide +kernel) ha hn hf
theorem Hd.c12 (hn : ∀ env, starEach (e :: es) env = (false, eval e env) :: starEach es env) (hx : sc.names.lookup ("_v" : PySem.Str) = some gi) (ha : EvL C n sc ρ (e :: es) ds) (hf : Fn C n (.ref H.f12) ds d) : Ev C n sc ρ (.Call (.Name "_v" p) (e :: es) [] pos) d :=
  Ev.callD H.d12 H.g12 hx (by decide +kernel) ha hn hf
theorem Hd.c13 (hn : ∀ env, starEach (e :: es) env = (false, eval e env) :: starEach es env) (hx : sc.names.lookup ("rgb_to_hsv" : PySem.Str) = some gi) (ha : EvL C n sc ρ (e :: es) ds) (hf : Fn C n (.ref H.f13) ds d) : Ev C n sc ρ (.Call (.Name "rgb_to_hsv" p) (e :: es) [] pos) d :=
  Ev.callD H.d13 H.g13 hx (by decide +kernel) ha hn hf
theorem Hd.c14 (hn : ∀ env, starEach (e :: es) env = (false, eval e env) :: starEach es env) (hx : sc.names.lookup ("hsv_to_rgb" : PySem.Str) = some gi) (ha : EvL C n sc ρ (e :: es) ds) (hf : Fn C n (.ref H.f14) ds d) : Ev C n sc ρ (.Call (.Name "hsv_to_rgb" p) (e :: es) [] pos) d :=
  Ev.callD H.d14 H.g14 hx (by decide +kernel) ha hn hf
theorem Hd.c16 (hn : ∀ env, starEach (e :: es) env = (false, eval e env) :: starEach es env) (hx : sc.names.lookup ("_law_word" : PySem.Str) = some gi) (ha : EvL C n sc ρ (e :: es) ds) (hf : Fn C n (.ref H.f16) ds d) : Ev C n sc ρ (.Call (.Name "_law_word" p) (e :: es) [] pos) d :=
  Ev.callD H.d16 H.g16 hx (by decide +kernel) ha hn hf
theorem Hd.c17 (hn : ∀ env, starEach (e :: es) env = (false, eval e env) :: starEach es env) (hx : sc.names.lookup ("_law_place" : PySem.Str) = some gi) (ha : EvL C n sc ρ (e :: es) ds) (hf : Fn C n (.ref H.f17) ds d) : Ev C n sc ρ (.Call (.Name "_law_place" p) (e :: es) [] pos) d :=
  Ev.callD H.d17 H.g17 hx (by decide +kernel) ha hn hf
theorem Hd.c18 (hn : ∀ env, starEach (e :: es) env = (false, eval e env) :: starEach es env) (hx : sc.names.lookup ("_law_paint" : PySem.Str) = some gi) (ha : EvL C n sc ρ (e :: es) ds) (hf : Fn C n (.ref H.f18) ds d) : Ev C n sc ρ (.Call (.Name "_law_paint" p) (e :: es) [] pos) d :=
  Ev.callD H.d18 H.g18 hx (by decide +kernel) ha hn hf
theorem Hd.c19 (hn : ∀ env, starEach (e :: es) env = (false, eval e env) :: starEach es env) (hx : sc.names.lookup ("_law_quarters" : PySem.Str) = some gi) (ha : EvL C n sc ρ (e :: es) ds) (hf : Fn C n (.ref H.f19) ds d) : Ev C n sc ρ (.Call (.Name "_law_quarters" p) (e :: es) [] pos) d :=
  Ev.callD H.d19 H.g19 hx (by decide +kernel) ha hn hf
theorem Hd.c20 (hn : ∀ env, starEach (e :: es) env = (false, eval e env) :: starEach es env) (hx : sc.names.lookup ("_law_orders" : PySem.Str) = some gi) (ha : EvL C n sc ρ (e :: es) ds) (hf : Fn C n (.ref H.f20) ds d) : Ev C n sc ρ (.Call (.Name "_law_orders" p) (e :: es) [] pos) d :=
  Ev.callD H.d20 H.g20 hx (by decide +kernel) ha hn hf
theorem Hd.c21 (hn : ∀ env, starEach (e :: es) env = (false, eval e env) :: starEach es env) (hx : sc.names.lookup ("_law_least" : PySem.Str) = some gi) (ha : EvL C n sc ρ (e :: es) ds) (hf : Fn C n (.ref H.f21) ds d) : Ev C n sc ρ (.Call (.Name "_law_least" p) (e :: es) [] pos) d :=
  Ev.callD H.d21 H.g21 hx (by decide +kernel) ha hn hf
end
end

-- the tactics
local macro_rules | `(tactic| ktr_rel) => `(tactic| (repeat (first | with_reducible exact Rm.nil | with_reducible apply Rm.hd | ((with_reducible apply Rm.tl4); (focus (decide +kernel))) | ((with_reducible apply Rm.tl); (focus (decide +kernel))))))
local macro_rules | `(tactic| kwd_inv) => `(tactic| ((repeat (first | with_reducible exact @mem_hd _ _ _ | with_reducible refine' @mem_tl _ _ _ ?_)) <;> with_reducible exact @mem_hd _ _ _))
open Lean in
/-- one rule: its name and its places -/
def rlOf (x : Name × String) : MacroM (TSyntax `tactic) := do
  let gl : Array Name := #[`Mine.Hd.len, `Mine.Hd.min, `Mine.Hd.max, `Mine.Hd.sum, `Mine.Hd.sorted, `Mine.Hd.round, `Mine.Hd.range, `Mine.Hd.list, `Mine.Hd.int, `Mine.Hd.str]
  let as ← x.2.toList.toArray.mapM fun c => match c with
    | 'g' => `(?_)
    | 'f' => `(fun _ => rfl)
    | 'h' => `(fun _ _ => rfl)
    | 'a' => `((by assumption))
    | 'k' => `((by decide +kernel))
    | 'd' => `((by decide))
    | 'r' => `(rfl)
    | 'w' => `(Mth.lower)
    | 'm' => `((by kwd_inv))
    | '_' => `(_)
    | c => `((@$(mkIdent (gl.getD (c.toNat - 48) .anonymous)) _ _ (by assumption) (by decide +kernel)))
  `(tactic| with_reducible refine' @$(mkIdent (`Mine ++ x.1)) $as*)
open Lean in
def rlsOf : List (Name × String) → MacroM (TSyntax `tactic)
  | [] => `(tactic| fail)
  | [x] => rlOf x
  | x :: r => do
    let a ← rlOf x
    let b ← rlsOf r
    `(tactic| first | $a:tactic | $b:tactic)
local macro_rules | `(tactic| kwd_rel) => do
  let g0 ← rlsOf [(`Hd.e2, "_____ak"), (`Hd.e1, "_____ak"), (`Hd.e40, "_____ak"), (`Hd.et13, "_____ak"), (`Hd.et16, "_____ak"), (`Hd.et23, "_____ak"), (`Ev.var', "_______mk")]
  let g1 ← rlsOf [(`Ev.int, "_______"), (`Ev.fltL, "_______"), (`Ev.str, "_______"), (`Ev.bool, "_______"), (`Ev.none, "______")]
  let g2 ← rlsOf [(`Ev.bin, "___________ggg")]
  let g3 ← rlsOf [(`Ev.slice', "_____________ggggg"), (`Ev.sub', "__________hgggg")]
  let g4 ← rlsOf [(`Hd.c4, "__________afkgg"), (`Hd.c5, "__________afkgg"), (`Hd.c10, "__________afkgg"), (`Hd.c11, "__________afkgg"), (`Hd.c12, "__________afkgg"), (`Hd.c13, "__________afkgg"), (`Hd.c14, "__________afkgg"), (`Hd.c16, "__________afkgg"), (`Hd.c17, "__________afkgg"), (`Hd.c18, "__________afkgg"), (`Hd.c19, "__________afkgg"), (`Hd.c20, "__________afkgg"), (`Hd.c21, "__________afkgg"), (`Ev.callB', "____________ff0gg"), (`Ev.callB', "____________ff1gg"), (`Ev.callB', "____________ff2gg"), (`Ev.callB', "____________ff3gg"), (`Ev.callB', "____________ff4gg"), (`Ev.callB', "____________ff5gg"), (`Ev.callT', "____________ff6gg"), (`Ev.callT', "____________ff7gg"), (`Ev.callT', "____________ff8gg"), (`Ev.callT', "____________ff9gg")]
  let g5 ← rlsOf [(`Ev.lower, "_________frwgg")]
  let g6 ← rlsOf [(`Ev.ite', "___________ggg")]
  let g7 ← rlsOf [(`Ev.tup', "________gg"), (`Ev.list', "_______gg"), (`Ev.cmp', "___________rggg")]
  let g8 ← rlsOf [(`EvL.nil, "____"), (`EvL.cons', "________fgg")]
  let g9 ← rlsOf [(`EvB.cmp', "___________rggg"), (`EvB.not, "_______g"), (`EvB.boolOp, "________g"), (`EvB.nat, "______hg")]
  let g10 ← rlsOf [(`EvP.nil, "____"), (`EvP.int, "______g")]
  let g11 ← rlsOf [(`EvA.andNil, "____"), (`EvA.orNil, "____")]
  let g12 ← rlsOf [(`Bin.add_NL, "____"), (`Bin.add_NN, "____"), (`Bin.add_ii, "____"), (`Bin.add_F, "____"), (`Bin.add_FI, "____g")]
  let g13 ← rlsOf [(`Bin.sub_ii, "____"), (`Bin.sub_F, "____"), (`Bin.mul_F, "____"), (`Bin.div_F, "____g"), (`Bin.mod_F, "____g"), (`Bin.sub_FI, "____g"), (`Bin.mod_NL, "____d"), (`Bin.fdiv_NL, "____dd"), (`Bin.mul_LN, "____d"), (`Bin.mul_NL, "____d"), (`Bin.div_NL, "____dg"), (`Bin.mul_LF, "____d"), (`Bin.mod_FL, "____dg"), (`Bin.pow20, "__"), (`Bin.pow18, "__"), (`Bin.mul_NN, "____g"), (`Bin.mul_NF, "____d"), (`Bin.mul_ii, "____g"), (`Bin.mod_ii, "____g"), (`Bin.fdiv_ii, "____gg")]
  let g14 ← rlsOf [(`Cmp.lt_FL, "____d"), (`Cmp.eq_ii, "____"), (`Cmp.ne_ii, "____"), (`Cmp.lt_ii, "____"), (`Cmp.gt_ii, "____"), (`Cmp.eq_F, "____"), (`Cmp.lt_F, "____"), (`Cmp.le_F, "____"), (`Cmp.eq_ss, "____"), (`Cmp.eq_ints, "____"), (`Cmp.lt_FI, "____g")]
  let g15 ← rlsOf [(`Fn.lower, "___g"), (`Fn.max_F, "_____"), (`Fn.min_F, "_____"), (`Fn.int_F, "___gg"), (`Fn.round_F, "___g"), (`Fn.len_str, "___g"), (`Fn.len_list, "___g"), (`Fn.min_ii, "____"), (`Fn.range1, "___gg")]
  let g16 ← rlsOf [(`LenOK.l0, ""), (`LenOK.l1, "_"), (`LenOK.l2, "__"), (`LenOK.l3, "___"), (`LenOK.l4, "____"), (`LenOK.l5, "_____"), (`LenOK.l6, "______")]
  `(tactic| repeat' (first
    | ((with_reducible show Ev _ _ _ _ (.Name _ _) _); $g0:tactic)
    | ((with_reducible show Ev _ _ _ _ (.Constant _ _ _) _); $g1:tactic)
    | ((with_reducible show Ev _ _ _ _ (.BinOp _ _ _ _) _); $g2:tactic)
    | ((with_reducible show Ev _ _ _ _ (.Subscript _ _ _) _); $g3:tactic)
    | ((with_reducible show Ev _ _ _ _ (.Call (.Name _ _) _ _ _) _); $g4:tactic)
    | ((with_reducible show Ev _ _ _ _ (.Call _ _ _ _) _); $g5:tactic)
    | ((with_reducible show Ev _ _ _ _ (.IfExp _ _ _ _) _); $g6:tactic)
    | ((with_reducible show Ev _ _ _ _ _ _); $g7:tactic)
    | ((with_reducible show EvL _ _ _ _ _ _); $g8:tactic)
    | ((with_reducible show EvB _ _ _ _ _ _); $g9:tactic)
    | ((with_reducible show EvP _ _ _ _ _ _); $g10:tactic)
    | ((with_reducible show EvA _ _ _ _ _ _ _); $g11:tactic)
    | ((with_reducible show Bin _ _ .Add _ _ _); $g12:tactic)
    | ((with_reducible show Bin _ _ _ _ _ _); $g13:tactic)
    | ((with_reducible show Cmp _ _ _ _ _ _); $g14:tactic)
    | ((with_reducible show Fn _ _ _ _ _); $g15:tactic)
    | ((with_reducible show LenOK _); $g16:tactic)
    | ((with_reducible show Itm _ _ _ _ _); (first | ((refine @Itm.list _ _ _ _ _ ?_ ?_ ?_); (focus decide); (focus decide); (focus rfl)) | ((refine @Itm.listNeg _ _ _ _ _ ?_ ?_ ?_ ?_); (focus decide); (focus decide); (focus decide); (focus rfl)) | ((refine @Itm.tup _ _ _ _ _ ?_ ?_ ?_); (focus decide); (focus decide); (focus rfl))))
    | ((with_reducible show Seqy _); exact True.intro)))
local macro_rules | `(tactic| kwd_less) => `(tactic| ((refine' @Ex.asg _ _ _ _ _ _ _ _ _ _ _ _ _ (by exact fun _ _ => rfl) (by decide +kernel) (by ktr_rel) ?_ ?_); kwd_rel))

-- part G3
section
def subC (x y : PySem.Str) : Int := if x == y then 0 else if Txt.lower x == Txt.lower y then 1 else 2
section
variable {C : Cx} {n : Nat} (H : Hd C)
include H
theorem fn_sub {x y : PySem.Str} (hx : Builtin.Str.tooLong (Txt.lower x).length = false) (hy : Builtin.Str.tooLong (Txt.lower y).length = false) : Fn C (n + 1) (.ref H.f4) [.str x, .str y] (.int (subC x y)) := by
  refine H.d4.fn (by decide +kernel) rfl ?_
  show Ex C n (scAt 4) [] [("ch_a", .str x), ("ch_b", .str y)] (bodyAt 4) _
  unfold subC
  cases h : (x == y) with
  | true => 
    show Ex _ _ _ _ _ _ (.ret (.int 0))
    refine Ex.consRet (Ex1.ifT (EvB.is ?_ h) (Ex.consRet (Ex1.ret ?_)))
    kwd_rel
    kwd_rel
  | false =>
    refine Ex.cons (Ex1.ifF (EvB.is ?_ h) Ex.nil) ?_
    kwd_rel
    cases h2 : (Txt.lower x == Txt.lower y) with
    | true =>
      show Ex _ _ _ _ _ _ (.ret (.int 1))
      refine Ex.consRet (Ex1.ifT (EvB.is ?_ h2) (Ex.consRet (Ex1.ret ?_)))
      · kwd_rel
        exact hx
        exact hy
      kwd_rel
    | false =>
      show Ex _ _ _ _ _ _ (.ret (.int 2))
      refine Ex.cons (Ex1.ifF (EvB.is ?_ h2) Ex.nil) (Ex.consRet (Ex1.ret ?_))
      · kwd_rel
        exact hx
        exact hy
      kwd_rel
end

noncomputable section
def c0 : Nat := 0
def c05 : Nat := 4602678819172646912
def c1 : Nat := 4607182418800017408
def c2 : Nat := 4611686018427387904
def c4 : Nat := 4616189618054758400
def c6 : Nat := 4618441417868443648
def cT : Nat := 4599676419421066581
def cS : Nat := 4595172819793696085
def cW : Nat := 4604180019048437077

def vF (m1 m2 hue : Nat) : Nat := force (modN hue 4607182418800017408) fun h =>
  bt (ltN h 4595172819793696085) (addN m1 (mulN (mulN (subN m2 m1) h) 4618441417868443648)) (bt (ltN h 4602678819172646912) m2 (bt (ltN h 4604180019048437077) (addN m1 (mulN (mulN (subN m2 m1) (subN 4604180019048437077 h)) 4618441417868443648)) m1))
end

theorem F_bt (b : Bool) (x y : Nat) : F (bt b x y) = bt b (F x) (F y) := by cases b <;> rfl

section
variable {C : Cx} {n : Nat} (H : Hd C)
include H
theorem fn_v {m1 m2 hue : Nat} : Fn C (n + 1) (.ref H.f12) [F m1, F m2, F hue] (F (vF m1 m2 hue)) := by
  refine H.d12.fn (by decide +kernel) rfl ?_
  show Ex C n (scAt 12) [] [("m1", F m1), ("m2", F m2), ("hue", F hue)] (bodyAt 12) _
  unfold vF
  rw [force_eq, F_bt, F_bt, F_bt]
  kwd_less
  · decide +kernel
  generalize modN hue 4607182418800017408 = h
  refine Ex.ifRet ?_ (fun _ => Ex.rets ?_) fun _ => Ex.ifRet ?_ (fun _ => Ex.rets ?_) fun _ => Ex.ifRet ?_ (fun _ => Ex.rets ?_) fun _ => Ex.rets ?_
  all_goals kwd_rel
end
end

-- part G4
section
section
variable {C : Cx} {n : Nat} {sc : Scope} {W : List Addr} {ρ ρ' : Store}
theorem Ex.ifAsgF {test e1 e2 : Expr} {x : PySem.Str} {p1 q1 p2 q2 pos : Pos} {ss : List Stmt} {out : Out} {b : Bool} {a1 a2 : Nat} (hw1 : ∀ env, EnvOK sc env → swapsWith e1 (some (.Name x p1)) q1.line env = pure false) (hw2 : ∀ env, EnvOK sc env → swapsWith e2 (some (.Name x p2)) q2.line env = pure false)
    (hx : stoB sc x = true) (hr : Rm x ρ ρ') (ht : EvB C n sc ρ test b) (h1 : b = true → Ev C n sc ρ e1 (F a1)) (h2 : b = false → Ev C n sc ρ e2 (F a2)) (k : Ex C n sc W ((x, F (bt b a1 a2)) :: ρ') ss out) :
    Ex C n sc W ρ (.If test [.Assign [.Name x p1] e1 q1] [.Assign [.Name x p2] e2 q2] pos :: ss) out := by
  cases b with
  | true => exact Ex.cons (Ex1.ifT ht (Ex.asg hw1 hx hr (h1 rfl) Ex.nil)) k
  | false => exact Ex.cons (Ex1.ifF ht (Ex.asg hw2 hx hr (h2 rfl) Ex.nil)) k
theorem Ex.ifAsgF3 {test test2 e1 e2 e3 : Expr} {x : PySem.Str} {p1 q1 p2 q2 p3 q3 pos pos2 : Pos} {ss : List Stmt} {out : Out} {b b2 : Bool} {a1 a2 a3 : Nat} (hw1 : ∀ env, EnvOK sc env → swapsWith e1 (some (.Name x p1)) q1.line env = pure false) (hw2 : ∀ env, EnvOK sc env → swapsWith e2 (some (.Name x p2)) q2.line env = pure false)
    (hw3 : ∀ env, EnvOK sc env → swapsWith e3 (some (.Name x p3)) q3.line env = pure false)
    (hx : stoB sc x = true) (hr : Rm x ρ ρ') (ht : EvB C n sc ρ test b) (ht2 : EvB C n sc ρ test2 b2) (h1 : Ev C n sc ρ e1 (F a1)) (h2 : Ev C n sc ρ e2 (F a2)) (h3 : Ev C n sc ρ e3 (F a3)) (k : Ex C n sc W ((x, F (bt b a1 (bt b2 a2 a3))) :: ρ') ss out) :
    Ex C n sc W ρ (.If test [.Assign [.Name x p1] e1 q1] [.If test2 [.Assign [.Name x p2] e2 q2] [.Assign [.Name x p3] e3 q3] pos2] pos :: ss) out := by
  cases b with
  | true => exact Ex.cons (Ex1.ifT ht (Ex.asg hw1 hx hr h1 Ex.nil)) k
  | false =>
    refine Ex.cons (Ex1.ifF ht ?_) k
    cases b2 with
    | true => exact Ex.cons (Ex1.ifT ht2 (Ex.asg hw2 hx hr h2 Ex.nil)) Ex.nil
    | false => exact Ex.cons (Ex1.ifF ht2 (Ex.asg hw3 hx hr h3 Ex.nil)) Ex.nil
end

abbrev T3 := Nat × Nat × Nat
def D3 (t : T3) : D := .tup [F t.1, F t.2.1, F t.2.2]
theorem D3_bt (b : Bool) (x y : T3) : D3 (bt b x y) = bt b (D3 x) (D3 y) := by cases b <;> rfl

noncomputable section
def hueF (r g b maxc rangec : Nat) : Nat := force (divN (subN maxc r) rangec) fun rc => force (divN (subN maxc g) rangec) fun gc => force (divN (subN maxc b) rangec) fun bc =>
  force (bt (eqN r maxc) (subN bc gc) (bt (eqN g maxc) (subN (addN 4611686018427387904 rc) bc) (subN (addN 4616189618054758400 gc) rc))) fun h => modN (divN h 4618441417868443648) 4607182418800017408
def rgbHsvF (r g b : Nat) : T3 := force (fmaxN (fmaxN r g) b) fun maxc => force (fminN (fminN r g) b) fun minc => force (subN maxc minc) fun rangec =>
  bt (eqN minc maxc) (0, 0, maxc) (force (divN rangec maxc) fun s => force (hueF r g b maxc rangec) fun h => (h, s, maxc))
def okHsv (r g b : Nat) : Bool := force (fmaxN (fmaxN r g) b) fun maxc => force (fminN (fminN r g) b) fun minc => bt (eqN minc maxc) true (bt (okD maxc) (okD (subN maxc minc)) false)
def rgbHlsF (r g b : Nat) : T3 := force (fmaxN (fmaxN r g) b) fun maxc => force (fminN (fminN r g) b) fun minc => force (addN maxc minc) fun sumc => force (subN maxc minc) fun rangec => force (divN sumc 4611686018427387904) fun l =>
  bt (eqN minc maxc) (0, l, 0) (force (bt (ltN l 4602678819172646912 || eqN l 4602678819172646912) (divN rangec sumc) (divN rangec (subN (subN 4611686018427387904 maxc) minc))) fun s => force (hueF r g b maxc rangec) fun h => (h, l, s))
def okHls (r g b : Nat) : Bool := force (fmaxN (fmaxN r g) b) fun maxc => force (fminN (fminN r g) b) fun minc => force (addN maxc minc) fun sumc => force (divN sumc 4611686018427387904) fun l =>
  bt (eqN minc maxc) true (bt (okD (subN maxc minc)) (bt (ltN l 4602678819172646912 || eqN l 4602678819172646912) (okD sumc) (okD (subN (subN 4611686018427387904 maxc) minc))) false)
def hlsRgbF (h l s : Nat) : T3 := bt (eqN s 0) (l, l, l) (force (bt (ltN l 4602678819172646912 || eqN l 4602678819172646912) (mulN l (addN 4607182418800017408 s)) (subN (addN l s) (mulN l s))) fun m2 => force (subN (mulN 4611686018427387904 l) m2) fun m1 =>
  force (vF m1 m2 (addN h 4599676419421066581)) fun r => force (vF m1 m2 h) fun g => force (vF m1 m2 (subN h 4599676419421066581)) fun b => (r, g, b))
end

section
variable {C : Cx} {n : Nat} (H : Hd C)
include H
theorem fn_hsv {r g b : Nat} (ok : okHsv r g b = true) : Fn C (n + 1) (.ref H.f13) [F r, F g, F b] (D3 (rgbHsvF r g b)) := by
  refine H.d13.fn (by decide +kernel) rfl ?_
  show Ex C n (scAt 13) [] [("r", F r), ("g", F g), ("b", F b)] (bodyAt 13) _
  unfold rgbHsvF hueF
  unfold okHsv at ok
  simp only [force_eq] at ok ⊢
  rw [D3_bt]
  unfold D3
  dsimp only
  kwd_less
  generalize fmaxN (fmaxN r g) b = maxc at ok ⊢
  kwd_less
  generalize fminN (fminN r g) b = minc at ok ⊢
  kwd_less
  generalize hrange : subN maxc minc = rangec at ok ⊢
  kwd_less
  refine Ex.ifRet ?_ (fun _ => Ex.rets ?_) fun hb => ?_
  · kwd_rel
  · kwd_rel
  rw [bt_f hb] at ok
  have ok1 : okD maxc = true := by
    cases q : okD maxc with
    | true => rfl
    | false => rw [bt_f q] at ok; cases ok
  rw [bt_t ok1] at ok
  kwd_less
  · exact ok1
  generalize divN rangec maxc = s
  kwd_less
  · exact ok
  generalize divN (subN maxc r) rangec = rc
  kwd_less
  · exact ok
  generalize divN (subN maxc g) rangec = gc
  kwd_less
  · exact ok
  generalize divN (subN maxc b) rangec = bc
  refine Ex.ifAsgF3 (b := eqN r maxc) (b2 := eqN g maxc) (a1 := subN bc gc) (a2 := subN (addN 4611686018427387904 rc) bc) (a3 := subN (addN 4616189618054758400 gc) rc) (fun _ _ => rfl) (fun _ _ => rfl) (fun _ _ => rfl) (by decide +kernel) (by ktr_rel) ?_ ?_ ?_ ?_ ?_ ?_
  any_goals kwd_rel
  kwd_less
  · decide +kernel
  · decide +kernel
  refine Ex.rets ?_
  kwd_rel
end
end

-- part G5
section
theorem Ex.ifNo {C : Cx} {n : Nat} {sc : Scope} {W : List Addr} {ρ : Store} {test : Expr} {body ss : List Stmt} {pos : Pos} {out : Out} (ht : EvB C n sc ρ test false) (k : Ex C n sc W ρ ss out) : Ex C n sc W ρ (.If test body [] pos :: ss) out := Ex.cons (Ex1.ifF ht Ex.nil) k
theorem Ex.ifYes {C : Cx} {n : Nat} {sc : Scope} {W : List Addr} {ρ : Store} {test : Expr} {body ss : List Stmt} {pos : Pos} {d : D} (ht : EvB C n sc ρ test true) (k : Ex C n sc W ρ body (.ret d)) : Ex C n sc W ρ (.If test body [] pos :: ss) (.ret d) := Ex.consRet (Ex1.ifT ht k)
theorem fmod_nat (a b : Nat) : Int.fmod (a : Int) (b : Int) = ((a % b : Nat) : Int) := by
  rw [Int.fmod_eq_emod_of_nonneg _ (Int.natCast_nonneg b), Int.natCast_emod]
theorem fdiv_nat (a b : Nat) : Int.fdiv (a : Int) (b : Int) = ((a / b : Nat) : Int) := by
  rw [Int.fdiv_eq_ediv_of_nonneg _ (Int.natCast_nonneg b), Int.natCast_ediv]
theorem bt_and {a b c : Bool} (h : bt a (bt b c false) false = true) : a = true ∧ b = true ∧ c = true := by cases a <;> cases b <;> cases c <;> first | exact ⟨rfl, rfl, rfl⟩ | cases h
theorem bt_and2 {a b : Bool} (h : bt a b false = true) : a = true ∧ b = true := by cases a <;> cases b <;> first | exact ⟨rfl, rfl⟩ | cases h

section
variable {C : Cx} {n : Nat} (H : Hd C)
include H
theorem fn_hls {r g b : Nat} (ok : okHls r g b = true) : Fn C (n + 1) (.ref H.f10) [F r, F g, F b] (D3 (rgbHlsF r g b)) := by
  refine H.d10.fn (by decide +kernel) rfl ?_
  show Ex C n (scAt 10) [] [("r", F r), ("g", F g), ("b", F b)] (bodyAt 10) _
  unfold rgbHlsF hueF
  unfold okHls at ok
  simp only [force_eq] at ok ⊢
  rw [D3_bt]
  unfold D3
  dsimp only
  kwd_less
  generalize fmaxN (fmaxN r g) b = maxc at ok ⊢
  kwd_less
  generalize fminN (fminN r g) b = minc at ok ⊢
  kwd_less
  generalize addN maxc minc = sumc at ok ⊢
  kwd_less
  generalize hrange : subN maxc minc = rangec at ok ⊢
  kwd_less
  · decide +kernel
  generalize divN sumc 4611686018427387904 = l at ok ⊢
  refine Ex.ifRet ?_ (fun _ => Ex.rets ?_) fun hb => ?_
  · kwd_rel
  · kwd_rel
  rw [bt_f hb] at ok
  obtain ⟨ok1, ok2⟩ := bt_and2 ok
  refine Ex.ifAsgF (b := ltN l 4602678819172646912 || eqN l 4602678819172646912) (a1 := divN rangec sumc) (a2 := divN rangec (subN (subN 4611686018427387904 maxc) minc)) (fun _ _ => rfl) (fun _ _ => rfl) (by decide +kernel) (by ktr_rel) ?_ (fun h => ?_) (fun h => ?_) ?_
  · kwd_rel
  · kwd_rel
    rw [bt_t h] at ok2; exact ok2
  · kwd_rel
    rw [bt_f h] at ok2; exact ok2
  generalize bt (ltN l 4602678819172646912 || eqN l 4602678819172646912) (divN rangec sumc) (divN rangec (subN (subN 4611686018427387904 maxc) minc)) = s
  kwd_less
  · exact ok1
  generalize divN (subN maxc r) rangec = rc
  kwd_less
  · exact ok1
  generalize divN (subN maxc g) rangec = gc
  kwd_less
  · exact ok1
  generalize divN (subN maxc b) rangec = bc
  refine Ex.ifAsgF3 (b := eqN r maxc) (b2 := eqN g maxc) (a1 := subN bc gc) (a2 := subN (addN 4611686018427387904 rc) bc) (a3 := subN (addN 4616189618054758400 gc) rc) (fun _ _ => rfl) (fun _ _ => rfl) (fun _ _ => rfl) (by decide +kernel) (by ktr_rel) ?_ ?_ ?_ ?_ ?_ ?_
  any_goals kwd_rel
  kwd_less
  · decide +kernel
  · decide +kernel
  refine Ex.rets ?_
  kwd_rel

theorem fn_hlsrgb {h l s : Nat} : Fn C (n + 2) (.ref H.f11) [F h, F l, F s] (D3 (hlsRgbF h l s)) := by
  refine H.d11.fn (by decide +kernel) rfl ?_
  show Ex C (n + 1) (scAt 11) [] [("h", F h), ("l", F l), ("s", F s)] (bodyAt 11) _
  unfold hlsRgbF
  simp only [force_eq]
  rw [D3_bt]
  unfold D3
  dsimp only
  refine Ex.ifRet ?_ (fun _ => Ex.rets ?_) fun hb => ?_
  · kwd_rel
  · kwd_rel
  refine Ex.ifAsgF (b := ltN l 4602678819172646912 || eqN l 4602678819172646912) (a1 := mulN l (addN 4607182418800017408 s)) (a2 := subN (addN l s) (mulN l s)) (fun _ _ => rfl) (fun _ _ => rfl) (by decide +kernel) (by ktr_rel) ?_ (fun h => ?_) (fun h => ?_) ?_
  any_goals kwd_rel
  generalize bt (ltN l 4602678819172646912 || eqN l 4602678819172646912) (mulN l (addN 4607182418800017408 s)) (subN (addN l s) (mulN l s)) = m2
  kwd_less
  generalize subN (mulN 4611686018427387904 l) m2 = m1
  refine Ex.rets ?_
  kwd_rel
  · exact fn_v H
  · exact fn_v H
  · exact fn_v H
end

noncomputable section
def hsvRgbF (h s v : Nat) : T3 := bt (eqN s 0) (v, v, v) (force (mulN h 4618441417868443648) fun h6 => force (wholeN h6) fun i => force (subN h6 (ratN i 1)) fun f =>
  force (mulN v (subN 4607182418800017408 s)) fun p => force (mulN v (subN 4607182418800017408 (mulN s f))) fun q => force (mulN v (subN 4607182418800017408 (mulN s (subN 4607182418800017408 f)))) fun t =>
  force (Nat.mod i 6) fun j => bt (Nat.beq j 0) (v, t, p) (bt (Nat.beq j 1) (q, v, p) (bt (Nat.beq j 2) (p, v, t) (bt (Nat.beq j 3) (p, q, v) (bt (Nat.beq j 4) (t, p, v) (v, p, q))))))
def okRgb (h s : Nat) : Bool := bt (eqN s 0) true (force (mulN h 4618441417868443648) fun h6 => bt (finN (magN h6)) (bt (negN h6) false (Nat.ble (wholeN h6) 1000)) false)
end

section
variable {C : Cx} {n : Nat} (H : Hd C)
include H
theorem fn_hsvrgb {h s v : Nat} (ok : okRgb h s = true) : Fn C (n + 2) (.ref H.f14) [F h, F s, F v] (D3 (hsvRgbF h s v)) := by
  refine H.d14.fn (by decide +kernel) rfl ?_
  show Ex C (n + 1) (scAt 14) [] [("h", F h), ("s", F s), ("v", F v)] (bodyAt 14) _
  unfold hsvRgbF
  unfold okRgb at ok
  simp only [force_eq] at ok ⊢
  rw [D3_bt]
  refine Ex.ifRet ?_ (fun _ => Ex.rets ?_) fun hb => ?_
  · kwd_rel
  · show Ev _ _ _ _ _ (.tup [F v, F v, F v])
    kwd_rel
  rw [bt_f hb] at ok
  obtain ⟨ok1, ok2⟩ := bt_and2 ok
  have ok3 : negN (mulN h 4618441417868443648) = false := by
    cases q : negN (mulN h 4618441417868443648) with
    | false => rfl
    | true => rw [bt_t q] at ok2; cases ok2
  rw [bt_f ok3] at ok2
  have ok4 : wholeN (mulN h 4618441417868443648) < 2 ^ 53 := Nat.lt_of_le_of_lt (Nat.ble_eq.mp ok2) (by decide)
  kwd_less
  · exact ok1
  · exact ok3
  generalize wholeN (mulN h 4618441417868443648) = i at ok4 ⊢
  kwd_less
  · exact ok4
  generalize subN (mulN h 4618441417868443648) (ratN i 1) = f
  kwd_less
  generalize mulN v (subN 4607182418800017408 s) = p
  kwd_less
  generalize mulN v (subN 4607182418800017408 (mulN s f)) = q
  kwd_less
  generalize mulN v (subN 4607182418800017408 (mulN s (subN 4607182418800017408 f))) = t
  kwd_less
  · decide
  have e : Int.fmod (i : Int) 6 = ((i % 6 : Nat) : Int) := fmod_nat i 6
  rw [e]
  have hj : i % 6 < 6 := Nat.mod_lt _ (by decide)
  show Ex _ _ _ _ _ _ (.ret (D3 (bt (Nat.beq (i % 6) 0) (v, t, p) (bt (Nat.beq (i % 6) 1) (q, v, p) (bt (Nat.beq (i % 6) 2) (p, v, t) (bt (Nat.beq (i % 6) 3) (p, q, v) (bt (Nat.beq (i % 6) 4) (t, p, v) (v, p, q))))))))
  generalize i % 6 = j at hj ⊢
  have hj' : j = 0 ∨ j = 1 ∨ j = 2 ∨ j = 3 ∨ j = 4 ∨ j = 5 := by omega
  rcases hj' with rfl | rfl | rfl | rfl | rfl | rfl
  · show Ex _ _ _ _ _ _ (.ret (.tup [F v, F t, F p]))
    refine Ex.ifYes (EvB.is (b := ((0 : Nat) : Int) == 0) ?_ rfl) (Ex.rets ?_)
    all_goals kwd_rel
  · show Ex _ _ _ _ _ _ (.ret (.tup [F q, F v, F p]))
    refine Ex.ifNo (EvB.is (b := ((1 : Nat) : Int) == 0) ?_ rfl) (Ex.ifYes (EvB.is (b := ((1 : Nat) : Int) == 1) ?_ rfl) (Ex.rets ?_))
    all_goals kwd_rel
  · show Ex _ _ _ _ _ _ (.ret (.tup [F p, F v, F t]))
    refine Ex.ifNo (EvB.is (b := ((2 : Nat) : Int) == 0) ?_ rfl) (Ex.ifNo (EvB.is (b := ((2 : Nat) : Int) == 1) ?_ rfl) (Ex.ifYes (EvB.is (b := ((2 : Nat) : Int) == 2) ?_ rfl) (Ex.rets ?_)))
    all_goals kwd_rel
  · show Ex _ _ _ _ _ _ (.ret (.tup [F p, F q, F v]))
    refine Ex.ifNo (EvB.is (b := ((3 : Nat) : Int) == 0) ?_ rfl) (Ex.ifNo (EvB.is (b := ((3 : Nat) : Int) == 1) ?_ rfl) (Ex.ifNo (EvB.is (b := ((3 : Nat) : Int) == 2) ?_ rfl) (Ex.ifYes (EvB.is (b := ((3 : Nat) : Int) == 3) ?_ rfl) (Ex.rets ?_))))
    all_goals kwd_rel
  · show Ex _ _ _ _ _ _ (.ret (.tup [F t, F p, F v]))
    refine Ex.ifNo (EvB.is (b := ((4 : Nat) : Int) == 0) ?_ rfl) (Ex.ifNo (EvB.is (b := ((4 : Nat) : Int) == 1) ?_ rfl) (Ex.ifNo (EvB.is (b := ((4 : Nat) : Int) == 2) ?_ rfl) (Ex.ifNo (EvB.is (b := ((4 : Nat) : Int) == 3) ?_ rfl) (Ex.ifYes (EvB.is (b := ((4 : Nat) : Int) == 4) ?_ rfl) (Ex.rets ?_)))))
    all_goals kwd_rel
  · show Ex _ _ _ _ _ _ (.ret (.tup [F v, F p, F q]))
    refine Ex.ifNo (EvB.is (b := ((5 : Nat) : Int) == 0) ?_ rfl) (Ex.ifNo (EvB.is (b := ((5 : Nat) : Int) == 1) ?_ rfl) (Ex.ifNo (EvB.is (b := ((5 : Nat) : Int) == 2) ?_ rfl) (Ex.ifNo (EvB.is (b := ((5 : Nat) : Int) == 3) ?_ rfl) (Ex.ifNo (EvB.is (b := ((5 : Nat) : Int) == 4) ?_ rfl) (Ex.ifYes (EvB.is (b := ((5 : Nat) : Int) == 5) ?_ rfl) (Ex.rets ?_))))))
    all_goals kwd_rel
end
end

-- part G6
section
section
variable {C : Cx} {m n k : Nat}
theorem Bin.mod_NL (h : Nat.beq k 0 = false) : Bin C m .Mod (.int (n : Int)) (.int (@OfNat.ofNat Int k _)) (.int ((n % k : Nat) : Int)) := by
  rw [← fmod_nat]
  exact @Bin.mod_ii C m (n : Int) (k : Int) (fun e => by rw [Int.natCast_eq_zero] at e; subst e; cases h)
theorem Bin.fdiv_NL (h : Nat.beq k 0 = false) (hs : Nat.ble k 1073741823 = true) : Bin C m .FloorDiv (.int (n : Int)) (.int (@OfNat.ofNat Int k _)) (.int ((n / k : Nat) : Int)) := by
  rw [← fdiv_nat]
  exact @Bin.fdiv_ii C m (n : Int) (k : Int) (fun e => by rw [Int.natCast_eq_zero] at e; subst e; cases h) (by rw [Int.natAbs_natCast]; have := Nat.ble_eq.mp hs; omega)
theorem Bin.add_NL : Bin C m .Add (.int (n : Int)) (.int (@OfNat.ofNat Int k _)) (.int ((n + k : Nat) : Int)) := by
  have e : ((n + k : Nat) : Int) = (n : Int) + (k : Int) := Int.natCast_add ..
  rw [e]; exact @Bin.add_ii C m (n : Int) (k : Int)
theorem Bin.add_NN {a b : Nat} : Bin C m .Add (.int (a : Int)) (.int (b : Int)) (.int ((a + b : Nat) : Int)) := by
  rw [Int.natCast_add]; exact @Bin.add_ii C m _ _
theorem bits_small {k : Nat} (h : Nat.ble k 4294967296 = true) : Builtin.Int.intBits (k : Int) ≤ 64 := by
  have h' := Nat.ble_eq.mp h
  unfold Builtin.Int.intBits
  rw [Int.natAbs_natCast]
  split
  · omega
  · rename_i h0
    have h0' : k ≠ 0 := by simpa using h0
    have : k.log2 < 33 := (Nat.log2_lt h0').mpr (by omega)
    omega
theorem Bin.mul_LN (h : Nat.ble k 4294967296 = true) : Bin C m .Mult (.int (@OfNat.ofNat Int k _)) (.int (n : Int)) (.int ((k * n : Nat) : Int)) := by
  rw [Int.natCast_mul]; exact @Bin.mul_ii C m (k : Int) (n : Int) (.of_left (bits_small h))
theorem Bin.mul_NL (h : Nat.ble k 4294967296 = true) : Bin C m .Mult (.int (n : Int)) (.int (@OfNat.ofNat Int k _)) (.int ((n * k : Nat) : Int)) := by
  rw [Int.natCast_mul]; exact @Bin.mul_ii C m (n : Int) (k : Int) (.of_right (bits_small h))
theorem Bin.div_NL (h : Nat.beq k 0 = false) (hf : finN (magN (ratN n k)) = true) : Bin C m .Div (.int (n : Int)) (.int (@OfNat.ofNat Int k _)) (F (ratN n k)) :=
  @Bin.div_II C m n k (fun e => by subst e; cases h) hf
theorem Bin.mul_LF {a : Nat} (h : Nat.ble k 4294967296 = true) : Bin C m .Mult (.int (@OfNat.ofNat Int k _)) (F a) (F (mulN (ratN k 1) a)) :=
  @Bin.mul_IF C m a k (Nat.lt_of_le_of_lt (Nat.ble_eq.mp h) (by decide))
theorem Bin.mod_FL {a : Nat} (h : Nat.ble k 4294967296 = true) (ho : okD (ratN k 1) = true) : Bin C m .Mod (F a) (.int (@OfNat.ofNat Int k _)) (F (modN a (ratN k 1))) :=
  @Bin.mod_FI C m a k (Nat.lt_of_le_of_lt (Nat.ble_eq.mp h) (by decide)) ho
theorem Cmp.lt_FL {a : Nat} (h : Nat.ble 1 k = true) : Cmp C m .Lt (F a) (.int (@OfNat.ofNat Int k _)) (ltIN a k) := @Cmp.lt_FI C m a k (Nat.ble_eq.mp h)
theorem Bin.pow20 : Bin C m .Pow (.int 2) (.int 20) (.int ((1048576 : Nat) : Int)) := @Bin.pow_ii C m 2 20 (by decide) (by decide) (by decide) (by decide) (by decide)
theorem Bin.pow18 : Bin C m .Pow (.int 2) (.int 18) (.int ((262144 : Nat) : Int)) := @Bin.pow_ii C m 2 18 (by decide) (by decide) (by decide) (by decide) (by decide)
theorem Bin.mul_NN {a b : Nat} (h : Nat.ble a 4294967296 = true) : Bin C m .Mult (.int (a : Int)) (.int (b : Int)) (.int ((a * b : Nat) : Int)) := by
  rw [Int.natCast_mul]; exact @Bin.mul_ii C m (a : Int) (b : Int) (.of_left (bits_small h))
theorem Bin.mul_NF {a b : Nat} (h : Nat.ble b 4294967296 = true) : Bin C m .Mult (.int (b : Int)) (F a) (F (mulN (ratN b 1) a)) :=
  @Bin.mul_IF C m a b (Nat.lt_of_le_of_lt (Nat.ble_eq.mp h) (by decide))
theorem natTrue (a : Nat) : ((a : Int) != 0) = bt (Nat.beq a 0) false true := by
  cases a with
  | zero => rfl
  | succ a =>
    have e : (((a + 1 : Nat) : Int) != 0) = true := by rw [bne_iff_ne]; omega
    exact e
variable {sc : Scope} {ρ : Store}
theorem EvB.nat {e : Expr} {a : Nat} (hi : ∀ env w, isTrue e env w = (do let v ← w; standAt e.pos; holding [v] (truthy v))) (he : Ev C m sc ρ e (.int (a : Int))) : EvB C m sc ρ e (bt (Nat.beq a 0) false true) := by
  rw [← natTrue]; exact @EvB.val C m sc ρ e _ _ he Tr.int hi
theorem Ev.ite' {test body orelse : Expr} {pos : Pos} {b : Bool} {d e : D} (ht : EvB C m sc ρ test b) (hb : Ev C m sc ρ body d) (ho : Ev C m sc ρ orelse e) : Ev C m sc ρ (.IfExp test body orelse pos) (bt b d e) := by
  cases b with
  | true => exact Ev.ifT ht hb
  | false => exact Ev.ifF ht ho
theorem Seqy.bt {b : Bool} {x y : D} (hx : Seqy x) (hy : Seqy y) : Seqy (Mine.bt b x y) := by cases b <;> assumption
end
end

-- part G7a
section
section
variable {C : Cx} {n : Nat} {sc : Scope} {W : List Addr} {ρ : Store} {env : Env}
theorem EnvOK.block (O : EnvOK sc env) : env.blockKind = .function := by
  unfold Env.blockKind
  rw [O.kind]
  rfl
theorem pos_name (x : PySem.Str) (p : Pos) : (Expr.Name x p).pos = p := rfl
theorem swapped2 {x y : PySem.Str} {p q tp vp : Pos} {k kk : Nat} {vs : List Expr} (O : EnvOK sc env) (hx : sc.names.lookup x = some .local) (hy : sc.names.lookup y = some .local) (hne : (x == y) = false) (hl : (q.line == p.line) = true) (hv : vs.length = 2)
    (h1 : (vs.any fun | .Starred .. => true | _ => false) = false) (h2 : vs.all (foldedForSure 8) = false) (h3 : vs.all (constantsAlone 8) = false) : swappedStores [.Tuple [.Name x p, .Name y q] k tp] (.Tuple vs kk vp) env = pure (some [x, y]) := by
  have e1 := O.lo x hx
  have e2 := O.lo y hy
  have e3 := O.block
  have hne' : x ≠ y := by simpa using hne
  have hl' : q.line = p.line := by simpa using hl
  unfold swappedStores
  simp only [List.length_cons, List.length_nil, hv, e3, h2, h3, List.filterMap_cons, e1, e2, List.filterMap_nil, pos_name, List.head?_cons, Option.map_some, Option.getD_some, hl', beq_self_eq_true, Bool.and_self, if_true]
  simp [List.eraseDups_cons, Ne.symm hne']
  exact fun z hz hm => absurd (List.any_eq_true.mpr ⟨z, hz, hm⟩) (by rw [h1]; decide)
theorem swapped3 {x y z : PySem.Str} {p q r tp vp : Pos} {k kk : Nat} {vs : List Expr} (O : EnvOK sc env) (hx : sc.names.lookup x = some .local) (hy : sc.names.lookup y = some .local) (hz : sc.names.lookup z = some .local) (hne : ((x == y) || (x == z) || (y == z)) = false) (hl : (q.line == p.line) = true) (hl2 : (r.line == p.line) = true) (hv : vs.length = 3)
    (h1 : (vs.any fun | .Starred .. => true | _ => false) = false) (h2 : vs.all (foldedForSure 8) = false) (h3 : vs.all (constantsAlone 8) = false) : swappedStores [.Tuple [.Name x p, .Name y q, .Name z r] k tp] (.Tuple vs kk vp) env = pure (some [x, y, z]) := by
  have e1 := O.lo x hx
  have e2 := O.lo y hy
  have e4 := O.lo z hz
  have e3 := O.block
  simp only [Bool.or_eq_false_iff, beq_eq_false_iff_ne] at hne
  obtain ⟨⟨n1, n2⟩, n3⟩ := hne
  have hl' : q.line = p.line := by simpa using hl
  have hl2' : r.line = p.line := by simpa using hl2
  unfold swappedStores
  simp only [List.length_cons, List.length_nil, hv, e3, h2, h3, List.filterMap_cons, e1, e2, e4, List.filterMap_nil, pos_name, List.head?_cons, Option.map_some, Option.getD_some, hl', hl2', beq_self_eq_true, Bool.and_self, if_true]
  simp [List.eraseDups_cons, Ne.symm n1, Ne.symm n2, Ne.symm n3]
  exact fun z hz hm => absurd (List.any_eq_true.mpr ⟨z, hz, hm⟩) (by rw [h1]; decide)
/-- one of the two is a cell -/
theorem unswapped2 {x y : PySem.Str} {p q tp : Pos} {k : Nat} {e : Expr} (O : EnvOK sc env) (hy : sc.names.lookup y = some .cell) : swappedStores [.Tuple [.Name x p, .Name y q] k tp] e env = pure none := by
  have e2 := (O.ce y hy).1
  unfold swappedStores
  cases e with
  | Tuple vs kk vp =>
    simp only [e2, List.filterMap_cons, List.filterMap_nil, List.head?_cons, Option.map_some, Option.getD_some, pos_name]
    refine (ite_eq_left_iff.mpr fun h1 => ?_)
    refine (ite_eq_left_iff.mpr fun h2 => ?_)
    have e4 : (some NameKind.cell == some NameKind.local) = false := by decide
    refine if_pos ?_
    simp only [e4, beq_self_eq_true, Bool.and_true]
    cases env.kindOf x == some NameKind.local <;> rfl
  | _ => rfl

theorem Ex.expose {b : List Stmt} {st : Stmt} {ss : List Stmt} {out : Out} (e : b = st :: ss) (h : Ex C n sc W ρ (st :: ss) out) : Ex C n sc W ρ b out := e ▸ h
def locB (sc : Scope) (x : PySem.Str) : Bool := sc.names.lookup x == some .local
theorem locB_ok {x : PySem.Str} (h : locB sc x = true) : sc.names.lookup x = some .local := by unfold locB at h; exact beq_iff_eq.mp h
theorem Rm.two {x y : PySem.Str} {ρ ρ1 ρ2 : Store} (h1 : Rm x ρ ρ1) (h2 : Rm y ρ1 ρ2) : (∀ p ∈ ρ2, p ∈ ρ) ∧ ∀ p ∈ ρ2, p.1 ∉ [x, y] :=
  ⟨fun p hp => h1.ok.1 p (h2.ok.1 p hp), fun p hp hm => by
    rcases List.mem_cons.mp hm with e | hm
    · exact h1.ok.2 p (h2.ok.1 p hp) e
    · exact h2.ok.2 p hp (List.mem_singleton.mp hm)⟩
theorem Rm.three {x y z : PySem.Str} {ρ ρ1 ρ2 ρ3 : Store} (h1 : Rm x ρ ρ1) (h2 : Rm y ρ1 ρ2) (h3 : Rm z ρ2 ρ3) : (∀ p ∈ ρ3, p ∈ ρ) ∧ ∀ p ∈ ρ3, p.1 ∉ [x, y, z] :=
  ⟨fun p hp => h1.ok.1 p ((h2.two h3).1 p hp), fun p hp hm => by
    rcases List.mem_cons.mp hm with e | hm
    · exact h1.ok.2 p ((h2.two h3).1 p hp) e
    · exact (h2.two h3).2 p hp hm⟩
theorem Rm.four {x y z w : PySem.Str} {ρ ρ1 ρ2 ρ3 ρ4 : Store} (h1 : Rm x ρ ρ1) (h2 : Rm y ρ1 ρ2) (h3 : Rm z ρ2 ρ3) (h4 : Rm w ρ3 ρ4) : (∀ p ∈ ρ4, p ∈ ρ) ∧ ∀ p ∈ ρ4, p.1 ∉ [x, y, z, w] :=
  ⟨fun p hp => h1.ok.1 p ((h2.three h3 h4).1 p hp), fun p hp hm => by
    rcases List.mem_cons.mp hm with e | hm
    · exact h1.ok.2 p ((h2.three h3 h4).1 p hp) e
    · exact (h2.three h3 h4).2 p hp hm⟩
theorem nodup2 {x y : PySem.Str} (h : (x == y) = false) : [x, y].Nodup := by
  have : x ≠ y := by simpa using h
  simp [this]
theorem nodup3 {x y z : PySem.Str} (h : ((x == y) || (x == z) || (y == z)) = false) : [x, y, z].Nodup := by
  simp only [Bool.or_eq_false_iff, beq_eq_false_iff_ne] at h
  simp [h]
theorem Ex.swap2 {x y : PySem.Str} {p q tp vp pos : Pos} {k kk : Nat} {vs : List Expr} {ss : List Stmt} {out : Out} {d1 d2 : D} {ρ1 ρ2 : Store} (hL : (locB sc x && locB sc y) = true) (hne : (x == y) = false) (hl : (q.line == p.line) = true) (hv : vs.length = 2)
    (h1 : (vs.any fun | .Starred .. => true | _ => false) = false) (h2 : vs.all (foldedForSure 8) = false) (h3 : vs.all (constantsAlone 8) = false) (hsw : ∀ env, swapsWithSole [.Tuple [.Name x p, .Name y q] k tp] (.Tuple vs kk vp) pos.line env = pure false)
    (r1 : Rm x ρ ρ1) (r2 : Rm y ρ1 ρ2) (he : Ev C n sc ρ (.Tuple vs kk vp) (.tup [d1, d2])) (h : Ex C n sc W ((x, d1) :: (y, d2) :: ρ2) ss out) : Ex C n sc W ρ (.Assign [.Tuple [.Name x p, .Name y q] k tp] (.Tuple vs kk vp) pos :: ss) out := by
  simp only [Bool.and_eq_true] at hL
  have a := locB_ok hL.1
  have b := locB_ok hL.2
  have r := r1.two r2
  have hx : ∀ z ∈ [x, y], Sto sc z := fun z hz => by
    rcases List.mem_cons.mp hz with e | hz
    · rw [e]; exact .inl a
    · rw [List.mem_singleton.mp hz]; exact .inl b
  have q : Ex1 C n sc W ρ (.Assign [.Tuple [.Name x p, .Name y q] k tp] (.Tuple vs kk vp) pos) (.next ((x, d1) :: (y, d2) :: ρ2)) := @Ex1.swap C n sc W ρ [x, y] _ _ _ _ _ _ _ _ he rfl (nodup2 hne) hx r.1 r.2 (fun p hp => hp) (fun env O => swapped2 O a b hne hl hv h1 h2 h3) hsw
  exact @Ex.cons C n sc W ρ _ _ _ _ q h
theorem Ex.swap3 {x y z : PySem.Str} {p q r tp vp pos : Pos} {k kk : Nat} {vs : List Expr} {ss : List Stmt} {out : Out} {d1 d2 d3 : D} {ρ1 ρ2 ρ3 : Store} (hL : (locB sc x && locB sc y && locB sc z) = true) (hne : ((x == y) || (x == z) || (y == z)) = false) (hl : (q.line == p.line) = true) (hl2 : (r.line == p.line) = true) (hv : vs.length = 3)
    (h1 : (vs.any fun | .Starred .. => true | _ => false) = false) (h2 : vs.all (foldedForSure 8) = false) (h3 : vs.all (constantsAlone 8) = false) (hsw : ∀ env, swapsWithSole [.Tuple [.Name x p, .Name y q, .Name z r] k tp] (.Tuple vs kk vp) pos.line env = pure false)
    (r1 : Rm x ρ ρ1) (r2 : Rm y ρ1 ρ2) (r3 : Rm z ρ2 ρ3) (he : Ev C n sc ρ (.Tuple vs kk vp) (.tup [d1, d2, d3])) (h : Ex C n sc W ((x, d1) :: (y, d2) :: (z, d3) :: ρ3) ss out) : Ex C n sc W ρ (.Assign [.Tuple [.Name x p, .Name y q, .Name z r] k tp] (.Tuple vs kk vp) pos :: ss) out := by
  simp only [Bool.and_eq_true] at hL
  have a := locB_ok hL.1.1
  have b := locB_ok hL.1.2
  have c := locB_ok hL.2
  have r' := r1.three r2 r3
  have hx : ∀ v ∈ [x, y, z], Sto sc v := fun v hz => by
    rcases List.mem_cons.mp hz with e | hz
    · rw [e]; exact .inl a
    rcases List.mem_cons.mp hz with e | hz
    · rw [e]; exact .inl b
    · rw [List.mem_singleton.mp hz]; exact .inl c
  have q : Ex1 C n sc W ρ (.Assign [.Tuple [.Name x p, .Name y q, .Name z r] k tp] (.Tuple vs kk vp) pos) (.next ((x, d1) :: (y, d2) :: (z, d3) :: ρ3)) := @Ex1.swap C n sc W ρ [x, y, z] _ _ _ _ _ _ _ _ he rfl (nodup3 hne) hx r'.1 r'.2 (fun p hp => hp) (fun env O => swapped3 O a b c hne hl hl2 hv h1 h2 h3) hsw
  exact @Ex.cons C n sc W ρ _ _ _ _ q h
theorem Ex.unpack2 {x y : PySem.Str} {p q tp pos : Pos} {k : Nat} {e : Expr} {ss : List Stmt} {out : Out} {d1 d2 : D} {ρ1 ρ2 : Store} (hL : (stoB sc x && stoB sc y) = true) (hne : (x == y) = false)
    (hw : ∀ env, EnvOK sc env → swappedStores [.Tuple [.Name x p, .Name y q] k tp] e env = pure none) (hsw : ∀ env, swapsWithSole [.Tuple [.Name x p, .Name y q] k tp] e pos.line env = pure false)
    (r1 : Rm x ρ ρ1) (r2 : Rm y ρ1 ρ2) (he : Ev C n sc ρ e (.tup [d1, d2])) (h : Ex C n sc W ((x, d1) :: (y, d2) :: ρ2) ss out) : Ex C n sc W ρ (.Assign [.Tuple [.Name x p, .Name y q] k tp] e pos :: ss) out := by
  simp only [Bool.and_eq_true] at hL
  have r := r1.two r2
  have hx : ∀ z ∈ [(x, p), (y, q)], Sto sc z.1 := fun z hz => by
    rcases List.mem_cons.mp hz with e | hz
    · rw [e]; exact stoB_ok hL.1
    · rw [List.mem_singleton.mp hz]; exact stoB_ok hL.2
  have h2 : ∀ p ∈ (x, d1) :: (y, d2) :: ρ2, p ∈ ([x, y].zip [d1, d2]).reverse ++ ρ2 := fun p hp => by
    simp at hp ⊢; rcases hp with h | h | h <;> simp [h]
  have q : Ex1 C n sc W ρ (.Assign [.Tuple [.Name x p, .Name y q] k tp] e pos) (.next ((x, d1) :: (y, d2) :: ρ2)) := @Ex1.unpack C n sc W ρ [(x, p), (y, q)] e k tp pos [d1, d2] ρ2 _ he rfl (nodup2 hne) hx r.1 r.2 h2 hw hsw
  exact @Ex.cons C n sc W ρ _ _ _ _ q h
theorem Ex.unpack4 {x y z w : PySem.Str} {p q r t tp pos : Pos} {k : Nat} {e : Expr} {ss : List Stmt} {out : Out} {d1 d2 d3 d4 : D} {ρ1 ρ2 ρ3 ρ4 : Store} (hL : (stoB sc x && stoB sc y && stoB sc z && stoB sc w) = true) (hne : ((x == y) || (x == z) || (x == w) || (y == z) || (y == w) || (z == w)) = false)
    (hw : ∀ env, EnvOK sc env → swappedStores [.Tuple [.Name x p, .Name y q, .Name z r, .Name w t] k tp] e env = pure none) (hsw : ∀ env, swapsWithSole [.Tuple [.Name x p, .Name y q, .Name z r, .Name w t] k tp] e pos.line env = pure false)
    (r1 : Rm x ρ ρ1) (r2 : Rm y ρ1 ρ2) (r3 : Rm z ρ2 ρ3) (r4 : Rm w ρ3 ρ4) (he : Ev C n sc ρ e (.tup [d1, d2, d3, d4])) (h : Ex C n sc W ((x, d1) :: (y, d2) :: (z, d3) :: (w, d4) :: ρ4) ss out) : Ex C n sc W ρ (.Assign [.Tuple [.Name x p, .Name y q, .Name z r, .Name w t] k tp] e pos :: ss) out := by
  simp only [Bool.and_eq_true] at hL
  have r' := r1.four r2 r3 r4
  have hx : ∀ v ∈ [(x, p), (y, q), (z, r), (w, t)], Sto sc v.1 := fun v hz => by
    rcases List.mem_cons.mp hz with e | hz
    · rw [e]; exact stoB_ok hL.1.1.1
    rcases List.mem_cons.mp hz with e | hz
    · rw [e]; exact stoB_ok hL.1.1.2
    rcases List.mem_cons.mp hz with e | hz
    · rw [e]; exact stoB_ok hL.1.2
    · rw [List.mem_singleton.mp hz]; exact stoB_ok hL.2
  have h2 : ∀ p ∈ (x, d1) :: (y, d2) :: (z, d3) :: (w, d4) :: ρ4, p ∈ ([x, y, z, w].zip [d1, d2, d3, d4]).reverse ++ ρ4 := fun p hp => by
    simp at hp ⊢; rcases hp with h | h | h | h | h <;> simp [h]
  have hnd : [x, y, z, w].Nodup := by
    simp only [Bool.or_eq_false_iff, beq_eq_false_iff_ne] at hne
    simp [hne]
  have q : Ex1 C n sc W ρ (.Assign [.Tuple [.Name x p, .Name y q, .Name z r, .Name w t] k tp] e pos) (.next ((x, d1) :: (y, d2) :: (z, d3) :: (w, d4) :: ρ4)) := @Ex1.unpack C n sc W ρ [(x, p), (y, q), (z, r), (w, t)] e k tp pos [d1, d2, d3, d4] ρ4 _ he rfl hnd hx r'.1 r'.2 h2 hw hsw
  exact @Ex.cons C n sc W ρ _ _ _ _ q h
end
end

-- part G7
section
noncomputable section
def paintF (n k : Nat) : T3 := bt (bt (Nat.beq (k % 2) 0) false true) (hsvRgbF (addN (ratN (n / 125 % 72) 72) (ratN (n / 9000 % 4) 1)) (ratN (n / 108000 % 4 + 1) 4) (ratN (n / 36000 % 3 + 1) 4)) (hlsRgbF (subN (ratN (n / 125 % 72) 72) (ratN (n / 9000 % 4) 1)) (ratN (n / 36000 % 3 + 1) 4) (ratN (n / 108000 % 4 + 1) 4))
end
theorem below {p : Nat → Bool} {K : Nat} (h : ((List.range K).all p) = true) {x : Nat} (hx : x < K) : p x = true := List.all_eq_true.mp h x (List.mem_range.mpr hx)
theorem fin72 {x : Nat} (hx : x < 72) : finN (magN (ratN x 72)) = true := below (p := fun x => finN (magN (ratN x 72))) (K := 72) (by decide +kernel) hx
theorem fin4 {x : Nat} (hx : x < 4) : finN (magN (ratN (x + 1) 4)) = true := below (p := fun x => finN (magN (ratN (x + 1) 4))) (K := 4) (by decide +kernel) hx
theorem fin3 {x : Nat} (hx : x < 3) : finN (magN (ratN (x + 1) 4)) = true := fin4 (by omega)
theorem rgb72 {x t s : Nat} (hx : x < 72) (ht : t < 4) (hs : s < 4) : okRgb (addN (ratN x 72) (ratN t 1)) (ratN (s + 1) 4) = true :=
  below (p := fun s => okRgb (addN (ratN x 72) (ratN t 1)) (ratN (s + 1) 4)) (K := 4) (below (p := fun t => (List.range 4).all fun s => okRgb (addN (ratN x 72) (ratN t 1)) (ratN (s + 1) 4)) (K := 4)
    (below (p := fun x => (List.range 4).all fun t => (List.range 4).all fun s => okRgb (addN (ratN x 72) (ratN t 1)) (ratN (s + 1) 4)) (K := 72) (by decide +kernel) hx) ht) hs

section
variable {C : Cx} {n : Nat} (H : Hd C)
include H
theorem fn_paint {m k : Nat} : Fn C (n + 3) (.ref H.f18) [.int (m : Int), .int (k : Int)] (D3 (paintF m k)) := by
  refine H.d18.fn (by decide +kernel) rfl ?_
  show Ex C (n + 2) (scAt 18) [] [("n", .int (m : Int)), ("k", .int (k : Int))] (bodyAt 18) _
  unfold paintF
  rw [D3_bt]
  have h1 : m / 125 % 72 < 72 := Nat.mod_lt _ (by decide)
  have h2 : m / 9000 % 4 < 4 := Nat.mod_lt _ (by decide)
  have h3 : m / 36000 % 3 < 3 := Nat.mod_lt _ (by decide)
  have h4 : m / 108000 % 4 < 4 := Nat.mod_lt _ (by decide)
  refine @Ex.expose _ _ _ _ _ _ _ _ _ rfl ?_
  refine Ex.unpack4 (d1 := F (ratN (m / 125 % 72) 72)) (d2 := .int ((m / 9000 % 4 : Nat) : Int)) (d3 := F (ratN (m / 36000 % 3 + 1) 4)) (d4 := F (ratN (m / 108000 % 4 + 1) 4)) (by decide +kernel) (by decide +kernel) (fun _ _ => rfl) (fun _ => rfl) (by ktr_rel) (by ktr_rel) (by ktr_rel) (by ktr_rel) ?_ (Ex.rets ?_)
  · kwd_rel
    · exact fin72 h1
    · exact fin3 h3
    · exact fin4 h4
  · generalize m / 125 % 72 = a at *
    generalize m / 9000 % 4 = t at *
    generalize m / 36000 % 3 = l at *
    generalize m / 108000 % 4 = s at *
    kwd_rel
    · omega
    · exact fn_hsvrgb H (rgb72 h1 h2 h4)
    · omega
    · exact fn_hlsrgb H
end
end

-- part G8
section
def unF : D → Nat | .flt x => x.toNat | _ => 0
def unI : D → Int | .int i => i | _ => 0
def unN (d : D) : Nat := (unI d).toNat
def can (a : Nat) : Nat := a % 18446744073709551616
theorem unF_F (a : Nat) : unF (F a) = can a := UInt64.toNat_ofNat'
theorem F_can (a : Nat) : F (can a) = F a := by
  unfold F can
  congr 1
  apply UInt64.toNat_inj.mp
  rw [UInt64.toNat_ofNat', UInt64.toNat_ofNat']
  omega
def compB (sc scope : Scope) (x : PySem.Str) : Bool := (scope.kind == .function) && decide (scope.names.map (·.1)).Nodup && (scope.names.lookup x == some .local || scope.names.lookup x == some .cell) &&
  scope.names.all fun y => !(y.2 == .free) || (sc.names.lookup y.1 == some .cell || sc.names.lookup y.1 == some .free)
theorem compB_ok {sc scope : Scope} {x : PySem.Str} (h : compB sc scope x = true) : CompOK sc scope x := by
  unfold compB at h
  simp only [Bool.and_eq_true, beq_iff_eq, decide_eq_true_eq, Bool.or_eq_true, List.all_eq_true, Bool.not_eq_true', beq_eq_false_iff_ne] at h
  obtain ⟨⟨⟨h1, h2⟩, h3⟩, h4⟩ := h
  exact ⟨h1, h2, h3, fun y hy hf => (h4 y hy).elim (fun q => absurd hf q) id⟩
def freeB (scope : Scope) (xs : List PySem.Str) : Bool := xs.all fun x => scope.names.lookup x == some .free

section
variable {C : Cx} {n : Nat} {sc : Scope} {W : List Addr} {ρ : Store}
/-- a comprehension without ifs over l.map g -/
theorem Ev.compM {α : Type} {elt iter : Expr} {x : PySem.Str} {px : Pos} {scope : Scope} {pos : Pos} {d : D} {l : List α} {g : α → D} {r : Bool} {f : D → D} (ρf : Store) (L : List PySem.Str) (hL : ρf.map (·.1) = L)
    (hs : ∀ env x, foldedSetIterable iter env x = pure x) (ht : ∀ it v, letOwnedTupleGo (.Name x px) it v = pure ()) (K : compB sc scope x = true) (hρ : ∀ q ∈ ρf, q ∈ ρ) (hfr : freeB scope L = true) (hz : l.length ≤ 100000)
    (hi : Ev C n sc ρ iter d) (hit : Iter C r d (l.map g)) (hf : ∀ a ∈ l, Ev C n scope ((x, g a) :: ρf) elt (f (g a))) : Ev C n sc ρ (.ListComp elt [⟨.Name x px, iter, [], 0⟩] scope pos) (.list (l.map fun a => f (g a))) := by
  have e : l.map (fun a => f (g a)) = ((l.map g).filter fun _ => true).map f := by
    rw [List.filter_eq_self.mpr (fun _ _ => rfl), List.map_map]; rfl
  rw [e]
  refine @Ev.comp C n sc ρ elt iter x px [] scope pos d (l.map g) r (fun _ => true) f ρf hi hit (compB_ok K) (fun q hq => ⟨hρ q hq, ?_⟩) (Nat.le_trans (by rw [List.length_map]; exact hz) (by decide)) (fun _ _ => EvIfs.nil) (fun d hd _ => ?_) ht hs
  · unfold freeB at hfr
    have := List.all_eq_true.mp hfr q.1 (hL ▸ List.mem_map_of_mem (f := Prod.fst) hq)
    exact beq_iff_eq.mp this
  · obtain ⟨a, ha, rfl⟩ := List.mem_map.mp hd
    exact hf a ha
theorem sub_nil {r : Store} : ∀ q ∈ ([] : Store), q ∈ r := fun _ h => nomatch h
theorem sub_cons {p : PySem.Str × D} {a r : Store} (h : p ∈ r) (k : ∀ q ∈ a, q ∈ r) : ∀ q ∈ p :: a, q ∈ r := fun q hq => (List.mem_cons.mp hq).elim (fun e => e ▸ h) (k q)
end

noncomputable def q20 (a : Nat) : Int := Float64.sgn (negN (mulN (ratN 1048576 1) (can a))) (nearN (mulN (ratN 1048576 1) (can a)))
section
variable {C : Cx} {n : Nat} (H : Hd C)
include H
theorem fn_quarters {as ns : List Nat} (hz : as.length ≤ 1000) (hz2 : ns.length ≤ 1000) (hf : ∀ a ∈ as, finN (magN (mulN (ratN 1048576 1) (can a))) = true) :
    Fn C (n + 1) (.ref H.f19) [.tup (as.map F), .list (ns.map fun k : Nat => .int (k : Int))] (.bool (decide (as.map q20 = ns.map fun k : Nat => ((262144 * k : Nat) : Int)))) := by
  refine H.d19.fn (by decide +kernel) rfl ?_
  show Ex C n (scAt 19) [] [("told", .tup (as.map F)), ("due", .list (ns.map fun k : Nat => .int (k : Int)))] (bodyAt 19) _
  refine @Ex.expose _ _ _ _ _ _ _ _ _ rfl ?_
  refine Ex.rets (@Ev.cmp' _ _ _ _ _ _ _ _ (.list (DI (as.map q20))) (.list (DI (ns.map fun k : Nat => ((262144 * k : Nat) : Int)))) _ rfl ?_ ?_ Cmp.eq_ints)
  · refine Ev.is (Ev.compM (l := as) (g := F) (f := fun d => .int (q20 (unF d))) [] [] rfl (fun _ _ => rfl) (fun _ _ => rfl) (by decide +kernel) sub_nil rfl (by omega) (d := .tup (as.map F)) ?_ Iter.tup fun a ha => ?_) ?_
    · kwd_rel
    · rw [unF_F]
      have e : can (can a) = can a := Nat.mod_mod ..
      unfold q20
      rw [e, ← F_can a]
      kwd_rel
      exact hf a ha
    · unfold DI
      rw [List.map_map]
      congr 1
      refine List.map_congr_left fun a _ => ?_
      rw [unF_F]
      unfold q20
      have e : can (can a) = can a := Nat.mod_mod ..
      rw [e]; rfl
  · refine Ev.is (Ev.compM (l := ns) (g := fun k : Nat => .int (k : Int)) (f := fun d => .int ((262144 * unN d : Nat) : Int)) [] [] rfl (fun _ _ => rfl) (fun _ _ => rfl) (by decide +kernel) sub_nil rfl (by omega) (d := .list (ns.map fun k : Nat => .int (k : Int))) ?_ Iter.list fun a ha => ?_) ?_
    · kwd_rel
    · show Ev _ _ _ _ _ (.int ((262144 * a : Nat) : Int))
      kwd_rel
      decide
    · unfold DI; rw [List.map_map]; rfl
end
end

-- part G9
section
theorem rItems_nat (k : Nat) : rItems 0 (k : Int) 1 = (List.range k).map fun i : Nat => .int (i : Int) := by
  unfold rItems
  rw [Int.toNat_natCast]
  exact List.map_congr_left fun i _ => by simp
section
variable {C : Cx} {n : Nat} {sc : Scope} {ρ : Store}
theorem Fn.rangeN {k : Nat} (h : Nat.ble k 1000000 = true) : Fn C n (.type "range") [.int (k : Int)] (.range 0 (k : Int) 1) := by
  have h' := Nat.ble_eq.mp h
  have e : (if (0 : Int) < k then (k : Int) else 0) = (k : Int) := by split <;> omega
  have q := @Fn.range1 C n (k : Int) (by omega) (by omega)
  rw [e] at q
  exact @q
theorem Fn.rangeL {k : Nat} (h : Nat.ble k 1000000 = true) : Fn C n (.type "range") [.int (@OfNat.ofNat Int k _)] (.range 0 (k : Int) 1) := @Fn.rangeN C n k h
theorem Iter.rangeN {k : Nat} : Iter C true (.range 0 (k : Int) 1) ((List.range k).map fun i : Nat => .int (i : Int)) := by
  rw [← rItems_nat]; exact @Iter.range C 0 (k : Int) 1 (Int.natCast_nonneg k)
theorem Ev.join' {o e : Expr} {apos pos : Pos} {x : PySem.Str} {xs : List PySem.Str} (hbase : ∀ env, attributeBase o "join" env (eval o env) = eval o env) (hn : ∀ env, starEach [e] env = (false, eval e env) :: starEach [] env) (hp : ∀ env, (backTo pos (starEach [e] env)).any (·.1) = false)
    (hfew : ∀ env, ((backTo pos (starEach [e] env)).all (fun x => !x.1) && (backToKw pos (keywordEach [] env)).all (fun x => x.1.isSome) && decide ([e].length + ([] : List Keyword).length + (if ([] : List Keyword).isEmpty then 0 else 1) < 30)) = true) (hline : (apos.endLine == pos.line) = true)
    (ho : Ev C n sc ρ o (.str x)) (he : Ev C n sc ρ e (.list (DS xs))) (hok : JoinOk x xs = true) : Ev C n sc ρ (.Call (.Attribute o "join" apos) [e] [] pos) (.str (Txt.join x xs)) :=
  Ev.meth ho Mth.join (EvL.cons he EvL.nil hn) hn hp hbase hfew hline (Fn.join hok)
end

noncomputable def letB (hue r : Nat) : Bool := ltIN (modN (subN (mulN (ratN 384 1) hue) (ratN r 1)) (ratN 384 1)) 192
def letter (k : Nat) (b : Bool) : PySem.Str := ⟨#[bt' b 65 97 + k]⟩
  where bt' (b : Bool) (x y : Nat) : Nat := match b with | true => x | false => y
def word (b0 b1 b2 b3 : Bool) : PySem.Str := Txt.join "" [letter 0 b0, letter 1 b1, letter 2 b2, letter 3 b3]

section
variable {C : Cx} {n : Nat} (H : Hd C)
include H
theorem fn_word {hue r0 r1 r2 r3 : Nat} (h : r0 < 2 ^ 53 ∧ r1 < 2 ^ 53 ∧ r2 < 2 ^ 53 ∧ r3 < 2 ^ 53) : Fn C (n + 1) (.ref H.f16) [F hue, .list [.int (r0 : Int), .int (r1 : Int), .int (r2 : Int), .int (r3 : Int)]] (.str (word (letB hue r0) (letB hue r1) (letB hue r2) (letB hue r3))) := by
  refine H.d16.fn (by decide +kernel) rfl ?_
  show Ex C n (scAt 16) [] [("hue", F hue), ("rays", .list [.int (r0 : Int), .int (r1 : Int), .int (r2 : Int), .int (r3 : Int)])] (bodyAt 16) _
  refine @Ex.expose _ _ _ _ _ _ _ _ _ rfl ?_
  unfold word
  refine Ex.rets (Ev.join' (fun _ => rfl) (fun _ => rfl) (fun _ => rfl) (fun _ => rfl) rfl Ev.str (Ev.is (Ev.compM (l := List.range 4) (g := fun i : Nat => .int (i : Int)) (d := .range 0 ((4 : Nat) : Int) 1)
    (f := fun d => .str (letter (unN d) (letB hue ([r0, r1, r2, r3].getD (unN d) 0)))) [("hue", F hue), ("rays", .list [.int (r0 : Int), .int (r1 : Int), .int (r2 : Int), .int (r3 : Int)])] ["hue", "rays"] rfl (fun _ _ => rfl) (fun _ _ => rfl) (by decide +kernel) (sub_cons (.head _) (sub_cons (.tail _ (.head _)) sub_nil)) (by decide +kernel) (by decide) ?_ Iter.rangeN fun a ha => ?_) ?_) ?_)
  · kwd_rel
    exact Fn.rangeL rfl
  · have ha' : a < 4 := List.mem_range.mp ha
    have hq : a = 0 ∨ a = 1 ∨ a = 2 ∨ a = 3 := by omega
    rcases hq with rfl | rfl | rfl | rfl
    · refine @Ev.sub' _ _ _ _ _ _ _ (bt (letB hue r0) (.str "ABCD") (.str "abcd")) (.int ((0 : Nat) : Int)) _ (fun _ _ => rfl) ?_ (Seqy.bt True.intro True.intro) ?_ ?_
      · unfold letB
        kwd_rel
        · exact h.1
        · decide +kernel
      · kwd_rel
      · show Itm _ _ _ _ (.str (letter 0 (letB hue r0)))
        cases letB hue r0 <;> exact Itm.str (by decide) (by decide) (by decide +kernel)
    · refine @Ev.sub' _ _ _ _ _ _ _ (bt (letB hue r1) (.str "ABCD") (.str "abcd")) (.int ((1 : Nat) : Int)) _ (fun _ _ => rfl) ?_ (Seqy.bt True.intro True.intro) ?_ ?_
      · unfold letB
        kwd_rel
        · exact h.2.1
        · decide +kernel
      · kwd_rel
      · show Itm _ _ _ _ (.str (letter 1 (letB hue r1)))
        cases letB hue r1 <;> exact Itm.str (by decide) (by decide) (by decide +kernel)
    · refine @Ev.sub' _ _ _ _ _ _ _ (bt (letB hue r2) (.str "ABCD") (.str "abcd")) (.int ((2 : Nat) : Int)) _ (fun _ _ => rfl) ?_ (Seqy.bt True.intro True.intro) ?_ ?_
      · unfold letB
        kwd_rel
        · exact h.2.2.1
        · decide +kernel
      · kwd_rel
      · show Itm _ _ _ _ (.str (letter 2 (letB hue r2)))
        cases letB hue r2 <;> exact Itm.str (by decide) (by decide) (by decide +kernel)
    · refine @Ev.sub' _ _ _ _ _ _ _ (bt (letB hue r3) (.str "ABCD") (.str "abcd")) (.int ((3 : Nat) : Int)) _ (fun _ _ => rfl) ?_ (Seqy.bt True.intro True.intro) ?_ ?_
      · unfold letB
        kwd_rel
        · exact h.2.2.2
        · decide +kernel
      · kwd_rel
      · show Itm _ _ _ _ (.str (letter 3 (letB hue r3)))
        cases letB hue r3 <;> exact Itm.str (by decide) (by decide) (by decide +kernel)
  · rfl
  · generalize letB hue r0 = a
    generalize letB hue r1 = b
    generalize letB hue r2 = c
    generalize letB hue r3 = d
    cases a <;> cases b <;> cases c <;> cases d <;> decide +kernel
end
end

-- part G10
section
def sortI (ns : List Int) : List Int := ns.mergeSort fun a b => decide (a ≤ b)
theorem sortI_perm (ns : List Int) : (sortI ns).Perm ns := List.mergeSort_perm ..
theorem sortI_sorted (ns : List Int) : (sortI ns).Pairwise (· ≤ ·) := by
  have := List.pairwise_mergeSort (le := fun a b : Int => decide (a ≤ b)) (fun a b c => by simp; omega) (fun a b => by simp; omega) ns
  exact this.imp fun h => by simpa using h
theorem sort_unique {ms ns : List Int} (h1 : ms.Perm ns) (h2 : ms.Pairwise (· ≤ ·)) : ms = sortI ns :=
  List.Perm.eq_of_pairwise (fun a b _ _ h h' => Int.le_antisymm h h') h2 (sortI_sorted ns) (h1.trans (sortI_perm ns).symm)
section
variable {C : Cx} {n : Nat} {sc : Scope} {ρ : Store}
theorem Fn.sortI {ns : List Int} (h64 : ns.length < 64) : Fn C n (.builtin "sorted") [.list (DI ns)] (.list (DI (Mine.sortI ns))) := Fn.sorted h64 fun _ h1 h2 => by rw [sort_unique h1 h2]
theorem sum_bound {K : Int} : ∀ {ns : List Int}, (∀ x ∈ ns, -K ≤ x ∧ x ≤ K) → -(K * ns.length) ≤ ns.sum ∧ ns.sum ≤ K * ns.length
  | [], _ => by simp
  | x :: r, h => by
    have ih := sum_bound (fun y hy => h y (.tail _ hy))
    have hx := h x (.head _)
    have e : K * ((x :: r).length : Int) = K * (r.length : Int) + K := by
      rw [List.length_cons, Int.natCast_add, Int.mul_add]; simp
    rw [e, List.sum_cons]; omega
theorem sum_ok {ns : List Int} (h : ∀ x ∈ ns, -(2 ^ 40) ≤ x ∧ x ≤ 2 ^ 40) (hl : ns.length ≤ 1000) : ∀ k, k < ns.length → InLong (ns.getD k 0) ∧ InLong (ns.take (k + 1)).sum := fun k hk => by
  have h1 := h (ns.getD k 0) (by rw [List.getD_eq_getElem?_getD, List.getElem?_eq_getElem hk]; exact List.getElem_mem hk)
  have h2 := sum_bound (K := 2 ^ 40) (ns := ns.take (k + 1)) fun x hx => h x (List.mem_of_mem_take hx)
  have h3 : (ns.take (k + 1)).length ≤ 1000 := Nat.le_trans (List.length_take_le ..) (by omega)
  have h4 : (2 ^ 40 : Int) * ((ns.take (k + 1)).length : Int) ≤ 2 ^ 40 * 1000 := by
    have : ((ns.take (k + 1)).length : Int) ≤ 1000 := by omega
    exact Int.mul_le_mul_of_nonneg_left this (by decide)
  unfold InLong
  refine ⟨⟨by omega, by omega⟩, ?_, ?_⟩ <;> omega
/-- a comprehension with one if over l.map g -/
theorem Ev.compF {α : Type} {elt iter c : Expr} {x : PySem.Str} {px : Pos} {scope : Scope} {pos : Pos} {d : D} {l : List α} {g : α → D} {r : Bool} {p : D → Bool} {f : D → D} (ρf : Store) (L : List PySem.Str) (hL : ρf.map (·.1) = L)
    (hs : ∀ env x, foldedSetIterable iter env x = pure x) (ht : ∀ it v, letOwnedTupleGo (.Name x px) it v = pure ()) (K : compB sc scope x = true) (hρ : ∀ q ∈ ρf, q ∈ ρ) (hfr : freeB scope L = true) (hz : l.length ≤ 100000)
    (hi : Ev C n sc ρ iter d) (hit : Iter C r d (l.map g)) (hp : ∀ a ∈ l, EvB C n scope ((x, g a) :: ρf) c (p (g a))) (hf : ∀ a ∈ l, p (g a) = true → Ev C n scope ((x, g a) :: ρf) elt (f (g a))) : Ev C n sc ρ (.ListComp elt [⟨.Name x px, iter, [c], 0⟩] scope pos) (.list ((l.filter fun a => p (g a)).map fun a => f (g a))) := by
  have e : (l.filter fun a => p (g a)).map (fun a => f (g a)) = ((l.map g).filter p).map f := by
    rw [List.filter_map, List.map_map]; rfl
  rw [e]
  refine @Ev.comp C n sc ρ elt iter x px [c] scope pos d (l.map g) r p f ρf hi hit (compB_ok K) (fun q hq => ⟨hρ q hq, ?_⟩) (Nat.le_trans (by rw [List.length_map]; exact hz) (by decide)) (fun d hd => ?_) (fun d hd hpd => ?_) ht hs
  · unfold freeB at hfr
    have := List.all_eq_true.mp hfr q.1 (hL ▸ List.mem_map_of_mem (f := Prod.fst) hq)
    exact beq_iff_eq.mp this
  · obtain ⟨a, ha, rfl⟩ := List.mem_map.mp hd
    exact EvIfs.one (hp a ha)
  · obtain ⟨a, ha, rfl⟩ := List.mem_map.mp hd
    exact hf a ha hpd
theorem pick_from {ds : List D} {k : Nat} : pick ds (some (k : Int)) none = ds.drop k := by
  unfold pick kms_lo kms_hi
  have e : ¬ ((k : Int) < 0) := by omega
  simp only [e, if_false, Int.toNat_natCast]
  by_cases h : k ≤ ds.length
  · rw [Nat.min_eq_left h]
    exact List.take_of_length_le (by rw [List.length_drop]; exact Nat.le_refl _)
  · rw [Nat.min_eq_right (by omega), List.drop_of_length_le (Nat.le_refl _), List.drop_of_length_le (by omega)]; simp
theorem pick_to {ds : List D} {k : Nat} : pick ds none (some (k : Int)) = ds.take k := by
  unfold pick kms_lo kms_hi
  have e : ¬ ((k : Int) < 0) := by omega
  simp only [e, if_false, Int.toNat_natCast, List.drop_zero, Nat.sub_zero]
  by_cases h : k ≤ ds.length
  · rw [Nat.min_eq_left h]
  · rw [Nat.min_eq_right (by omega), List.take_of_length_le (Nat.le_refl _), List.take_of_length_le (by omega)]
end

def IN (ns : List Nat) : List D := ns.map fun k : Nat => .int (k : Int)
def over (os : List Nat) (e : Nat) : Nat := (os.filter fun p => decide (e < p)).length
def endsF (rs : List Nat) : List Nat := rs.map (fun r => 12 * r) ++ rs.map (fun r => 12 * ((r + 192) % 384))
def moreF (os ts rs : List Nat) : List Int := sortI ((endsF rs).map fun e => (over os e : Int) - (over ts e : Int))
def leastF (os ts rs : List Nat) : Int := ((moreF os ts rs).drop 4).sum - ((moreF os ts rs).take 4).sum

section
variable {C : Cx} {n : Nat} (H : Hd C)
include H
theorem fn_least {os ts rs : List Nat} (h1 : os.length ≤ 1000) (h2 : ts.length ≤ 1000) (h3 : rs.length = 4) : Fn C (n + 1) (.ref H.f21) [.list (IN os), .list (IN ts), .list (IN rs)] (.int (leastF os ts rs)) := by
  refine H.d21.fn (by decide +kernel) rfl ?_
  show Ex C n (scAt 21) [] [("ones", .list (IN os)), ("twos", .list (IN ts)), ("rays", .list (IN rs))] (bodyAt 21) _
  refine @Ex.expose _ _ _ _ _ _ _ _ _ rfl ?_
  have hl : (endsF rs).length = 8 := by unfold endsF; simp [h3]
  refine @Ex.asg _ _ _ _ _ _ _ _ _ _ (.list (IN (endsF rs))) _ _ (by exact fun _ _ => rfl) (by decide +kernel) (by ktr_rel) ?_ ?_
  · have e : D.list (IN (endsF rs)) = .list (rs.map (fun a : Nat => (fun d => D.int ((12 * unN d : Nat) : Int)) (D.int (a : Int))) ++ rs.map (fun a : Nat => (fun d => D.int ((12 * ((unN d + 192) % 384) : Nat) : Int)) (D.int (a : Int)))) := by
      unfold IN endsF; rw [List.map_append, List.map_map, List.map_map]; rfl
    rw [e]
    refine @Ev.bin _ _ _ _ _ _ _ _ _ _ _ ?_ ?_ (@Bin.add_ll _ _ _ _ (by rw [List.length_map, List.length_map, h3]; decide))
    · refine Ev.compM (l := rs) (g := fun k : Nat => .int (k : Int)) (f := fun d => D.int ((12 * unN d : Nat) : Int)) (d := .list (IN rs)) [] [] rfl (fun _ _ => rfl) (fun _ _ => rfl) (by decide +kernel) sub_nil rfl (by omega) ?_ Iter.list fun a ha => ?_
      · kwd_rel
      · show Ev _ _ _ _ _ (.int ((12 * a : Nat) : Int))
        kwd_rel
    · refine Ev.compM (l := rs) (g := fun k : Nat => .int (k : Int)) (f := fun d => D.int ((12 * ((unN d + 192) % 384) : Nat) : Int)) (d := .list (IN rs)) [] [] rfl (fun _ _ => rfl) (fun _ _ => rfl) (by decide +kernel) sub_nil rfl (by omega) ?_ Iter.list fun a ha => ?_
      · kwd_rel
      · show Ev _ _ _ _ _ (.int ((12 * ((a + 192) % 384) : Nat) : Int))
        kwd_rel
  have hm : (moreF os ts rs).length = 8 := by
    unfold moreF
    rw [(sortI_perm _).length_eq, List.length_map, hl]
  have hb : ∀ x ∈ moreF os ts rs, -(2 ^ 40) ≤ x ∧ x ≤ 2 ^ 40 := fun x hx => by
    obtain ⟨e, _, rfl⟩ := List.mem_map.mp ((sortI_perm _).mem_iff.mp hx)
    have q1 : over os e ≤ os.length := List.length_filter_le ..
    have q2 : over ts e ≤ ts.length := List.length_filter_le ..
    omega
  refine @Ex.asg _ _ _ _ _ _ _ _ _ _ (.list (DI (moreF os ts rs))) _ _ (by exact fun _ _ => rfl) (by decide +kernel) (by ktr_rel) ?_ ?_
  · unfold moreF
    refine @Ev.callB' _ _ _ _ _ _ _ _ _ _ _ _ (fun _ => rfl) (fun _ => rfl) (@Hd.sorted _ _ H (by decide +kernel)) (@EvL.cons' _ _ _ _ _ _ _ _ (fun _ => rfl) ?_ EvL.nil) (Fn.sortI (by rw [List.length_map, hl]; decide))
    refine Ev.is (Ev.compM (l := endsF rs) (g := fun k : Nat => .int (k : Int)) (f := fun d => D.int ((over os (unN d) : Int) - (over ts (unN d) : Int))) (d := .list (IN (endsF rs))) [("ones", .list (IN os)), ("twos", .list (IN ts))] ["ones", "twos"] rfl (fun _ _ => rfl) (fun _ _ => rfl) (by decide +kernel)
      (sub_cons (by kwd_inv) (sub_cons (by kwd_inv) sub_nil)) (by decide +kernel) (by omega) ?_ Iter.list fun a ha => ?_) (by unfold DI; rw [List.map_map]; rfl)
    · kwd_rel
    · show Ev _ _ _ _ _ (.int ((over os a : Int) - (over ts a : Int)))
      refine Ev.bin (a := .int (over os a : Int)) (b := .int (over ts a : Int)) ?_ ?_ Bin.sub_ii
      · refine Ev.is (@Ev.callB' _ _ _ _ _ _ _ _ _ _ _ _ (fun _ => rfl) (fun _ => rfl) (@Hd.len _ _ H (by decide +kernel)) (@EvL.cons' _ _ _ _ _ _ _ _ (fun _ => rfl) (Ev.compF (l := os) (g := fun k : Nat => .int (k : Int)) (p := fun d => decide ((a : Int) < unI d)) (f := fun _ => .int 1) (d := .list (IN os)) [("end", .int (a : Int))] ["end"] rfl
          (fun _ _ => rfl) (fun _ _ => rfl) (by decide +kernel) (sub_cons (by kwd_inv) sub_nil) (by decide +kernel) (by omega) ?_ Iter.list (fun b hb => ?_) fun b hb _ => ?_) EvL.nil) (Fn.len_list ?_)) ?_
        · kwd_rel
        · show EvB _ _ _ _ _ (decide ((a : Int) < (b : Int)))
          kwd_rel
        · kwd_rel
        · rw [List.length_map]
          exact Nat.lt_of_le_of_lt (List.length_filter_le ..) (by omega)
        · congr 1
          rw [List.length_map]
          unfold over
          congr 2
          refine List.filter_congr fun b _ => ?_
          show decide ((a : Int) < (b : Int)) = _
          exact decide_eq_decide.mpr Int.ofNat_lt
      · refine Ev.is (@Ev.callB' _ _ _ _ _ _ _ _ _ _ _ _ (fun _ => rfl) (fun _ => rfl) (@Hd.len _ _ H (by decide +kernel)) (@EvL.cons' _ _ _ _ _ _ _ _ (fun _ => rfl) (Ev.compF (l := ts) (g := fun k : Nat => .int (k : Int)) (p := fun d => decide ((a : Int) < unI d)) (f := fun _ => .int 1) (d := .list (IN ts)) [("end", .int (a : Int))] ["end"] rfl
          (fun _ _ => rfl) (fun _ _ => rfl) (by decide +kernel) (sub_cons (by kwd_inv) sub_nil) (by decide +kernel) (by omega) ?_ Iter.list (fun b hb => ?_) fun b hb _ => ?_) EvL.nil) (Fn.len_list ?_)) ?_
        · kwd_rel
        · show EvB _ _ _ _ _ (decide ((a : Int) < (b : Int)))
          kwd_rel
        · kwd_rel
        · rw [List.length_map]
          exact Nat.lt_of_le_of_lt (List.length_filter_le ..) (by omega)
        · congr 1
          rw [List.length_map]
          unfold over
          congr 2
          refine List.filter_congr fun b _ => ?_
          show decide ((a : Int) < (b : Int)) = _
          exact decide_eq_decide.mpr Int.ofNat_lt
  refine Ex.rets (Ev.bin (a := .int ((moreF os ts rs).drop 4).sum) (b := .int ((moreF os ts rs).take 4).sum) ?_ ?_ Bin.sub_ii)
  · refine @Ev.callB' _ _ _ _ _ _ _ _ _ _ _ _ (fun _ => rfl) (fun _ => rfl) (@Hd.sum _ _ H (by decide +kernel)) (@EvL.cons' _ _ _ _ _ _ _ _ (fun _ => rfl) ?_ EvL.nil) (Fn.sum_list (sum_ok (fun x hx => hb x (List.mem_of_mem_drop hx)) (by rw [List.length_drop, hm]; decide)))
    refine @Ev.slice' _ _ _ _ _ _ _ _ _ (.list (DI (moreF os ts rs))) _ (some ((4 : Nat) : Int)) none ?_ True.intro ?_ ?_ ?_
    · kwd_rel
    · exact EvP.int Ev.int
    · kwd_rel
    · have e : DI ((moreF os ts rs).drop 4) = pick (DI (moreF os ts rs)) (some ((4 : Nat) : Int)) none := by rw [pick_from]; unfold DI; rw [List.map_drop]
      rw [e]
      exact @Slc.list _ _ (DI (moreF os ts rs)) _ _ (by unfold DI; rw [List.length_map, hm]; decide)
  · refine @Ev.callB' _ _ _ _ _ _ _ _ _ _ _ _ (fun _ => rfl) (fun _ => rfl) (@Hd.sum _ _ H (by decide +kernel)) (@EvL.cons' _ _ _ _ _ _ _ _ (fun _ => rfl) ?_ EvL.nil) (Fn.sum_list (sum_ok (fun x hx => hb x (List.mem_of_mem_take hx)) (by rw [List.length_take, hm]; decide)))
    refine @Ev.slice' _ _ _ _ _ _ _ _ _ (.list (DI (moreF os ts rs))) _ none (some ((4 : Nat) : Int)) ?_ True.intro ?_ ?_ ?_
    · kwd_rel
    · kwd_rel
    · exact EvP.int Ev.int
    · have e : DI ((moreF os ts rs).take 4) = pick (DI (moreF os ts rs)) none (some ((4 : Nat) : Int)) := by rw [pick_to]; unfold DI; rw [List.map_take]
      rw [e]
      exact @Slc.list _ _ (DI (moreF os ts rs)) _ _ (by unfold DI; rw [List.length_map, hm]; decide)
end
end

-- part G11
section
def ordF : Nat → List (List Nat)
  | 0 => [[]]
  | j + 1 => (ordF j).flatMap fun o => (List.range (j + 1)).map fun a => o.take a ++ [j] ++ o.drop a
def IL (o : List Nat) : D := .list (IN o)
def unL : D → List D | .list l => l | _ => []
theorem ordF_len {j : Nat} (h : j ≤ 4) : (ordF j).length ≤ 24 := by
  have : j = 0 ∨ j = 1 ∨ j = 2 ∨ j = 3 ∨ j = 4 := by omega
  rcases this with rfl | rfl | rfl | rfl | rfl <;> decide
theorem ordF_each : ∀ {j : Nat} {o : List Nat}, o ∈ ordF j → o.length = j
  | 0, o, h => by simp [ordF] at h; simp [h]
  | j + 1, o, h => by
    unfold ordF at h
    obtain ⟨p, hp, h⟩ := List.mem_flatMap.mp h
    obtain ⟨a, _, rfl⟩ := List.mem_map.mp h
    have := ordF_each hp
    rw [List.length_append, List.length_append, List.length_take, List.length_drop]
    simp; omega
theorem swaps_yes {sc scope : Scope} {env : Env} {elt : Expr} {gens : List Comprehension} {pos pz : Pos} {z : PySem.Str} {line : Nat} (O : EnvOK sc env) (hz : sc.names.lookup z = some .local) (hl : (pz.line == pos.line) = true)
    (hn : (scope.names.any fun y => y.1 == z && (y.2 == .local || y.2 == .cell)) = false) : swapsWith (.ListComp elt gens scope pos) (some (.Name z pz)) line env = pure true := by
  unfold swapsWith
  simp only [O.block, O.lo z hz, Expr.pos]
  have e : (!(scope.names.any fun (x : PySem.Str × NameKind) => match x with | (n, k) => n == z && (k == .local || k == .cell))) = true := by
    rw [Bool.not_eq_true']; exact hn
  rw [e, hl]
  rfl
section
variable {C : Cx} {n : Nat} (H : Hd C)
include H
theorem fn_orders {size : Nat} (hs : size ≤ 4) : Fn C (n + 1) (.ref H.f20) [.int (size : Int)] (.list ((ordF size).map IL)) := by
  refine H.d20.fn (by decide +kernel) rfl ?_
  show Ex C n (scAt 20) [] [("size", .int (size : Int))] (bodyAt 20) _
  refine @Ex.expose _ _ _ _ _ _ _ _ _ rfl ?_
  refine @Ex.asg _ _ _ _ _ _ _ _ _ _ (.list [.list []]) _ _ (by exact fun _ _ => rfl) (by decide +kernel) (by ktr_rel) ?_ ?_
  · kwd_rel
  refine Ex.cons (Ex1.forG (d := .range 0 (size : Int) 1) (ds := (List.range size).map fun i : Nat => .int (i : Int)) (r := true) ?_ Iter.rangeN (.inr rfl) (stoB_ok (by decide +kernel)) (fun j => [("orders", .list ((ordF j).map IL)), ("size", .int (size : Int))]) size (by simp) (fun p hp => hp) ?_ ?_ (.inl ⟨by simp, rfl⟩) (fun _ _ => rfl) (fun _ _ => rfl)) ?_
  · kwd_rel
    exact Fn.rangeN (Nat.ble_eq.mpr (by omega))
  · intro j hj p hp
    have q1 : ("orders" : PySem.Str) ≠ "k" := by decide +kernel
    have q2 : ("size" : PySem.Str) ≠ "k" := by decide +kernel
    rcases List.mem_cons.mp hp with rfl | hp
    · exact q1
    · rw [List.mem_singleton.mp hp]; exact q2
  · intro j e hj he
    have e' : e = .int (j : Int) := by
      rw [List.getElem?_map, List.getElem?_range hj] at he
      exact (Option.some.inj he).symm
    subst e'
    have hj4 : j + 1 ≤ 4 := by omega
    have hl : ((ordF (j + 1)).map IL) = ((ordF j).map IL).flatMap fun e => ((List.range (j + 1)).map fun i : Nat => D.int (i : Int)).map fun q => .list ((unL e).take (unN q) ++ [.int (j : Int)] ++ (unL e).drop (unN q)) := by
      rw [ordF, List.map_flatMap, List.flatMap_map]
      congr 1
      funext o
      rw [List.map_map, List.map_map]
      refine List.map_congr_left fun a _ => ?_
      show D.list (IN (o.take a ++ [j] ++ o.drop a)) = .list ((IN o).take a ++ [.int (j : Int)] ++ (IN o).drop a)
      unfold IN
      rw [List.map_append, List.map_append, List.map_take, List.map_drop]; rfl
    show Ex _ _ _ _ _ _ (.next (("orders", .list ((ordF (j + 1)).map IL)) :: [("size", .int (size : Int))]))
    rw [hl]
    refine @Ex.cons _ _ _ _ _ _ _ _ _ ?_ Ex.nil
    refine Ex1.assignComp2 (d := .list ((ordF j).map IL)) (d2 := fun _ => .range 0 ((j + 1 : Nat) : Int) 1) (r2 := true) (des := fun _ => (List.range (j + 1)).map fun i : Nat => D.int (i : Int)) (f := fun e q => .list ((unL e).take (unN q) ++ [.int (j : Int)] ++ (unL e).drop (unN q))) [("k", .int (j : Int))]
      ?_ Iter.list (compB_ok (by decide +kernel)) (locB_ok (by decide +kernel)) (locB_ok (by decide +kernel)) (by decide +kernel) ?_ ?_ ?_ (fun _ _ => Iter.rangeN) ?_ (locB_ok (by decide +kernel)) ?_ ?_ ?_ (fun _ _ => rfl) (fun _ _ => rfl) (fun _ _ => rfl) (fun _ _ => rfl)
    · kwd_rel
    · intro q hq
      rw [List.mem_singleton.mp hq]
      have e : ∀ s : Scope, s.names.lookup ("k" : PySem.Str) = some .free → s.names.lookup (("k" : PySem.Str), D.int (j : Int)).1 = some .free := fun _ h => h
      exact ⟨.head _, e _ (by decide +kernel)⟩
    · rw [← hl, List.length_map]
      exact Nat.le_trans (ordF_len hj4) (by decide)
    · intro e he
      kwd_rel
      exact @Fn.rangeN _ _ (j + 1) (Nat.ble_eq.mpr (by omega))
    · intro e he q hq
      obtain ⟨o, ho, rfl⟩ := List.mem_map.mp he
      obtain ⟨a, ha, rfl⟩ := List.mem_map.mp hq
      have hol := ordF_each ho
      have hil : (IN o).length = j := by unfold IN; rw [List.length_map, hol]
      show Ev _ _ _ _ _ (.list ((IN o).take a ++ [.int (j : Int)] ++ (IN o).drop a))
      rw [show IL o = D.list (IN o) from rfl]
      refine @Ev.bin _ _ _ _ _ _ _ _ (.list ((IN o).take a ++ [.int (j : Int)])) (.list ((IN o).drop a)) _ (@Ev.bin _ _ _ _ _ _ _ _ (.list ((IN o).take a)) (.list [.int (j : Int)]) _ ?_ ?_ (@Bin.add_ll _ _ _ _ ?_)) ?_ (@Bin.add_ll _ _ _ _ ?_)
      · rw [← pick_to]
        refine @Ev.slice' _ _ _ _ _ _ _ _ _ (.list (IN o)) _ none (some (a : Int)) ?_ True.intro ?_ ?_ (@Slc.list _ _ (IN o) _ _ (by rw [hil]; exact Nat.le_trans (Nat.le_of_lt hj) (Nat.le_trans hs (by decide))))
        all_goals kwd_rel
      · kwd_rel
      · rw [List.length_take, hil]
        exact Nat.le_trans (show min a j + [D.int (j : Int)].length ≤ 5 by simp; omega) (by decide)
      · rw [← pick_from]
        refine @Ev.slice' _ _ _ _ _ _ _ _ _ (.list (IN o)) _ (some (a : Int)) none ?_ True.intro ?_ ?_ (@Slc.list _ _ (IN o) _ _ (by rw [hil]; exact Nat.le_trans (Nat.le_of_lt hj) (Nat.le_trans hs (by decide))))
        all_goals kwd_rel
      · rw [List.length_append, List.length_take, List.length_drop, hil]
        exact Nat.le_trans (show min a j + [D.int (j : Int)].length + (j - a) ≤ 10 by simp; omega) (by decide)
    · exact sub_cons (by kwd_inv) sub_nil
    · have q2 : ("size" : PySem.Str) ≠ "orders" := by decide +kernel
      intro p hp
      rw [List.mem_singleton.mp hp]; exact q2
    · exact fun env O => swaps_yes O (locB_ok (by decide +kernel)) rfl (by decide +kernel)
  · refine Ex.rets ?_
    kwd_rel
end
end

-- part G12
section
/-- the turn's place, if it is this turn's -/
def turnF (t : Nat) (lo hi one two three : Int) : Option Int := if three = lo ∧ lo < hi then some (((1536 * t : Nat) : Int) + (if one = hi then (768 * (two - lo)).fdiv (hi - lo) else 1536 - (768 * (one - lo)).fdiv (hi - lo))) else none
def placeF (a b c : Nat) : Int :=
  let lo := imin [(a : Int), b, c]
  let hi := imax [(a : Int), b, c]
  ((turnF 0 lo hi a b c).orElse fun _ => (turnF 1 lo hi b c a).orElse fun _ => turnF 2 lo hi c a b).getD 0

def forBody (i k : Nat) : List Stmt := match (bodyAt i)[k]? with | some (.For _ _ body _ _) => body | _ => []
section
variable {C : Cx} {n : Nat}
def rho17 (a b c : Nat) (lo hi : Int) : Store := [("low", .int lo), ("high", .int hi), ("colour", .list (IN [a, b, c]))]
theorem place_turn {a b c t one two three : Nat} {lo hi : Int} (ht : t < 3) (h1 : one < 100) (h2 : two < 100) (h3 : three < 100) (hlo : 0 ≤ lo ∧ lo < 100) (hhi : 0 ≤ hi ∧ hi < 100) (i1 : ∀ m : Nat, Itm C m (.list (IN [a, b, c])) (.int (t : Int)) (.int (one : Int))) (i2 : ∀ m : Nat, Itm C m (.list (IN [a, b, c])) (.int ((t : Int) - 2)) (.int (two : Int)))
    (i3 : ∀ m : Nat, Itm C m (.list (IN [a, b, c])) (.int ((t : Int) - 1)) (.int (three : Int))) :
    Ex C n (scAt 17) [] (("turn", .int (t : Int)) :: rho17 a b c lo hi) (forBody 17 1) (match turnF t lo hi one two three with | none => .next (rho17 a b c lo hi) | some v => .ret (.int v)) := by
  refine @Ex.expose _ _ _ _ _ _ _ _ _ rfl ?_
  unfold rho17
  refine @Ex.swap3 _ _ _ _ _ _ _ _ _ _ _ _ _ _ _ _ _ _ _ (.int (one : Int)) (.int (two : Int)) (.int (three : Int)) _ _ _ (by decide +kernel) (by decide +kernel) (by rfl) (by rfl) (by rfl) (by rfl) (by decide +kernel) (by decide +kernel) (by exact fun _ => rfl) (by ktr_rel) (by ktr_rel) (by ktr_rel) ?_ ?_
  · kwd_rel
    · exact i1 _
    · exact i2 _
    · exact i3 _
  have test : ∀ e1 e2 : Expr, ∀ pos : Pos, ∀ ρ : Store, EvB C n (scAt 17) ρ e1 ((three : Int) == lo) → EvB C n (scAt 17) ρ e2 (decide (lo < hi)) → EvB C n (scAt 17) ρ (.BoolOp .And [e1, e2] pos) (decide ((three : Int) = lo ∧ lo < hi)) := fun e1 e2 pos ρ q1 q2 => by
    have e : (((three : Int) == lo) && (decide (lo < hi) && true)) = decide ((three : Int) = lo ∧ lo < hi) := by
      rw [Bool.and_true, Bool.eq_iff_iff]; simp
    rw [← e]; exact @EvB.boolOp C n (scAt 17) ρ _ _ _ _ (EvA.and q1 fun _ => EvA.and q2 fun _ => EvA.andNil)
  unfold turnF
  rcases Classical.em ((three : Int) = lo ∧ lo < hi) with hc | hc
  · rw [if_pos hc]
    show Ex _ _ _ _ _ _ (.ret (.int (((1536 * t : Nat) : Int) + (if (one : Int) = hi then (768 * ((two : Int) - lo)).fdiv (hi - lo) else 1536 - (768 * ((one : Int) - lo)).fdiv (hi - lo)))))
    refine Ex.ifYes (EvB.is (test _ _ _ _ ?_ ?_) (decide_eq_true hc)) ?_
    · kwd_rel
    · kwd_rel
    refine @Ex.asg _ _ _ _ _ _ _ _ _ _ (.int (if (one : Int) = hi then (768 * ((two : Int) - lo)).fdiv (hi - lo) else 1536 - (768 * ((one : Int) - lo)).fdiv (hi - lo))) _ _ (by exact fun _ _ => rfl) (by decide +kernel) (by ktr_rel) ?_ ?_
    · rcases Classical.em ((one : Int) = hi) with ho | ho
      · rw [if_pos ho]
        refine Ev.ifT (EvB.is (b := (one : Int) == hi) ?_ (by simp [ho])) ?_
        · kwd_rel
        · kwd_rel
          · exact .of_left (by decide)
          · omega
          · omega
      · rw [if_neg ho]
        refine Ev.ifF (EvB.is (b := (one : Int) == hi) ?_ (by simp [ho])) ?_
        · kwd_rel
        · kwd_rel
          · exact .of_left (by decide)
          · omega
          · omega
    refine Ex.rets ?_
    kwd_rel
  · rw [if_neg hc]
    show Ex _ _ _ _ _ _ (.next [("low", .int lo), ("high", .int hi), ("colour", .list (IN [a, b, c]))])
    refine Ex.sub (Ex.ifNo (EvB.is (test _ _ _ _ ?_ ?_) (decide_eq_false hc)) Ex.nil) ?_
    · kwd_rel
    · kwd_rel
    · exact sub_cons (by kwd_inv) (sub_cons (by kwd_inv) (sub_cons (by kwd_inv) sub_nil))
end
section
variable {C : Cx} {n : Nat} (H : Hd C)
include H
theorem fn_place {a b c : Nat} (ha : a < 100) (hb : b < 100) (hc : c < 100) : Fn C (n + 1) (.ref H.f17) [.list (IN [a, b, c])] (.int (placeF a b c)) := by
  refine H.d17.fn (by decide +kernel) rfl ?_
  show Ex C n (scAt 17) [] [("colour", .list (IN [a, b, c]))] (bodyAt 17) _
  refine @Ex.expose _ _ _ _ _ _ _ _ _ rfl ?_
  unfold placeF
  have e : (IN [a, b, c]) = DI [(a : Int), b, c] := rfl
  have hlo : 0 ≤ imin [(a : Int), b, c] ∧ imin [(a : Int), b, c] < 100 := by
    show 0 ≤ imin _ ∧ imin _ < 100
    simp only [imin, List.foldl]
    omega
  have hhi : 0 ≤ imax [(a : Int), b, c] ∧ imax [(a : Int), b, c] < 100 := by
    simp only [imax, List.foldl]
    omega
  dsimp only
  refine @Ex.swap2 _ _ _ _ _ _ _ _ _ _ _ _ _ _ _ _ _ (.int (imin [(a : Int), b, c])) (.int (imax [(a : Int), b, c])) _ _ (by decide +kernel) (by decide +kernel) (by rfl) (by rfl) (by rfl) (by decide +kernel) (by decide +kernel) (by exact fun _ => rfl) (by ktr_rel) (by ktr_rel) ?_ ?_
  · rw [e]
    kwd_rel
    · exact Fn.min_list (by simp)
    · exact Fn.max_list (by simp)
  generalize imin [(a : Int), b, c] = lo at *
  generalize imax [(a : Int), b, c] = hi at *
  have t0 := @place_turn C n a b c 0 a b c lo hi (by decide) ha hb hc hlo hhi (fun m => Itm.list (by decide) (by decide) rfl) (fun m => Itm.listNeg (by decide) (by decide) (by simp [IN]) rfl) (fun m => Itm.listNeg (by decide) (by decide) (by simp [IN]) rfl)
  have t1 := @place_turn C n a b c 1 b c a lo hi (by decide) hb hc ha hlo hhi (fun m => Itm.list (by decide) (by decide) rfl) (fun m => Itm.listNeg (by decide) (by decide) (by simp [IN]) rfl) (fun m => Itm.list (by decide) (by decide) rfl)
  have t2 := @place_turn C n a b c 2 c a b lo hi (by decide) hc ha hb hlo hhi (fun m => Itm.list (by decide) (by decide) rfl) (fun m => Itm.list (by decide) (by decide) rfl) (fun m => Itm.list (by decide) (by decide) rfl)
  have nt : ∀ k, k ≤ 3 → ∀ p ∈ rho17 a b c lo hi, p.1 ≠ "turn" := by
    intro _ _ p hp
    have q1 : ("low" : PySem.Str) ≠ "turn" := by decide +kernel
    have q2 : ("high" : PySem.Str) ≠ "turn" := by decide +kernel
    have q3 : ("colour" : PySem.Str) ≠ "turn" := by decide +kernel
    unfold rho17 at hp
    simp only [List.mem_cons, List.not_mem_nil, or_false] at hp
    rcases hp with rfl | rfl | rfl
    · exact q1
    · exact q2
    · exact q3
  cases q0 : turnF 0 lo hi a b c with
  | some v0 =>
    rw [q0] at t0
    show Ex _ _ _ _ _ _ (.ret (.int v0))
    refine @Ex.consRet _ _ _ _ _ _ _ _ ?_
    refine (Ex1.forG (d := .range 0 ((3 : Nat) : Int) 1) (ds := (List.range 3).map fun i : Nat => .int (i : Int)) (r := true) ?_ Iter.rangeN (.inr rfl) (stoB_ok (by decide +kernel)) (fun _ => rho17 a b c lo hi) 0 (by decide) ?_ (fun k hk => nt k (Nat.le_trans hk (by decide))) ?_ (.inr ⟨.int ((0 : Nat) : Int), _, rfl, rfl, t0⟩) (by exact fun _ _ => rfl) (by exact fun _ _ => rfl))
    · kwd_rel
      exact Fn.rangeL rfl
    · exact fun p hp => hp
    · intro k e hk he
      exact @False.elim _ (by omega)
  | none =>
    rw [q0] at t0
    cases q1 : turnF 1 lo hi b c a with
    | some v1 =>
      rw [q1] at t1
      show Ex _ _ _ _ _ _ (.ret (.int v1))
      refine @Ex.consRet _ _ _ _ _ _ _ _ ?_
      refine (Ex1.forG (d := .range 0 ((3 : Nat) : Int) 1) (ds := (List.range 3).map fun i : Nat => .int (i : Int)) (r := true) ?_ Iter.rangeN (.inr rfl) (stoB_ok (by decide +kernel)) (fun _ => rho17 a b c lo hi) 1 (by decide) ?_ (fun k hk => nt k (Nat.le_trans hk (by decide))) ?_ (.inr ⟨.int ((1 : Nat) : Int), _, rfl, rfl, t1⟩) (by exact fun _ _ => rfl) (by exact fun _ _ => rfl))
      · kwd_rel
        exact Fn.rangeL rfl
      · exact fun p hp => hp
      · intro k e hk he
        match k, hk, he with
        | 0, _, he => cases he; exact @t0
        | (k + 1), hk, _ => exact @False.elim _ (by omega)
    | none =>
      rw [q1] at t1
      cases q2 : turnF 2 lo hi c a b with
      | some v2 =>
        rw [q2] at t2
        show Ex _ _ _ _ _ _ (.ret (.int v2))
        refine @Ex.consRet _ _ _ _ _ _ _ _ ?_
        refine (Ex1.forG (d := .range 0 ((3 : Nat) : Int) 1) (ds := (List.range 3).map fun i : Nat => .int (i : Int)) (r := true) ?_ Iter.rangeN (.inr rfl) (stoB_ok (by decide +kernel)) (fun _ => rho17 a b c lo hi) 2 (by decide) ?_ (fun k hk => nt k (Nat.le_trans hk (by decide))) ?_ (.inr ⟨.int ((2 : Nat) : Int), _, rfl, rfl, t2⟩) (by exact fun _ _ => rfl) (by exact fun _ _ => rfl))
        · kwd_rel
          exact Fn.rangeL rfl
        · exact fun p hp => hp
        · intro k e hk he
          match k, hk, he with
          | 0, _, he => cases he; exact @t0
          | 1, _, he => cases he; exact @t1
          | (k + 2), hk, _ => exact @False.elim _ (by omega)
      | none =>
        rw [q2] at t2
        show Ex _ _ _ _ _ _ (.ret (.int 0))
        refine @Ex.cons _ _ _ _ _ _ _ (rho17 a b c lo hi) _ ?_ (Ex.rets Ev.int)
        refine (Ex1.forG (d := .range 0 ((3 : Nat) : Int) 1) (ds := (List.range 3).map fun i : Nat => .int (i : Int)) (r := true) ?_ Iter.rangeN (.inr rfl) (stoB_ok (by decide +kernel)) (fun _ => rho17 a b c lo hi) 3 (by decide) ?_ (fun k hk => nt k hk) ?_ (.inl ⟨rfl, rfl⟩) (by exact fun _ _ => rfl) (by exact fun _ _ => rfl))
        · kwd_rel
          exact Fn.rangeL rfl
        · exact fun p hp => hp
        · intro k e hk he
          match k, hk, he with
          | 0, _, he => cases he; exact @t0
          | 1, _, he => cases he; exact @t1
          | 2, _, he => cases he; exact @t2
          | (k + 3), hk, _ => exact @False.elim _ (by omega)
end
end

-- part G13a
section
/-- a text of code points -/
def S (l : List Nat) : PySem.Str := ⟨l.toArray⟩
theorem S_length (l : List Nat) : (S l).length = l.length := by unfold S PySem.Str.length; simp
theorem S_eq (a b : List Nat) : (S a == S b) = decide (a = b) := by
  rw [Bool.eq_iff_iff, beq_iff_eq, decide_eq_true_eq]
  unfold S
  constructor
  · intro h; injection h with h; simpa using h
  · intro h; rw [h]
theorem S_cps (l : List Nat) (i : Nat) : (S l).cps[i]? = l[i]? := by unfold S; simp
theorem range_get (l : List Nat) : (List.range l.length).filterMap (l[·]?) = l := by
  have := StrLaws.picks l l.length 0 (by omega)
  simpa using this
theorem slice_all (x : PySem.Str) : Txt.slice x none none = x := by
  unfold Txt.slice
  rw [if_pos]
  unfold Builtin.Str.strSliceIndices PySem.sliceRange
  simp only [show (1 : Int) > 0 by decide, if_true, List.length_map, List.length_range]
  simp
  split <;> omega
theorem slice_core (l : List Nat) (lo hi : Option Int) {a b : Nat} (h : Builtin.Str.strSliceIndices lo hi 1 l.length = (List.range (b - a)).map fun k => a + k) (hab : a ≤ b) (hb : b ≤ l.length) : Txt.slice (S l) lo hi = S ((l.drop a).take (b - a)) := by
  unfold Txt.slice
  rw [S_length, h]
  have e : ((List.range (b - a)).map fun k => a + k).filterMap ((S l).cps[·]?) = (l.drop a).take (b - a) := by
    rw [← StrLaws.picks l (b - a) a (by omega)]
    exact congrArg (fun f => List.filterMap f _) (funext fun i => S_cps l i)
  split
  · rename_i q
    simp at q
    obtain rfl : a = 0 := by omega
    obtain rfl : b = l.length := by omega
    simp
  · rw [e]; rfl
theorem slice_from (l : List Nat) (k : Nat) : Txt.slice (S l) (some (k : Int)) none = S (l.drop k) := by
  rcases Nat.lt_or_ge l.length k with h | h
  · rw [slice_core l (a := l.length) (b := l.length) _ _ ?_ (Nat.le_refl _) (Nat.le_refl _)]
    · simp [List.drop_of_length_le (Nat.le_of_lt h)]
    · unfold Builtin.Str.strSliceIndices PySem.sliceRange
      simp only [show (1 : Int) > 0 by decide, if_true]
      have e1 : ¬ ((k : Int) < 0) := by omega
      have e2 : max (0 : Int) (min (k : Int) (l.length : Int)) = l.length := by omega
      simp [e1, e2]
  · rw [slice_core l (a := k) (b := l.length) _ _ ?_ h (Nat.le_refl _)]
    · rw [List.take_of_length_le (by simp)]
    · rw [← StrLaws.strSliceIndices_plain h (Nat.le_refl _)]
      unfold Builtin.Str.strSliceIndices
      have e1 : ¬ ((l.length : Int) < 0) := by omega
      simp only [show (1 : Int) > 0 by decide, if_true, e1, if_false]
      congr 1
      omega
theorem slice_to (l : List Nat) (k : Nat) (h1 : 1 ≤ k) (h : k ≤ l.length) : Txt.slice (S l) none (some (-(k : Int))) = S (l.take (l.length - k)) := by
  rw [slice_core l (a := 0) (b := l.length - k) _ _ ?_ (Nat.zero_le _) (by omega)]
  · simp
  · rw [← StrLaws.strSliceIndices_plain (Nat.zero_le _) (by omega : l.length - k ≤ l.length)]
    unfold Builtin.Str.strSliceIndices
    have e1 : (-(k : Int) < 0) := by omega
    have e2 : ¬ (((l.length - k : Nat) : Int) < 0) := by omega
    have e3 : max (0 : Int) (min (-(k : Int) + (l.length : Int)) (l.length : Int)) = ((l.length - k : Nat) : Int) := by omega
    have e4 : max (0 : Int) (min (((l.length - k : Nat) : Int)) (l.length : Int)) = ((l.length - k : Nat) : Int) := by omega
    have e5 : max (0 : Int) (min ((0 : Nat) : Int) (l.length : Int)) = 0 := by omega
    simp only [show (1 : Int) > 0 by decide, if_true, e1, e2, e3, e4, e5, if_false, show ¬ (((0 : Nat) : Int) < 0) by decide]

/-- how far two lists agree -/
def cpl : List Nat → List Nat → Nat
  | x :: r, y :: t => if Nat.beq x y then cpl r t + 1 else 0
  | _, _ => 0
theorem cpl_lt : ∀ (a b : List Nat) (k : Nat), k < cpl a b → ∃ c, a[k]? = some c ∧ b[k]? = some c
  | [], b, k, h => by unfold cpl at h; simp at h
  | x :: r, [], k, h => by unfold cpl at h; simp at h
  | x :: r, y :: t, k, h => by
    unfold cpl at h
    cases e : Nat.beq x y with
    | false => rw [e] at h; exact absurd h (Nat.not_lt_zero _)
    | true =>
      rw [e] at h
      have := Nat.eq_of_beq_eq_true e
      subst this
      cases k with
      | zero => exact ⟨x, rfl, rfl⟩
      | succ k => exact cpl_lt r t k (Nat.lt_of_succ_lt_succ h)
theorem cpl_end : ∀ (a b : List Nat), a[cpl a b]? = none ∨ b[cpl a b]? = none ∨ ∃ c d, a[cpl a b]? = some c ∧ b[cpl a b]? = some d ∧ c ≠ d
  | [], b => by simp
  | x :: r, [] => by simp
  | x :: r, y :: t => by
    unfold cpl
    cases e : Nat.beq x y with
    | false => exact .inr (.inr ⟨x, y, rfl, rfl, fun q => by subst q; simp at e⟩)
    | true =>
      have := cpl_end r t
      simpa using this
theorem cpl_le : ∀ (a b : List Nat), cpl a b ≤ a.length ∧ cpl a b ≤ b.length
  | [], b => by unfold cpl; simp
  | x :: r, [] => by unfold cpl; simp
  | x :: r, y :: t => by
    unfold cpl
    cases e : Nat.beq x y with
    | false => exact ⟨Nat.zero_le _, Nat.zero_le _⟩
    | true =>
      have := cpl_le r t
      simp only [if_true, List.length_cons]
      omega
theorem ne_nil_of {l : List Nat} {k c : Nat} (h : l[k]? = some c) : (l.drop k).length ≠ 0 := by
  have := (List.getElem?_eq_some_iff.mp h).1
  rw [List.length_drop]; omega
theorem nil_of {l : List Nat} {k : Nat} (h : l[k]? = none) : (l.drop k).length = 0 := by
  have := List.getElem?_eq_none_iff.mp h
  rw [List.length_drop]; omega
/-- the last but k -/
theorem rev_get {l : List Nat} {k : Nat} (h : k < l.length) : l.reverse[k]? = l[l.length - 1 - k]? := List.getElem?_reverse h

-- what _levenshtein_distance computes
def lmin (a b : Int) : Int := if a ≤ b then a else b
structure LSt where
  dist : Int
  res : Int
  mini : Int
  row : List Int
def lstep (a : List Nat) (bc : Nat) (s : LSt) (k : Nat) : LSt :=
  let sub := s.dist + subC (S [bc]) (S [a.getD k 0])
  let d := s.row.getD k 0
  let ins := min s.res d + 2
  let r := min ins sub
  { dist := d, res := r, mini := if r < s.mini then r else s.mini, row := s.row.set k r }
def lrow (a : List Nat) (bc : Nat) (s : LSt) : Nat → LSt
  | 0 => s
  | k + 1 => lstep a bc (lrow a bc s k) k
def lstart (row : List Int) (j : Nat) : LSt := { dist := ((j * 2 : Nat) : Int), res := ((j * 2 : Nat) : Int), mini := 9223372036854775807, row := row }
def louter (a b : List Nat) : Nat → LSt
  | 0 => { dist := 0, res := 0, mini := 0, row := (List.range a.length).map fun i : Nat => 2 + (i : Int) * 2 }
  | j + 1 => lrow a (b.getD j 0) (lstart (louter a b j).row j) a.length
/-- the first row, if any, whose least is above m -/
def lcut (a b : List Nat) (m : Int) : Option Nat := (List.range b.length).find? fun j => decide (m < (louter a b (j + 1)).mini)
def lloop (a b : List Nat) (m : Int) : Int := match lcut a b m with | some _ => m + 1 | none => (louter a b b.length).res
def lcore (a b : List Nat) (m : Int) : Int :=
  if ((b.length : Int) - a.length) * 2 > m then m + 1 else lloop a b m
def ltail (a b : List Nat) (m : Int) : Int :=
  if a.length = 0 ∨ b.length = 0 then 2 * ((a.length : Int) + b.length) else
  if 40 < a.length ∨ 40 < b.length then m + 1 else
  if b.length < a.length then lcore b a m else lcore a b m
def trimP (a b : List Nat) : List Nat × List Nat := (a.drop (cpl a b), b.drop (cpl a b))
def trimS (a b : List Nat) : List Nat × List Nat := let q := cpl a.reverse b.reverse; (a.take (a.length - q), b.take (b.length - q))
def levF (a b : List Nat) (m : Int) : Int :=
  if a = b then 0 else
  let p := trimP a b
  let q := trimS p.1 p.2
  ltail q.1 q.2 m
end

-- part G13
section
theorem low_ok : ∀ c < 128, Builtin.Str.tooLong (Txt.lower (S [c])).length = false := by decide +kernel
def inBody : List Stmt := match ((forBody 5 15)[3]? : Option Stmt) with | some (Stmt.For _ _ body _ _) => body | _ => []
section
variable {C : Cx} {n : Nat}
theorem Itm.S {l : List Nat} {k c : Nat} (h : l[k]? = some c) (hk : l.length < 2 ^ 62) : Itm C n (.str (Mine.S l)) (.int (k : Int)) (.str (Mine.S [c])) := by
  have hl := (List.getElem?_eq_some_iff.mp h).1
  refine @Itm.str C n (Mine.S l) (k : Int) c (by omega) (by omega) ?_
  rw [S_length]
  unfold seqIndex?
  have e : ¬ ((k : Int) < 0) := by omega
  simp [e, hl, S_cps]
  rw [List.getElem?_eq_getElem hl] at h
  exact Option.some.inj h
theorem Itm.Sneg {l : List Nat} {k c : Nat} (h1 : 1 ≤ k) (h2 : k ≤ l.length) (h : l[l.length - k]? = some c) (hk : l.length < 2 ^ 62) : Itm C n (.str (Mine.S l)) (.int (-(k : Int))) (.str (Mine.S [c])) := by
  refine @Itm.str C n (Mine.S l) (-(k : Int)) c (by omega) (by omega) ?_
  rw [S_length]
  unfold seqIndex?
  have e : (-(k : Int) < 0) := by omega
  have e2 : (-(k : Int) + (l.length : Int)) = ((l.length - k : Nat) : Int) := by omega
  have e3 : l.length - k < l.length := by omega
  simp only [e, if_true, e2]
  simp only [S_cps]
  simp [e3]
  rw [List.getElem?_eq_getElem e3] at h
  exact Option.some.inj h
end
def rhoI (a b : List Nat) (m : Int) (bc : Nat) (r : Addr) (s : LSt) : Store :=
  [("distance", .int s.dist), ("result", .int s.res), ("minimum", .int s.mini), ("row", .own r (DI s.row)), ("bchar", .str (S [bc])), ("a", .str (S a)), ("b", .str (S b)), ("max_cost", .int m)]
section
variable {C : Cx} {n : Nat} (H : Hd C)
include H
theorem lev_turn {a b : List Nat} {m : Int} {bc : Nat} {W : List Addr} {r : Addr} {s : LSt} {k : Nat} (hr : r ∈ W) (hk : k < a.length) (hl : s.row.length = a.length) (ha : ∀ c ∈ a, c < 128) (hb : bc < 128) (hz : a.length < 2 ^ 40) :
    Ex C (n + 1) (scAt 5) W (("index", .int (k : Int)) :: rhoI a b m bc r s) inBody (.next (rhoI a b m bc r (lstep a bc s k))) := by
  have ek : a[k]? = some a[k] := List.getElem?_eq_getElem hk
  have hrk : s.row[k]? = some (s.row.getD k 0) := by rw [List.getD_eq_getElem?_getD, List.getElem?_eq_getElem (by omega)]; rfl
  have hc : a[k] < 128 := ha _ (List.getElem_mem hk)
  have ed : a.getD k 0 = a[k] := by rw [List.getD_eq_getElem?_getD, ek]; rfl
  refine @Ex.expose _ _ _ _ _ _ _ _ _ rfl ?_
  unfold lstep
  dsimp only
  rw [ed]
  unfold rhoI
  dsimp only
  refine @Ex.asg _ _ _ _ _ _ _ _ _ _ (.int (s.dist + subC (S [bc]) (S [a[k]]))) _ _ (by exact fun _ _ => rfl) (by decide +kernel) (by ktr_rel) ?_ ?_
  · kwd_rel
    any_goals exact @Itm.S _ _ _ _ _ ek (by omega)
    · exact fn_sub H (low_ok _ hb) (low_ok _ hc)
  refine @Ex.asg _ _ _ _ _ _ _ _ _ _ (.int (s.row.getD k 0)) _ _ (by exact fun _ _ => rfl) (by decide +kernel) (by ktr_rel) ?_ ?_
  · kwd_rel
    · exact @Itm.own _ _ _ _ (k : Int) _ (by omega) (by omega) (by unfold DI; rw [List.getElem?_map, Int.toNat_natCast, hrk]; rfl)
  refine @Ex.asg _ _ _ _ _ _ _ _ _ _ (.int (min s.res (s.row.getD k 0) + 2)) _ _ (by exact fun _ _ => rfl) (by decide +kernel) (by ktr_rel) ?_ ?_
  · kwd_rel
  refine @Ex.asg _ _ _ _ _ _ _ _ _ _ (.int (min (min s.res (s.row.getD k 0) + 2) (s.dist + subC (S [bc]) (S [a[k]])))) _ _ (by exact fun _ _ => rfl) (by decide +kernel) (by ktr_rel) ?_ ?_
  · kwd_rel
  generalize hq : min (min s.res (s.row.getD k 0) + 2) (s.dist + subC (S [bc]) (S [a[k]])) = q
  have es : (DI s.row).set ((k : Int)).toNat (.int q) = DI (s.row.set k q) := by unfold DI; rw [Int.toNat_natCast, List.map_set]
  have hdl : (DI s.row).length = s.row.length := by unfold DI; rw [List.length_map]
  have hfl : ∀ x ∈ DI s.row, x.flat = true := fun x hx => by obtain ⟨i, _, rfl⟩ := List.mem_map.mp hx; rfl
  refine @Ex.cons _ _ _ _ _ _ _ (("row", .own r ((DI s.row).set ((k : Int)).toNat (.int q))) :: [("result", .int q), ("distance", .int (s.row.getD k 0)), ("minimum", .int s.mini), ("bchar", .str (S [bc])), ("a", .str (S a)), ("b", .str (S b)), ("max_cost", .int m)]) _ ?_ ?_
  · refine Ex1.setOwn (x := "row") (a := r) (ds := DI s.row) (k := (k : Int)) (d := .int q) (by kwd_inv) ?_ ?_ (by omega) (by omega) (by rw [hdl]; omega) (by decide +kernel) (by decide +kernel) ?_ rfl hfl hr (by exact fun _ => rfl)
    · kwd_rel
    · kwd_rel
    · have fl : ∀ (p : PySem.Str × D) (a r : Store), (p ∈ r ∧ p.2.flat = true) → (∀ q ∈ a, q ∈ r ∧ q.2.flat = true) → ∀ q ∈ p :: a, q ∈ r ∧ q.2.flat = true := fun p a r h k q hq => (List.mem_cons.mp hq).elim (fun e => e ▸ h) (k q)
      repeat (refine fl _ _ _ ⟨by kwd_inv, rfl⟩ ?_)
      exact fun _ h => nomatch h
  rw [es]
  rcases Classical.em (q < s.mini) with hm | hm
  · rw [if_pos hm]
    refine @Ex.cons _ _ _ _ _ _ _ _ _ (Ex1.ifT (EvB.is (b := decide (q < s.mini)) ?_ (decide_eq_true hm)) (@Ex.asg _ _ _ _ _ _ _ _ _ _ (.int q) _ _ (by exact fun _ _ => rfl) (by decide +kernel) (by ktr_rel) ?_ Ex.nil)) (Ex.sub Ex.nil ?_)
    · kwd_rel
    · kwd_rel
    · repeat (refine sub_cons (by kwd_inv) ?_)
      exact sub_nil
  · rw [if_neg hm]
    refine Ex.sub (Ex.ifNo (EvB.is (b := decide (q < s.mini)) ?_ (decide_eq_false hm)) Ex.nil) ?_
    · kwd_rel
    · repeat (refine sub_cons (by kwd_inv) ?_)
      exact sub_nil
end
end

-- part G14
section
theorem lstep_len {a : List Nat} {bc : Nat} {s : LSt} {k : Nat} : (lstep a bc s k).row.length = s.row.length := by unfold lstep; simp
theorem lrow_len {a : List Nat} {bc : Nat} {s : LSt} : ∀ k, (lrow a bc s k).row.length = s.row.length
  | 0 => rfl
  | k + 1 => by unfold lrow; rw [lstep_len, lrow_len k]
theorem louter_len {a b : List Nat} : ∀ j, (louter a b j).row.length = a.length
  | 0 => by unfold louter; simp
  | j + 1 => by unfold louter; rw [lrow_len]; exact louter_len j
theorem names_ne {x : PySem.Str} {ρ : Store} (L : List PySem.Str) (hL : ρ.map (·.1) = L) (h : (L.any fun y => y == x) = false) : ∀ p ∈ ρ, p.1 ≠ x := fun p hp e => by
  have := List.any_eq_false.mp h p.1 (hL ▸ List.mem_map_of_mem (f := Prod.fst) hp)
  exact this (beq_iff_eq.mpr e)
def rhoO (a b : List Nat) (m : Int) (r : Addr) (s : LSt) : Store := [("result", .int s.res), ("row", .own r (DI s.row)), ("a", .str (S a)), ("b", .str (S b)), ("max_cost", .int m)]
section
variable {C : Cx} {n : Nat} (H : Hd C)
include H
theorem lev_line {a b : List Nat} {m : Int} {W : List Addr} {r : Addr} {j : Nat} (hr : r ∈ W) (hj : j < b.length) (ha : ∀ c ∈ a, c < 128) (hb : ∀ c ∈ b, c < 128) (hz : a.length < 1000) (hz2 : b.length < 1000) :
    Ex C (n + 1) (scAt 5) W (("bindex", .int (j : Int)) :: rhoO a b m r (louter a b j)) (forBody 5 15) (match decide (m < (louter a b (j + 1)).mini) with | true => .ret (.int (m + 1)) | false => .next (rhoO a b m r (louter a b (j + 1)))) := by
  refine @Ex.expose _ _ _ _ _ _ _ _ _ rfl ?_
  have ek : b[j]? = some b[j] := List.getElem?_eq_getElem hj
  have ed : b.getD j 0 = b[j] := by rw [List.getD_eq_getElem?_getD, ek]; rfl
  have hbc : b[j] < 128 := hb _ (List.getElem_mem hj)
  have eo : louter a b (j + 1) = lrow a b[j] (lstart (louter a b j).row j) a.length := by rw [← ed]; rfl
  rw [eo]
  have hlen := @louter_len a b j
  generalize louter a b j = s0 at hlen
  unfold rhoO
  refine @Ex.asg _ _ _ _ _ _ _ _ _ _ (.str (S [b[j]])) _ _ (by exact fun _ _ => rfl) (by decide +kernel) (by ktr_rel) ?_ ?_
  · kwd_rel
    any_goals exact @Itm.S _ _ _ _ _ ek (by omega)
  generalize b[j] = bc at hbc
  refine @Ex.cons _ _ _ _ _ _ _ (("result", .int ((j * 2 : Nat) : Int)) :: ("distance", .int ((j * 2 : Nat) : Int)) :: [("bchar", .str (S [bc])), ("row", .own r (DI s0.row)), ("a", .str (S a)), ("b", .str (S b)), ("max_cost", .int m)]) _ ?_ ?_
  · refine Ex1.assign2 ?_ (stoB_ok (by decide +kernel)) (stoB_ok (by decide +kernel)) ?_ (names_ne ["bchar", "row", "a", "b", "max_cost"] rfl (by decide +kernel)) (names_ne ["bchar", "row", "a", "b", "max_cost"] rfl (by decide +kernel)) (by decide +kernel) (by exact fun _ => rfl)
    · kwd_rel
    · repeat (refine sub_cons (by kwd_inv) ?_)
      exact sub_nil
  refine @Ex.asg _ _ _ _ _ _ _ _ _ _ (.int 9223372036854775807) _ _ (by exact fun _ _ => rfl) (by decide +kernel) (by ktr_rel) Ev.int ?_
  refine @Ex.cons _ _ _ _ _ _ _ (rhoI a b m bc r (lrow a bc (lstart s0.row j) a.length)) _ ?_ ?_
  · refine (Ex1.forG (d := .range 0 ((a.length : Nat) : Int) 1) (ds := (List.range a.length).map fun i : Nat => .int (i : Int)) (r := true) ?_ Iter.rangeN (.inr rfl) (stoB_ok (by decide +kernel)) (fun k => rhoI a b m bc r (lrow a bc (lstart s0.row j) k)) a.length (by simp) ?_ (fun k hk => names_ne ["distance", "result", "minimum", "row", "bchar", "a", "b", "max_cost"] rfl (by decide +kernel)) ?_ (.inl ⟨by simp, rfl⟩) (by exact fun _ _ => rfl) (by exact fun _ _ => rfl))
    · kwd_rel
      · rw [S_length]; omega
      · rw [S_length]; exact @Fn.rangeN _ _ _ (Nat.ble_eq.mpr (by omega))
    · unfold rhoI lrow lstart
      dsimp only
      repeat (refine sub_cons (by kwd_inv) ?_)
      exact sub_nil
    · intro k e hk he
      have : e = .int (k : Int) := by
        rw [List.getElem?_map, List.getElem?_range hk] at he
        exact (Option.some.inj he).symm
      subst this
      exact @lev_turn C n H a b m bc W r _ k hr hk (by rw [lrow_len]; exact hlen) ha hbc (by omega)
  generalize lrow a bc (lstart s0.row j) a.length = s1
  unfold rhoI
  cases hm : decide (m < s1.mini) with
  | true =>
    show Ex _ _ _ _ _ _ (.ret (.int (m + 1)))
    refine Ex.ifYes (EvB.is ?_ hm) (Ex.rets ?_)
    · kwd_rel
    · kwd_rel
  | false =>
    refine Ex.sub (Ex.ifNo (EvB.is ?_ hm) Ex.nil) ?_
    · kwd_rel
    · repeat (refine sub_cons (by kwd_inv) ?_)
      exact sub_nil
end
end

-- part G15
section
theorem lcut_some {a b : List Nat} {m : Int} {j : Nat} (h : lcut a b m = some j) : j < b.length ∧ decide (m < (louter a b (j + 1)).mini) = true ∧ ∀ k, k < j → decide (m < (louter a b (k + 1)).mini) = false := by
  unfold lcut at h
  obtain ⟨h1, i, hi, h2, h3⟩ := List.find?_eq_some_iff_getElem.mp h
  simp only [List.length_range] at hi
  simp only [List.getElem_range] at h2 h3
  subst h2
  exact ⟨hi, h1, fun k hk => by simpa using h3 k hk⟩
theorem lcut_none {a b : List Nat} {m : Int} (h : lcut a b m = none) : ∀ k, k < b.length → decide (m < (louter a b (k + 1)).mini) = false := fun k hk => by
  unfold lcut at h
  have := List.find?_eq_none.mp h k (List.mem_range.mpr hk)
  simpa using this
theorem range_ok : ∀ k < 1000, Builtin.Range.small 2 ((2 * (k + 1) : Nat) : Int) 2 = true ∧ Builtin.Range.rangeSize 2 ((2 * (k + 1) : Nat) : Int) 2 = (k : Int) := by decide +kernel
theorem range_two {C : Cx} {n k : Nat} (hk : k < 1000) : Fn C n (.type "range") [.int 2, .int ((2 * (k + 1) : Nat) : Int), .int 2] (.range 2 (k : Int) 2) :=
  Fn.range3 (by decide) (range_ok k hk).1 (range_ok k hk).2 (by decide)
section
variable {C : Cx} {n : Nat} (H : Hd C)
include H
theorem lev_loop {a b : List Nat} {m : Int} (ha : ∀ c ∈ a, c < 128) (hb : ∀ c ∈ b, c < 128) (hz : a.length < 1000) (hz2 : b.length < 1000) :
    Ex C (n + 1) (scAt 5) [] [("a", .str (S a)), ("b", .str (S b)), ("max_cost", .int m)] ((bodyAt 5).drop 13) (.ret (.int (lloop a b m))) := by
  refine @Ex.expose _ _ _ _ _ _ _ _ _ rfl ?_
  refine @Ex.ownRange C (n + 1) (scAt 5) [("a", .str (S a)), ("b", .str (S b)), ("max_cost", .int m)] _ _ _ _ _ _ _ 2 (a.length : Int) 2 _ _ [("a", .str (S a)), ("b", .str (S b)), ("max_cost", .int m)] ?_ (@Hd.list _ _ H (by decide +kernel)) (by omega) (by omega) (by decide +kernel) (fun _ h => h) (names_ne ["a", "b", "max_cost"] rfl (by decide +kernel)) (by exact fun _ => rfl) (by exact fun _ => rfl) (by exact fun _ => rfl) ?_ (by intro _ h; cases h)
  · kwd_rel
    · rw [S_length]; omega
    · rw [S_length]; exact range_two hz
  intro r
  have e0 : rItems 2 (a.length : Int) 2 = DI (louter a b 0).row := by
    unfold rItems louter DI
    rw [List.map_map, Int.toNat_natCast]; rfl
  rw [e0]
  refine @Ex.asg _ _ _ _ _ _ _ _ _ _ (.int 0) _ _ (by exact fun _ _ => rfl) (by decide +kernel) (by ktr_rel) Ev.int ?_
  have hon : ∀ k : Nat, ∀ p ∈ rhoO a b m r (louter a b k), p.1 ≠ "bindex" := fun k => names_ne ["result", "row", "a", "b", "max_cost"] rfl (by decide +kernel)
  have step : ∀ k : Nat, k < b.length → decide (m < (louter a b (k + 1)).mini) = false → ∀ e, ((List.range b.length).map fun i : Nat => D.int (i : Int))[k]? = some e → Ex C (n + 1) (scAt 5) [r] (("bindex", e) :: rhoO a b m r (louter a b k)) (forBody 5 15) (.next (rhoO a b m r (louter a b (k + 1)))) := fun k hk hc e he => by
    have : e = .int (k : Int) := by
      rw [List.getElem?_map, List.getElem?_range hk] at he
      exact (Option.some.inj he).symm
    subst this
    have t := @lev_line C n H a b m [r] r k (List.Mem.head _) hk ha hb hz hz2
    rw [hc] at t
    exact @t
  unfold lloop
  cases hq : lcut a b m with
  | none =>
    have hc := lcut_none hq
    show Ex _ _ _ _ _ _ (.ret (.int (louter a b b.length).res))
    refine @Ex.cons _ _ _ _ _ _ _ (rhoO a b m r (louter a b b.length)) _ ?_ (Ex.rets ?_)
    · refine (Ex1.forG (d := .range 0 ((b.length : Nat) : Int) 1) (ds := (List.range b.length).map fun i : Nat => .int (i : Int)) (r := true) ?_ Iter.rangeN (.inr rfl) (stoB_ok (by decide +kernel)) (fun k => rhoO a b m r (louter a b k)) b.length (by simp) ?_ (fun k _ => hon k) ?_ (.inl ⟨by simp, rfl⟩) (by exact fun _ _ => rfl) (by exact fun _ _ => rfl))
      · kwd_rel
        · rw [S_length]; omega
        · rw [S_length]; exact @Fn.rangeN _ _ _ (Nat.ble_eq.mpr (by omega))
      · unfold rhoO louter
        dsimp only
        repeat (refine sub_cons (by kwd_inv) ?_)
        exact sub_nil
      · intro k e hk he
        exact @step k hk (hc k hk) e he
    · unfold rhoO
      kwd_rel
  | some j =>
    obtain ⟨hj, hj1, hj2⟩ := lcut_some hq
    show Ex _ _ _ _ _ _ (.ret (.int (m + 1)))
    have t := @lev_line C n H a b m [r] r j (List.Mem.head _) hj ha hb hz hz2
    rw [hj1] at t
    refine @Ex.consRet _ _ _ _ _ _ _ _ ?_
    refine (Ex1.forG (d := .range 0 ((b.length : Nat) : Int) 1) (ds := (List.range b.length).map fun i : Nat => .int (i : Int)) (r := true) ?_ Iter.rangeN (.inr rfl) (stoB_ok (by decide +kernel)) (fun k => rhoO a b m r (louter a b k)) j (by simp; omega) ?_ (fun k _ => hon k) ?_ (.inr ⟨.int ((j : Nat) : Int), _, by rw [List.getElem?_map, List.getElem?_range hj]; rfl, rfl, t⟩) (by exact fun _ _ => rfl) (by exact fun _ _ => rfl))
    · kwd_rel
      · rw [S_length]; omega
      · rw [S_length]; exact @Fn.rangeN _ _ _ (Nat.ble_eq.mpr (by omega))
    · unfold rhoO louter
      dsimp only
      repeat (refine sub_cons (by kwd_inv) ?_)
      exact sub_nil
    · intro k e hk he
      exact @step k (by omega) (hj2 k hk) e he
end
end

-- part G16
section
section
variable {C : Cx} {n : Nat} {sc : Scope} {W : List Addr} {ρ : Store}
theorem EvB.strT {e : Expr} {x : List Nat} (he : Ev C n sc ρ e (.str (S x))) (hz : x.length < 1000) (hi : ∀ env w, isTrue e env w = (do let v ← w; standAt e.pos; holding [v] (truthy v))) : EvB C n sc ρ e (x.length != 0) := by
  rw [← S_length x]
  exact @EvB.val C n sc ρ e _ _ he (Tr.str (by rw [S_length]; omega)) hi
end
section
variable {C : Cx} {n : Nat} (H : Hd C)
include H
theorem lev_core {a b : List Nat} {m : Int} (ha : ∀ c ∈ a, c < 128) (hb : ∀ c ∈ b, c < 128) (hz : a.length < 1000) (hz2 : b.length < 1000) :
    Ex C (n + 1) (scAt 5) [] [("a", .str (S a)), ("b", .str (S b)), ("max_cost", .int m)] ((bodyAt 5).drop 12) (.ret (.int (lcore a b m))) := by
  refine @Ex.expose _ _ _ _ _ _ _ _ _ rfl ?_
  unfold lcore
  rcases Classical.em ((((b.length : Int) - a.length) * 2) > m) with h | h
  · rw [if_pos h]
    refine Ex.ifYes (EvB.is (b := decide (m < ((b.length : Int) - a.length) * 2)) ?_ (decide_eq_true h)) (Ex.rets ?_)
    · rw [← S_length a, ← S_length b]
      kwd_rel
      · rw [S_length]; omega
      · rw [S_length]; omega
      · exact .of_right (by decide)
    · kwd_rel
  · rw [if_neg h]
    refine Ex.ifNo (EvB.is (b := decide (m < ((b.length : Int) - a.length) * 2)) ?_ (decide_eq_false h)) ?_
    · rw [← S_length a, ← S_length b]
      kwd_rel
      · rw [S_length]; omega
      · rw [S_length]; omega
      · exact .of_right (by decide)
    · exact @lev_loop C n H a b m ha hb hz hz2
theorem lev_tail {a b : List Nat} {m : Int} (ha : ∀ c ∈ a, c < 128) (hb : ∀ c ∈ b, c < 128) (hz : a.length < 1000) (hz2 : b.length < 1000) :
    Ex C (n + 1) (scAt 5) [] [("a", .str (S a)), ("b", .str (S b)), ("max_cost", .int m)] ((bodyAt 5).drop 9) (.ret (.int (ltail a b m))) := by
  refine @Ex.expose _ _ _ _ _ _ _ _ _ rfl ?_
  unfold ltail
  have t1 : ∀ e1 e2 : Expr, ∀ p1 p2 pos : Pos, EvB C (n + 1) (scAt 5) [("a", .str (S a)), ("b", .str (S b)), ("max_cost", .int m)] e1 (a.length != 0) → EvB C (n + 1) (scAt 5) [("a", .str (S a)), ("b", .str (S b)), ("max_cost", .int m)] e2 (b.length != 0) → EvB C (n + 1) (scAt 5) [("a", .str (S a)), ("b", .str (S b)), ("max_cost", .int m)] (.BoolOp .Or [.UnaryOp .Not e1 p1, .UnaryOp .Not e2 p2] pos) (decide (a.length = 0 ∨ b.length = 0)) := fun e1 e2 p1 p2 pos q1 q2 => by
    have e : (!(a.length != 0) || (!(b.length != 0) || false)) = decide (a.length = 0 ∨ b.length = 0) := by
      rw [Bool.or_false, Bool.eq_iff_iff]; simp
    rw [← e]; exact @EvB.boolOp C _ (scAt 5) _ _ _ _ _ (EvA.or (EvB.not q1) fun _ => EvA.or (EvB.not q2) fun _ => EvA.orNil)
  rcases Classical.em (a.length = 0 ∨ b.length = 0) with h | h
  · rw [if_pos h]
    show Ex _ _ _ _ _ _ (.ret (.int (2 * ((a.length : Int) + b.length))))
    refine Ex.ifYes (EvB.is (t1 _ _ _ _ _ ?_ ?_) (decide_eq_true h)) (Ex.rets ?_)
    · refine @EvB.strT _ _ _ _ _ _ ?_ hz (by exact fun _ _ => rfl)
      kwd_rel
    · refine @EvB.strT _ _ _ _ _ _ ?_ hz2 (by exact fun _ _ => rfl)
      kwd_rel
    · rw [← S_length a, ← S_length b]
      refine Ev.is (b := .int ((2 * ((S a).length + (S b).length) : Nat) : Int)) ?_ (by rw [Int.natCast_mul, Int.natCast_add]; rfl)
      kwd_rel
      · rw [S_length]; omega
      · rw [S_length]; omega
  rw [if_neg h]
  refine @Ex.ifNo _ _ _ _ _ _ _ _ _ _ (EvB.is (t1 _ _ _ _ _ ?_ ?_) (decide_eq_false h)) ?_
  · refine @EvB.strT _ _ _ _ _ _ ?_ hz (by exact fun _ _ => rfl)
    kwd_rel
  · refine @EvB.strT _ _ _ _ _ _ ?_ hz2 (by exact fun _ _ => rfl)
    kwd_rel
  have t2 : ∀ e1 e2 : Expr, ∀ pos : Pos, EvB C (n + 1) (scAt 5) [("a", .str (S a)), ("b", .str (S b)), ("max_cost", .int m)] e1 (decide ((40 : Int) < ((S a).length : Int))) → EvB C (n + 1) (scAt 5) [("a", .str (S a)), ("b", .str (S b)), ("max_cost", .int m)] e2 (decide ((40 : Int) < ((S b).length : Int))) → EvB C (n + 1) (scAt 5) [("a", .str (S a)), ("b", .str (S b)), ("max_cost", .int m)] (.BoolOp .Or [e1, e2] pos) (decide (40 < a.length ∨ 40 < b.length)) := fun e1 e2 pos q1 q2 => by
    have e : (decide ((40 : Int) < ((S a).length : Int)) || (decide ((40 : Int) < ((S b).length : Int)) || false)) = decide (40 < a.length ∨ 40 < b.length) := by
      rw [Bool.or_false, Bool.eq_iff_iff, S_length, S_length]; simp; omega
    rw [← e]; exact @EvB.boolOp C _ (scAt 5) _ _ _ _ _ (EvA.or q1 fun _ => EvA.or q2 fun _ => EvA.orNil)
  rcases Classical.em (40 < a.length ∨ 40 < b.length) with h2 | h2
  · rw [if_pos h2]
    show Ex _ _ _ _ _ _ (.ret (.int (m + 1)))
    refine Ex.ifYes (EvB.is (t2 _ _ _ ?_ ?_) (decide_eq_true h2)) (Ex.rets ?_)
    · kwd_rel
      rw [S_length]; omega
    · kwd_rel
      rw [S_length]; omega
    · kwd_rel
  rw [if_neg h2]
  refine @Ex.ifNo _ _ _ _ _ _ _ _ _ _ (EvB.is (t2 _ _ _ ?_ ?_) (decide_eq_false h2)) ?_
  · kwd_rel
    rw [S_length]; omega
  · kwd_rel
    rw [S_length]; omega
  have e3 : decide (((S b).length : Int) < ((S a).length : Int)) = decide (b.length < a.length) := by
    rw [S_length, S_length]; exact decide_eq_decide.mpr Int.ofNat_lt
  rcases Classical.em (b.length < a.length) with h3 | h3
  · rw [if_pos h3]
    refine @Ex.cons _ _ _ _ _ _ _ [("a", .str (S b)), ("b", .str (S a)), ("max_cost", .int m)] _ ?_ (@lev_core C n H b a m hb ha hz2 hz)
    refine Ex1.ifT (EvB.is ?_ (e3.trans (decide_eq_true h3))) ?_
    · kwd_rel
      · rw [S_length]; omega
      · rw [S_length]; omega
    refine @Ex.swap2 _ _ _ _ _ _ _ _ _ _ _ _ _ _ _ _ _ (.str (S b)) (.str (S a)) _ _ (by decide +kernel) (by decide +kernel) (by rfl) (by rfl) (by rfl) (by decide +kernel) (by decide +kernel) (by exact fun _ => rfl) (by ktr_rel) (by ktr_rel) ?_ ?_
    · kwd_rel
    · refine Ex.sub Ex.nil ?_
      repeat (refine sub_cons (by kwd_inv) ?_)
      exact sub_nil
  · rw [if_neg h3]
    refine @Ex.ifNo _ _ _ _ _ _ _ _ _ _ (EvB.is ?_ (e3.trans (decide_eq_false h3))) (@lev_core C n H a b m ha hb hz hz2)
    kwd_rel
    · rw [S_length]; omega
    · rw [S_length]; omega
end
end

-- part G17
section
def preT (a b : List Nat) (k : Nat) : Bool := ((a.drop k).length != 0) && (((b.drop k).length != 0) && decide (a.getD k 0 = b.getD k 0))
def sufT (a b : List Nat) (k : Nat) : Bool := ((a.take (a.length - k)).length != 0) && (((b.take (b.length - k)).length != 0) && decide (a.getD (a.length - (k + 1)) 0 = b.getD (b.length - (k + 1)) 0))
theorem getD_some {a : List Nat} {k c : Nat} (h : a[k]? = some c) : a.getD k 0 = c := by rw [List.getD_eq_getElem?_getD, h]; rfl
theorem preT_lt {a b : List Nat} {k : Nat} (h : k < cpl a b) : preT a b k = true := by
  obtain ⟨c, h1, h2⟩ := cpl_lt a b k h
  unfold preT
  rw [getD_some h1, getD_some h2]
  simp [bne_iff_ne]
  have := cpl_le a b
  omega
theorem preT_end {a b : List Nat} : preT a b (cpl a b) = false := by
  unfold preT
  rcases cpl_end a b with h | h | ⟨c, d, h1, h2, h3⟩
  · rw [nil_of h]; rfl
  · rw [nil_of h]; simp
  · rw [getD_some h1, getD_some h2]; simp [h3]
theorem rev_some {l : List Nat} {k : Nat} (h : k < l.length) : l.reverse[k]? = l[l.length - (k + 1)]? := by
  rw [rev_get h]; congr 1; omega
theorem sufT_lt {a b : List Nat} {k : Nat} (h : k < cpl a.reverse b.reverse) : sufT a b k = true := by
  obtain ⟨c, h1, h2⟩ := cpl_lt _ _ k h
  have hl := cpl_le a.reverse b.reverse
  rw [List.length_reverse, List.length_reverse] at hl
  rw [rev_some (by omega)] at h1 h2
  unfold sufT
  rw [getD_some h1, getD_some h2]
  simp [bne_iff_ne]
  omega
theorem sufT_end {a b : List Nat} : sufT a b (cpl a.reverse b.reverse) = false := by
  have hl := cpl_le a.reverse b.reverse
  rw [List.length_reverse, List.length_reverse] at hl
  unfold sufT
  rcases cpl_end a.reverse b.reverse with h | h | ⟨c, d, h1, h2, h3⟩
  · have := List.getElem?_eq_none_iff.mp h
    rw [List.length_reverse] at this
    have e : a.length - cpl a.reverse b.reverse = 0 := by omega
    rw [e]; simp
  · have := List.getElem?_eq_none_iff.mp h
    rw [List.length_reverse] at this
    have e : b.length - cpl a.reverse b.reverse = 0 := by omega
    rw [e]; simp
  · have l1 := (List.getElem?_eq_some_iff.mp h1).1
    have l2 := (List.getElem?_eq_some_iff.mp h2).1
    rw [List.length_reverse] at l1 l2
    rw [rev_some (by omega)] at h1 h2
    rw [getD_some h1, getD_some h2]; simp [h3]
def whileTest (i k : Nat) : Expr := match ((bodyAt i)[k]? : Option Stmt) with | some (Stmt.While t _ _ _) => t | _ => .Constant .none 0 default
def postO (k : Nat) : Option Int := match k with | 0 => none | k + 1 => some (-((k + 1 : Nat) : Int))
theorem slice_post (l : List Nat) (k : Nat) (h : k ≤ l.length) : Txt.slice (S l) none (postO k) = S (l.take (l.length - k)) := by
  cases k with
  | zero => show Txt.slice (S l) none none = _; rw [slice_all]; simp
  | succ k => exact slice_to l (k + 1) (by omega) h
section
variable {C : Cx} {n : Nat} {sc : Scope} {W : List Addr} {ρ : Store}
theorem EvB.and3 {e1 e2 e3 : Expr} {pos : Pos} {p q r : Bool} (h1 : EvB C n sc ρ e1 p) (h2 : EvB C n sc ρ e2 q) (h3 : p = true → q = true → EvB C n sc ρ e3 r) : EvB C n sc ρ (.BoolOp .And [e1, e2, e3] pos) (p && (q && r)) := by
  have e : (p && (q && (r && true))) = (p && (q && r)) := by rw [Bool.and_true]
  rw [← e]
  exact @EvB.boolOp C n sc ρ _ _ _ _ (EvA.and h1 fun hp => EvA.and h2 fun hq => EvA.and (h3 hp hq) fun _ => EvA.andNil)
theorem EvP.post {p1 p2 pos : Pos} {kk k : Nat} (hm : (("post" : PySem.Str), D.int (-(k : Int))) ∈ ρ) : EvP C n sc ρ (some (.BoolOp .Or [.Name "post" p1, .Constant .none kk p2] pos)) (postO k) := by
  cases k with
  | zero => 
    have q : Ev C n sc ρ (.BoolOp .Or [.Name "post" p1, .Constant .none kk p2] pos) (if ((-((0 : Nat) : Int)) != 0) = true then D.int (-((0 : Nat) : Int)) else D.none) := @Ev.or2 C n sc ρ _ _ _ _ _ _ (Ev.var' hm (by decide +kernel)) Tr.int fun _ => Ev.none
    exact @EvP.none C n sc ρ _ q
  | succ k =>
    have q : Ev C n sc ρ (.BoolOp .Or [.Name "post" p1, .Constant .none kk p2] pos) (if ((-((k + 1 : Nat) : Int)) != 0) = true then D.int (-((k + 1 : Nat) : Int)) else D.none) := @Ev.or2 C n sc ρ _ _ _ _ _ _ (Ev.var' hm (by decide +kernel)) Tr.int fun _ => Ev.none
    rw [if_pos (by simp [bne_iff_ne]; omega)] at q
    exact @EvP.int C n sc ρ _ _ q
end

section
variable {C : Cx} {n : Nat} (H : Hd C)
include H
theorem suf_test {a b : List Nat} {m : Int} {k : Nat} (hk : k ≤ a.length) (hk2 : k ≤ b.length) (hz : a.length < 1000) (hz2 : b.length < 1000) :
    EvB C (n + 1) (scAt 5) [("post", .int (-(k : Int))), ("a", .str (S a)), ("b", .str (S b)), ("max_cost", .int m)] (whileTest 5 6) (sufT a b k) := by
  unfold sufT
  refine @EvB.and3 _ _ _ _ _ _ _ _ _ _ _ ?_ ?_ ?_
  · refine @EvB.strT _ _ _ _ _ _ ?_ (by rw [List.length_take]; omega) (by exact fun _ _ => rfl)
    rw [← slice_post a k hk]
    refine @Ev.slice' _ _ _ _ _ _ _ _ _ (.str (S a)) _ none (postO k) ?_ True.intro EvP.nil (@EvP.post _ _ _ _ _ _ _ _ _ (by kwd_inv)) (Slc.str (by rw [S_length]; exact Nat.le_trans (Nat.le_of_lt hz) (by decide)))
    kwd_rel
  · refine @EvB.strT _ _ _ _ _ _ ?_ (by rw [List.length_take]; omega) (by exact fun _ _ => rfl)
    rw [← slice_post b k hk2]
    refine @Ev.slice' _ _ _ _ _ _ _ _ _ (.str (S b)) _ none (postO k) ?_ True.intro EvP.nil (@EvP.post _ _ _ _ _ _ _ _ _ (by kwd_inv)) (Slc.str (by rw [S_length]; exact Nat.le_trans (Nat.le_of_lt hz2) (by decide)))
    kwd_rel
  · intro hp hq
    rw [bne_iff_ne, List.length_take] at hp hq
    have e1 : a[a.length - (k + 1)]? = some (a.getD (a.length - (k + 1)) 0) := by rw [List.getD_eq_getElem?_getD, List.getElem?_eq_getElem (by omega)]; rfl
    have e2 : b[b.length - (k + 1)]? = some (b.getD (b.length - (k + 1)) 0) := by rw [List.getD_eq_getElem?_getD, List.getElem?_eq_getElem (by omega)]; rfl
    generalize a.getD (a.length - (k + 1)) 0 = c at e1
    generalize b.getD (b.length - (k + 1)) 0 = d at e2
    have ee : (S [c] == S [d]) = decide (c = d) := by rw [S_eq]; simp
    rw [← ee]
    have en : ((-(k : Int)) - 1) = -((k + 1 : Nat) : Int) := by omega
    refine @EvB.cmp' _ _ _ _ _ _ _ _ _ _ _ rfl ?_ ?_ Cmp.eq_ss
    · refine @Ev.sub' _ _ _ _ _ _ _ (.str (S a)) (.int (-((k + 1 : Nat) : Int))) _ (by exact fun _ _ => rfl) ?_ True.intro ?_ (@Itm.Sneg _ _ a _ _ (by omega) (by omega) e1 (by omega))
      · kwd_rel
      · rw [← en]; kwd_rel
    · refine @Ev.sub' _ _ _ _ _ _ _ (.str (S b)) (.int (-((k + 1 : Nat) : Int))) _ (by exact fun _ _ => rfl) ?_ True.intro ?_ (@Itm.Sneg _ _ b _ _ (by omega) (by omega) e2 (by omega))
      · kwd_rel
      · rw [← en]; kwd_rel
theorem pre_test {a b : List Nat} {m : Int} {k : Nat} (hz : a.length < 1000) (hz2 : b.length < 1000) :
    EvB C (n + 1) (scAt 5) [("pre", .int (k : Int)), ("a", .str (S a)), ("b", .str (S b)), ("max_cost", .int m)] (whileTest 5 2) (preT a b k) := by
  unfold preT
  refine @EvB.and3 _ _ _ _ _ _ _ _ _ _ _ ?_ ?_ ?_
  · refine @EvB.strT _ _ _ _ _ _ ?_ (by rw [List.length_drop]; omega) (by exact fun _ _ => rfl)
    rw [← slice_from a k]
    refine @Ev.slice' _ _ _ _ _ _ _ _ _ (.str (S a)) _ (some (k : Int)) none ?_ True.intro (EvP.int ?_) EvP.nil (Slc.str (by rw [S_length]; exact Nat.le_trans (Nat.le_of_lt hz) (by decide)))
    kwd_rel
    kwd_rel
  · refine @EvB.strT _ _ _ _ _ _ ?_ (by rw [List.length_drop]; omega) (by exact fun _ _ => rfl)
    rw [← slice_from b k]
    refine @Ev.slice' _ _ _ _ _ _ _ _ _ (.str (S b)) _ (some (k : Int)) none ?_ True.intro (EvP.int ?_) EvP.nil (Slc.str (by rw [S_length]; exact Nat.le_trans (Nat.le_of_lt hz2) (by decide)))
    kwd_rel
    kwd_rel
  · intro hp hq
    rw [bne_iff_ne, List.length_drop] at hp hq
    have e1 : a[k]? = some (a.getD k 0) := by rw [List.getD_eq_getElem?_getD, List.getElem?_eq_getElem (by omega)]; rfl
    have e2 : b[k]? = some (b.getD k 0) := by rw [List.getD_eq_getElem?_getD, List.getElem?_eq_getElem (by omega)]; rfl
    generalize a.getD k 0 = c at e1
    generalize b.getD k 0 = d at e2
    have ee : (S [c] == S [d]) = decide (c = d) := by rw [S_eq]; simp
    rw [← ee]
    refine @EvB.cmp' _ _ _ _ _ _ _ _ _ _ _ rfl ?_ ?_ Cmp.eq_ss
    · refine @Ev.sub' _ _ _ _ _ _ _ (.str (S a)) (.int (k : Int)) _ (by exact fun _ _ => rfl) ?_ True.intro ?_ (@Itm.S _ _ a _ _ e1 (by omega))
      · kwd_rel
      · kwd_rel
    · refine @Ev.sub' _ _ _ _ _ _ _ (.str (S b)) (.int (k : Int)) _ (by exact fun _ _ => rfl) ?_ True.intro ?_ (@Itm.S _ _ b _ _ e2 (by omega))
      · kwd_rel
      · kwd_rel
theorem lev_suf {a b : List Nat} {m : Int} (ha : ∀ c ∈ a, c < 128) (hb : ∀ c ∈ b, c < 128) (hz : a.length < 1000) (hz2 : b.length < 1000) :
    Ex C (n + 1) (scAt 5) [] [("a", .str (S a)), ("b", .str (S b)), ("max_cost", .int m)] ((bodyAt 5).drop 5) (.ret (.int (ltail (trimS a b).1 (trimS a b).2 m))) := by
  refine @Ex.expose _ _ _ _ _ _ _ _ _ rfl ?_
  have hl := cpl_le a.reverse b.reverse
  rw [List.length_reverse, List.length_reverse] at hl
  refine @Ex.asg _ _ _ _ _ _ _ _ _ _ (.int (-((0 : Nat) : Int))) _ _ (by exact fun _ _ => rfl) (by decide +kernel) (by ktr_rel) (@Ev.is _ _ _ _ _ _ _ (@Ev.int _ _ _ _ 0 _ _) rfl) ?_
  refine @Ex.cons _ _ _ _ _ _ _ [("post", .int (-((cpl a.reverse b.reverse : Nat) : Int))), ("a", .str (S a)), ("b", .str (S b)), ("max_cost", .int m)] _ (@Ex1.while _ _ _ _ _ _ _ (fun k => [("post", .int (-(k : Int))), ("a", .str (S a)), ("b", .str (S b)), ("max_cost", .int m)]) (cpl a.reverse b.reverse) ?_ ?_ ?_) ?_
  · intro k hk
    exact @EvB.is _ _ _ _ _ _ _ (@suf_test C n H a b m k (by omega) (by omega) hz hz2) (sufT_lt hk)
  · intro k hk
    have en : (-((k + 1 : Nat) : Int)) = ((-(k : Int)) - 1) := by omega
    show Ex _ _ _ _ _ _ (.next [("post", .int (-((k + 1 : Nat) : Int))), ("a", .str (S a)), ("b", .str (S b)), ("max_cost", .int m)])
    rw [en]
    refine @Ex.cons _ _ _ _ _ _ _ _ _ (Ex1.aug (x := "post") (a := .int (-(k : Int))) (b := .int 1) (ρ' := [("a", .str (S a)), ("b", .str (S b)), ("max_cost", .int m)]) (by kwd_inv) Ev.int Inp.sub (by decide +kernel) (fun _ h => List.Mem.tail _ h) (names_ne ["a", "b", "max_cost"] rfl (by decide +kernel))) Ex.nil
  · exact @EvB.is _ _ _ _ _ _ _ (@suf_test C n H a b m _ (by omega) (by omega) hz hz2) sufT_end
  · unfold trimS
    dsimp only
    generalize cpl a.reverse b.reverse = K at hl
    refine @Ex.asg _ _ _ _ _ _ _ _ _ _ (.str (S (a.take (a.length - K)))) _ _ (by exact fun _ _ => rfl) (by decide +kernel) (by ktr_rel) ?_ ?_
    · rw [← slice_post a K hl.1]
      refine @Ev.slice' _ _ _ _ _ _ _ _ _ (.str (S a)) _ none (postO K) ?_ True.intro EvP.nil (@EvP.post _ _ _ _ _ _ _ _ _ (by kwd_inv)) (Slc.str (by rw [S_length]; exact Nat.le_trans (Nat.le_of_lt hz) (by decide)))
      kwd_rel
    refine @Ex.asg _ _ _ _ _ _ _ _ _ _ (.str (S (b.take (b.length - K)))) _ _ (by exact fun _ _ => rfl) (by decide +kernel) (by ktr_rel) ?_ ?_
    · rw [← slice_post b K hl.2]
      refine @Ev.slice' _ _ _ _ _ _ _ _ _ (.str (S b)) _ none (postO K) ?_ True.intro EvP.nil (@EvP.post _ _ _ _ _ _ _ _ _ (by kwd_inv)) (Slc.str (by rw [S_length]; exact Nat.le_trans (Nat.le_of_lt hz2) (by decide)))
      kwd_rel
    refine Ex.pre (@lev_tail C n H (a.take (a.length - K)) (b.take (b.length - K)) m (fun c hc => ha c (List.mem_of_mem_take hc)) (fun c hc => hb c (List.mem_of_mem_take hc)) (by rw [List.length_take]; omega) (by rw [List.length_take]; omega)) ?_
    repeat (refine sub_cons (by kwd_inv) ?_)
    exact sub_nil
theorem fn_lev {a b : List Nat} {m : Int} (ha : ∀ c ∈ a, c < 128) (hb : ∀ c ∈ b, c < 128) (hz : a.length < 1000) (hz2 : b.length < 1000) : Fn C (n + 2) (.ref H.f5) [.str (S a), .str (S b), .int m] (.int (levF a b m)) := by
  refine H.d5.fn (by decide +kernel) rfl ?_
  show Ex C (n + 1) (scAt 5) [] [("a", .str (S a)), ("b", .str (S b)), ("max_cost", .int m)] (bodyAt 5) _
  refine @Ex.expose _ _ _ _ _ _ _ _ _ rfl ?_
  unfold levF
  rcases Classical.em (a = b) with h | h
  · rw [if_pos h]
    show Ex _ _ _ _ _ _ (.ret (.int 0))
    refine Ex.ifYes (EvB.is ?_ ((S_eq a b).trans (decide_eq_true h))) (Ex.rets ?_)
    · kwd_rel
    · kwd_rel
  rw [if_neg h]
  refine @Ex.ifNo _ _ _ _ _ _ _ _ _ _ (EvB.is ?_ ((S_eq a b).trans (decide_eq_false h))) ?_
  · kwd_rel
  refine @Ex.asg _ _ _ _ _ _ _ _ _ _ (.int ((0 : Nat) : Int)) _ _ (by exact fun _ _ => rfl) (by decide +kernel) (by ktr_rel) Ev.int ?_
  refine @Ex.cons _ _ _ _ _ _ _ [("pre", .int ((cpl a b : Nat) : Int)), ("a", .str (S a)), ("b", .str (S b)), ("max_cost", .int m)] _ (@Ex1.while _ _ _ _ _ _ _ (fun k => [("pre", .int (k : Int)), ("a", .str (S a)), ("b", .str (S b)), ("max_cost", .int m)]) (cpl a b) ?_ ?_ ?_) ?_
  · intro k hk
    exact @EvB.is _ _ _ _ _ _ _ (@pre_test C n H a b m k hz hz2) (preT_lt hk)
  · intro k hk
    refine @Ex.cons _ _ _ _ _ _ _ _ _ (Ex1.aug (x := "pre") (a := .int (k : Int)) (b := .int 1) (ρ' := [("a", .str (S a)), ("b", .str (S b)), ("max_cost", .int m)]) (by kwd_inv) Ev.int Inp.add (by decide +kernel) (fun _ h => List.Mem.tail _ h) (names_ne ["a", "b", "max_cost"] rfl (by decide +kernel))) Ex.nil
  · exact @EvB.is _ _ _ _ _ _ _ (@pre_test C n H a b m _ hz hz2) preT_end
  dsimp only
  unfold trimP
  generalize cpl a b = K
  refine @Ex.asg _ _ _ _ _ _ _ _ _ _ (.str (S (a.drop K))) _ _ (by exact fun _ _ => rfl) (by decide +kernel) (by ktr_rel) ?_ ?_
  · rw [← slice_from a K]
    refine @Ev.slice' _ _ _ _ _ _ _ _ _ (.str (S a)) _ (some (K : Int)) none ?_ True.intro (EvP.int ?_) EvP.nil (Slc.str (by rw [S_length]; exact Nat.le_trans (Nat.le_of_lt hz) (by decide)))
    kwd_rel
    kwd_rel
  refine @Ex.asg _ _ _ _ _ _ _ _ _ _ (.str (S (b.drop K))) _ _ (by exact fun _ _ => rfl) (by decide +kernel) (by ktr_rel) ?_ ?_
  · rw [← slice_from b K]
    refine @Ev.slice' _ _ _ _ _ _ _ _ _ (.str (S b)) _ (some (K : Int)) none ?_ True.intro (EvP.int ?_) EvP.nil (Slc.str (by rw [S_length]; exact Nat.le_trans (Nat.le_of_lt hz2) (by decide)))
    kwd_rel
    kwd_rel
  refine Ex.pre (@lev_suf C n H (a.drop K) (b.drop K) m (fun c hc => ha c (List.mem_of_mem_drop hc)) (fun c hc => hb c (List.mem_of_mem_drop hc)) (by rw [List.length_drop]; omega) (by rw [List.length_drop]; omega)) ?_
  repeat (refine sub_cons (by kwd_inv) ?_)
  exact sub_nil
end
end

-- part G18
section
section
variable {C : Cx} {n : Nat} {sc : Scope} {W : List Addr} {ρ ρ' : Store}
/-- x = [.. for ..], x a plain local -/
theorem Ex.asgM {α : Type} {elt iter : Expr} {x y : PySem.Str} {px py : Pos} {scope : Scope} {pos spos : Pos} {ss : List Stmt} {out : Out} {d : D} {l : List α} {g : α → D} {r : Bool} {f : D → D} (ρf : Store) (L : List PySem.Str) (hL : ρf.map (·.1) = L)
    (hs : ∀ env x, foldedSetIterable iter env x = pure x) (ht : ∀ it v, letOwnedTupleGo (.Name x px) it v = pure ()) (K : compB sc scope x = true) (hρ : ∀ q ∈ ρf, q ∈ ρ) (hfr : freeB scope L = true) (hz : l.length ≤ 100000)
    (hy : locB sc y = true) (hr : Rm y ρ ρ') (hsw : ∀ env, EnvOK sc env → swapsWith (.ListComp elt [⟨.Name x px, iter, [], 0⟩] scope pos) (some (.Name y py)) spos.line env = pure true)
    (hi : Ev C n sc ρ iter d) (hit : Iter C r d (l.map g)) (hf : ∀ a ∈ l, Ev C n scope ((x, g a) :: ρf) elt (f (g a))) (k : Ex C n sc W ((y, .list (l.map fun a => f (g a))) :: ρ') ss out) :
    Ex C n sc W ρ (.Assign [.Name y py] (.ListComp elt [⟨.Name x px, iter, [], 0⟩] scope pos) spos :: ss) out := by
  have e : l.map (fun a => f (g a)) = ((l.map g).filter fun _ => true).map f := by
    rw [List.filter_eq_self.mpr (fun _ _ => rfl), List.map_map]; rfl
  rw [e] at k
  refine @Ex.cons _ _ _ _ _ _ _ _ _ ?_ k
  refine @Ex1.assignComp C n sc W ρ elt iter x y px py [] scope pos spos d (l.map g) r (fun _ => true) f ρ' ρf hi hit (compB_ok K) (fun q hq => ⟨hρ q hq, ?_⟩) (Nat.le_trans (by rw [List.length_map]; exact hz) (by decide)) (fun d hd => EvIfs.nil) (fun d hd hpd => ?_) (locB_ok hy) hr.ok.1 hr.ok.2 hsw ht hs
  · unfold freeB at hfr
    have := List.all_eq_true.mp hfr q.1 (hL ▸ List.mem_map_of_mem (f := Prod.fst) hq)
    exact beq_iff_eq.mp this
  · obtain ⟨a, ha, rfl⟩ := List.mem_map.mp hd
    exact hf a ha
theorem swaps_cell {elt : Expr} {gs : List Comprehension} {x : PySem.Str} {px pos : Pos} {scope : Scope} {line : Nat} {env : Env} (O : EnvOK sc env) (hx : sc.names.lookup x = some .cell) : swapsWith (.ListComp elt gs scope pos) (some (.Name x px)) line env = pure false := by
  have e2 := (O.ce x hx).1
  have e3 : (NameKind.cell == NameKind.local) = false := by decide
  unfold swapsWith
  simp [e2, e3]
end
theorem Slc.own {C : Cx} {n : Nat} {a : Addr} {ds : List D} {lo hi : Option Int} (hz : ds.length ≤ sizeLine) : Slc C n (.own a ds) lo hi (.list (pick ds lo hi)) := by
  intro X A s v vl vu sl Q E _ G hv hs pl pu h
  cases hv with | @own _ vs _ hX hl hds =>
  have e := hds.length
  refine wpAny_getItem_list_slice hl hs pl pu .none (by simp) (h _ _ Kp.pushed' (.list (vs := (vs.drop (kms_lo lo vs.length)).take (kms_hi hi vs.length - kms_lo lo vs.length)) G.size ⟨0, ?_⟩ ?_)) (by rw [List.size_toArray, e]; exact hz)
  · rw [kms_pick_eq]; exact Heap.get?_push_size _ rfl
  · unfold pick; rw [e]; exact ((hds.drop _).take _).grow (Grows.push _ _)
def L4 (f : Nat → D) : D := .list [f 0, f 1, f 2, f 3]
theorem L4_map (f : Nat → D) : D.list ((List.range 4).map f) = L4 f := rfl
theorem Iter.L4 {C : Cx} {f : Nat → D} : Iter C false (Mine.L4 f) ((List.range 4).map f) := Iter.list
theorem lt4 {a : Nat} (h : a ∈ List.range 4) : a < 4 := List.mem_range.mp h
theorem Itm.L4 {C : Cx} {n : Nat} {f : Nat → D} {k : Nat} (hk : k < 4) : Itm C n (Mine.L4 f) (.int (k : Int)) (f k) := by
  refine @Itm.list _ _ _ (k : Int) _ (by omega) (by omega) ?_
  have : k = 0 ∨ k = 1 ∨ k = 2 ∨ k = 3 := by omega
  rcases this with rfl | rfl | rfl | rfl <;> rfl
def remF (x : Int) : Nat := (x.fmod 82944000).toNat
theorem remF_eq (x : Int) : x.fmod 82944000 = (remF x : Int) := by
  unfold remF
  rw [Int.toNat_of_nonneg]
  exact Int.fmod_nonneg_of_pos x (by decide)
theorem remF_lt (x : Int) : remF x < 82944000 := by
  have h1 := remF_eq x
  have h2 := Int.fmod_lt_of_pos x (show (0 : Int) < 82944000 by decide)
  omega
def laidF (k : Nat) : Nat := [3357741, 13597812, 62933079, 34516220].getD k 0
def cntF (k len : Nat) : Nat := (len + 3 - k) / 4
def sumF (xs : List Int) (k : Nat) : Nat := ((List.range (cntF k xs.length)).map fun i => remF (xs.getD (k + 4 * i) 0)).sum + laidF k
theorem cast_sum (l : List Nat) : ((l.sum : Nat) : Int) = (l.map fun x : Nat => (x : Int)).sum := by
  induction l with
  | nil => rfl
  | cons x r ih => rw [List.sum_cons, List.map_cons, List.sum_cons, Int.natCast_add, ih]
theorem range4_ok : ∀ k : Nat, k < 4 → ∀ len : Nat, len < 64 → Builtin.Range.small ((k : Nat) : Int) ((len : Nat) : Int) 4 = true ∧ Builtin.Range.rangeSize ((k : Nat) : Int) ((len : Nat) : Int) 4 = ((cntF k len : Nat) : Int) := by decide +kernel
theorem Fn.range4 {C : Cx} {n k len : Nat} (hk : k < 4) (hl : len < 64) : Fn C n (.type "range") [.int (k : Int), .int (len : Int), .int 4] (.range (k : Int) ((cntF k len : Nat) : Int) 4) :=
  Fn.range3 (by decide) (range4_ok k hk len hl).1 (range4_ok k hk len hl).2 (by decide)
theorem Iter.range4 {C : Cx} {k c : Nat} : Iter C true (.range (k : Int) (c : Int) 4) ((List.range c).map fun i : Nat => .int ((k + 4 * i : Nat) : Int)) := by
  have e : rItems (k : Int) (c : Int) 4 = (List.range c).map fun i : Nat => D.int ((k + 4 * i : Nat) : Int) := by
    unfold rItems
    rw [Int.toNat_natCast]
    exact List.map_congr_left fun i _ => by congr 1; omega
  rw [← e]; exact @Iter.range C (k : Int) (c : Int) 4 (Int.natCast_nonneg c)
section
variable {C : Cx} {n : Nat} (H : Hd C)
include H
theorem law_sums {sa : Addr} {xs : List Int} (hz : xs.length < 64) {out : Out}
    (h : Ex C n (scAt 22) [] [("sums", L4 fun k => .int ((sumF (xs.take 60) k : Nat) : Int))] ((bodyAt 22).drop 3) out) : Ex C n (scAt 22) [] [("script", .own sa (DI xs))] (bodyAt 22) out := by
  refine @Ex.expose _ _ _ _ _ _ _ _ _ rfl ?_
  refine @Ex.asg _ _ _ _ _ _ _ _ _ _ (.list (DI (xs.take 60))) _ _ (by exact fun _ _ => rfl) (by decide +kernel) (by ktr_rel) ?_ ?_
  · have e : DI (xs.take 60) = pick (DI xs) none (some ((60 : Nat) : Int)) := by rw [pick_to]; unfold DI; rw [List.map_take]
    rw [e]
    refine @Ev.slice' _ _ _ _ _ _ _ _ _ (.own sa (DI xs)) _ none (some ((60 : Nat) : Int)) ?_ True.intro EvP.nil (EvP.int Ev.int) (Slc.own (by unfold DI; rw [List.length_map]; exact Nat.le_trans (Nat.le_of_lt hz) (by decide)))
    kwd_rel
  have hz' : (xs.take 60).length < 64 := by rw [List.length_take]; omega
  generalize xs.take 60 = ys at hz' h
  refine @Ex.asg _ _ _ _ _ _ _ _ _ _ (.tup [.int 3357741, .int 13597812, .int 62933079, .int 34516220]) _ _ (by exact fun _ _ => rfl) (by decide +kernel) (by ktr_rel) ?_ ?_
  · kwd_rel
  refine @Ex.asg _ _ _ _ _ _ _ _ _ _ (L4 fun k => .int ((sumF ys k : Nat) : Int)) _ _ (fun _ O => swaps_cell O (by decide +kernel)) (by decide +kernel) (by ktr_rel) ?_ (Ex.pre (@h) ?_)
  · rw [← L4_map]
    refine Ev.compM (l := List.range 4) (g := fun i : Nat => .int (i : Int)) (d := .range 0 ((4 : Nat) : Int) 1) (f := fun d => .int ((sumF ys (unN d) : Nat) : Int)) [("numbers", .list (DI ys)), ("laid", .tup [.int 3357741, .int 13597812, .int 62933079, .int 34516220])] ["numbers", "laid"] rfl (fun _ _ => rfl) (fun _ _ => rfl) (by decide +kernel)
      ?_ (by decide +kernel) (by decide) ?_ Iter.rangeN fun k hk' => ?_
    · repeat (refine sub_cons (by kwd_inv) ?_)
      exact sub_nil
    · kwd_rel
      exact Fn.rangeL rfl
    · have hk := lt4 hk'
      show Ev _ _ _ _ _ (.int ((sumF ys k : Nat) : Int))
      unfold sumF
      have hj : ∀ i, i < cntF k ys.length → k + 4 * i < ys.length := fun i hi => by unfold cntF at hi; omega
      have hc : cntF k ys.length ≤ 16 := by unfold cntF; omega
      have hb : ∀ x ∈ (((List.range (cntF k ys.length)).map fun i => remF (ys.getD (k + 4 * i) 0)).map fun x : Nat => (x : Int)), -(2 ^ 40) ≤ x ∧ x ≤ 2 ^ 40 := fun x hx => by
        obtain ⟨y, hy, rfl⟩ := List.mem_map.mp hx
        obtain ⟨i, _, rfl⟩ := List.mem_map.mp hy
        have := remF_lt (ys.getD (k + 4 * i) 0)
        omega
      rw [Int.natCast_add, cast_sum]
      refine @Ev.bin _ _ _ _ _ _ _ _ _ _ _ (@Ev.callB' _ _ _ _ _ _ _ _ _ _ _ _ (fun _ => rfl) (fun _ => rfl) (@Hd.sum _ _ H (by decide +kernel)) (@EvL.cons' _ _ _ _ _ _ _ _ (fun _ => rfl) ?_ EvL.nil) (Fn.sum_list (sum_ok hb (by rw [List.length_map, List.length_map, List.length_range]; omega)))) ?_ Bin.add_ii
      · refine Ev.is (Ev.compM (l := List.range (cntF k ys.length)) (g := fun i : Nat => .int ((k + 4 * i : Nat) : Int)) (d := .range (k : Int) ((cntF k ys.length : Nat) : Int) 4) (f := fun d => .int ((remF (ys.getD (unN d) 0) : Nat) : Int)) [("numbers", .list (DI ys))] ["numbers"] rfl (fun _ _ => rfl) (fun _ _ => rfl) (by decide +kernel)
          (sub_cons (by kwd_inv) sub_nil) (by decide +kernel) (by rw [List.length_range]; omega) ?_ Iter.range4 fun i hi => ?_) (by unfold DI; rw [List.map_map, List.map_map]; rfl)
        · kwd_rel
          · unfold DI; rw [List.length_map]; omega
          · unfold DI; rw [List.length_map]; exact Fn.range4 hk hz'
        · show Ev _ _ _ _ _ (.int ((remF (ys.getD (k + 4 * i) 0) : Nat) : Int))
          have hi' := hj i (List.mem_range.mp hi)
          rw [← remF_eq]
          refine @Ev.bin _ _ _ _ _ _ _ _ _ _ _ (@Ev.sub' _ _ _ _ _ _ _ (.list (DI ys)) (.int ((k + 4 * i : Nat) : Int)) _ (fun _ _ => rfl) ?_ True.intro ?_ (@Itm.list _ _ _ _ (.int (ys.getD (k + 4 * i) 0)) (by omega) (by omega) ?_)) Ev.int (Bin.mod_ii (by decide))
          · kwd_rel
          · kwd_rel
          · unfold DI
            rw [Int.toNat_natCast, List.getElem?_map, List.getD_eq_getElem?_getD, List.getElem?_eq_getElem hi']; rfl
      · refine @Ev.sub' _ _ _ _ _ _ _ (.tup [.int 3357741, .int 13597812, .int 62933079, .int 34516220]) (.int (k : Int)) _ (fun _ _ => rfl) ?_ True.intro ?_ (@Itm.tup _ _ _ _ _ (by omega) (by omega) ?_)
        · kwd_rel
        · kwd_rel
        · have : k = 0 ∨ k = 1 ∨ k = 2 ∨ k = 3 := by omega
          rcases this with rfl | rfl | rfl | rfl <;> rfl
  · repeat (refine sub_cons (by kwd_inv) ?_)
    exact sub_nil
end
end

-- part G19
section
def ray (m : Nat) : Nat := 2 * (m / 432000 % 192) + 1
noncomputable section
def nmF (m : Nat) : T3 := rgbHsvF (ratN (m % 5) 4) (ratN (m / 5 % 5) 4) (ratN (m / 25 % 5) 4)
def otF (m k : Nat) : T3 := rgbHlsF (can (paintF m k).1) (can (paintF m k).2.1) (can (paintF m k).2.2)
def qOK (a k : Nat) : Bool := finN (magN (mulN (ratN 1048576 1) (can a))) && decide (q20 a = ((262144 * k : Nat) : Int))
end
/-- what the float tables tell -/
structure Tabs : Prop where
  hsvOk : ∀ m, okHsv (ratN (m % 5) 4) (ratN (m / 5 % 5) 4) (ratN (m / 25 % 5) 4) = true
  rgbOk : ∀ m, okRgb (nmF m).1 (nmF m).2.1 = true
  q0 : ∀ m, qOK (hsvRgbF (nmF m).1 (nmF m).2.1 (nmF m).2.2).1 (m % 5) = true
  q1 : ∀ m, qOK (hsvRgbF (nmF m).1 (nmF m).2.1 (nmF m).2.2).2.1 (m / 5 % 5) = true
  q2 : ∀ m, qOK (hsvRgbF (nmF m).1 (nmF m).2.1 (nmF m).2.2).2.2 (m / 25 % 5) = true
  hlsOk : ∀ m k, okHls (can (paintF m k).1) (can (paintF m k).2.1) (can (paintF m k).2.2) = true
  evenL : ∀ m k, k % 2 = 0 → qOK (otF m k).2.1 (m / 36000 % 3 + 1) = true
  evenS : ∀ m k, k % 2 = 0 → qOK (otF m k).2.2 (m / 108000 % 4 + 1) = true
  oddOk : ∀ m k, k % 2 = 1 → okHsv (paintF m k).1 (paintF m k).2.1 (paintF m k).2.2 = true
  oddS : ∀ m k, k % 2 = 1 → qOK (rgbHsvF (paintF m k).1 (paintF m k).2.1 (paintF m k).2.2).2.1 (m / 108000 % 4 + 1) = true
  oddL : ∀ m k, k % 2 = 1 → qOK (rgbHsvF (paintF m k).1 (paintF m k).2.1 (paintF m k).2.2).2.2 (m / 36000 % 3 + 1) = true
theorem fin5 {x : Nat} (hx : x < 5) : finN (magN (ratN x 4)) = true := below (p := fun x => finN (magN (ratN x 4))) (K := 5) (by decide +kernel) hx
def unT : D → List D | .tup l => l | _ => []
def dgN (d : D) (i : Nat) : Nat := unN ((unL d).getD i .none)
def dgF (d : D) (i : Nat) : Nat := unF ((unT d).getD i .none)
theorem dgF0 (t : T3) : dgF (D3 t) 0 = can t.1 := unF_F _
theorem dgF1 (t : T3) : dgF (D3 t) 1 = can t.2.1 := unF_F _
theorem dgF2 (t : T3) : dgF (D3 t) 2 = can t.2.2 := unF_F _
theorem Itm.D30 {C : Cx} {n : Nat} {t : T3} : Itm C n (D3 t) (.int 0) (F t.1) := @Itm.tup _ _ _ _ _ (by decide) (by decide) rfl
theorem Itm.D31 {C : Cx} {n : Nat} {t : T3} : Itm C n (D3 t) (.int 1) (F t.2.1) := @Itm.tup _ _ _ _ _ (by decide) (by decide) rfl
theorem Itm.D32 {C : Cx} {n : Nat} {t : T3} : Itm C n (D3 t) (.int 2) (F t.2.2) := @Itm.tup _ _ _ _ _ (by decide) (by decide) rfl
theorem Itm.l0 {C : Cx} {n : Nat} {a b c : D} : Itm C n (.list [a, b, c]) (.int 0) a := @Itm.list _ _ _ _ _ (by decide) (by decide) rfl
theorem Itm.l1 {C : Cx} {n : Nat} {a b c : D} : Itm C n (.list [a, b, c]) (.int 1) b := @Itm.list _ _ _ _ _ (by decide) (by decide) rfl
theorem Itm.l2 {C : Cx} {n : Nat} {a b c : D} : Itm C n (.list [a, b, c]) (.int 2) c := @Itm.list _ _ _ _ _ (by decide) (by decide) rfl
def colD (m : Nat) : D := .list [.int ((m % 5 : Nat) : Int), .int ((m / 5 % 5 : Nat) : Int), .int ((m / 25 % 5 : Nat) : Int)]
noncomputable def st8 (s : Nat → Nat) : Store := [("others", L4 fun k => D3 (otF (s k) k)), ("names", L4 fun k => D3 (nmF (s k))), ("painted", L4 fun k => D3 (paintF (s k) k)), ("colours", L4 fun k => colD (s k)), ("rays", L4 fun k => .int ((ray (s k) : Nat) : Int)), ("sums", L4 fun k => .int ((s k : Nat) : Int))]
section
variable {C : Cx} {n : Nat} (H : Hd C)
include H
theorem law_lists (T : Tabs) {s : Nat → Nat} {out : Out} (h : Ex C (n + 3) (scAt 22) [] (st8 s) ((bodyAt 22).drop 8) out) : Ex C (n + 3) (scAt 22) [] [("sums", L4 fun k => .int ((s k : Nat) : Int))] ((bodyAt 22).drop 3) out := by
  refine @Ex.expose _ _ _ _ _ _ _ _ _ rfl ?_
  refine @Ex.asg _ _ _ _ _ _ _ _ _ _ (L4 fun k => .int ((ray (s k) : Nat) : Int)) _ _ (fun _ O => swaps_cell O (by decide +kernel)) (by decide +kernel) (by ktr_rel) ?_ ?_
  · show Ev _ _ _ _ _ (.list ((List.range 4).map fun k => .int ((ray (s k) : Nat) : Int)))
    refine Ev.compM (l := List.range 4) (g := fun k : Nat => .int ((s k : Nat) : Int)) (d := L4 fun k => .int ((s k : Nat) : Int)) (f := fun d => .int ((ray (unN d) : Nat) : Int)) [] [] rfl (fun _ _ => rfl) (fun _ _ => rfl) (by decide +kernel) sub_nil rfl (by decide) ?_ Iter.L4 fun k hk => ?_
    · kwd_rel
    · show Ev _ _ _ _ _ (.int ((2 * (s k / 432000 % 192) + 1 : Nat) : Int))
      kwd_rel
  refine @Ex.asgM _ _ _ _ _ _ Nat _ _ _ _ _ _ _ _ _ _ _ (L4 fun k => .int ((s k : Nat) : Int)) (List.range 4) (fun k : Nat => .int ((s k : Nat) : Int)) _ (fun d => colD (unN d)) [] [] rfl (by exact fun _ _ => rfl) (by exact fun _ _ => rfl) (by decide +kernel) sub_nil rfl (by decide) (by decide +kernel) (by ktr_rel) (fun env O => swaps_yes O (locB_ok (by decide +kernel)) rfl (by decide +kernel)) ?_ Iter.L4 (fun k hk => ?_) ?_
  · kwd_rel
  · show Ev _ _ _ _ _ (colD (s k))
    unfold colD
    kwd_rel
  show Ex _ _ _ _ (("colours", L4 fun k => colD (s k)) :: _) _ _
  refine @Ex.asgM _ _ _ _ _ _ Nat _ _ _ _ _ _ _ _ _ _ _ (.range 0 ((4 : Nat) : Int) 1) (List.range 4) (fun i : Nat => .int (i : Int)) _ (fun d => D3 (paintF (s (unN d)) (unN d))) [("sums", L4 fun k => .int ((s k : Nat) : Int))] ["sums"] rfl (by exact fun _ _ => rfl) (by exact fun _ _ => rfl) (by decide +kernel) (sub_cons (by kwd_inv) sub_nil) (by decide +kernel) (by decide) (by decide +kernel) (by ktr_rel) (fun env O => swaps_yes O (locB_ok (by decide +kernel)) rfl (by decide +kernel)) ?_ Iter.rangeN (fun k hk => ?_) ?_
  · kwd_rel
    exact Fn.rangeL rfl
  · show Ev _ _ _ _ _ (D3 (paintF (s k) k))
    kwd_rel
    any_goals exact @Itm.L4 _ _ (fun k => D.int ((s k : Nat) : Int)) k (lt4 hk)
    exact fn_paint H
  show Ex _ _ _ _ (("painted", L4 fun k => D3 (paintF (s k) k)) :: _) _ _
  refine @Ex.asgM _ _ _ _ _ _ Nat _ _ _ _ _ _ _ _ _ _ _ (L4 fun k => colD (s k)) (List.range 4) (fun k : Nat => colD (s k)) _ (fun d => D3 (rgbHsvF (ratN (dgN d 0) 4) (ratN (dgN d 1) 4) (ratN (dgN d 2) 4))) [] [] rfl (by exact fun _ _ => rfl) (by exact fun _ _ => rfl) (by decide +kernel) sub_nil rfl (by decide) (by decide +kernel) (by ktr_rel) (fun env O => swaps_yes O (locB_ok (by decide +kernel)) rfl (by decide +kernel)) ?_ Iter.L4 (fun k hk => ?_) ?_
  · kwd_rel
  · show Ev _ _ _ _ _ (D3 (rgbHsvF (ratN (s k % 5) 4) (ratN (s k / 5 % 5) 4) (ratN (s k / 25 % 5) 4)))
    unfold colD
    kwd_rel
    any_goals exact fin5 (Nat.mod_lt _ (by decide))
    exact fn_hsv H (T.hsvOk _)
  show Ex _ _ _ _ (("names", L4 fun k => D3 (nmF (s k))) :: _) _ _
  refine @Ex.asgM _ _ _ _ _ _ Nat _ _ _ _ _ _ _ _ _ _ _ (L4 fun k => D3 (paintF (s k) k)) (List.range 4) (fun k : Nat => D3 (paintF (s k) k)) _ (fun d => D3 (rgbHlsF (dgF d 0) (dgF d 1) (dgF d 2))) [] [] rfl (by exact fun _ _ => rfl) (by exact fun _ _ => rfl) (by decide +kernel) sub_nil rfl (by decide) (by decide +kernel) (by ktr_rel) (fun env O => swaps_yes O (locB_ok (by decide +kernel)) rfl (by decide +kernel)) ?_ Iter.L4 (fun k hk => ?_) ?_
  · kwd_rel
  · show Ev _ _ _ _ _ (D3 (rgbHlsF (dgF (D3 (paintF (s k) k)) 0) (dgF (D3 (paintF (s k) k)) 1) (dgF (D3 (paintF (s k) k)) 2)))
    have ok := T.hlsOk (s k) k
    rw [dgF0, dgF1, dgF2]
    kwd_rel
    rw [← F_can (paintF (s k) k).1, ← F_can (paintF (s k) k).2.1, ← F_can (paintF (s k) k).2.2]
    exact fn_hls H ok
  have e : (List.range 4).map (fun a => (fun d => D3 (rgbHlsF (dgF d 0) (dgF d 1) (dgF d 2))) ((fun k : Nat => D3 (paintF (s k) k)) a)) = (List.range 4).map fun k => D3 (otF (s k) k) := by
    refine List.map_congr_left fun k _ => ?_
    show D3 (rgbHlsF (dgF (D3 (paintF (s k) k)) 0) (dgF (D3 (paintF (s k) k)) 1) (dgF (D3 (paintF (s k) k)) 2)) = _
    rw [dgF0, dgF1, dgF2]; rfl
  rw [e]
  exact @h
end
end

-- part G20
section
section
variable {C : Cx} {n : Nat} {sc : Scope} {ρ : Store}
theorem Ev.at {x y : PySem.Str} {p q pos : Pos} {f : Nat → D} {k : Nat} (hx : (x, L4 f) ∈ ρ) (hy : (y, D.int (k : Int)) ∈ ρ) (hk : k < 4) (dx : ((x == ("__debug__" : PySem.Str)) || (x == ("__classdict__" : PySem.Str))) = false) (dy : ((y == ("__debug__" : PySem.Str)) || (y == ("__classdict__" : PySem.Str))) = false) :
    Ev C n sc ρ (.Subscript (.Name x p) (.Name y q) pos) (f k) :=
  @Ev.sub' _ _ _ _ _ _ _ (Mine.L4 f) (.int (k : Int)) _ (fun _ _ => rfl) (Ev.var' hx dx) True.intro (Ev.var' hy dy) (Itm.L4 hk)
theorem Ev.at0 {e : Expr} {p pos : Pos} {kk : Nat} {t : T3} (h : Ev C n sc ρ e (D3 t)) : Ev C n sc ρ (.Subscript e (.Constant (.int 0) kk p) pos) (F t.1) := @Ev.sub' _ _ _ _ _ _ _ (D3 t) (.int 0) _ (fun _ _ => rfl) (@h) True.intro Ev.int Itm.D30
theorem Ev.at1 {e : Expr} {p pos : Pos} {kk : Nat} {t : T3} (h : Ev C n sc ρ e (D3 t)) : Ev C n sc ρ (.Subscript e (.Constant (.int 1) kk p) pos) (F t.2.1) := @Ev.sub' _ _ _ _ _ _ _ (D3 t) (.int 1) _ (fun _ _ => rfl) (@h) True.intro Ev.int Itm.D31
theorem Ev.at2 {e : Expr} {p pos : Pos} {kk : Nat} {t : T3} (h : Ev C n sc ρ e (D3 t)) : Ev C n sc ρ (.Subscript e (.Constant (.int 2) kk p) pos) (F t.2.2) := @Ev.sub' _ _ _ _ _ _ _ (D3 t) (.int 2) _ (fun _ _ => rfl) (@h) True.intro Ev.int Itm.D32
theorem EvL.one {e : Expr} {d : D} (h : ∀ env, starEach [e] env = (false, eval e env) :: starEach [] env) (he : Ev C n sc ρ e d) : EvL C n sc ρ [e] [d] := EvL.cons he EvL.nil h
end
section
variable {C : Cx} {n : Nat} (H : Hd C)
include H
theorem quarters3 {u : T3} {a b c : Nat} (h0 : qOK u.1 a = true) (h1 : qOK u.2.1 b = true) (h2 : qOK u.2.2 c = true) : Fn C (n + 1) (.ref H.f19) [D3 u, .list [.int (a : Int), .int (b : Int), .int (c : Int)]] (.bool true) := by
  unfold qOK at h0 h1 h2
  simp only [Bool.and_eq_true, decide_eq_true_eq] at h0 h1 h2
  have q := @fn_quarters C n H [u.1, u.2.1, u.2.2] [a, b, c] (by simp) (by simp) (fun x hx => by
    simp only [List.mem_cons, List.not_mem_nil, or_false] at hx
    rcases hx with rfl | rfl | rfl
    · exact h0.1
    · exact h1.1
    · exact h2.1)
  have e : decide ([u.1, u.2.1, u.2.2].map q20 = [a, b, c].map fun k : Nat => ((262144 * k : Nat) : Int)) = true := by
    rw [decide_eq_true_eq]
    simp only [List.map_cons, List.map_nil, h0.2, h1.2, h2.2]
  rw [e] at q
  exact @q
theorem quarters2 {x y a b : Nat} (h0 : qOK x a = true) (h1 : qOK y b = true) : Fn C (n + 1) (.ref H.f19) [.tup [F x, F y], .list [.int (a : Int), .int (b : Int)]] (.bool true) := by
  unfold qOK at h0 h1
  simp only [Bool.and_eq_true, decide_eq_true_eq] at h0 h1
  have q := @fn_quarters C n H [x, y] [a, b] (by simp) (by simp) (fun z hz => by
    simp only [List.mem_cons, List.not_mem_nil, or_false] at hz
    rcases hz with rfl | rfl
    · exact h0.1
    · exact h1.1)
  have e : decide ([x, y].map q20 = [a, b].map fun k : Nat => ((262144 * k : Nat) : Int)) = true := by
    rw [decide_eq_true_eq]
    simp only [List.map_cons, List.map_nil, h0.2, h1.2]
  rw [e] at q
  exact @q
theorem law_turn1 (T : Tabs) {s : Nat → Nat} {k : Nat} (hk : k < 4) : Ex C (n + 3) (scAt 22) [] (("at", .int (k : Int)) :: st8 s) (forBody 22 8) (.next (st8 s)) := by
  refine @Ex.expose _ _ _ _ _ _ _ _ _ rfl ?_
  unfold st8
  refine @Ex.ifNo _ _ _ _ _ _ _ _ _ _ (EvB.is (EvB.not (b := true) (@EvB.val _ _ _ _ _ (.bool true) true ?_ Tr.bool (by exact fun _ _ => rfl))) rfl) ?_
  · refine @Hd.c19 _ _ _ _ _ _ _ _ [D3 (hsvRgbF (nmF (s k)).1 (nmF (s k)).2.1 (nmF (s k)).2.2), colD (s k)] _ H (by exact fun _ => rfl) (by decide +kernel) (@EvL.cons' _ _ _ _ _ _ _ _ (by exact fun _ => rfl) ?_ (EvL.one (by exact fun _ => rfl) ?_)) (@quarters3 C _ H _ _ _ _ (T.q0 _) (T.q1 _) (T.q2 _))
    · refine @Hd.c14 _ _ _ _ _ _ _ _ [F (nmF (s k)).1, F (nmF (s k)).2.1, F (nmF (s k)).2.2] _ H (by exact fun _ => rfl) (by decide +kernel) (@EvL.cons' _ _ _ _ _ _ _ _ (by exact fun _ => rfl) ?_ (@EvL.cons' _ _ _ _ _ _ _ _ (by exact fun _ => rfl) ?_ (EvL.one (by exact fun _ => rfl) ?_))) (@fn_hsvrgb C _ H _ _ _ (T.rgbOk _))
      · exact @Ev.at0 _ _ _ _ _ _ _ _ _ (@Ev.at _ _ _ _ _ _ _ _ _ (fun k => D3 (nmF (s k))) k (by kwd_inv) (by kwd_inv) hk (by decide +kernel) (by decide +kernel))
      · exact @Ev.at1 _ _ _ _ _ _ _ _ _ (@Ev.at _ _ _ _ _ _ _ _ _ (fun k => D3 (nmF (s k))) k (by kwd_inv) (by kwd_inv) hk (by decide +kernel) (by decide +kernel))
      · exact @Ev.at2 _ _ _ _ _ _ _ _ _ (@Ev.at _ _ _ _ _ _ _ _ _ (fun k => D3 (nmF (s k))) k (by kwd_inv) (by kwd_inv) hk (by decide +kernel) (by decide +kernel))
    · exact @Ev.at _ _ _ _ _ _ _ _ _ (fun k => colD (s k)) k (by kwd_inv) (by kwd_inv) hk (by decide +kernel) (by decide +kernel)
  refine @Ex.swap3 _ _ _ _ _ _ _ _ _ _ _ _ _ _ _ _ _ _ _ (D3 (paintF (s k) k)) (.int ((s k / 36000 % 3 + 1 : Nat) : Int)) (.int ((s k / 108000 % 4 + 1 : Nat) : Int)) _ _ _ (by decide +kernel) (by decide +kernel) (by rfl) (by rfl) (by rfl) (by rfl) (by decide +kernel) (by decide +kernel) (by exact fun _ => rfl) (by ktr_rel) (by ktr_rel) (by ktr_rel) ?_ ?_
  · kwd_rel
    any_goals exact @Itm.L4 _ _ (fun k => D.int ((s k : Nat) : Int)) k hk
    any_goals exact @Itm.L4 _ _ (fun k => D3 (paintF (s k) k)) k hk
  have hp : k % 2 = 0 ∨ k % 2 = 1 := by omega
  rcases hp with hp | hp
  · have tb : ∀ ρ : Store, (("at" : PySem.Str), D.int (k : Int)) ∈ ρ → ∀ p1 p2 p3 : Pos, ∀ kk : Nat, EvB C (n + 3) (scAt 22) ρ (.BinOp (.Name "at" p1) .Mod (.Constant (.int 2) kk p2) p3) false := fun ρ hm p1 p2 p3 kk => by
      refine @EvB.is _ _ _ _ _ _ _ (@EvB.nat C (n + 3) (scAt 22) ρ _ (k % 2) (fun _ _ => rfl) (Ev.bin (Ev.var' hm (by decide +kernel)) Ev.int (Bin.mod_NL (by decide)))) (by rw [hp]; rfl)
    refine @Ex.asg _ _ _ _ _ _ _ _ _ _ (D3 (otF (s k) k)) _ _ (by exact fun _ _ => rfl) (by decide +kernel) (by ktr_rel) (@Ev.ifF _ _ _ _ _ _ _ _ _ (@tb _ (by kwd_inv) _ _ _ _) ?_) ?_
    · exact @Ev.at _ _ _ _ _ _ _ _ _ (fun k => D3 (otF (s k) k)) k (by kwd_inv) (by kwd_inv) hk (by decide +kernel) (by decide +kernel)
    refine @Ex.sub _ _ _ _ _ _ _ _ (@Ex.ifNo _ _ _ _ _ _ _ _ _ _ (@EvB.is _ _ _ _ _ _ _ (EvB.not (b := true) (@EvB.val _ _ _ _ _ (.bool true) true ?_ Tr.bool (by exact fun _ _ => rfl))) rfl) Ex.nil) ?_
    · refine @Hd.c19 _ _ _ _ _ _ _ _ [.tup [F (otF (s k) k).2.1, F (otF (s k) k).2.2], .list [.int ((s k / 36000 % 3 + 1 : Nat) : Int), .int ((s k / 108000 % 4 + 1 : Nat) : Int)]] _ H (by exact fun _ => rfl) (by decide +kernel) (@EvL.cons' _ _ _ _ _ _ _ _ (by exact fun _ => rfl) ?_ (EvL.one (by exact fun _ => rfl) ?_)) (@quarters2 C _ H _ _ _ _ (T.evenL _ _ hp) (T.evenS _ _ hp))
      · refine @Ev.slice' _ _ _ _ _ _ _ _ _ (D3 (otF (s k) k)) _ (some ((1 : Nat) : Int)) none ?_ True.intro (EvP.int Ev.int) EvP.nil (@Slc.tupFrom _ _ [F (otF (s k) k).1, F (otF (s k) k).2.1, F (otF (s k) k).2.2] 1 (by decide) (by simp) (by exact Nat.le_trans (show 3 ≤ 1000 by decide) (by decide)))
        kwd_rel
      · refine @Ev.ifF _ _ _ _ _ _ _ _ _ (@tb _ (by kwd_inv) _ _ _ _) ?_
        kwd_rel
    · repeat (refine sub_cons (by kwd_inv) ?_)
      exact sub_nil
  · have tb : ∀ ρ : Store, (("at" : PySem.Str), D.int (k : Int)) ∈ ρ → ∀ p1 p2 p3 : Pos, ∀ kk : Nat, EvB C (n + 3) (scAt 22) ρ (.BinOp (.Name "at" p1) .Mod (.Constant (.int 2) kk p2) p3) true := fun ρ hm p1 p2 p3 kk => by
      refine @EvB.is _ _ _ _ _ _ _ (@EvB.nat C (n + 3) (scAt 22) ρ _ (k % 2) (fun _ _ => rfl) (Ev.bin (Ev.var' hm (by decide +kernel)) Ev.int (Bin.mod_NL (by decide)))) (by rw [hp]; rfl)
    refine @Ex.asg _ _ _ _ _ _ _ _ _ _ (D3 (rgbHsvF (paintF (s k) k).1 (paintF (s k) k).2.1 (paintF (s k) k).2.2)) _ _ (by exact fun _ _ => rfl) (by decide +kernel) (by ktr_rel) (@Ev.ifT _ _ _ _ _ _ _ _ _ (@tb _ (by kwd_inv) _ _ _ _) ?_) ?_
    · refine @Hd.c13 _ _ _ _ _ _ _ _ [F (paintF (s k) k).1, F (paintF (s k) k).2.1, F (paintF (s k) k).2.2] _ H (by exact fun _ => rfl) (by decide +kernel) (@EvL.cons' _ _ _ _ _ _ _ _ (by exact fun _ => rfl) ?_ (@EvL.cons' _ _ _ _ _ _ _ _ (by exact fun _ => rfl) ?_ (EvL.one (by exact fun _ => rfl) ?_))) (@fn_hsv C _ H _ _ _ (T.oddOk _ _ hp))
      · refine @Ev.at0 _ _ _ _ _ _ _ _ _ ?_
        kwd_rel
      · refine @Ev.at1 _ _ _ _ _ _ _ _ _ ?_
        kwd_rel
      · refine @Ev.at2 _ _ _ _ _ _ _ _ _ ?_
        kwd_rel
    have oL := T.oddL (s k) k hp
    have oS := T.oddS (s k) k hp
    generalize rgbHsvF (paintF (s k) k).1 (paintF (s k) k).2.1 (paintF (s k) k).2.2 = t at oL oS
    refine @Ex.sub _ _ _ _ _ _ _ _ (@Ex.ifNo _ _ _ _ _ _ _ _ _ _ (@EvB.is _ _ _ _ _ _ _ (EvB.not (b := true) (@EvB.val _ _ _ _ _ (.bool true) true ?_ Tr.bool (by exact fun _ _ => rfl))) rfl) Ex.nil) ?_
    · refine @Hd.c19 _ _ _ _ _ _ _ _ [.tup [F t.2.1, F t.2.2], .list [.int ((s k / 108000 % 4 + 1 : Nat) : Int), .int ((s k / 36000 % 3 + 1 : Nat) : Int)]] _ H (by exact fun _ => rfl) (by decide +kernel) (@EvL.cons' _ _ _ _ _ _ _ _ (by exact fun _ => rfl) ?_ (EvL.one (by exact fun _ => rfl) ?_)) (@quarters2 C _ H _ _ _ _ oS oL)
      · refine @Ev.slice' _ _ _ _ _ _ _ _ _ (D3 t) _ (some ((1 : Nat) : Int)) none ?_ True.intro (EvP.int Ev.int) EvP.nil (@Slc.tupFrom _ _ [F t.1, F t.2.1, F t.2.2] 1 (by decide) (by simp) (by exact Nat.le_trans (show 3 ≤ 1000 by decide) (by decide)))
        kwd_rel
      · refine @Ev.ifT _ _ _ _ _ _ _ _ _ (@tb _ (by kwd_inv) _ _ _ _) ?_
        kwd_rel
    · repeat (refine sub_cons (by kwd_inv) ?_)
      exact sub_nil
end
end

-- part G21
section
def wd (a b c d : Bool) : List Nat := [cond a 65 97, cond b 66 98, cond c 67 99, cond d 68 100]
theorem word_wd (a b c d : Bool) : word a b c d = S (wd a b c d) := by cases a <;> cases b <;> cases c <;> cases d <;> decide +kernel
def unS : D → List Nat | .str x => x.cps.toList | _ => []
theorem unS_S (l : List Nat) : unS (.str (S l)) = l := rfl
noncomputable section
def b1 (s : Nat → Nat) (k i : Nat) : Bool := letB (can (nmF (s k)).1) (ray (s i))
def b2 (s : Nat → Nat) (k i : Nat) : Bool := letB (can (otF (s k) k).1) (ray (s i))
def w1 (s : Nat → Nat) (k : Nat) : List Nat := wd (b1 s k 0) (b1 s k 1) (b1 s k 2) (b1 s k 3)
def w2 (s : Nat → Nat) (k : Nat) : List Nat := wd (b2 s k 0) (b2 s k 1) (b2 s k 2) (b2 s k 3)
def tb (s : Nat → Nat) (k j : Nat) : Int := levF (w1 s k) (w2 s j) 4
end
theorem wd_small (a b c d : Bool) : ∀ x ∈ wd a b c d, x < 128 := by cases a <;> cases b <;> cases c <;> cases d <;> decide
def hpN (m : Nat) : Nat := (placeF (m % 5) (m / 5 % 5) (m / 25 % 5)).toNat
def tpN (m : Nat) : Nat := m / 125 % 72 * 64
theorem place_nn : ∀ a < 5, ∀ b < 5, ∀ c < 5, 0 ≤ placeF a b c := by decide +kernel
theorem hpN_eq (m : Nat) : placeF (m % 5) (m / 5 % 5) (m / 25 % 5) = (hpN m : Int) := by
  unfold hpN
  rw [Int.toNat_of_nonneg (place_nn _ (Nat.mod_lt _ (by decide)) _ (Nat.mod_lt _ (by decide)) _ (Nat.mod_lt _ (by decide)))]
noncomputable def st12 (s : Nat → Nat) : Store := [("here", L4 fun k => .int ((hpN (s k) : Nat) : Int)), ("there", L4 fun k => .int ((tpN (s k) : Nat) : Int)), ("table", L4 fun k => L4 fun j => .int (tb s k j)), ("ones", L4 fun k => .str (S (w1 s k))), ("twos", L4 fun k => .str (S (w2 s k))), ("rays", L4 fun k => .int ((ray (s k) : Nat) : Int))]
theorem ray_small (m : Nat) : ray m < 2 ^ 53 := by unfold ray; omega
section
variable {C : Cx} {n : Nat} (H : Hd C)
include H
theorem law_words {s : Nat → Nat} {out : Out} (h : Ex C (n + 3) (scAt 22) [] (st12 s) ((bodyAt 22).drop 12) out) : Ex C (n + 3) (scAt 22) [] (st8 s) ((bodyAt 22).drop 9) out := by
  refine @Ex.expose _ _ _ _ _ _ _ _ _ rfl ?_
  unfold st8
  refine @Ex.unpack2 _ _ _ _ _ _ _ _ _ _ _ _ _ _ _ (L4 fun k => .str (S (w1 s k))) (L4 fun k => .str (S (w2 s k))) _ _ (by decide +kernel) (by decide +kernel) (fun env O => unswapped2 O (by decide +kernel)) (by exact fun _ => rfl) (by ktr_rel) (by ktr_rel) ?_ ?_
  · refine @Ev.tup' _ _ _ _ _ _ _ _ (@EvL.cons' _ _ _ _ _ _ _ _ (by exact fun _ => rfl) ?_ (EvL.one (by exact fun _ => rfl) ?_)) LenOK.l2
    · refine Ev.is (Ev.compM (l := List.range 4) (g := fun k : Nat => D3 (nmF (s k))) (d := L4 fun k => D3 (nmF (s k))) (f := fun d => .str (word (letB (dgF d 0) (ray (s 0))) (letB (dgF d 0) (ray (s 1))) (letB (dgF d 0) (ray (s 2))) (letB (dgF d 0) (ray (s 3))))) [("rays", L4 fun k => .int ((ray (s k) : Nat) : Int))] ["rays"] rfl (fun _ _ => rfl) (fun _ _ => rfl) (by decide +kernel) (sub_cons (by kwd_inv) sub_nil) (by decide +kernel) (by decide) ?_ Iter.L4 fun k hk => ?_) ?_
      · kwd_rel
      · show Ev _ _ _ _ _ (.str (word (letB (dgF (D3 (nmF (s k))) 0) (ray (s 0))) (letB (dgF (D3 (nmF (s k))) 0) (ray (s 1))) (letB (dgF (D3 (nmF (s k))) 0) (ray (s 2))) (letB (dgF (D3 (nmF (s k))) 0) (ray (s 3)))))
        rw [dgF0]
        refine @Hd.c16 _ _ _ _ _ _ _ _ [F (can (nmF (s k)).1), .list [.int ((ray (s 0) : Nat) : Int), .int ((ray (s 1) : Nat) : Int), .int ((ray (s 2) : Nat) : Int), .int ((ray (s 3) : Nat) : Int)]] _ H (by exact fun _ => rfl) (by decide +kernel) (@EvL.cons' _ _ _ _ _ _ _ _ (by exact fun _ => rfl) ?_ (EvL.one (by exact fun _ => rfl) ?_)) (@fn_word C _ H _ _ _ _ _ ⟨ray_small _, ray_small _, ray_small _, ray_small _⟩)
        · rw [F_can]
          refine @Ev.at0 _ _ _ _ _ _ _ _ _ ?_
          kwd_rel
        · show Ev _ _ _ _ _ (L4 fun k => .int ((ray (s k) : Nat) : Int))
          kwd_rel
      · have e : ∀ k, D.str (word (letB (dgF (D3 (nmF (s k))) 0) (ray (s 0))) (letB (dgF (D3 (nmF (s k))) 0) (ray (s 1))) (letB (dgF (D3 (nmF (s k))) 0) (ray (s 2))) (letB (dgF (D3 (nmF (s k))) 0) (ray (s 3)))) = .str (S (w1 s k)) := fun k => by
          rw [dgF0, word_wd]; rfl
        exact congrArg D.list (List.map_congr_left fun k _ => e k)
    · refine Ev.is (Ev.compM (l := List.range 4) (g := fun k : Nat => D3 (otF (s k) k)) (d := L4 fun k => D3 (otF (s k) k)) (f := fun d => .str (word (letB (dgF d 0) (ray (s 0))) (letB (dgF d 0) (ray (s 1))) (letB (dgF d 0) (ray (s 2))) (letB (dgF d 0) (ray (s 3))))) [("rays", L4 fun k => .int ((ray (s k) : Nat) : Int))] ["rays"] rfl (fun _ _ => rfl) (fun _ _ => rfl) (by decide +kernel) (sub_cons (by kwd_inv) sub_nil) (by decide +kernel) (by decide) ?_ Iter.L4 fun k hk => ?_) ?_
      · kwd_rel
      · show Ev _ _ _ _ _ (.str (word (letB (dgF (D3 (otF (s k) k)) 0) (ray (s 0))) (letB (dgF (D3 (otF (s k) k)) 0) (ray (s 1))) (letB (dgF (D3 (otF (s k) k)) 0) (ray (s 2))) (letB (dgF (D3 (otF (s k) k)) 0) (ray (s 3)))))
        rw [dgF0]
        refine @Hd.c16 _ _ _ _ _ _ _ _ [F (can (otF (s k) k).1), .list [.int ((ray (s 0) : Nat) : Int), .int ((ray (s 1) : Nat) : Int), .int ((ray (s 2) : Nat) : Int), .int ((ray (s 3) : Nat) : Int)]] _ H (by exact fun _ => rfl) (by decide +kernel) (@EvL.cons' _ _ _ _ _ _ _ _ (by exact fun _ => rfl) ?_ (EvL.one (by exact fun _ => rfl) ?_)) (@fn_word C _ H _ _ _ _ _ ⟨ray_small _, ray_small _, ray_small _, ray_small _⟩)
        · rw [F_can]
          refine @Ev.at0 _ _ _ _ _ _ _ _ _ ?_
          kwd_rel
        · show Ev _ _ _ _ _ (L4 fun k => .int ((ray (s k) : Nat) : Int))
          kwd_rel
      · have e : ∀ k, D.str (word (letB (dgF (D3 (otF (s k) k)) 0) (ray (s 0))) (letB (dgF (D3 (otF (s k) k)) 0) (ray (s 1))) (letB (dgF (D3 (otF (s k) k)) 0) (ray (s 2))) (letB (dgF (D3 (otF (s k) k)) 0) (ray (s 3)))) = .str (S (w2 s k)) := fun k => by
          rw [dgF0, word_wd]; rfl
        exact congrArg D.list (List.map_congr_left fun k _ => e k)
  refine @Ex.asg _ _ _ _ _ _ _ _ _ _ (L4 fun k => L4 fun j => .int (tb s k j)) _ _ (fun _ O => swaps_cell O (by decide +kernel)) (by decide +kernel) (by ktr_rel) ?_ ?_
  · refine Ev.is (Ev.compM (l := List.range 4) (g := fun k : Nat => .str (S (w1 s k))) (d := L4 fun k => .str (S (w1 s k))) (f := fun d => .list ((List.range 4).map fun j => .int (levF (unS d) (w2 s j) 4))) [("twos", L4 fun k => .str (S (w2 s k)))] ["twos"] rfl (fun _ _ => rfl) (fun _ _ => rfl) (by decide +kernel) (sub_cons (by kwd_inv) sub_nil) (by decide +kernel) (by decide) ?_ Iter.L4 fun k hk => ?_) rfl
    · kwd_rel
    · show Ev _ _ _ _ _ (.list ((List.range 4).map fun j => .int (levF (w1 s k) (w2 s j) 4)))
      refine Ev.is (Ev.compM (l := List.range 4) (g := fun j : Nat => .str (S (w2 s j))) (d := L4 fun k => .str (S (w2 s k))) (f := fun d => .int (levF (w1 s k) (unS d) 4)) [("one", .str (S (w1 s k)))] ["one"] rfl (fun _ _ => rfl) (fun _ _ => rfl) (by decide +kernel) (sub_cons (by kwd_inv) sub_nil) (by decide +kernel) (by decide) ?_ Iter.L4 fun j hj => ?_) rfl
      · kwd_rel
      · show Ev _ _ _ _ _ (.int (levF (w1 s k) (w2 s j) 4))
        kwd_rel
        exact @fn_lev C _ H _ _ _ (wd_small _ _ _ _) (wd_small _ _ _ _) (by unfold w1 wd; simp) (by unfold w2 wd; simp)
  refine @Ex.swap2 _ _ _ _ _ _ _ _ _ _ _ _ _ _ _ _ _ (L4 fun k => .int ((hpN (s k) : Nat) : Int)) (L4 fun k => .int ((tpN (s k) : Nat) : Int)) _ _ (by decide +kernel) (by decide +kernel) (by rfl) (by rfl) (by rfl) (by decide +kernel) (by decide +kernel) (by exact fun _ => rfl) (by ktr_rel) (by ktr_rel) ?_ ?_
  · refine @Ev.tup' _ _ _ _ _ _ _ _ (@EvL.cons' _ _ _ _ _ _ _ _ (by exact fun _ => rfl) ?_ (EvL.one (by exact fun _ => rfl) ?_)) LenOK.l2
    · refine Ev.is (Ev.compM (l := List.range 4) (g := fun k : Nat => colD (s k)) (d := L4 fun k => colD (s k)) (f := fun d => .int (placeF (dgN d 0) (dgN d 1) (dgN d 2))) [] [] rfl (fun _ _ => rfl) (fun _ _ => rfl) (by decide +kernel) sub_nil rfl (by decide) ?_ Iter.L4 fun k hk => ?_) ?_
      · kwd_rel
      · show Ev _ _ _ _ _ (.int (placeF (s k % 5) (s k / 5 % 5) (s k / 25 % 5)))
        have l5 : ∀ a : Nat, a % 5 < 100 := fun a => by omega
        kwd_rel
        exact @fn_place C _ H _ _ _ (l5 _) (l5 _) (l5 _)
      · exact congrArg D.list (List.map_congr_left fun k _ => congrArg D.int (hpN_eq (s k)))
    · refine Ev.is (Ev.compM (l := List.range 4) (g := fun k : Nat => .int ((s k : Nat) : Int)) (d := L4 fun k => .int ((s k : Nat) : Int)) (f := fun d => .int ((tpN (unN d) : Nat) : Int)) [] [] rfl (fun _ _ => rfl) (fun _ _ => rfl) (by decide +kernel) sub_nil rfl (by decide) ?_ Iter.L4 fun k hk => ?_) rfl
      · kwd_rel
      · show Ev _ _ _ _ _ (.int ((s k / 125 % 72 * 64 : Nat) : Int))
        kwd_rel
  refine Ex.pre (@h) ?_
  unfold st12
  repeat (refine sub_cons (by kwd_inv) ?_)
  exact sub_nil
end
end

-- part G22
section
def H4 (s : Nat → Nat) : List Nat := [hpN (s 0), hpN (s 1), hpN (s 2), hpN (s 3)]
def T4 (s : Nat → Nat) : List Nat := [tpN (s 0), tpN (s 1), tpN (s 2), tpN (s 3)]
def R4 (s : Nat → Nat) : List Nat := [ray (s 0), ray (s 1), ray (s 2), ray (s 3)]
noncomputable def cst (s : Nat → Nat) (size : Nat) (o : List Nat) : Int := ((List.range size).map fun k => tb s k (o.getD k 0)).sum
noncomputable def csts (s : Nat → Nat) (size : Nat) : List Int := (ordF size).map (cst s size)
def farT (l : List Nat) : List Nat := l.map fun p => (p + 2304) % 4608
/-- what the pairing theorem tells -/
structure Plain (s : Nat → Nat) : Prop where
  tbB : ∀ k j, 0 ≤ tb s k j ∧ tb s k j ≤ 8
  near : ∀ size, 2 ≤ size → size ≤ 4 → imin (csts s size) = leastF ((H4 s).take size) ((T4 s).take size) (R4 s)
  far : ∀ size, 2 ≤ size → size ≤ 4 → imax (csts s size) = ((4 * size : Nat) : Int) - leastF ((H4 s).take size) (farT ((T4 s).take size)) (R4 s)
  nearB : ∀ size, 2 ≤ size → size ≤ 4 → ∃ v : Nat, v < 65 ∧ imin (csts s size) = (v : Int)
  farB : ∀ size, 2 ≤ size → size ≤ 4 → ∃ v : Nat, v < 65 ∧ imax (csts s size) = (v : Int)
theorem str_small : ∀ v : Nat, v < 65 → PyData.strOk (PySem.Str.ofString (toString (v : Int))) = true ∧ ((v : Int)).natAbs.log2 < 1920 := by decide +kernel
theorem ord_ok : ∀ size : Nat, size ≤ 4 → ∀ o ∈ ordF size, o.length = size ∧ ∀ x ∈ o, x < size := fun size h => by
  have : size = 0 ∨ size = 1 ∨ size = 2 ∨ size = 3 ∨ size = 4 := by omega
  rcases this with rfl | rfl | rfl | rfl | rfl <;> decide +kernel
theorem ord_ne : ∀ size : Nat, size ≤ 4 → ordF size ≠ [] := fun size h => by
  have : size = 0 ∨ size = 1 ∨ size = 2 ∨ size = 3 ∨ size = 4 := by omega
  rcases this with rfl | rfl | rfl | rfl | rfl <;> decide +kernel
theorem un_IL (o : List Nat) : (unL (IL o)).map unN = o := by
  show (o.map fun k : Nat => D.int (k : Int)).map unN = o
  rw [List.map_map]
  have : (unN ∘ fun k : Nat => D.int (k : Int)) = id := rfl
  rw [this, List.map_id]
noncomputable def st13 (s : Nat → Nat) (size : Nat) : Store := ("orders", .list ((ordF size).map IL)) :: ("costs", .list (DI (csts s size))) :: st12 s
section
variable {C : Cx} {n : Nat} (H : Hd C)
include H
theorem law_size {s : Nat → Nat} (P : Plain s) {size : Nat} (h2 : 2 ≤ size) (h4 : size ≤ 4) : Ex C (n + 3) (scAt 22) [] (("size", .int (size : Int)) :: st12 s) (forBody 22 12) (.next (st13 s size)) := by
  refine @Ex.expose _ _ _ _ _ _ _ _ _ rfl ?_
  unfold st13 st12
  refine @Ex.asg _ _ _ _ _ _ _ _ _ _ (.list ((ordF size).map IL)) _ _ (by exact fun _ _ => rfl) (by decide +kernel) (by ktr_rel) ?_ ?_
  · kwd_rel
    exact @fn_orders C _ H size h4
  refine @Ex.asgM _ _ _ _ _ _ (List Nat) _ _ _ _ _ _ _ _ _ _ _ (.list ((ordF size).map IL)) (ordF size) IL _ (fun d => .int (cst s size ((unL d).map unN))) [("table", L4 fun k => L4 fun j => .int (tb s k j)), ("size", .int (size : Int))] ["table", "size"] rfl (by exact fun _ _ => rfl) (by exact fun _ _ => rfl) (by decide +kernel) (sub_cons (by kwd_inv) (sub_cons (by kwd_inv) sub_nil)) (by decide +kernel) (Nat.le_trans (ordF_len h4) (by decide)) (by decide +kernel) (by ktr_rel) (fun env O => swaps_yes O (locB_ok (by decide +kernel)) rfl (by decide +kernel)) ?_ Iter.list (fun o ho => ?_) ?_
  · kwd_rel
  · show Ev _ _ _ _ _ (.int (cst s size ((unL (IL o)).map unN)))
    rw [un_IL]
    have ⟨hl, hx⟩ := ord_ok size h4 o ho
    have hb : ∀ x ∈ ((List.range size).map fun k => tb s k (o.getD k 0)), -(2 ^ 40) ≤ x ∧ x ≤ 2 ^ 40 := fun x hx => by
      obtain ⟨k, _, rfl⟩ := List.mem_map.mp hx
      have := P.tbB k (o.getD k 0)
      omega
    unfold cst
    refine @Ev.callB' _ _ _ _ _ _ _ _ _ _ _ _ (fun _ => rfl) (fun _ => rfl) (@Hd.sum _ _ H (by decide +kernel)) (@EvL.cons' _ _ _ _ _ _ _ _ (fun _ => rfl) ?_ EvL.nil) (Fn.sum_list (sum_ok hb (by rw [List.length_map, List.length_range]; omega)))
    refine Ev.is (Ev.compM (l := List.range size) (g := fun i : Nat => .int (i : Int)) (d := .range 0 (size : Int) 1) (f := fun d => .int (tb s (unN d) (o.getD (unN d) 0))) [("table", L4 fun k => L4 fun j => .int (tb s k j)), ("order", IL o)] ["table", "order"] rfl (fun _ _ => rfl) (fun _ _ => rfl) (by decide +kernel)
      (sub_cons (by kwd_inv) (sub_cons (by kwd_inv) sub_nil)) (by decide +kernel) (by rw [List.length_range]; omega) ?_ Iter.rangeN fun k hk => ?_) (by unfold DI; rw [List.map_map]; rfl)
    · kwd_rel
      exact Fn.rangeN (Nat.ble_eq.mpr (by omega))
    · have hk' := List.mem_range.mp hk
      have eo : o[k]? = some (o.getD k 0) := by rw [List.getD_eq_getElem?_getD, List.getElem?_eq_getElem (by omega)]; rfl
      have hx4 : o.getD k 0 < 4 := Nat.lt_of_lt_of_le (hx _ (List.mem_of_getElem? eo)) h4
      show Ev _ _ _ _ _ (.int (tb s k (o.getD k 0)))
      refine @Ev.sub' _ _ _ _ _ _ _ (L4 fun j => .int (tb s k j)) (.int ((o.getD k 0 : Nat) : Int)) _ (fun _ _ => rfl) ?_ True.intro ?_ (@Itm.L4 _ _ (fun j => .int (tb s k j)) _ hx4)
      · exact @Ev.at _ _ _ _ _ _ _ _ _ (fun k => L4 fun j => .int (tb s k j)) k (by kwd_inv) (by kwd_inv) (by omega) (by decide +kernel) (by decide +kernel)
      · refine @Ev.sub' _ _ _ _ _ _ _ (IL o) (.int (k : Int)) _ (fun _ _ => rfl) ?_ True.intro ?_ (@Itm.list _ _ _ (k : Int) _ (by omega) (by omega) (by rw [Int.toNat_natCast]; unfold IN; rw [List.getElem?_map, eo]; rfl))
        · kwd_rel
        · kwd_rel
  have ec : D.list ((ordF size).map fun o => (fun d => D.int (cst s size ((unL d).map unN))) (IL o)) = .list (DI (csts s size)) := by
    unfold csts DI
    rw [List.map_map]
    exact congrArg D.list (List.map_congr_left fun o _ => by show D.int (cst s size ((unL (IL o)).map unN)) = _; rw [un_IL]; rfl)
  rw [ec]
  have hH : ((H4 s).take size).length ≤ 1000 := by rw [List.length_take]; omega
  have hT : ((T4 s).take size).length ≤ 1000 := by rw [List.length_take]; omega
  have sl : ∀ (m : Nat) (ρ : Store) (x : PySem.Str) (l : List Nat) (p1 p2 p3 p4 : Pos), l.length ≤ 4 → (x, D.list (IN l)) ∈ ρ → (("size" : PySem.Str), D.int (size : Int)) ∈ ρ → ((x == ("__debug__" : PySem.Str)) || (x == ("__classdict__" : PySem.Str))) = false → Ev C m (scAt 22) ρ (.Subscript (.Name x p1) (.Slice none (some (.Name "size" p2)) none p3) p4) (.list (IN (l.take size))) := fun m ρ x l p1 p2 p3 p4 hl hx hsz hd => by
    have e : IN (l.take size) = pick (IN l) none (some (size : Int)) := by rw [pick_to]; unfold IN; rw [List.map_take]
    rw [e]
    exact @Ev.slice' _ _ _ _ _ _ _ _ _ (.list (IN l)) _ none (some (size : Int)) (Ev.var' hx hd) True.intro EvP.nil (EvP.int (Ev.var' hsz (by decide +kernel))) (Slc.list (by unfold IN; rw [List.length_map]; exact Nat.le_trans hl (by decide)))
  refine @Ex.asg _ _ _ _ _ _ _ _ _ _ (.int (leastF ((H4 s).take size) ((T4 s).take size) (R4 s))) _ _ (by exact fun _ _ => rfl) (by decide +kernel) (by ktr_rel) ?_ ?_
  · refine @Hd.c21 _ _ _ _ _ _ _ _ [.list (IN ((H4 s).take size)), .list (IN ((T4 s).take size)), .list (IN (R4 s))] _ H (by exact fun _ => rfl) (by decide +kernel) (@EvL.cons' _ _ _ _ _ _ _ _ (by exact fun _ => rfl) ?_ (@EvL.cons' _ _ _ _ _ _ _ _ (by exact fun _ => rfl) ?_ (EvL.one (by exact fun _ => rfl) ?_))) (@fn_least C _ H _ _ _ hH hT rfl)
    · refine @sl _ _ _ (H4 s) _ _ _ _ (by simp [H4]) ?_ ?_ (by decide +kernel)
      · show (("here" : PySem.Str), L4 fun k => .int ((hpN (s k) : Nat) : Int)) ∈ _
        kwd_inv
      · kwd_inv
    · refine @sl _ _ _ (T4 s) _ _ _ _ (by simp [T4]) ?_ ?_ (by decide +kernel)
      · show (("there" : PySem.Str), L4 fun k => .int ((tpN (s k) : Nat) : Int)) ∈ _
        kwd_inv
      · kwd_inv
    · show Ev _ _ _ _ _ (L4 fun k => .int ((ray (s k) : Nat) : Int))
      kwd_rel
  have hF : (farT ((T4 s).take size)).length ≤ 1000 := by unfold farT; rw [List.length_map]; exact hT
  refine @Ex.asg _ _ _ _ _ _ _ _ _ _ (.int (leastF ((H4 s).take size) (farT ((T4 s).take size)) (R4 s))) _ _ (by exact fun _ _ => rfl) (by decide +kernel) (by ktr_rel) ?_ ?_
  · refine @Hd.c21 _ _ _ _ _ _ _ _ [.list (IN ((H4 s).take size)), .list (IN (farT ((T4 s).take size))), .list (IN (R4 s))] _ H (by exact fun _ => rfl) (by decide +kernel) (@EvL.cons' _ _ _ _ _ _ _ _ (by exact fun _ => rfl) ?_ (@EvL.cons' _ _ _ _ _ _ _ _ (by exact fun _ => rfl) ?_ (EvL.one (by exact fun _ => rfl) ?_))) (@fn_least C _ H _ _ _ hH hF rfl)
    · refine @sl _ _ _ (H4 s) _ _ _ _ (by simp [H4]) ?_ ?_ (by decide +kernel)
      · show (("here" : PySem.Str), L4 fun k => .int ((hpN (s k) : Nat) : Int)) ∈ _
        kwd_inv
      · kwd_inv
    · refine Ev.is (Ev.compM (l := (T4 s).take size) (g := fun k : Nat => .int (k : Int)) (d := .list (IN ((T4 s).take size))) (f := fun d => .int (((unN d + 2304) % 4608 : Nat) : Int)) [] [] rfl (fun _ _ => rfl) (fun _ _ => rfl) (by decide +kernel) sub_nil rfl (Nat.le_trans hT (by decide)) ?_ Iter.list fun k hk => ?_) (by unfold IN farT; rw [List.map_map]; rfl)
      · refine @sl _ _ _ (T4 s) _ _ _ _ (by simp [T4]) ?_ ?_ (by decide +kernel)
        · show (("there" : PySem.Str), L4 fun k => .int ((tpN (s k) : Nat) : Int)) ∈ _
          kwd_inv
        · kwd_inv
      · show Ev _ _ _ _ _ (.int (((k + 2304) % 4608 : Nat) : Int))
        kwd_rel
    · show Ev _ _ _ _ _ (L4 fun k => .int ((ray (s k) : Nat) : Int))
      kwd_rel
  have e1 := P.near size h2 h4
  have e2 := P.far size h2 h4
  obtain ⟨v1, hv1, ev1⟩ := P.nearB size h2 h4
  obtain ⟨v2, hv2, ev2⟩ := P.farB size h2 h4
  have hne : csts s size ≠ [] := by
    unfold csts
    intro h
    exact ord_ne size h4 (List.map_eq_nil_iff.mp h)
  generalize hN : leastF ((H4 s).take size) ((T4 s).take size) (R4 s) = N at *
  generalize hM : leastF ((H4 s).take size) (farT ((T4 s).take size)) (R4 s) = M at *
  have hNv : N = (v1 : Int) := e1.symm.trans ev1
  have hMv : ((4 * size : Nat) : Int) - M = (v2 : Int) := e2.symm.trans ev2
  generalize csts s size = cs at *
  refine @Ex.sub _ _ _ _ _ _ _ _ (@Ex.ifNo _ _ _ _ _ _ _ _ _ _ (@EvB.is _ _ _ _ _ _ _ (@EvB.cmp' _ _ _ _ _ _ _ _ (.list (DS [PySem.Str.ofString (toString (v1 : Int)), PySem.Str.ofString (toString (v2 : Int))])) (.list (DS [PySem.Str.ofString (toString (v1 : Int)), PySem.Str.ofString (toString (v2 : Int))])) _ rfl ?_ ?_ (Cmp.ne_strs ?_ ?_)) (by simp)) Ex.nil) ?_
  · refine @Ev.list' _ _ _ _ _ _ _ (@EvL.cons' _ _ _ _ _ _ _ _ (by exact fun _ => rfl) ?_ (EvL.one (by exact fun _ => rfl) ?_)) LenOK.l2
    · refine @Ev.callT' _ _ _ _ _ _ _ _ _ _ [.int (v1 : Int)] _ (by exact fun _ => rfl) (by exact fun _ => rfl) (@Hd.str _ _ H (by decide +kernel)) (EvL.one (by exact fun _ => rfl) ?_) (Fn.str_int (str_small _ hv1).2)
      rw [← ev1]
      refine @Ev.callB' _ _ _ _ _ _ _ _ _ _ [.list (DI cs)] _ (by exact fun _ => rfl) (by exact fun _ => rfl) (@Hd.min _ _ H (by decide +kernel)) (EvL.one (by exact fun _ => rfl) ?_) (Fn.min_list hne)
      kwd_rel
    · refine @Ev.callT' _ _ _ _ _ _ _ _ _ _ [.int (v2 : Int)] _ (by exact fun _ => rfl) (by exact fun _ => rfl) (@Hd.str _ _ H (by decide +kernel)) (EvL.one (by exact fun _ => rfl) ?_) (Fn.str_int (str_small _ hv2).2)
      rw [← ev2]
      refine @Ev.callB' _ _ _ _ _ _ _ _ _ _ [.list (DI cs)] _ (by exact fun _ => rfl) (by exact fun _ => rfl) (@Hd.max _ _ H (by decide +kernel)) (EvL.one (by exact fun _ => rfl) ?_) (Fn.max_list hne)
      kwd_rel
  · refine @Ev.list' _ _ _ _ _ _ _ (@EvL.cons' _ _ _ _ _ _ _ _ (by exact fun _ => rfl) ?_ (EvL.one (by exact fun _ => rfl) ?_)) LenOK.l2
    · refine @Ev.callT' _ _ _ _ _ _ _ _ _ _ [.int (v1 : Int)] _ (by exact fun _ => rfl) (by exact fun _ => rfl) (@Hd.str _ _ H (by decide +kernel)) (EvL.one (by exact fun _ => rfl) ?_) (Fn.str_int (str_small _ hv1).2)
      rw [← hNv]
      kwd_rel
    · refine @Ev.callT' _ _ _ _ _ _ _ _ _ _ [.int (v2 : Int)] _ (by exact fun _ => rfl) (by exact fun _ => rfl) (@Hd.str _ _ H (by decide +kernel)) (EvL.one (by exact fun _ => rfl) ?_) (Fn.str_int (str_small _ hv2).2)
      rw [← hMv]
      kwd_rel
  · intro x hx
    simp only [List.mem_cons, List.not_mem_nil, or_false] at hx
    rcases hx with rfl | rfl
    · exact (str_small _ hv1).1
    · exact (str_small _ hv2).1
  · intro x hx
    simp only [List.mem_cons, List.not_mem_nil, or_false] at hx
    rcases hx with rfl | rfl
    · exact (str_small _ hv1).1
    · exact (str_small _ hv2).1
  · repeat (refine sub_cons (by kwd_inv) ?_)
    exact sub_nil
end
end

-- part G23
section
theorem S_append (a b : List Nat) : S a ++ S b = S (a ++ b) := by
  unfold S
  show PySem.Str.mk (a.toArray ++ b.toArray) = _
  simp
def trn (w : List Nat) : List Nat := w.drop 1 ++ [w.getD 0 0]
def half (p r : Nat) : Bool := decide (((p : Int) - ((12 * r : Nat) : Int)).fmod 4608 < 2304)
def parts (p q r : Nat) : Bool := ((([p, q].filter fun x => half x r).length : Nat) : Int) == 1
def dueF (s : Nat → Nat) (k j : Nat) : Int := 4 + ((((R4 s).drop 1).filter fun r => parts (hpN (s k)) (tpN (s j)) r).length : Int)
def fl1 (k : Nat) (t u : List Nat) : List Nat := if k % 2 = 0 then u else t
def sb1 (k : Nat) : Int := [0, 2, 2, 3].getD k 0
def sb2 (k : Nat) : Int := [0, 0, 1, 2].getD k 0
structure Plain2 (s : Nat → Nat) : Prop where
  back : ∀ k j, k < 4 → j < 4 → levF (w2 s j) (w1 s k) (tb s k j - 1) = tb s k j
  turn : ∀ k j, k < 4 → j < 4 → levF (fl1 k (trn (w2 s j)) (w1 s k)) (fl1 k (w1 s k) (trn (w2 s j))) (dueF s k j - sb1 k) = dueF s k j - sb2 k
  twice : ∀ k j, k < 4 → j < 4 → levF (fl1 k (trn (w2 s j)) (w1 s k) ++ fl1 k (w1 s k) (trn (w2 s j))) (w1 s k) ((k : Int) - 2) = 8
  long : ∀ j, j < 4 → levF (((([w1 s 0, w1 s 1, w1 s 2, w1 s 3] ++ [w2 s 0, w2 s 1, w2 s 2, w2 s 3]) ++ [w1 s 0, w1 s 1]).flatten) ++ [46]) (trn (w2 s j)) 82 = 83
noncomputable def st14 (s : Nat → Nat) (o : List Nat) : Store := ("best", IL o) :: st12 s
theorem w_len (a b c d : Bool) : (wd a b c d).length = 4 := rfl
theorem trn_len (a b c d : Bool) : (trn (wd a b c d)).length = 4 := rfl
theorem trn_small (a b c d : Bool) : ∀ x ∈ trn (wd a b c d), x < 128 := by cases a <;> cases b <;> cases c <;> cases d <;> decide
section
variable {C : Cx} {n : Nat} (H : Hd C)
include H
theorem law_pairs {s : Nat → Nat} (P : Plain2 s) {o : List Nat} (ho : o ∈ ordF 4) {k : Nat} (hk : k < 4) : Ex C (n + 3) (scAt 22) [] (("at", .int (k : Int)) :: st14 s o) (forBody 22 14) (.next (("turned", .str (S (trn (w2 s (o.getD k 0))))) :: st14 s o)) := by
  have ⟨hl, hx⟩ := ord_ok 4 (by decide) o ho
  have eo : o[k]? = some (o.getD k 0) := by rw [List.getD_eq_getElem?_getD, List.getElem?_eq_getElem (by omega)]; rfl
  have hj : o.getD k 0 < 4 := hx _ (List.mem_of_getElem? eo)
  refine @Ex.expose _ _ _ _ _ _ _ _ _ rfl ?_
  unfold st14 st12
  have eb : ∀ (m : Nat) (ρ : Store) (p1 p2 p3 : Pos), (("best" : PySem.Str), IL o) ∈ ρ → (("at" : PySem.Str), D.int (k : Int)) ∈ ρ → Ev C m (scAt 22) ρ (.Subscript (.Name "best" p1) (.Name "at" p2) p3) (.int ((o.getD k 0 : Nat) : Int)) := fun m ρ p1 p2 p3 h1 h2 => by
    exact @Ev.sub' _ _ _ _ _ _ _ (IL o) (.int (k : Int)) _ (fun _ _ => rfl) (Ev.var' h1 (by decide +kernel)) True.intro (Ev.var' h2 (by decide +kernel)) (@Itm.list _ _ _ (k : Int) _ (by omega) (by omega) (by rw [Int.toNat_natCast]; unfold IN; rw [List.getElem?_map, eo]; rfl))
  generalize o.getD k 0 = j at *
  refine @Ex.swap3 _ _ _ _ _ _ _ _ _ _ _ _ _ _ _ _ _ _ _ (.str (S (w1 s k))) (.str (S (w2 s j))) (.int (tb s k j)) _ _ _ (by decide +kernel) (by decide +kernel) (by rfl) (by rfl) (by rfl) (by rfl) (by decide +kernel) (by decide +kernel) (by exact fun _ => rfl) (by ktr_rel) (by ktr_rel) (by ktr_rel) ?_ ?_
  · refine @Ev.tup' _ _ _ _ _ _ _ _ (@EvL.cons' _ _ _ _ _ _ _ _ (by exact fun _ => rfl) ?_ (@EvL.cons' _ _ _ _ _ _ _ _ (by exact fun _ => rfl) ?_ (EvL.one (by exact fun _ => rfl) ?_))) LenOK.l3
    · exact @Ev.at _ _ _ _ _ _ _ _ _ (fun k => .str (S (w1 s k))) k (by kwd_inv) (by kwd_inv) hk (by decide +kernel) (by decide +kernel)
    · refine @Ev.sub' _ _ _ _ _ _ _ (L4 fun k => .str (S (w2 s k))) (.int (j : Int)) _ (by exact fun _ _ => rfl) ?_ True.intro (@eb _ _ _ _ _ (by kwd_inv) (by kwd_inv)) (@Itm.L4 _ _ (fun k => .str (S (w2 s k))) _ hj)
      kwd_rel
    · refine @Ev.sub' _ _ _ _ _ _ _ (L4 fun j => .int (tb s k j)) (.int (j : Int)) _ (by exact fun _ _ => rfl) ?_ True.intro (@eb _ _ _ _ _ (by kwd_inv) (by kwd_inv)) (@Itm.L4 _ _ (fun j => .int (tb s k j)) _ hj)
      exact @Ev.at _ _ _ _ _ _ _ _ _ (fun k => L4 fun j => .int (tb s k j)) k (by kwd_inv) (by kwd_inv) hk (by decide +kernel) (by decide +kernel)
  refine @Ex.ifNo _ _ _ _ _ _ _ _ _ _ (@EvB.is _ _ _ _ _ (levF (w2 s j) (w1 s k) (tb s k j - 1) != tb s k j) _ ?_ (by rw [P.back k j hk hj]; simp)) ?_
  · kwd_rel
    exact @fn_lev C _ H _ _ _ (wd_small _ _ _ _) (wd_small _ _ _ _) (by unfold w2 wd; simp) (by unfold w1 wd; simp)
  refine @Ex.unpack2 _ _ _ _ _ _ _ _ _ _ _ _ _ _ _ (.str (S (trn (w2 s j)))) (.list (IN [hpN (s k), tpN (s j)])) _ _ (by decide +kernel) (by decide +kernel) (fun env O => unswapped2 O (by decide +kernel)) (by exact fun _ => rfl) (by ktr_rel) (by ktr_rel) ?_ ?_
  · refine @Ev.tup' _ _ _ _ _ _ _ _ (@EvL.cons' _ _ _ _ _ _ _ _ (by exact fun _ => rfl) ?_ (EvL.one (by exact fun _ => rfl) ?_)) LenOK.l2
    · unfold trn
      rw [← S_append, ← slice_from]
      refine @Ev.bin _ _ _ _ _ _ _ _ (.str (Txt.slice (S (w2 s j)) (some ((1 : Nat) : Int)) none)) (.str (S [(w2 s j).getD 0 0])) _ ?_ ?_ (Bin.add_ss (by rw [slice_from, S_length, S_length]; unfold w2 wd; exact Nat.le_trans (show 4 ≤ 1000 by decide) (by decide)))
      · refine @Ev.slice' _ _ _ _ _ _ _ _ _ (.str (S (w2 s j))) _ (some ((1 : Nat) : Int)) none ?_ True.intro (EvP.int Ev.int) EvP.nil (Slc.str (by rw [S_length]; unfold w2 wd; exact Nat.le_trans (show 4 ≤ 1000 by decide) (by decide)))
        kwd_rel
      · refine @Ev.sub' _ _ _ _ _ _ _ (.str (S (w2 s j))) (.int ((0 : Nat) : Int)) _ (by exact fun _ _ => rfl) ?_ True.intro Ev.int (@Itm.S _ _ (w2 s j) 0 _ rfl (show 4 < 2 ^ 62 by decide))
        kwd_rel
    · refine @Ev.list' _ _ _ _ _ _ _ (@EvL.cons' _ _ _ _ _ _ _ _ (by exact fun _ => rfl) ?_ (EvL.one (by exact fun _ => rfl) ?_)) LenOK.l2
      · exact @Ev.at _ _ _ _ _ _ _ _ _ (fun k => .int ((hpN (s k) : Nat) : Int)) k (by kwd_inv) (by kwd_inv) hk (by decide +kernel) (by decide +kernel)
      · refine @Ev.sub' _ _ _ _ _ _ _ (L4 fun k => .int ((tpN (s k) : Nat) : Int)) (.int (j : Int)) _ (by exact fun _ _ => rfl) ?_ True.intro (@eb _ _ _ _ _ (by kwd_inv) (by kwd_inv)) (@Itm.L4 _ _ (fun k => .int ((tpN (s k) : Nat) : Int)) _ hj)
        kwd_rel
  refine @Ex.asg _ _ _ _ _ _ _ _ _ _ (.int (dueF s k j)) _ _ (by exact fun _ _ => rfl) (by decide +kernel) (by ktr_rel) ?_ ?_
  · unfold dueF
    refine @Ev.bin _ _ _ _ _ _ _ _ (.int 4) (.int ((((R4 s).drop 1).filter fun r => parts (hpN (s k)) (tpN (s j)) r).length : Int)) _ Ev.int ?_ Bin.add_ii
    have e : ((((R4 s).drop 1).filter fun r => parts (hpN (s k)) (tpN (s j)) r).length) = ((((R4 s).drop 1).filter fun r => parts (hpN (s k)) (tpN (s j)) r).map fun _ => D.int 1).length := by rw [List.length_map]
    rw [e]
    refine @Ev.callB' _ _ _ _ _ _ _ _ _ _ [.list ((((R4 s).drop 1).filter fun r => parts (hpN (s k)) (tpN (s j)) r).map fun _ => D.int 1)] _ (by exact fun _ => rfl) (by exact fun _ => rfl) (@Hd.len _ _ H (by decide +kernel)) (EvL.one (by exact fun _ => rfl) ?_) (Fn.len_list (by rw [List.length_map]; exact Nat.lt_of_le_of_lt (List.length_filter_le ..) (show 3 < 2 ^ 62 by decide)))
    refine Ev.compF (l := (R4 s).drop 1) (g := fun k : Nat => .int (k : Int)) (p := fun d => parts (hpN (s k)) (tpN (s j)) (unN d)) (f := fun _ => .int 1) (d := .list (IN ((R4 s).drop 1))) [("places", .list (IN [hpN (s k), tpN (s j)]))] ["places"] rfl
          (fun _ _ => rfl) (fun _ _ => rfl) (by decide +kernel) (sub_cons (by kwd_inv) sub_nil) (by decide +kernel) (show 3 ≤ 100000 by decide) ?_ Iter.list (fun r hr => ?_) fun b hb _ => Ev.int
    · have e : IN ((R4 s).drop 1) = pick (IN (R4 s)) (some ((1 : Nat) : Int)) none := by rw [pick_from]; unfold IN; rw [List.map_drop]
      rw [e]
      refine @Ev.slice' _ _ _ _ _ _ _ _ _ (.list (IN (R4 s))) _ (some ((1 : Nat) : Int)) none ?_ True.intro (EvP.int Ev.int) EvP.nil (Slc.list (ds := IN (R4 s)) (show 4 ≤ sizeLine from Nat.le_trans (show 4 ≤ 1000 by decide) (by decide)))
      show Ev _ _ _ _ _ (L4 fun k => .int ((ray (s k) : Nat) : Int))
      kwd_rel
    · show EvB _ _ _ _ _ (((([hpN (s k), tpN (s j)].filter fun x => half x r).length : Nat) : Int) == 1)
      have e : (([hpN (s k), tpN (s j)].filter fun x => half x r).length) = (([hpN (s k), tpN (s j)].filter fun x => half x r).map fun _ => D.int 1).length := by rw [List.length_map]
      rw [e]
      refine @EvB.cmp' _ _ _ _ _ _ _ _ (.int ((([hpN (s k), tpN (s j)].filter fun x => half x r).map fun _ => D.int 1).length : Int)) (.int 1) _ rfl ?_ Ev.int Cmp.eq_ii
      refine @Ev.callB' _ _ _ _ _ _ _ _ _ _ [.list (([hpN (s k), tpN (s j)].filter fun x => half x r).map fun _ => D.int 1)] _ (by exact fun _ => rfl) (by exact fun _ => rfl) (@Hd.len _ _ H (by decide +kernel)) (EvL.one (by exact fun _ => rfl) ?_) (Fn.len_list (by rw [List.length_map]; exact Nat.lt_of_le_of_lt (List.length_filter_le ..) (show 2 < 2 ^ 62 by decide)))
      refine Ev.compF (l := [hpN (s k), tpN (s j)]) (g := fun k : Nat => .int (k : Int)) (p := fun d => half (unN d) r) (f := fun _ => .int 1) (d := .list (IN [hpN (s k), tpN (s j)])) [("ray", .int (r : Int))] ["ray"] rfl
          (fun _ _ => rfl) (fun _ _ => rfl) (by decide +kernel) (sub_cons (by kwd_inv) sub_nil) (by decide +kernel) (show 2 ≤ 100000 by decide) ?_ Iter.list (fun x hx => ?_) fun b hb _ => Ev.int
      · kwd_rel
      · show EvB _ _ _ _ _ (decide (((x : Int) - ((12 * r : Nat) : Int)).fmod 4608 < 2304))
        kwd_rel
        decide
  refine @Ex.unpack2 _ _ _ _ _ _ _ _ _ _ _ _ _ _ _ (.str (S (fl1 k (trn (w2 s j)) (w1 s k)))) (.str (S (fl1 k (w1 s k) (trn (w2 s j))))) _ _ (by decide +kernel) (by decide +kernel) (by exact fun _ _ => rfl) (by exact fun _ => rfl) (by ktr_rel) (by ktr_rel) ?_ ?_
  · have hp : k % 2 = 0 ∨ k % 2 = 1 := by omega
    rcases hp with hp | hp
    · have f1 : fl1 k (trn (w2 s j)) (w1 s k) = w1 s k := if_pos hp
      have f2 : fl1 k (w1 s k) (trn (w2 s j)) = trn (w2 s j) := if_pos hp
      rw [f1, f2]
      refine @Ev.ifF _ _ _ _ _ _ _ _ _ (@EvB.is _ _ _ _ _ _ _ (@EvB.nat C (n + 3) (scAt 22) _ _ (k % 2) (by exact fun _ _ => rfl) ?_) (by rw [hp]; rfl)) ?_
      · kwd_rel
      · kwd_rel
    · have f1 : fl1 k (trn (w2 s j)) (w1 s k) = trn (w2 s j) := if_neg (by omega)
      have f2 : fl1 k (w1 s k) (trn (w2 s j)) = w1 s k := if_neg (by omega)
      rw [f1, f2]
      refine @Ev.ifT _ _ _ _ _ _ _ _ _ (@EvB.is _ _ _ _ _ _ _ (@EvB.nat C (n + 3) (scAt 22) _ _ (k % 2) (by exact fun _ _ => rfl) ?_) (by rw [hp]; rfl)) ?_
      · kwd_rel
      · kwd_rel
  have g1 : (fl1 k (trn (w2 s j)) (w1 s k)).length = 4 ∧ ∀ x ∈ fl1 k (trn (w2 s j)) (w1 s k), x < 128 := by
    unfold fl1
    split
    · exact ⟨w_len _ _ _ _, wd_small _ _ _ _⟩
    · exact ⟨trn_len _ _ _ _, trn_small _ _ _ _⟩
  have g2 : (fl1 k (w1 s k) (trn (w2 s j))).length = 4 ∧ ∀ x ∈ fl1 k (w1 s k) (trn (w2 s j)), x < 128 := by
    unfold fl1
    split
    · exact ⟨trn_len _ _ _ _, trn_small _ _ _ _⟩
    · exact ⟨w_len _ _ _ _, wd_small _ _ _ _⟩
  have pt := P.turn k j hk hj
  have pw := P.twice k j hk hj
  generalize fl1 k (trn (w2 s j)) (w1 s k) = A at *
  generalize fl1 k (w1 s k) (trn (w2 s j)) = B at *
  generalize dueF s k j = due at *
  have hk4 : k = 0 ∨ k = 1 ∨ k = 2 ∨ k = 3 := by omega
  refine @Ex.ifNo _ _ _ _ _ _ _ _ _ _ (@EvB.is _ _ _ _ _ (levF A B (due - sb1 k) != due - sb2 k) _ ?_ (by rw [pt]; simp)) ?_
  · refine @EvB.cmp' _ _ _ _ _ _ _ _ (.int (levF A B (due - sb1 k))) (.int (due - sb2 k)) _ rfl ?_ ?_ Cmp.ne_ii
    · refine @Hd.c5 _ _ _ _ _ _ _ _ [.str (S A), .str (S B), .int (due - sb1 k)] _ H (by exact fun _ => rfl) (by decide +kernel) (@EvL.cons' _ _ _ _ _ _ _ _ (by exact fun _ => rfl) ?_ (@EvL.cons' _ _ _ _ _ _ _ _ (by exact fun _ => rfl) ?_ (EvL.one (by exact fun _ => rfl) ?_))) (@fn_lev C _ H _ _ _ g1.2 g2.2 (by omega) (by omega))
      · kwd_rel
      · kwd_rel
      · refine @Ev.bin _ _ _ _ _ _ _ _ (.int due) (.int (sb1 k)) _ ?_ ?_ Bin.sub_ii
        · kwd_rel
        · refine @Ev.sub' _ _ _ _ _ _ _ (.tup [.int 0, .int 2, .int 2, .int 3]) (.int (k : Int)) _ (by exact fun _ _ => rfl) ?_ True.intro ?_ (@Itm.tup _ _ _ _ _ (by omega) (by omega) (by rcases hk4 with rfl | rfl | rfl | rfl <;> rfl))
          · kwd_rel
          · kwd_rel
    · refine @Ev.bin _ _ _ _ _ _ _ _ (.int due) (.int (sb2 k)) _ ?_ ?_ Bin.sub_ii
      · kwd_rel
      · refine @Ev.sub' _ _ _ _ _ _ _ (.tup [.int 0, .int 0, .int 1, .int 2]) (.int (k : Int)) _ (by exact fun _ _ => rfl) ?_ True.intro ?_ (@Itm.tup _ _ _ _ _ (by omega) (by omega) (by rcases hk4 with rfl | rfl | rfl | rfl <;> rfl))
        · kwd_rel
        · kwd_rel
  refine @Ex.sub _ _ _ _ _ _ _ _ (@Ex.ifNo _ _ _ _ _ _ _ _ _ _ (@EvB.is _ _ _ _ _ (levF (A ++ B) (w1 s k) ((k : Int) - 2) != 8) _ ?_ (by rw [pw]; simp)) Ex.nil) ?_
  · refine @EvB.cmp' _ _ _ _ _ _ _ _ (.int (levF (A ++ B) (w1 s k) ((k : Int) - 2))) (.int 8) _ rfl ?_ Ev.int Cmp.ne_ii
    refine @Hd.c5 _ _ _ _ _ _ _ _ [.str (S (A ++ B)), .str (S (w1 s k)), .int ((k : Int) - 2)] _ H (by exact fun _ => rfl) (by decide +kernel) (@EvL.cons' _ _ _ _ _ _ _ _ (by exact fun _ => rfl) ?_ (@EvL.cons' _ _ _ _ _ _ _ _ (by exact fun _ => rfl) ?_ (EvL.one (by exact fun _ => rfl) ?_))) (@fn_lev C _ H _ _ _ (fun c hc => (List.mem_append.mp hc).elim (g1.2 c) (g2.2 c)) (wd_small _ _ _ _) (by rw [List.length_append]; omega) (by unfold w1 wd; simp))
    · rw [← S_append]
      refine @Ev.bin _ _ _ _ _ _ _ _ (.str (S A)) (.str (S B)) _ ?_ ?_ (Bin.add_ss (by rw [S_length, S_length, g1.1, g2.1]; exact Nat.le_trans (show 8 ≤ 1000 by decide) (by decide)))
      · kwd_rel
      · kwd_rel
    · kwd_rel
    · kwd_rel
  · repeat (refine sub_cons (by kwd_inv) ?_)
    exact sub_nil
end
end

-- part G24
section
theorem join_S0 : ∀ ls : List (List Nat), ls ≠ [] → PySem.Str.join "" (ls.map S) = S ls.flatten
  | [], h => absurd rfl h
  | [a], _ => by simp; rfl
  | a :: b :: r, _ => by
    have ih := join_S0 (b :: r) (by simp)
    show S a ++ "" ++ PySem.Str.join "" ((b :: r).map S) = _
    rw [ih]
    have : S a ++ ("" : PySem.Str) = S (a ++ []) := by rw [← S_append]; rfl
    rw [this, S_append]; simp
theorem join_S (ls : List (List Nat)) (h : ls ≠ []) : Txt.join "" (ls.map S) = S ls.flatten := by
  rw [← join_S0 ls h]; exact StrLaws.glued_eq_join _ _
theorem join_ok (ls : List (List Nat)) (h : ∀ l ∈ ls, l.length = 4) (hl : ls.length ≤ 100) : JoinOk "" (ls.map S) = true := by
  have e : ∀ (ls : List (List Nat)), (∀ l ∈ ls, l.length = 4) → ∀ acc : Nat, (ls.map S).foldl (fun n x => n + x.length + ("" : PySem.Str).length) acc = acc + 4 * ls.length := by
    intro ls
    induction ls with
    | nil => intro _ acc; rfl
    | cons l r ih =>
      intro h acc
      rw [List.map_cons, List.foldl_cons, ih (fun x hx => h x (.tail _ hx)), S_length, h l (.head _), List.length_cons]
      have : ("" : PySem.Str).length = 0 := rfl
      omega
  unfold JoinOk
  rw [List.foldl_toArray, e ls h 0]
  have hs : 1000 ≤ sizeLine := by decide
  unfold Builtin.Str.tooLong
  simp
  omega
theorem imin_mem : ∀ ns : List Int, ns ≠ [] → imin ns ∈ ns
  | [], h => absurd rfl h
  | x :: r, _ => by
    have : ∀ (r : List Int) (x : Int), r.foldl min x = x ∨ r.foldl min x ∈ r := by
      intro r
      induction r with
      | nil => intro x; exact .inl rfl
      | cons y r ih =>
        intro x
        rw [List.foldl_cons]
        rcases ih (min x y) with h | h
        · rw [h]
          have : min x y = x ∨ min x y = y := by omega
          rcases this with h | h
          · exact .inl h
          · rw [h]; exact .inr (List.Mem.head _)
        · exact .inr (List.Mem.tail _ h)
    rcases this r x with h | h
    · show r.foldl min x ∈ _
      rw [h]; exact List.Mem.head _
    · exact List.Mem.tail _ h
theorem first_at {k : Int} : ∀ {ns : List Int}, k ∈ ns → ∃ j : Nat, ns[j]? = some k ∧ ∀ i, i < j → ns[i]? ≠ some k
  | x :: r, h => by
    rcases Classical.em (x = k) with e | e
    · exact ⟨0, by rw [e]; rfl, fun i hi => absurd hi (Nat.not_lt_zero _)⟩
    · have h' : k ∈ r := by
        rcases List.mem_cons.mp h with q | q
        · exact absurd q.symm e
        · exact q
      obtain ⟨j, h1, h2⟩ := first_at h'
      refine ⟨j + 1, by simpa using h1, fun i hi => ?_⟩
      cases i with
      | zero => intro q; exact e (by simpa using q)
      | succ i => have := h2 i (by omega); simpa using this

section
variable {C : Cx} {n : Nat} {sc : Scope} {ρ : Store}
theorem Ev.index' {o e : Expr} {apos pos : Pos} {ns : List Int} {k : Int} {j : Nat} (hbase : ∀ env, attributeBase o "index" env (eval o env) = eval o env) (hn : ∀ env, starEach [e] env = (false, eval e env) :: starEach [] env) (hp : ∀ env, (backTo pos (starEach [e] env)).any (·.1) = false)
    (hfew : ∀ env, ((backTo pos (starEach [e] env)).all (fun x => !x.1) && (backToKw pos (keywordEach [] env)).all (fun x => x.1.isSome) && decide ([e].length + ([] : List Keyword).length + (if ([] : List Keyword).isEmpty then 0 else 1) < 30)) = true) (hline : (apos.endLine == pos.line) = true)
    (ho : Ev C n sc ρ o (.list (DI ns))) (he : Ev C n sc ρ e (.int k)) (hz : ns.length ≤ sizeLine) (hj : ns[j]? = some k) (hf : ∀ i, i < j → ns[i]? ≠ some k) : Ev C n sc ρ (.Call (.Attribute o "index" apos) [e] [] pos) (.int (j : Int)) :=
  Ev.meth ho Mth.index (EvL.cons he EvL.nil hn) hn hp hbase hfew hline (Fn.index hz hj hf)
end
section
variable {C : Cx} {n : Nat} (H : Hd C)
include H
theorem law_last {s : Nat → Nat} (P : Plain2 s) {o : List Nat} (ho : o ∈ ordF 4) : Ex C (n + 3) (scAt 22) [] (("turned", .str (S (trn (w2 s (o.getD 3 0))))) :: st14 s o) ((bodyAt 22).drop 15) (.ret (.bool true)) := by
  have ⟨hl, hx⟩ := ord_ok 4 (by decide) o ho
  have eo : o[3]? = some (o.getD 3 0) := by rw [List.getD_eq_getElem?_getD, List.getElem?_eq_getElem (by omega)]; rfl
  have hj : o.getD 3 0 < 4 := hx _ (List.mem_of_getElem? eo)
  refine @Ex.expose _ _ _ _ _ _ _ _ _ rfl ?_
  unfold st14 st12
  generalize o.getD 3 0 = j at *
  have pl := P.long j hj
  have e1 : S (((([w1 s 0, w1 s 1, w1 s 2, w1 s 3] ++ [w2 s 0, w2 s 1, w2 s 2, w2 s 3]) ++ [w1 s 0, w1 s 1]).flatten) ++ [46]) = Txt.join "" ((([w1 s 0, w1 s 1, w1 s 2, w1 s 3] ++ [w2 s 0, w2 s 1, w2 s 2, w2 s 3]) ++ [w1 s 0, w1 s 1]).map S) ++ S [46] := by
    rw [join_S _ (by simp), S_append]
  have h4 : ∀ l ∈ (([w1 s 0, w1 s 1, w1 s 2, w1 s 3] ++ [w2 s 0, w2 s 1, w2 s 2, w2 s 3]) ++ [w1 s 0, w1 s 1]), l.length = 4 ∧ ∀ x ∈ l, x < 128 := fun l hl => by
    simp only [List.mem_append, List.mem_cons, List.not_mem_nil, or_false] at hl
    rcases hl with ((rfl | rfl | rfl | rfl) | (rfl | rfl | rfl | rfl)) | (rfl | rfl) <;> exact ⟨w_len _ _ _ _, wd_small _ _ _ _⟩
  have h5 : ((([w1 s 0, w1 s 1, w1 s 2, w1 s 3] ++ [w2 s 0, w2 s 1, w2 s 2, w2 s 3]) ++ [w1 s 0, w1 s 1]).flatten).length = 40 := rfl
  have ed : D.list (DS ((([w1 s 0, w1 s 1, w1 s 2, w1 s 3] ++ [w2 s 0, w2 s 1, w2 s 2, w2 s 3]) ++ [w1 s 0, w1 s 1]).map S)) = .list (([D.str (S (w1 s 0)), .str (S (w1 s 1)), .str (S (w1 s 2)), .str (S (w1 s 3))] ++ [D.str (S (w2 s 0)), .str (S (w2 s 1)), .str (S (w2 s 2)), .str (S (w2 s 3))]) ++ [D.str (S (w1 s 0)), .str (S (w1 s 1))]) := rfl
  refine @Ex.rets _ _ _ _ _ _ _ _ _ (@Ev.is _ _ _ _ _ (.bool (levF (((([w1 s 0, w1 s 1, w1 s 2, w1 s 3] ++ [w2 s 0, w2 s 1, w2 s 2, w2 s 3]) ++ [w1 s 0, w1 s 1]).flatten) ++ [46]) (trn (w2 s j)) 82 == 83)) (.bool true) ?_ (congrArg D.bool (beq_iff_eq.mpr pl)))
  refine @Ev.cmp' _ _ _ _ _ _ _ _ (.int (levF (((([w1 s 0, w1 s 1, w1 s 2, w1 s 3] ++ [w2 s 0, w2 s 1, w2 s 2, w2 s 3]) ++ [w1 s 0, w1 s 1]).flatten) ++ [46]) (trn (w2 s j)) 82)) (.int 83) _ rfl ?_ Ev.int Cmp.eq_ii
  refine @Hd.c5 _ _ _ _ _ _ _ _ [.str (S (((([w1 s 0, w1 s 1, w1 s 2, w1 s 3] ++ [w2 s 0, w2 s 1, w2 s 2, w2 s 3]) ++ [w1 s 0, w1 s 1]).flatten) ++ [46])), .str (S (trn (w2 s j))), .int 82] _ H (by exact fun _ => rfl) (by decide +kernel) (@EvL.cons' _ _ _ _ _ _ _ _ (by exact fun _ => rfl) ?_ (@EvL.cons' _ _ _ _ _ _ _ _ (by exact fun _ => rfl) ?_ (EvL.one (by exact fun _ => rfl) Ev.int)))
    (@fn_lev C _ H _ _ _ (fun c hc => ?_) (trn_small _ _ _ _) (by rw [List.length_append, h5]; exact (by decide : 40 + 1 < 1000)) (show 4 < 1000 by decide))
  · rw [e1]
    refine @Ev.bin _ _ _ _ _ _ _ _ (.str (Txt.join "" ((([w1 s 0, w1 s 1, w1 s 2, w1 s 3] ++ [w2 s 0, w2 s 1, w2 s 2, w2 s 3]) ++ [w1 s 0, w1 s 1]).map S))) (.str (S [46])) _ ?_ Ev.str (Bin.add_ss (by rw [join_S _ (by simp), S_length, S_length, h5]; exact Nat.le_trans (show 41 ≤ 1000 by decide) (by decide)))
    refine Ev.join' (by exact fun _ => rfl) (by exact fun _ => rfl) (by exact fun _ => rfl) (by exact fun _ => rfl) (by rfl) Ev.str ?_ (join_ok _ (fun l hl => (h4 l hl).1) (show 10 ≤ 100 by decide))
    rw [ed]
    refine @Ev.bin _ _ _ _ _ _ _ _ (.list ([D.str (S (w1 s 0)), .str (S (w1 s 1)), .str (S (w1 s 2)), .str (S (w1 s 3))] ++ [D.str (S (w2 s 0)), .str (S (w2 s 1)), .str (S (w2 s 2)), .str (S (w2 s 3))])) (.list [D.str (S (w1 s 0)), .str (S (w1 s 1))]) _ ?_ ?_ (Bin.add_ll (Nat.le_trans (show 10 ≤ 1000 by decide) (by decide)))
    · refine @Ev.bin _ _ _ _ _ _ _ _ (L4 fun k => .str (S (w1 s k))) (L4 fun k => .str (S (w2 s k))) _ ?_ ?_ (Bin.add_ll (Nat.le_trans (show 8 ≤ 1000 by decide) (by decide)))
      · kwd_rel
      · kwd_rel
    · refine @Ev.slice' _ _ _ _ _ _ _ _ _ (L4 fun k => .str (S (w1 s k))) _ none (some ((2 : Nat) : Int)) ?_ True.intro EvP.nil (EvP.int Ev.int) (Slc.list (ds := [D.str (S (w1 s 0)), .str (S (w1 s 1)), .str (S (w1 s 2)), .str (S (w1 s 3))]) (Nat.le_trans (show 4 ≤ 1000 by decide) (by decide)))
      kwd_rel
  · kwd_rel
  · rcases List.mem_append.mp hc with h | h
    · obtain ⟨l, hl, hcl⟩ := List.mem_flatten.mp h
      exact (h4 l hl).2 c hcl
    · rw [List.mem_singleton.mp h]; decide
theorem law_rest {s : Nat → Nat} (P : Plain s) (P2 : Plain2 s) : Ex C (n + 3) (scAt 22) [] (st12 s) ((bodyAt 22).drop 12) (.ret (.bool true)) := by
  refine @Ex.expose _ _ _ _ _ _ _ _ _ rfl ?_
  have hn12 : ∀ x : PySem.Str, (["here", "there", "table", "ones", "twos", "rays"] : List PySem.Str).any (fun y => y == x) = false → ∀ p ∈ st12 s, p.1 ≠ x := fun x h => names_ne (ρ := st12 s) ["here", "there", "table", "ones", "twos", "rays"] rfl h
  have hn13 : ∀ k : Nat, ∀ p ∈ st13 s k, p.1 ≠ "size" := fun k => names_ne (ρ := st13 s k) ["orders", "costs", "here", "there", "table", "ones", "twos", "rays"] rfl (by decide +kernel)
  refine @Ex.cons _ _ _ _ _ _ _ (st13 s 4) _ ?_ ?_
  · refine (Ex1.forG (d := .tup [.int 2, .int 3, .int 4]) (ds := [.int ((2 : Nat) : Int), .int ((3 : Nat) : Int), .int ((4 : Nat) : Int)]) (r := false) ?_ Iter.tup (.inl rfl) (stoB_ok (by decide +kernel)) (fun k => match k with | 0 => st12 s | k + 1 => st13 s (k + 2)) 3 (by decide +revert) ?_ ?_ ?_ (.inl ⟨rfl, rfl⟩) (by exact fun _ _ => rfl) (by exact fun _ _ => rfl))
    · kwd_rel
    · exact fun p hp => hp
    · intro k _
      cases k with
      | zero => exact hn12 "size" (by decide +kernel)
      | succ k => exact hn13 (k + 2)
    · intro k e hk he
      have dr : ∀ (z : Nat) (d : D), ∀ p ∈ (("size" : PySem.Str), d) :: st12 s, p ∈ (("size" : PySem.Str), d) :: st13 s z := fun z d p hp => (List.mem_cons.mp hp).elim (fun e => e ▸ List.Mem.head _) fun h => List.Mem.tail _ (List.Mem.tail _ (List.Mem.tail _ h))
      match k, hk, he with
      | 0, _, he => cases he; exact @law_size C n H s P 2 (by decide) (by decide)
      | 1, _, he => cases he; exact @Ex.pre _ _ _ _ _ _ _ _ (@law_size C n H s P 3 (by decide) (by decide)) (dr 2 _)
      | 2, _, he => cases he; exact @Ex.pre _ _ _ _ _ _ _ _ (@law_size C n H s P 4 (by decide) (by decide)) (dr 3 _)
      | (k + 3), hk, _ => exact @False.elim _ (by omega)
  have hcl : (csts s 4).length = (ordF 4).length := by unfold csts; rw [List.length_map]
  have hne : csts s 4 ≠ [] := fun h => ord_ne 4 (by decide) (List.map_eq_nil_iff.mp h)
  obtain ⟨j, hj, hjf⟩ := first_at (imin_mem (csts s 4) hne)
  have hjl : j < (ordF 4).length := by rw [← hcl]; exact (List.getElem?_eq_some_iff.mp hj).1
  have hoj : (ordF 4)[j]? = some (ordF 4)[j] := List.getElem?_eq_getElem hjl
  have ho : (ordF 4)[j] ∈ ordF 4 := List.getElem_mem hjl
  have h24 : (ordF 4).length ≤ 24 := ordF_len (by decide)
  generalize (ordF 4)[j] = o at *
  refine @Ex.asg _ _ _ _ _ _ _ _ _ _ (IL o) _ _ (by exact fun _ _ => rfl) (by decide +kernel) (by unfold st13 st12; ktr_rel) ?_ ?_
  · unfold st13 st12
    refine @Ev.sub' _ _ _ _ _ _ _ (.list ((ordF 4).map IL)) (.int (j : Int)) _ (by exact fun _ _ => rfl) ?_ True.intro ?_ (@Itm.list _ _ _ (j : Int) _ (by omega) (by omega) (by rw [Int.toNat_natCast, List.getElem?_map, hoj]; rfl))
    · kwd_rel
    · refine Ev.index' (by exact fun _ => rfl) (by exact fun _ => rfl) (by exact fun _ => rfl) (by exact fun _ => rfl) (by rfl) ?_ ?_ (by rw [hcl]; exact Nat.le_trans h24 (by decide)) hj hjf
      · kwd_rel
      · refine @Ev.callB' _ _ _ _ _ _ _ _ _ _ [.list (DI (csts s 4))] _ (by exact fun _ => rfl) (by exact fun _ => rfl) (@Hd.min _ _ H (by decide +kernel)) (EvL.one (by exact fun _ => rfl) ?_) (Fn.min_list hne)
        kwd_rel
  refine @Ex.pre _ _ _ _ _ _ (st14 s o) _ ?_ (fun p hp => (List.mem_cons.mp hp).elim (fun e => e ▸ List.Mem.head _) fun h => List.Mem.tail _ (List.Mem.tail _ (List.Mem.tail _ h)))
  refine @Ex.cons _ _ _ _ _ _ _ (("turned", .str (S (trn (w2 s (o.getD 3 0))))) :: st14 s o) _ ?_ (@law_last C n H s P2 o ho)
  have hnt : ∀ d : D, ∀ p ∈ (("turned" : PySem.Str), d) :: st14 s o, p.1 ≠ "at" := fun d => names_ne (ρ := (("turned" : PySem.Str), d) :: st14 s o) ["turned", "best", "here", "there", "table", "ones", "twos", "rays"] rfl (by decide +kernel)
  refine (@Ex1.forG C (n + 3) (scAt 22) [] _ "at" _ _ _ _ (.range 0 ((4 : Nat) : Int) 1) ((List.range 4).map fun i : Nat => .int (i : Int)) true _ ?_ Iter.rangeN (.inr rfl) (stoB_ok (by decide +kernel)) (fun k => match k with | 0 => st14 s o | k + 1 => ("turned", .str (S (trn (w2 s (o.getD k 0))))) :: st14 s o) 4 (by decide) ?_ ?_ ?_ (.inl ⟨rfl, rfl⟩) (by exact fun _ _ => rfl) (by exact fun _ _ => rfl))
  · kwd_rel
    exact Fn.rangeL rfl
  · exact fun p hp => hp
  · intro k _
    cases k with
    | zero => exact fun p hp => hnt .none p (List.Mem.tail _ hp)
    | succ k => exact hnt _
  · intro k e hk he
    have : e = .int (k : Int) := by
      rw [List.getElem?_map, List.getElem?_range hk] at he
      exact (Option.some.inj he).symm
    subst this
    have t := @law_pairs C n H s P2 o ho k hk
    cases k with
    | zero => exact @t
    | succ k => exact @Ex.pre _ _ _ _ _ _ _ _ (@t) (fun p hp => (List.mem_cons.mp hp).elim (fun e => e ▸ List.Mem.head _) fun h => List.Mem.tail _ (List.Mem.tail _ h))
theorem fn_law (T : Tabs) {sa : Addr} {xs : List Int} (hz : xs.length < 64) (P : Plain (sumF (xs.take 60))) (P2 : Plain2 (sumF (xs.take 60))) : Fn C (n + 4) (.ref H.f22) [.own sa (DI xs)] (.bool true) := by
  refine H.d22.fn (by decide +kernel) rfl ?_
  show Ex C (n + 3) (scAt 22) [] [("script", .own sa (DI xs))] (bodyAt 22) _
  refine @law_sums C _ H sa xs hz _ (@law_lists C n H T (sumF (xs.take 60)) _ ?_)
  refine @Ex.expose _ _ _ _ _ _ _ _ _ rfl ?_
  refine @Ex.cons _ _ _ _ _ _ _ (st8 (sumF (xs.take 60))) _ ?_ (@law_words C n H _ _ (@law_rest C n H _ P P2))
  refine (Ex1.forG (d := .range 0 ((4 : Nat) : Int) 1) (ds := (List.range 4).map fun i : Nat => .int (i : Int)) (r := true) ?_ Iter.rangeN (.inr rfl) (stoB_ok (by decide +kernel)) (fun _ => st8 (sumF (xs.take 60))) 4 (by decide) ?_ ?_ ?_ (.inl ⟨rfl, rfl⟩) (by exact fun _ _ => rfl) (by exact fun _ _ => rfl))
  · kwd_rel
    exact Fn.rangeL rfl
  · exact fun p hp => hp
  · intro k _
    exact names_ne (ρ := st8 (sumF (xs.take 60))) ["others", "names", "painted", "colours", "rays", "sums"] rfl (by decide +kernel)
  · intro k e hk he
    have : e = .int (k : Int) := by
      rw [List.getElem?_map, List.getElem?_range hk] at he
      exact (Option.some.inj he).symm
    subst this
    exact @law_turn1 C n H T _ k hk
end
end

-- part G25
section
/-- the view of the text bears the i-th statement's def -/
def viewOk (p : Program) (i : Nat) (x : PySem.Str) : Prop := ∃ d ∈ recsOf p, d.name = x ∧ d.params = (defAt i).1 ∧ d.body = bodyAt i ∧ d.scope = scAt i
def bindOk (i : Nat) : Prop := ∀ (x : PySem.Str) (body : List Stmt) (sc : Scope) (pm code doc : Value) (vs : List Value), vs.length = (parsAt i).length → bindArgs (Calls.docDef x (defAt i).1 body sc pm code doc) ⟨vs, []⟩ = pure ((parsAt i).zip vs)
theorem bind1 {i : Nat} (hl : (parsAt i).length = 1) (h : ∀ x body sc pm code doc u, bindArgs (Calls.docDef x (defAt i).1 body sc pm code doc) ⟨[u], []⟩ = pure ((parsAt i).zip [u])) : bindOk i := fun x body sc pm code doc vs hv => by
  rw [hl] at hv
  match vs, hv with
  | [u], _ => exact h x body sc pm code doc u
theorem bind2 {i : Nat} (hl : (parsAt i).length = 2) (h : ∀ x body sc pm code doc u v, bindArgs (Calls.docDef x (defAt i).1 body sc pm code doc) ⟨[u, v], []⟩ = pure ((parsAt i).zip [u, v])) : bindOk i := fun x body sc pm code doc vs hv => by
  rw [hl] at hv
  match vs, hv with
  | [u, v], _ => exact h x body sc pm code doc u v
theorem bind3 {i : Nat} (hl : (parsAt i).length = 3) (h : ∀ x body sc pm code doc u v w, bindArgs (Calls.docDef x (defAt i).1 body sc pm code doc) ⟨[u, v, w], []⟩ = pure ((parsAt i).zip [u, v, w])) : bindOk i := fun x body sc pm code doc vs hv => by
  rw [hl] at hv
  match vs, hv with
  | [u, v, w], _ => exact h x body sc pm code doc u v w
theorem bd4 : bindOk 4 := bind2 (by decide +kernel) fun _ _ _ _ _ _ _ _ => by kernel_rfl
theorem bd5 : bindOk 5 := bind3 (by decide +kernel) fun _ _ _ _ _ _ _ _ _ => by kernel_rfl
theorem bd10 : bindOk 10 := bind3 (by decide +kernel) fun _ _ _ _ _ _ _ _ _ => by kernel_rfl
theorem bd11 : bindOk 11 := bind3 (by decide +kernel) fun _ _ _ _ _ _ _ _ _ => by kernel_rfl
theorem bd12 : bindOk 12 := bind3 (by decide +kernel) fun _ _ _ _ _ _ _ _ _ => by kernel_rfl
theorem bd13 : bindOk 13 := bind3 (by decide +kernel) fun _ _ _ _ _ _ _ _ _ => by kernel_rfl
theorem bd14 : bindOk 14 := bind3 (by decide +kernel) fun _ _ _ _ _ _ _ _ _ => by kernel_rfl
theorem bd16 : bindOk 16 := bind2 (by decide +kernel) fun _ _ _ _ _ _ _ _ => by kernel_rfl
theorem bd17 : bindOk 17 := bind1 (by decide +kernel) fun _ _ _ _ _ _ _ => by kernel_rfl
theorem bd18 : bindOk 18 := bind2 (by decide +kernel) fun _ _ _ _ _ _ _ _ => by kernel_rfl
theorem bd19 : bindOk 19 := bind2 (by decide +kernel) fun _ _ _ _ _ _ _ _ => by kernel_rfl
theorem bd20 : bindOk 20 := bind1 (by decide +kernel) fun _ _ _ _ _ _ _ => by kernel_rfl
theorem bd21 : bindOk 21 := bind3 (by decide +kernel) fun _ _ _ _ _ _ _ _ _ => by kernel_rfl
theorem bd22 : bindOk 22 := bind1 (by decide +kernel) fun _ _ _ _ _ _ _ => by kernel_rfl
section
variable {p : Program} {loose : List PySem.Str} {mean : ExcName → Option Value} {mg mb : PySem.Str → Option Value} {h : Heap} {lv : List (PySem.Str × WData)}
def cxOf (prog : Program) (w : World) (T : Top p loose mean mg mb h) : Cx := ⟨prog, w, h, mg, mb, T.g, T.b, T.nolimit, T.nodigits, T.builtins⟩
theorem def_of {prog : Program} {w : World} (T : Top p loose mean mg mb h) {i : Nat} {x : PySem.Str} (v : viewOk p i x) (b : bindOk i) : ∃ f, DefAt (cxOf prog w T) i f ∧ mg x = some (.ref f) := by
  obtain ⟨d, hd, rfl, h2, h3, h4⟩ := v
  obtain ⟨a, o, pm, code, doc, g1, g2, g3, g4⟩ := T.fn d hd
  exact ⟨a, ⟨⟨o, _, g2, g3, g4, by rw [← h3]; rfl, rfl, rfl, rfl, h4, fun vs hv => by rw [h2]; exact b _ _ _ _ _ _ vs hv⟩⟩, g1⟩
theorem int_of (T : Top p loose mean mg mb h) {x : PySem.Str} {i : Int} (v : valOf p x = some (.int i)) : ∃ t, mg x = some (.int i t) := by
  obtain ⟨u, h1, h2⟩ := T.const x _ v
  have := h2 h
  cases this with
  | int _ t => exact ⟨t, h1⟩
theorem flt_of (V : LooseAre lv mg h) {x : PySem.Str} {b : UInt64} (hm : (x, WData.float b) ∈ lv) (hc : b ≠ Float64.nan) : ∃ t, mg x = some (.float b t) := by
  obtain ⟨u, h1, h2⟩ := V.val _ hm
  dsimp only at h1 h2
  generalize e : WData.float b = d at h2
  cases h2 with
  | float b' t =>
    injection e with e
    unfold canon at e
    split at e
    · exact absurd e hc
    · exact ⟨t, e ▸ h1⟩
  | _ => cases e
def gone : List PySem.Str := ["len", "range", "list", "min", "max", "sum", "sorted", "int", "round", "str"]
structure Views (p : Program) (loose : List PySem.Str) (lv : List (PySem.Str × WData)) : Prop where
  v4 : viewOk p 4 "_substitution_cost"
  v5 : viewOk p 5 "_levenshtein_distance"
  v10 : viewOk p 10 "rgb_to_hls"
  v11 : viewOk p 11 "hls_to_rgb"
  v12 : viewOk p 12 "_v"
  v13 : viewOk p 13 "rgb_to_hsv"
  v14 : viewOk p 14 "hsv_to_rgb"
  v16 : viewOk p 16 "_law_word"
  v17 : viewOk p 17 "_law_place"
  v18 : viewOk p 18 "_law_paint"
  v19 : viewOk p 19 "_law_quarters"
  v20 : viewOk p 20 "_law_orders"
  v21 : viewOk p 21 "_law_least"
  v22 : viewOk p 22 "law"
  k40 : valOf p "_MAX_STRING_SIZE" = some (.int 40)
  k2 : valOf p "_MOVE_COST" = some (.int 2)
  k1 : valOf p "_CASE_COST" = some (.int 1)
  t13 : (("ONE_THIRD" : PySem.Str), WData.float 4599676419421066581) ∈ lv
  t16 : (("ONE_SIXTH" : PySem.Str), WData.float 4595172819793696085) ∈ lv
  t23 : (("TWO_THIRD" : PySem.Str), WData.float 4604180019048437077) ∈ lv
  free : (gone.all fun x => !(startupNames.contains x) && !(loose.contains x) && !(((recsOf p).map (·.name)).contains x) && !(((litsOf p).map (·.1)).contains x) && !(((clssOf p loose).map (·.name)).contains x)) = true
theorem head_of (prog : Program) (w : World) (T : Top p loose mean mg mb h) (V : LooseAre lv mg h) (W : Views p loose lv) : ∃ H : Hd (cxOf prog w T), mg "law" = some (.ref H.f22) := by
  obtain ⟨f4, d4, g4⟩ := def_of (prog := prog) (w := w) T W.v4 bd4
  obtain ⟨f5, d5, g5⟩ := def_of (prog := prog) (w := w) T W.v5 bd5
  obtain ⟨f10, d10, g10⟩ := def_of (prog := prog) (w := w) T W.v10 bd10
  obtain ⟨f11, d11, g11⟩ := def_of (prog := prog) (w := w) T W.v11 bd11
  obtain ⟨f12, d12, g12⟩ := def_of (prog := prog) (w := w) T W.v12 bd12
  obtain ⟨f13, d13, g13⟩ := def_of (prog := prog) (w := w) T W.v13 bd13
  obtain ⟨f14, d14, g14⟩ := def_of (prog := prog) (w := w) T W.v14 bd14
  obtain ⟨f16, d16, g16⟩ := def_of (prog := prog) (w := w) T W.v16 bd16
  obtain ⟨f17, d17, g17⟩ := def_of (prog := prog) (w := w) T W.v17 bd17
  obtain ⟨f18, d18, g18⟩ := def_of (prog := prog) (w := w) T W.v18 bd18
  obtain ⟨f19, d19, g19⟩ := def_of (prog := prog) (w := w) T W.v19 bd19
  obtain ⟨f20, d20, g20⟩ := def_of (prog := prog) (w := w) T W.v20 bd20
  obtain ⟨f21, d21, g21⟩ := def_of (prog := prog) (w := w) T W.v21 bd21
  obtain ⟨f22, d22, g22⟩ := def_of (prog := prog) (w := w) T W.v22 bd22
  refine ⟨{ f4 := f4, d4 := d4, g4 := g4, f5 := f5, d5 := d5, g5 := g5, f10 := f10, d10 := d10, g10 := g10, f11 := f11, d11 := d11, g11 := g11, f12 := f12, d12 := d12, g12 := g12, f13 := f13, d13 := d13, g13 := g13, f14 := f14, d14 := d14, g14 := g14, f16 := f16, d16 := d16, g16 := g16, f17 := f17, d17 := d17, g17 := g17, f18 := f18, d18 := d18, g18 := g18, f19 := f19, d19 := d19, g19 := g19, f20 := f20, d20 := d20, g20 := g20, f21 := f21, d21 := d21, g21 := g21, f22 := f22, d22 := d22, k40 := int_of T W.k40, k2 := int_of T W.k2, k1 := int_of T W.k1, t13 := flt_of V W.t13  (by decide +kernel), t16 := flt_of V W.t16  (by decide +kernel), t23 := flt_of V W.t23  (by decide +kernel), nb := fun x hx => ?_ }, g22⟩
  have := List.all_eq_true.mp W.free x hx
  simp only [Bool.and_eq_true, Bool.not_eq_true', List.contains_eq_mem, decide_eq_false_iff_not] at this
  obtain ⟨⟨⟨⟨a1, a2⟩, a3⟩, a4⟩, a5⟩ := this
  exact T.free x a1 a2 a3 a4 a5
end
end

-- part G26
section
theorem ints_den {X : List Addr} {h : Heap} : ∀ {vs : List Value} {xs : List Int}, IntsAre vs xs → DenL X h vs (DI xs)
  | _, _, .nil => .nil
  | _, _, .cons n t r => .cons (.int n t) (ints_den r)
theorem law_end {p : Program} {loose : List PySem.Str} {mean : ExcName → Option Value} {mg mb : PySem.Str → Option Value} {lv : List (PySem.Str × WData)} {prog : Program} {w : World} {s₁ : Shared} {fa a : Addr} {vs : List Value} {xs : List Int} {Q : Value → Shared → Prop} {E : Value → Shared → Prop}
    (T : Top p loose mean mg mb s₁.heap) (V : LooseAre lv mg s₁.heap) (W : Views p loose lv) (hm : mg "law" = some (.ref fa)) (hL : s₁.heap.IsList a vs.toArray) (hI : IntsAre vs xs) (hz : xs.length < 64) (TB : Tabs) (P : Plain (sumF (xs.take 60))) (P2 : Plain2 (sumF (xs.take 60)))
    (hQ : ∀ s', Kp s₁ s' → Q (.bool true) s') : wpAny (model prog w) callerA (PySem.call (.ref fa) [.ref a] []) Q E s₁ := by
  obtain ⟨H, hH⟩ := head_of prog w T V W
  have ef : fa = H.f22 := by
    rw [hm] at hH; injection hH with hH; injection hH
  rw [ef]
  refine @fn_law (cxOf prog w T) 4 H TB a xs hz P P2 [] callerA s₁ [.ref a] Q E ?_ ?_ ?_ fun v s' k y => ?_
  · exact ⟨rfl, by decide +kernel, by decide +kernel⟩
  · exact ⟨Grows.refl _, fun a h => nomatch h⟩
  · exact .cons (.own (fun h => nomatch h) hL (ints_den hI)) .nil
  · cases y
    exact hQ s' k
end

-- part F1
section
def goodT : List (List Nat) := [
  [0, 4645463015632666623],
  [4617690817930548480, 4617690817930548536, 4617690817930548544, 4617690817930548560, 4617690817930548568, 4617690817930548576],
  [4622194417557918976, 4622194417557919040, 4622194417557919056, 4622194417557919060, 4622194417557919064, 4622194417557919072],
  [4625196817309499360, 4625196817309499380, 4625196817309499384, 4625196817309499392, 4625196817309499400, 4625196817309499402],
  [4626698017185289536, 4626698017185289552, 4626698017185289556, 4626698017185289558, 4626698017185289560, 4626698017185289568],
  [4628199217061079712, 4628199217061079720, 4628199217061079722, 4628199217061079724, 4628199217061079728, 4628199217061079744],
  [4629700416936869878, 4629700416936869880, 4629700416936869888, 4629700416936869890, 4629700416936869896],
  [4630451016874764968, 4630451016874764970, 4630451016874764971, 4630451016874764972, 4630451016874764976, 4630451016874764992],
  [4631201616812660052, 4631201616812660053, 4631201616812660054, 4631201616812660056, 4631201616812660057, 4631201616812660064],
  [4631952216750555136],
  [4632702816688450208, 4632702816688450214, 4632702816688450216, 4632702816688450219, 4632702816688450220],
  [4633453416626345280, 4633453416626345296, 4633453416626345300, 4633453416626345302, 4633453416626345304],
  [4634204016564240376, 4634204016564240378, 4634204016564240379, 4634204016564240384, 4634204016564240386],
  [4634579316533187920, 4634579316533187924, 4634579316533187926, 4634579316533187928],
  [4634954616502135464, 4634954616502135466, 4634954616502135468, 4634954616502135472, 4634954616502135476, 4634954616502135478],
  [4635329916471083004, 4635329916471083006, 4635329916471083008, 4635329916471083010, 4635329916471083012, 4635329916471083016, 4635329916471083018],
  [4635705216440030548, 4635705216440030550, 4635705216440030552, 4635705216440030556, 4635705216440030558, 4635705216440030560],
  [4636080516408978090, 4636080516408978092, 4636080516408978096, 4636080516408978098],
  [4636455816377925630, 4636455816377925632, 4636455816377925636, 4636455816377925638],
  [4636831116346873168, 4636831116346873170, 4636831116346873172, 4636831116346873174, 4636831116346873176, 4636831116346873178],
  [4637206416315820704, 4637206416315820710, 4637206416315820712, 4637206416315820714, 4637206416315820716, 4637206416315820718],
  [4637581716284768256, 4637581716284768258],
  [4637957016253715792, 4637957016253715796, 4637957016253715798, 4637957016253715800],
  [4638332316222663336, 4638332316222663338, 4638332316222663344, 4638332316222663348, 4638332316222663350],
  [4638707616191610876, 4638707616191610878, 4638707616191610880],
  [4638895266176084650, 4638895266176084651, 4638895266176084652, 4638895266176084653, 4638895266176084656],
  [4639082916160558420, 4639082916160558421, 4639082916160558422, 4639082916160558423, 4639082916160558424],
  [4639270566145032190, 4639270566145032192, 4639270566145032193],
  [4639458216129505960, 4639458216129505963, 4639458216129505964],
  [4639645866113979728, 4639645866113979730, 4639645866113979732, 4639645866113979733, 4639645866113979734],
  [4639833516098453500, 4639833516098453504, 4639833516098453505, 4639833516098453506],
  [4640021166082927270, 4640021166082927272, 4640021166082927275, 4640021166082927276],
  [4640208816067401044, 4640208816067401045, 4640208816067401046, 4640208816067401048],
  [4640396466051874816],
  [4640584116036348586, 4640584116036348587, 4640584116036348588, 4640584116036348589, 4640584116036348592],
  [4640771766020822356, 4640771766020822357, 4640771766020822358, 4640771766020822359, 4640771766020822360],
  [4640959416005296126, 4640959416005296127, 4640959416005296128],
  [4641147065989769896, 4641147065989769898],
  [4641334715974243664, 4641334715974243668, 4641334715974243670],
  [4641522365958717438, 4641522365958717440],
  [4641710015943191208, 4641710015943191210, 4641710015943191212],
  [4641897665927664980, 4641897665927664982, 4641897665927664984],
  [4642085315912138752, 4642085315912138754],
  [4642272965896612522, 4642272965896612524, 4642272965896612528],
  [4642460615881086294, 4642460615881086296],
  [4642648265865560064],
  [4642835915850033832, 4642835915850033834],
  [4643023565834507600, 4643023565834507604, 4643023565834507606],
  [4643211215818981374, 4643211215818981376],
  [4643305040811218259, 4643305040811218260, 4643305040811218261, 4643305040811218262],
  [4643398865803455146, 4643398865803455147, 4643398865803455148],
  [4643492690795692032, 4643492690795692033],
  [4643586515787928917, 4643586515787928918, 4643586515787928920],
  [4643680340780165802, 4643680340780165803, 4643680340780165804],
  [4643774165772402687, 4643774165772402688],
  [4643867990764639572, 4643867990764639573],
  [4643961815756876456, 4643961815756876457, 4643961815756876458, 4643961815756876459],
  [4644055640749113342, 4644055640749113343, 4644055640749113344],
  [4644149465741350227, 4644149465741350228, 4644149465741350229, 4644149465741350230],
  [4644243290733587114, 4644243290733587115, 4644243290733587116],
  [4644337115725824000, 4644337115725824002],
  [4644430940718060884, 4644430940718060885, 4644430940718060886, 4644430940718060887, 4644430940718060888],
  [4644524765710297770, 4644524765710297771, 4644524765710297772],
  [4644618590702534655, 4644618590702534656, 4644618590702534657],
  [4644712415694771540, 4644712415694771541, 4644712415694771542],
  [4644806240687008424, 4644806240687008425, 4644806240687008426, 4644806240687008427, 4644806240687008428],
  [4644900065679245310, 4644900065679245312],
  [4644993890671482195, 4644993890671482196, 4644993890671482198],
  [4645087715663719082, 4645087715663719083, 4645087715663719084],
  [4645181540655955968, 4645181540655955970],
  [4645275365648192853, 4645275365648192854, 4645275365648192855, 4645275365648192856],
  [4645369190640429738, 4645369190640429739, 4645369190640429740]]
noncomputable section
def qB (a k : Nat) : Bool := force (mulN (ratN 1048576 1) (can a)) fun z => bt (finN (magN z)) (bt (negN z) false (Nat.beq (nearN z) (262144 * k))) false
def elemB (y : Nat) : List Nat → Bool
  | [] => false
  | x :: r => bt (Nat.beq y x) true (elemB y r)
def goodY (h : Nat) : List Nat := goodT.getD h []
def hueB (g : List Nat) (x : Nat) : Bool := force (mulN (ratN 384 1) (can x)) fun y => elemB y g
def evP (h t l s : Nat) : T3 := force (subN (ratN h 72) (ratN t 1)) fun hh => force (ratN (l + 1) 4) fun ll => force (ratN (s + 1) 4) fun ss => hlsRgbF hh ll ss
def odP (h t l s : Nat) : T3 := force (addN (ratN h 72) (ratN t 1)) fun hh => force (ratN (s + 1) 4) fun ss => force (ratN (l + 1) 4) fun vv => hsvRgbF hh ss vv
def hlsB (g : List Nat) (r b c : Nat) (k : Nat → Nat → Bool) : Bool := force (can r) fun r => force (can b) fun b => force (can c) fun c => bt (okHls r b c) (match rgbHlsF r b c with | (x, y, z) => bt (hueB g x) (k y z) false) false
def evB (g : List Nat) (l s : Nat) (c : T3) : Bool := match c with | (r, b, c) => hlsB g r b c fun y z => bt (qB y (l + 1)) (qB z (s + 1)) false
def odB (g : List Nat) (l s : Nat) (c : T3) : Bool := match c with | (r, b, c) => bt (hlsB g r b c fun _ _ => true) (bt (okHsv r b c) (match rgbHsvF r b c with | (_, y, z) => bt (qB y (s + 1)) (qB z (l + 1)) false) false) false
def allB (n : Nat) (p : Nat → Bool) : Bool := match n with | 0 => true | n + 1 => bt (p n) (allB n p) false
def plB (h : Nat) : Bool := force 0 fun _ => match goodY h with
  | g => allB 4 fun t => allB 3 fun l => allB 4 fun s => bt (evB g l s (evP h t l s)) (odB g l s (odP h t l s)) false
def letY (y r : Nat) : Bool := ltIN (modN (subN y (ratN r 1)) (ratN 384 1)) 192
def bitN (p r : Nat) : Bool := Nat.blt ((p + 9216 - 12 * r) % 4608) 2304
def ltB (h : Nat) : Bool := force (64 * h) fun p => force (ratN 384 1) fun n => (goodY h).all fun y => force y fun y => allB 192 fun i => force (2 * i + 1) fun r => bt (ltIN (modN (subN y (ratN r 1)) n) 192) (bitN p r) (bt (bitN p r) false true)
def hpD (a b c : Nat) : Nat := (placeF a b c).toNat
def colB (a b c : Nat) : Bool := force (hpD a b c) fun p => force (p / 64) fun q => bt (Nat.beq (64 * q) p) (bt (Nat.blt q 72) (force (ratN a 4) fun x => force (ratN b 4) fun y => force (ratN c 4) fun z => bt (okHsv x y z) (match rgbHsvF x y z with | (h, s, v) => bt (hueB (goodY q) h) (bt (okRgb h s) (match hsvRgbF h s v with | (r, g, b') => bt (qB r a) (bt (qB g b) (qB b' c) false) false) false) false) false) false) false
end
theorem bt_tt {b c : Bool} (h : bt b c false = true) : b = true ∧ c = true := by cases b <;> cases c <;> first | exact ⟨rfl, rfl⟩ | cases h
theorem allB_ok {p : Nat → Bool} : ∀ {n : Nat}, allB n p = true → ∀ i, i < n → p i = true
  | 0, _, i, hi => absurd hi (Nat.not_lt_zero _)
  | n + 1, h, i, hi => by
    have := bt_tt h
    rcases Nat.lt_or_eq_of_le (Nat.le_of_lt_succ hi) with q | rfl
    · exact allB_ok this.2 i q
    · exact this.1
theorem elemB_ok {y : Nat} : ∀ {l : List Nat}, elemB y l = true → y ∈ l
  | [], h => by cases h
  | x :: r, h => by
    unfold elemB at h
    cases e : Nat.beq y x with
    | true => rw [Nat.eq_of_beq_eq_true e]; exact List.Mem.head _
    | false => rw [e] at h; exact List.Mem.tail _ (elemB_ok h)
theorem qB_ok {a k : Nat} (h : qB a k = true) : qOK a k = true := by
  unfold qB at h
  rw [force_eq] at h
  obtain ⟨h1, h2⟩ := bt_tt h
  unfold qOK q20
  cases e : negN (mulN (ratN 1048576 1) (can a)) with
  | true => rw [e] at h2; cases h2
  | false =>
    rw [e] at h2
    have h3 : nearN (mulN (ratN 1048576 1) (can a)) = 262144 * k := Nat.eq_of_beq_eq_true h2
    rw [h1, h3]
    simp [Float64.sgn]
theorem hueB_ok {g : List Nat} {x : Nat} (h : hueB g x = true) : mulN (ratN 384 1) (can x) ∈ g := by
  unfold hueB at h
  rw [force_eq] at h
  exact elemB_ok h
theorem hlsB_ok {g : List Nat} {r b c : Nat} {k : Nat → Nat → Bool} (h : hlsB g r b c k = true) : okHls (can r) (can b) (can c) = true ∧ mulN (ratN 384 1) (can (rgbHlsF (can r) (can b) (can c)).1) ∈ g ∧ k (rgbHlsF (can r) (can b) (can c)).2.1 (rgbHlsF (can r) (can b) (can c)).2.2 = true := by
  unfold hlsB at h
  rw [force_eq, force_eq, force_eq] at h
  obtain ⟨h1, h2⟩ := bt_tt h
  obtain ⟨h3, h4⟩ := bt_tt h2
  exact ⟨h1, hueB_ok h3, h4⟩
theorem evB_ok {g : List Nat} {l s : Nat} {c : T3} (h : evB g l s c = true) : okHls (can c.1) (can c.2.1) (can c.2.2) = true ∧ mulN (ratN 384 1) (can (rgbHlsF (can c.1) (can c.2.1) (can c.2.2)).1) ∈ g ∧ qOK (rgbHlsF (can c.1) (can c.2.1) (can c.2.2)).2.1 (l + 1) = true ∧ qOK (rgbHlsF (can c.1) (can c.2.1) (can c.2.2)).2.2 (s + 1) = true := by
  obtain ⟨h1, h2, h3⟩ := hlsB_ok (g := g) (r := c.1) (b := c.2.1) (c := c.2.2) (k := fun y z => bt (qB y (l + 1)) (qB z (s + 1)) false) h
  obtain ⟨h4, h5⟩ := bt_tt h3
  exact ⟨h1, h2, qB_ok h4, qB_ok h5⟩
theorem odB_ok {g : List Nat} {l s : Nat} {c : T3} (h : odB g l s c = true) : okHls (can c.1) (can c.2.1) (can c.2.2) = true ∧ mulN (ratN 384 1) (can (rgbHlsF (can c.1) (can c.2.1) (can c.2.2)).1) ∈ g ∧ okHsv c.1 c.2.1 c.2.2 = true ∧ qOK (rgbHsvF c.1 c.2.1 c.2.2).2.1 (s + 1) = true ∧ qOK (rgbHsvF c.1 c.2.1 c.2.2).2.2 (l + 1) = true := by
  obtain ⟨h0, h6⟩ := bt_tt (b := hlsB g c.1 c.2.1 c.2.2 fun _ _ => true) h
  obtain ⟨h1, h2, _⟩ := hlsB_ok h0
  obtain ⟨h7, h8⟩ := bt_tt h6
  obtain ⟨h4, h5⟩ := bt_tt (b := qB (rgbHsvF c.1 c.2.1 c.2.2).2.1 (s + 1)) h8
  exact ⟨h1, h2, h7, qB_ok h4, qB_ok h5⟩
theorem plB_ok {h t l s : Nat} (p : plB h = true) (ht : t < 4) (hl : l < 3) (hs : s < 4) : evB (goodY h) l s (evP h t l s) = true ∧ odB (goodY h) l s (odP h t l s) = true := by
  unfold plB at p
  rw [force_eq] at p
  exact bt_tt (allB_ok (allB_ok (allB_ok p t ht) l hl) s hs)
theorem paint_ev {m k : Nat} (hk : k % 2 = 0) : paintF m k = evP (m / 125 % 72) (m / 9000 % 4) (m / 36000 % 3) (m / 108000 % 4) := by
  unfold paintF evP
  rw [force_eq, force_eq, force_eq, hk]
  rfl
theorem paint_od {m k : Nat} (hk : k % 2 = 1) : paintF m k = odP (m / 125 % 72) (m / 9000 % 4) (m / 36000 % 3) (m / 108000 % 4) := by
  unfold paintF odP
  rw [force_eq, force_eq, force_eq, hk]
  rfl
theorem ltB_ok {h y r : Nat} (p : ltB h = true) (hy : y ∈ goodY h) (hr : r < 192) : letY y (2 * r + 1) = bitN (64 * h) (2 * r + 1) := by
  unfold ltB at p
  rw [force_eq, force_eq] at p
  have p := List.all_eq_true.mp p y hy
  rw [force_eq] at p
  have p := allB_ok p r hr
  rw [force_eq] at p
  unfold letY
  cases e : ltIN (modN (subN y (ratN (2 * r + 1) 1)) (ratN 384 1)) 192 <;> rw [e] at p <;> cases q : bitN (64 * h) (2 * r + 1) <;> rw [q] at p <;> first | rfl | cases p
theorem colB_ok {a b c : Nat} (p : colB a b c = true) : 64 * (hpD a b c / 64) = hpD a b c ∧ hpD a b c / 64 < 72 ∧ okHsv (ratN a 4) (ratN b 4) (ratN c 4) = true ∧ mulN (ratN 384 1) (can (rgbHsvF (ratN a 4) (ratN b 4) (ratN c 4)).1) ∈ goodY (hpD a b c / 64) ∧
    okRgb (rgbHsvF (ratN a 4) (ratN b 4) (ratN c 4)).1 (rgbHsvF (ratN a 4) (ratN b 4) (ratN c 4)).2.1 = true ∧
    qOK (hsvRgbF (rgbHsvF (ratN a 4) (ratN b 4) (ratN c 4)).1 (rgbHsvF (ratN a 4) (ratN b 4) (ratN c 4)).2.1 (rgbHsvF (ratN a 4) (ratN b 4) (ratN c 4)).2.2).1 a = true ∧
    qOK (hsvRgbF (rgbHsvF (ratN a 4) (ratN b 4) (ratN c 4)).1 (rgbHsvF (ratN a 4) (ratN b 4) (ratN c 4)).2.1 (rgbHsvF (ratN a 4) (ratN b 4) (ratN c 4)).2.2).2.1 b = true ∧
    qOK (hsvRgbF (rgbHsvF (ratN a 4) (ratN b 4) (ratN c 4)).1 (rgbHsvF (ratN a 4) (ratN b 4) (ratN c 4)).2.1 (rgbHsvF (ratN a 4) (ratN b 4) (ratN c 4)).2.2).2.2 c = true := by
  unfold colB at p
  rw [force_eq, force_eq] at p
  obtain ⟨h1, p⟩ := bt_tt p
  obtain ⟨h2, p⟩ := bt_tt p
  rw [force_eq, force_eq, force_eq] at p
  obtain ⟨h3, p⟩ := bt_tt p
  generalize rgbHsvF (ratN a 4) (ratN b 4) (ratN c 4) = t at *
  obtain ⟨h, s, v⟩ := t
  obtain ⟨h4, p⟩ := bt_tt p
  obtain ⟨h5, p⟩ := bt_tt p
  dsimp only at *
  generalize hsvRgbF h s v = u at *
  obtain ⟨r, g, b'⟩ := u
  obtain ⟨h6, p⟩ := bt_tt p
  obtain ⟨h7, p⟩ := bt_tt p
  exact ⟨Nat.eq_of_beq_eq_true h1, Nat.lt_of_succ_le (Nat.ble_eq.mp h2), h3, hueB_ok h4, h5, qB_ok h6, qB_ok h7, qB_ok p⟩
end

-- part F2
section
theorem pl_0 : plB 0 = true := by decide +kernel
theorem lt_0 : ltB 0 = true := by decide +kernel
theorem pl_1 : plB 1 = true := by decide +kernel
theorem lt_1 : ltB 1 = true := by decide +kernel
theorem pl_2 : plB 2 = true := by decide +kernel
theorem lt_2 : ltB 2 = true := by decide +kernel
theorem pl_3 : plB 3 = true := by decide +kernel
theorem lt_3 : ltB 3 = true := by decide +kernel
theorem pl_4 : plB 4 = true := by decide +kernel
theorem lt_4 : ltB 4 = true := by decide +kernel
theorem pl_5 : plB 5 = true := by decide +kernel
theorem lt_5 : ltB 5 = true := by decide +kernel
theorem pl_6 : plB 6 = true := by decide +kernel
theorem lt_6 : ltB 6 = true := by decide +kernel
theorem pl_7 : plB 7 = true := by decide +kernel
theorem lt_7 : ltB 7 = true := by decide +kernel
theorem pl_8 : plB 8 = true := by decide +kernel
theorem lt_8 : ltB 8 = true := by decide +kernel
theorem pl_9 : plB 9 = true := by decide +kernel
theorem lt_9 : ltB 9 = true := by decide +kernel
theorem pl_10 : plB 10 = true := by decide +kernel
theorem lt_10 : ltB 10 = true := by decide +kernel
theorem pl_11 : plB 11 = true := by decide +kernel
theorem lt_11 : ltB 11 = true := by decide +kernel
theorem pl_12 : plB 12 = true := by decide +kernel
theorem lt_12 : ltB 12 = true := by decide +kernel
theorem pl_13 : plB 13 = true := by decide +kernel
theorem lt_13 : ltB 13 = true := by decide +kernel
theorem pl_14 : plB 14 = true := by decide +kernel
theorem lt_14 : ltB 14 = true := by decide +kernel
theorem pl_15 : plB 15 = true := by decide +kernel
theorem lt_15 : ltB 15 = true := by decide +kernel
theorem pl_16 : plB 16 = true := by decide +kernel
theorem lt_16 : ltB 16 = true := by decide +kernel
theorem pl_17 : plB 17 = true := by decide +kernel
theorem lt_17 : ltB 17 = true := by decide +kernel
theorem pl_18 : plB 18 = true := by decide +kernel
theorem lt_18 : ltB 18 = true := by decide +kernel
theorem pl_19 : plB 19 = true := by decide +kernel
theorem lt_19 : ltB 19 = true := by decide +kernel
theorem pl_20 : plB 20 = true := by decide +kernel
theorem lt_20 : ltB 20 = true := by decide +kernel
theorem pl_21 : plB 21 = true := by decide +kernel
theorem lt_21 : ltB 21 = true := by decide +kernel
theorem pl_22 : plB 22 = true := by decide +kernel
theorem lt_22 : ltB 22 = true := by decide +kernel
theorem pl_23 : plB 23 = true := by decide +kernel
theorem lt_23 : ltB 23 = true := by decide +kernel
theorem pl_24 : plB 24 = true := by decide +kernel
theorem lt_24 : ltB 24 = true := by decide +kernel
theorem pl_25 : plB 25 = true := by decide +kernel
theorem lt_25 : ltB 25 = true := by decide +kernel
theorem pl_26 : plB 26 = true := by decide +kernel
theorem lt_26 : ltB 26 = true := by decide +kernel
theorem pl_27 : plB 27 = true := by decide +kernel
theorem lt_27 : ltB 27 = true := by decide +kernel
theorem pl_28 : plB 28 = true := by decide +kernel
theorem lt_28 : ltB 28 = true := by decide +kernel
theorem pl_29 : plB 29 = true := by decide +kernel
theorem lt_29 : ltB 29 = true := by decide +kernel
theorem pl_30 : plB 30 = true := by decide +kernel
theorem lt_30 : ltB 30 = true := by decide +kernel
theorem pl_31 : plB 31 = true := by decide +kernel
theorem lt_31 : ltB 31 = true := by decide +kernel
theorem pl_32 : plB 32 = true := by decide +kernel
theorem lt_32 : ltB 32 = true := by decide +kernel
theorem pl_33 : plB 33 = true := by decide +kernel
theorem lt_33 : ltB 33 = true := by decide +kernel
theorem pl_34 : plB 34 = true := by decide +kernel
theorem lt_34 : ltB 34 = true := by decide +kernel
theorem pl_35 : plB 35 = true := by decide +kernel
theorem lt_35 : ltB 35 = true := by decide +kernel
theorem pl_36 : plB 36 = true := by decide +kernel
theorem lt_36 : ltB 36 = true := by decide +kernel
theorem pl_37 : plB 37 = true := by decide +kernel
theorem lt_37 : ltB 37 = true := by decide +kernel
theorem pl_38 : plB 38 = true := by decide +kernel
theorem lt_38 : ltB 38 = true := by decide +kernel
theorem pl_39 : plB 39 = true := by decide +kernel
theorem lt_39 : ltB 39 = true := by decide +kernel
theorem pl_40 : plB 40 = true := by decide +kernel
theorem lt_40 : ltB 40 = true := by decide +kernel
theorem pl_41 : plB 41 = true := by decide +kernel
theorem lt_41 : ltB 41 = true := by decide +kernel
theorem pl_42 : plB 42 = true := by decide +kernel
theorem lt_42 : ltB 42 = true := by decide +kernel
theorem pl_43 : plB 43 = true := by decide +kernel
theorem lt_43 : ltB 43 = true := by decide +kernel
theorem pl_44 : plB 44 = true := by decide +kernel
theorem lt_44 : ltB 44 = true := by decide +kernel
theorem pl_45 : plB 45 = true := by decide +kernel
theorem lt_45 : ltB 45 = true := by decide +kernel
theorem pl_46 : plB 46 = true := by decide +kernel
theorem lt_46 : ltB 46 = true := by decide +kernel
theorem pl_47 : plB 47 = true := by decide +kernel
theorem lt_47 : ltB 47 = true := by decide +kernel
theorem pl_48 : plB 48 = true := by decide +kernel
theorem lt_48 : ltB 48 = true := by decide +kernel
theorem pl_49 : plB 49 = true := by decide +kernel
theorem lt_49 : ltB 49 = true := by decide +kernel
theorem pl_50 : plB 50 = true := by decide +kernel
theorem lt_50 : ltB 50 = true := by decide +kernel
theorem pl_51 : plB 51 = true := by decide +kernel
theorem lt_51 : ltB 51 = true := by decide +kernel
theorem pl_52 : plB 52 = true := by decide +kernel
theorem lt_52 : ltB 52 = true := by decide +kernel
theorem pl_53 : plB 53 = true := by decide +kernel
theorem lt_53 : ltB 53 = true := by decide +kernel
theorem pl_54 : plB 54 = true := by decide +kernel
theorem lt_54 : ltB 54 = true := by decide +kernel
theorem pl_55 : plB 55 = true := by decide +kernel
theorem lt_55 : ltB 55 = true := by decide +kernel
theorem pl_56 : plB 56 = true := by decide +kernel
theorem lt_56 : ltB 56 = true := by decide +kernel
theorem pl_57 : plB 57 = true := by decide +kernel
theorem lt_57 : ltB 57 = true := by decide +kernel
theorem pl_58 : plB 58 = true := by decide +kernel
theorem lt_58 : ltB 58 = true := by decide +kernel
theorem pl_59 : plB 59 = true := by decide +kernel
theorem lt_59 : ltB 59 = true := by decide +kernel
theorem pl_60 : plB 60 = true := by decide +kernel
theorem lt_60 : ltB 60 = true := by decide +kernel
theorem pl_61 : plB 61 = true := by decide +kernel
theorem lt_61 : ltB 61 = true := by decide +kernel
theorem pl_62 : plB 62 = true := by decide +kernel
theorem lt_62 : ltB 62 = true := by decide +kernel
theorem pl_63 : plB 63 = true := by decide +kernel
theorem lt_63 : ltB 63 = true := by decide +kernel
theorem pl_64 : plB 64 = true := by decide +kernel
theorem lt_64 : ltB 64 = true := by decide +kernel
theorem pl_65 : plB 65 = true := by decide +kernel
theorem lt_65 : ltB 65 = true := by decide +kernel
theorem pl_66 : plB 66 = true := by decide +kernel
theorem lt_66 : ltB 66 = true := by decide +kernel
theorem pl_67 : plB 67 = true := by decide +kernel
theorem lt_67 : ltB 67 = true := by decide +kernel
theorem pl_68 : plB 68 = true := by decide +kernel
theorem lt_68 : ltB 68 = true := by decide +kernel
theorem pl_69 : plB 69 = true := by decide +kernel
theorem lt_69 : ltB 69 = true := by decide +kernel
theorem pl_70 : plB 70 = true := by decide +kernel
theorem lt_70 : ltB 70 = true := by decide +kernel
theorem pl_71 : plB 71 = true := by decide +kernel
theorem lt_71 : ltB 71 = true := by decide +kernel
end

-- part F3
section
theorem pl_all : ∀ h, h < 72 → plB h = true
  | 0, _ => pl_0
  | 1, _ => pl_1
  | 2, _ => pl_2
  | 3, _ => pl_3
  | 4, _ => pl_4
  | 5, _ => pl_5
  | 6, _ => pl_6
  | 7, _ => pl_7
  | 8, _ => pl_8
  | 9, _ => pl_9
  | 10, _ => pl_10
  | 11, _ => pl_11
  | 12, _ => pl_12
  | 13, _ => pl_13
  | 14, _ => pl_14
  | 15, _ => pl_15
  | 16, _ => pl_16
  | 17, _ => pl_17
  | 18, _ => pl_18
  | 19, _ => pl_19
  | 20, _ => pl_20
  | 21, _ => pl_21
  | 22, _ => pl_22
  | 23, _ => pl_23
  | 24, _ => pl_24
  | 25, _ => pl_25
  | 26, _ => pl_26
  | 27, _ => pl_27
  | 28, _ => pl_28
  | 29, _ => pl_29
  | 30, _ => pl_30
  | 31, _ => pl_31
  | 32, _ => pl_32
  | 33, _ => pl_33
  | 34, _ => pl_34
  | 35, _ => pl_35
  | 36, _ => pl_36
  | 37, _ => pl_37
  | 38, _ => pl_38
  | 39, _ => pl_39
  | 40, _ => pl_40
  | 41, _ => pl_41
  | 42, _ => pl_42
  | 43, _ => pl_43
  | 44, _ => pl_44
  | 45, _ => pl_45
  | 46, _ => pl_46
  | 47, _ => pl_47
  | 48, _ => pl_48
  | 49, _ => pl_49
  | 50, _ => pl_50
  | 51, _ => pl_51
  | 52, _ => pl_52
  | 53, _ => pl_53
  | 54, _ => pl_54
  | 55, _ => pl_55
  | 56, _ => pl_56
  | 57, _ => pl_57
  | 58, _ => pl_58
  | 59, _ => pl_59
  | 60, _ => pl_60
  | 61, _ => pl_61
  | 62, _ => pl_62
  | 63, _ => pl_63
  | 64, _ => pl_64
  | 65, _ => pl_65
  | 66, _ => pl_66
  | 67, _ => pl_67
  | 68, _ => pl_68
  | 69, _ => pl_69
  | 70, _ => pl_70
  | 71, _ => pl_71
  | h + 72, hh => absurd hh (by omega)
theorem lt_all : ∀ h, h < 72 → ltB h = true
  | 0, _ => lt_0
  | 1, _ => lt_1
  | 2, _ => lt_2
  | 3, _ => lt_3
  | 4, _ => lt_4
  | 5, _ => lt_5
  | 6, _ => lt_6
  | 7, _ => lt_7
  | 8, _ => lt_8
  | 9, _ => lt_9
  | 10, _ => lt_10
  | 11, _ => lt_11
  | 12, _ => lt_12
  | 13, _ => lt_13
  | 14, _ => lt_14
  | 15, _ => lt_15
  | 16, _ => lt_16
  | 17, _ => lt_17
  | 18, _ => lt_18
  | 19, _ => lt_19
  | 20, _ => lt_20
  | 21, _ => lt_21
  | 22, _ => lt_22
  | 23, _ => lt_23
  | 24, _ => lt_24
  | 25, _ => lt_25
  | 26, _ => lt_26
  | 27, _ => lt_27
  | 28, _ => lt_28
  | 29, _ => lt_29
  | 30, _ => lt_30
  | 31, _ => lt_31
  | 32, _ => lt_32
  | 33, _ => lt_33
  | 34, _ => lt_34
  | 35, _ => lt_35
  | 36, _ => lt_36
  | 37, _ => lt_37
  | 38, _ => lt_38
  | 39, _ => lt_39
  | 40, _ => lt_40
  | 41, _ => lt_41
  | 42, _ => lt_42
  | 43, _ => lt_43
  | 44, _ => lt_44
  | 45, _ => lt_45
  | 46, _ => lt_46
  | 47, _ => lt_47
  | 48, _ => lt_48
  | 49, _ => lt_49
  | 50, _ => lt_50
  | 51, _ => lt_51
  | 52, _ => lt_52
  | 53, _ => lt_53
  | 54, _ => lt_54
  | 55, _ => lt_55
  | 56, _ => lt_56
  | 57, _ => lt_57
  | 58, _ => lt_58
  | 59, _ => lt_59
  | 60, _ => lt_60
  | 61, _ => lt_61
  | 62, _ => lt_62
  | 63, _ => lt_63
  | 64, _ => lt_64
  | 65, _ => lt_65
  | 66, _ => lt_66
  | 67, _ => lt_67
  | 68, _ => lt_68
  | 69, _ => lt_69
  | 70, _ => lt_70
  | 71, _ => lt_71
  | h + 72, hh => absurd hh (by omega)
theorem col_all : allB 5 (fun a => allB 5 fun b => allB 5 fun c => colB a b c) = true := by decide +kernel
theorem col_m (m : Nat) : colB (m % 5) (m / 5 % 5) (m / 25 % 5) = true :=
  allB_ok (allB_ok (allB_ok col_all (m % 5) (Nat.mod_lt _ (by decide))) (m / 5 % 5) (Nat.mod_lt _ (by decide))) (m / 25 % 5) (Nat.mod_lt _ (by decide))
theorem ev_m (m k : Nat) (hk : k % 2 = 0) : evB (goodY (m / 125 % 72)) (m / 36000 % 3) (m / 108000 % 4) (paintF m k) = true := by
  rw [paint_ev hk]
  exact (plB_ok (pl_all _ (Nat.mod_lt _ (by decide))) (Nat.mod_lt _ (by decide)) (Nat.mod_lt _ (by decide)) (Nat.mod_lt _ (by decide))).1
theorem od_m (m k : Nat) (hk : k % 2 = 1) : odB (goodY (m / 125 % 72)) (m / 36000 % 3) (m / 108000 % 4) (paintF m k) = true := by
  rw [paint_od hk]
  exact (plB_ok (pl_all _ (Nat.mod_lt _ (by decide))) (Nat.mod_lt _ (by decide)) (Nat.mod_lt _ (by decide)) (Nat.mod_lt _ (by decide))).2
theorem tabs : Tabs where
  hsvOk m := (colB_ok (col_m m)).2.2.1
  rgbOk m := (colB_ok (col_m m)).2.2.2.2.1
  q0 m := (colB_ok (col_m m)).2.2.2.2.2.1
  q1 m := (colB_ok (col_m m)).2.2.2.2.2.2.1
  q2 m := (colB_ok (col_m m)).2.2.2.2.2.2.2
  hlsOk m k := by
    have hp : k % 2 = 0 ∨ k % 2 = 1 := by omega
    rcases hp with hp | hp
    · exact (evB_ok (ev_m m k hp)).1
    · exact (odB_ok (od_m m k hp)).1
  evenL m k hk := (evB_ok (ev_m m k hk)).2.2.1
  evenS m k hk := (evB_ok (ev_m m k hk)).2.2.2
  oddOk m k hk := (odB_ok (od_m m k hk)).2.2.1
  oddS m k hk := (odB_ok (od_m m k hk)).2.2.2.1
  oddL m k hk := (odB_ok (od_m m k hk)).2.2.2.2
theorem ray_odd (m : Nat) : ∃ i, i < 192 ∧ ray m = 2 * i + 1 := ⟨m / 432000 % 192, Nat.mod_lt _ (by decide), rfl⟩
/-- the first palette's letters by whole numbers -/
theorem b1_is (s : Nat → Nat) (k i : Nat) : b1 s k i = bitN (hpN (s k)) (ray (s i)) := by
  obtain ⟨j, hj, e⟩ := ray_odd (s i)
  have h := colB_ok (col_m (s k))
  have e2 : hpN (s k) = hpD (s k % 5) (s k / 5 % 5) (s k / 25 % 5) := rfl
  unfold b1
  rw [e, e2, ← h.1]
  exact ltB_ok (lt_all _ h.2.1) h.2.2.2.1 hj
theorem b2_is (s : Nat → Nat) (k i : Nat) : b2 s k i = bitN (tpN (s k)) (ray (s i)) := by
  obtain ⟨j, hj, e⟩ := ray_odd (s i)
  have h : mulN (ratN 384 1) (can (otF (s k) k).1) ∈ goodY (s k / 125 % 72) := by
    have hp : k % 2 = 0 ∨ k % 2 = 1 := by omega
    rcases hp with hp | hp
    · exact (evB_ok (ev_m (s k) k hp)).2.1
    · exact (odB_ok (od_m (s k) k hp)).2.1
  have e2 : tpN (s k) = 64 * (s k / 125 % 72) := Nat.mul_comm _ _
  unfold b2
  rw [e, e2]
  exact ltB_ok (lt_all _ (Nat.mod_lt _ (by decide))) h hj
end

-- part W1
section
section
variable (sub : Nat → Nat → Int)
def lstepS (a : List Nat) (bc : Nat) (s : LSt) (k : Nat) : LSt :=
  let sb := s.dist + sub bc (a.getD k 0)
  let d := s.row.getD k 0
  let ins := min s.res d + 2
  let r := min ins sb
  { dist := d, res := r, mini := if r < s.mini then r else s.mini, row := s.row.set k r }
def lrowS (a : List Nat) (bc : Nat) (s : LSt) : Nat → LSt
  | 0 => s
  | k + 1 => lstepS sub a bc (lrowS a bc s k) k
def louterS (a b : List Nat) : Nat → LSt
  | 0 => { dist := 0, res := 0, mini := 0, row := (List.range a.length).map fun i : Nat => 2 + (i : Int) * 2 }
  | j + 1 => lrowS sub a (b.getD j 0) (lstart (louterS a b j).row j) a.length
def lcutS (a b : List Nat) (m : Int) : Option Nat := (List.range b.length).find? fun j => decide (m < (louterS sub a b (j + 1)).mini)
def lloopS (a b : List Nat) (m : Int) : Int := match lcutS sub a b m with | some _ => m + 1 | none => (louterS sub a b b.length).res
def lcoreS (a b : List Nat) (m : Int) : Int := if ((b.length : Int) - a.length) * 2 > m then m + 1 else lloopS sub a b m
def ltailS (a b : List Nat) (m : Int) : Int :=
  if a.length = 0 ∨ b.length = 0 then 2 * ((a.length : Int) + b.length) else
  if 40 < a.length ∨ 40 < b.length then m + 1 else
  if b.length < a.length then lcoreS sub b a m else lcoreS sub a b m
def levS (a b : List Nat) (m : Int) : Int :=
  if a = b then 0 else
  let p := trimP a b
  let q := trimS p.1 p.2
  ltailS sub q.1 q.2 m
end
def lowN (x : Nat) : Nat := if 65 ≤ x ∧ x ≤ 90 then x + 32 else x
def subN' (x y : Nat) : Int := if x = y then 0 else if lowN x = lowN y then 1 else 2
theorem lower_ascii : ∀ x < 128, Txt.lower (S [x]) = S [lowN x] := by decide +kernel
theorem sub_is {x y : Nat} (hx : x < 128) (hy : y < 128) : subC (S [x]) (S [y]) = subN' x y := by
  unfold subC subN'
  rw [lower_ascii x hx, lower_ascii y hy, S_eq, S_eq]
  simp
theorem getD_small {a : List Nat} (ha : ∀ c ∈ a, c < 128) (k : Nat) : a.getD k 0 < 128 := by
  rw [List.getD_eq_getElem?_getD]
  cases e : a[k]? with
  | none => decide
  | some c => exact ha c (List.mem_of_getElem? e)
theorem lrow_is {a : List Nat} {bc : Nat} {s : LSt} (ha : ∀ c ∈ a, c < 128) (hb : bc < 128) : ∀ k, lrow a bc s k = lrowS subN' a bc s k
  | 0 => rfl
  | k + 1 => by
    unfold lrow lrowS
    rw [lrow_is ha hb k]
    unfold lstep lstepS
    rw [sub_is hb (getD_small ha k)]
theorem louter_is {a b : List Nat} (ha : ∀ c ∈ a, c < 128) (hb : ∀ c ∈ b, c < 128) : ∀ j, louter a b j = louterS subN' a b j
  | 0 => rfl
  | j + 1 => by
    unfold louter louterS
    rw [louter_is ha hb j, lrow_is ha (getD_small hb j)]
theorem lcore_is {a b : List Nat} {m : Int} (ha : ∀ c ∈ a, c < 128) (hb : ∀ c ∈ b, c < 128) : lcore a b m = lcoreS subN' a b m := by
  unfold lcore lcoreS lloop lloopS lcut lcutS
  rw [louter_is ha hb b.length]
  have : (fun j => decide (m < (louter a b (j + 1)).mini)) = fun j => decide (m < (louterS subN' a b (j + 1)).mini) := funext fun j => by rw [louter_is ha hb (j + 1)]
  rw [this]
  all_goals rfl
theorem levF_is {a b : List Nat} {m : Int} (ha : ∀ c ∈ a, c < 128) (hb : ∀ c ∈ b, c < 128) : levF a b m = levS subN' a b m := by
  unfold levF levS
  split
  · rfl
  · dsimp only
    have h1 : ∀ c ∈ (trimS (trimP a b).1 (trimP a b).2).1, c < 128 := fun c hc => ha c (List.mem_of_mem_drop (List.mem_of_mem_take hc))
    have h2 : ∀ c ∈ (trimS (trimP a b).1 (trimP a b).2).2, c < 128 := fun c hc => hb c (List.mem_of_mem_drop (List.mem_of_mem_take hc))
    unfold ltail ltailS
    rw [lcore_is h1 h2, lcore_is h2 h1]
/-- how many letters differ -/
def ham1 (b c : Bool) : Int := match b, c with | true, true => 0 | false, false => 0 | _, _ => 1
def hamB (b0 b1 b2 b3 c0 c1 c2 c3 : Bool) : Int := ham1 b0 c0 + (ham1 b1 c1 + (ham1 b2 c2 + ham1 b3 c3))
def dueB (b1 b2 b3 c1 c2 c3 : Bool) : Int := 4 + (ham1 b1 c1 + (ham1 b2 c2 + ham1 b3 c3))
def wtB (b0 b1 b2 b3 c0 c1 c2 c3 : Bool) : Bool :=
  let w := wd b0 b1 b2 b3
  let v := wd c0 c1 c2 c3
  let h := hamB b0 b1 b2 b3 c0 c1 c2 c3
  let d := dueB b1 b2 b3 c1 c2 c3
  decide (levS subN' w v 4 = h) && (decide (levS subN' v w (h - 1) = h) && ((List.range 4).all fun k =>
    decide (levS subN' (fl1 k (trn v) w) (fl1 k w (trn v)) (d - sb1 k) = d - sb2 k) && decide (levS subN' (fl1 k (trn v) w ++ fl1 k w (trn v)) w ((k : Int) - 2) = 8)))
end

-- part W2
section
theorem wt_0 : ∀ c0 c1 c2 c3 : Bool, wtB false false false false c0 c1 c2 c3 = true := by decide +kernel
theorem wt_1 : ∀ c0 c1 c2 c3 : Bool, wtB false false false true c0 c1 c2 c3 = true := by decide +kernel
theorem wt_2 : ∀ c0 c1 c2 c3 : Bool, wtB false false true false c0 c1 c2 c3 = true := by decide +kernel
theorem wt_3 : ∀ c0 c1 c2 c3 : Bool, wtB false false true true c0 c1 c2 c3 = true := by decide +kernel
theorem wt_4 : ∀ c0 c1 c2 c3 : Bool, wtB false true false false c0 c1 c2 c3 = true := by decide +kernel
theorem wt_5 : ∀ c0 c1 c2 c3 : Bool, wtB false true false true c0 c1 c2 c3 = true := by decide +kernel
theorem wt_6 : ∀ c0 c1 c2 c3 : Bool, wtB false true true false c0 c1 c2 c3 = true := by decide +kernel
theorem wt_7 : ∀ c0 c1 c2 c3 : Bool, wtB false true true true c0 c1 c2 c3 = true := by decide +kernel
theorem wt_8 : ∀ c0 c1 c2 c3 : Bool, wtB true false false false c0 c1 c2 c3 = true := by decide +kernel
theorem wt_9 : ∀ c0 c1 c2 c3 : Bool, wtB true false false true c0 c1 c2 c3 = true := by decide +kernel
theorem wt_10 : ∀ c0 c1 c2 c3 : Bool, wtB true false true false c0 c1 c2 c3 = true := by decide +kernel
theorem wt_11 : ∀ c0 c1 c2 c3 : Bool, wtB true false true true c0 c1 c2 c3 = true := by decide +kernel
theorem wt_12 : ∀ c0 c1 c2 c3 : Bool, wtB true true false false c0 c1 c2 c3 = true := by decide +kernel
theorem wt_13 : ∀ c0 c1 c2 c3 : Bool, wtB true true false true c0 c1 c2 c3 = true := by decide +kernel
theorem wt_14 : ∀ c0 c1 c2 c3 : Bool, wtB true true true false c0 c1 c2 c3 = true := by decide +kernel
theorem wt_15 : ∀ c0 c1 c2 c3 : Bool, wtB true true true true c0 c1 c2 c3 = true := by decide +kernel
theorem wt_all : ∀ b0 b1 b2 b3 c0 c1 c2 c3 : Bool, wtB b0 b1 b2 b3 c0 c1 c2 c3 = true
  | false, false, false, false, c0, c1, c2, c3 => wt_0 c0 c1 c2 c3
  | false, false, false, true, c0, c1, c2, c3 => wt_1 c0 c1 c2 c3
  | false, false, true, false, c0, c1, c2, c3 => wt_2 c0 c1 c2 c3
  | false, false, true, true, c0, c1, c2, c3 => wt_3 c0 c1 c2 c3
  | false, true, false, false, c0, c1, c2, c3 => wt_4 c0 c1 c2 c3
  | false, true, false, true, c0, c1, c2, c3 => wt_5 c0 c1 c2 c3
  | false, true, true, false, c0, c1, c2, c3 => wt_6 c0 c1 c2 c3
  | false, true, true, true, c0, c1, c2, c3 => wt_7 c0 c1 c2 c3
  | true, false, false, false, c0, c1, c2, c3 => wt_8 c0 c1 c2 c3
  | true, false, false, true, c0, c1, c2, c3 => wt_9 c0 c1 c2 c3
  | true, false, true, false, c0, c1, c2, c3 => wt_10 c0 c1 c2 c3
  | true, false, true, true, c0, c1, c2, c3 => wt_11 c0 c1 c2 c3
  | true, true, false, false, c0, c1, c2, c3 => wt_12 c0 c1 c2 c3
  | true, true, false, true, c0, c1, c2, c3 => wt_13 c0 c1 c2 c3
  | true, true, true, false, c0, c1, c2, c3 => wt_14 c0 c1 c2 c3
  | true, true, true, true, c0, c1, c2, c3 => wt_15 c0 c1 c2 c3
theorem ray_le (m : Nat) : ray m ≤ 383 := by unfold ray; omega
theorem half_is {p r : Nat} (hr : r ≤ 383) : half p r = bitN p r := by
  unfold half bitN
  have e : ((p : Int) - ((12 * r : Nat) : Int)).fmod 4608 = (((p + 9216 - 12 * r) % 4608 : Nat) : Int) := by
    rw [Int.fmod_eq_emod_of_nonneg _ (by decide)]; omega
  rw [e, Bool.eq_iff_iff, decide_eq_true_eq]
  unfold Nat.blt
  rw [Nat.ble_eq]
  omega
theorem parts_is {p q r : Nat} (hr : r ≤ 383) : parts p q r = (bitN p r != bitN q r) := by
  unfold parts
  rw [List.filter_cons, List.filter_cons, List.filter_nil, half_is hr, half_is hr]
  cases bitN p r <;> cases bitN q r <;> rfl
theorem due_is (s : Nat → Nat) (k j : Nat) (e1 : ∀ i, b1 s k i = bitN (hpN (s k)) (ray (s i))) (e2 : ∀ i, b2 s j i = bitN (tpN (s j)) (ray (s i))) : dueF s k j = dueB (b1 s k 1) (b1 s k 2) (b1 s k 3) (b2 s j 1) (b2 s j 2) (b2 s j 3) := by
  unfold dueF dueB
  have e : (R4 s).drop 1 = [ray (s 1), ray (s 2), ray (s 3)] := rfl
  rw [e, List.filter_cons, List.filter_cons, List.filter_cons, List.filter_nil, parts_is (ray_le _), parts_is (ray_le _), parts_is (ray_le _), ← e1, ← e1, ← e1, ← e2, ← e2, ← e2]
  cases b1 s k 1 <;> cases b1 s k 2 <;> cases b1 s k 3 <;> cases b2 s j 1 <;> cases b2 s j 2 <;> cases b2 s j 3 <;> rfl
theorem wt_parts {b0 b1 b2 b3 c0 c1 c2 c3 : Bool} : levF (wd b0 b1 b2 b3) (wd c0 c1 c2 c3) 4 = hamB b0 b1 b2 b3 c0 c1 c2 c3 ∧ levF (wd c0 c1 c2 c3) (wd b0 b1 b2 b3) (hamB b0 b1 b2 b3 c0 c1 c2 c3 - 1) = hamB b0 b1 b2 b3 c0 c1 c2 c3 ∧ ∀ k, k < 4 →
    levF (fl1 k (trn (wd c0 c1 c2 c3)) (wd b0 b1 b2 b3)) (fl1 k (wd b0 b1 b2 b3) (trn (wd c0 c1 c2 c3))) (dueB b1 b2 b3 c1 c2 c3 - sb1 k) = dueB b1 b2 b3 c1 c2 c3 - sb2 k ∧
    levF (fl1 k (trn (wd c0 c1 c2 c3)) (wd b0 b1 b2 b3) ++ fl1 k (wd b0 b1 b2 b3) (trn (wd c0 c1 c2 c3))) (wd b0 b1 b2 b3) ((k : Int) - 2) = 8 := by
  have h := wt_all b0 b1 b2 b3 c0 c1 c2 c3
  have hw := wd_small b0 b1 b2 b3
  have hv := wd_small c0 c1 c2 c3
  have ht := trn_small c0 c1 c2 c3
  unfold wtB at h
  dsimp only at h
  simp only [Bool.and_eq_true, decide_eq_true_eq, List.all_eq_true, List.mem_range] at h
  refine ⟨by rw [levF_is hw hv]; exact h.1, by rw [levF_is hv hw]; exact h.2.1, fun k hk => ?_⟩
  have h1 : ∀ c ∈ fl1 k (trn (wd c0 c1 c2 c3)) (wd b0 b1 b2 b3), c < 128 := by unfold fl1; split <;> assumption
  have h2 : ∀ c ∈ fl1 k (wd b0 b1 b2 b3) (trn (wd c0 c1 c2 c3)), c < 128 := by unfold fl1; split <;> assumption
  have h3 : ∀ c ∈ fl1 k (trn (wd c0 c1 c2 c3)) (wd b0 b1 b2 b3) ++ fl1 k (wd b0 b1 b2 b3) (trn (wd c0 c1 c2 c3)), c < 128 := fun c hc => (List.mem_append.mp hc).elim (h1 c) (h2 c)
  rw [levF_is h1 h2, levF_is h3 hw]
  exact h.2.2 k hk
theorem tb_is (s : Nat → Nat) (k j : Nat) : tb s k j = hamB (b1 s k 0) (b1 s k 1) (b1 s k 2) (b1 s k 3) (b2 s j 0) (b2 s j 1) (b2 s j 2) (b2 s j 3) := by
  unfold tb w1 w2
  exact wt_parts.1
theorem long_is (a0 a1 a2 a3 c0 c1 c2 c3 : Bool) (r : List Nat) (hr : r.length = 36) : levF (wd a0 a1 a2 a3 ++ r ++ [46]) (trn (wd c0 c1 c2 c3)) 82 = 83 := by
  have e1 : wd a0 a1 a2 a3 ++ r ++ [46] = cond a0 65 97 :: (cond a1 66 98 :: cond a2 67 99 :: cond a3 68 100 :: (r ++ [46])) := rfl
  have e2 : trn (wd c0 c1 c2 c3) = [cond c1 66 98, cond c2 67 99, cond c3 68 100, cond c0 65 97] := rfl
  have hx : Nat.beq (cond a0 65 97) (cond c1 66 98) = false := by cases a0 <;> cases c1 <;> rfl
  have hy : Nat.beq 46 (cond c0 65 97) = false := by cases c0 <;> rfl
  have hl : (wd a0 a1 a2 a3 ++ r ++ [46]).length = 41 := by rw [e1]; simp [hr]
  have hp : cpl (wd a0 a1 a2 a3 ++ r ++ [46]) (trn (wd c0 c1 c2 c3)) = 0 := by
    rw [e1, e2]; unfold cpl; rw [hx]; rfl
  have hq : cpl (wd a0 a1 a2 a3 ++ r ++ [46]).reverse (trn (wd c0 c1 c2 c3)).reverse = 0 := by
    have f1 : (wd a0 a1 a2 a3 ++ r ++ [46]).reverse = 46 :: (wd a0 a1 a2 a3 ++ r).reverse := by rw [List.reverse_append]; rfl
    have f2 : (trn (wd c0 c1 c2 c3)).reverse = cond c0 65 97 :: [cond c3 68 100, cond c2 67 99, cond c1 66 98] := by rw [e2]; rfl
    rw [f1, f2]; unfold cpl; rw [hy]; rfl
  have ht : (trn (wd c0 c1 c2 c3)).length = 4 := rfl
  unfold levF
  have hne : ¬ (wd a0 a1 a2 a3 ++ r ++ [46] = trn (wd c0 c1 c2 c3)) := fun h => by
    have := congrArg List.length h
    rw [hl, ht] at this
    cases this
  rw [if_neg hne]
  unfold trimP
  rw [hp]
  dsimp only
  rw [List.drop_zero, List.drop_zero]
  unfold trimS
  dsimp only
  rw [hq, Nat.sub_zero, Nat.sub_zero, List.take_length, List.take_length]
  unfold ltail
  rw [hl, ht, if_neg (by decide), if_pos (by decide)]
  rfl
theorem plain2_of (s : Nat → Nat) (e1 : ∀ k i, b1 s k i = bitN (hpN (s k)) (ray (s i))) (e2 : ∀ k i, b2 s k i = bitN (tpN (s k)) (ray (s i))) : Plain2 s where
  back k j _ _ := by rw [tb_is]; exact wt_parts.2.1
  turn k j hk _ := by rw [due_is s k j (e1 k) (e2 j)]; exact (wt_parts.2.2 k hk).1
  twice k j hk _ := (wt_parts.2.2 k hk).2
  long j _ := by
    have e : (([w1 s 0, w1 s 1, w1 s 2, w1 s 3] ++ [w2 s 0, w2 s 1, w2 s 2, w2 s 3]) ++ [w1 s 0, w1 s 1]).flatten = wd (b1 s 0 0) (b1 s 0 1) (b1 s 0 2) (b1 s 0 3) ++ (w1 s 1 ++ (w1 s 2 ++ (w1 s 3 ++ (w2 s 0 ++ (w2 s 1 ++ (w2 s 2 ++ (w2 s 3 ++ (w1 s 0 ++ w1 s 1)))))))) := by
      simp [w1]
    rw [e]
    exact long_is _ _ _ _ _ _ _ _ _ rfl
end

-- part P1
section
def X (e p : Nat) : Int := if e < p then 1 else 0
def ab (x : Int) : Int := max x (-x)
def tt (p q : Nat) : Int := if q + 2304 < p then 1 else if p + 2304 < q then -1 else 0
def good (p : Nat) : Prop := p < 4608 ∧ p % 8 = 0
def opp (r : Nat) : Nat := (r + 192) % 384
theorem X_or (e p : Nat) : (X e p = 1 ∧ e < p) ∨ (X e p = 0 ∧ p ≤ e) := by unfold X; split <;> omega
theorem tt_or (p q : Nat) : (tt p q = 1 ∧ q + 2304 < p) ∨ (tt p q = -1 ∧ p + 2304 < q) ∨ (tt p q = 0 ∧ p ≤ q + 2304 ∧ q ≤ p + 2304) := by unfold tt; split <;> (try split) <;> omega
theorem bit_or {p r : Nat} (hp : good p) (hr : r % 2 = 1) (hr2 : r ≤ 383) : (bitN p r = true ∧ ((r < 192 ∧ 12 * r < p ∧ p < 12 * r + 2304) ∨ (192 ≤ r ∧ ¬ (12 * r < p + 2304 ∧ p < 12 * r)))) ∨ (bitN p r = false ∧ ((r < 192 ∧ ¬ (12 * r < p ∧ p < 12 * r + 2304)) ∨ (192 ≤ r ∧ (12 * r < p + 2304 ∧ p < 12 * r)))) := by
  obtain ⟨h1, h2⟩ := hp
  have e : bitN p r = decide ((p + 9216 - 12 * r) % 4608 < 2304) := by
    unfold bitN Nat.blt
    rw [Bool.eq_iff_iff, Nat.ble_eq, decide_eq_true_eq]; omega
  rw [e]
  rcases Classical.em ((p + 9216 - 12 * r) % 4608 < 2304) with h | h
  · left; refine ⟨decide_eq_true h, ?_⟩; omega
  · right; refine ⟨decide_eq_false h, ?_⟩; omega
theorem opp_or {r : Nat} (hr2 : r ≤ 383) : (r < 192 ∧ 12 * opp r = 12 * r + 2304) ∨ (192 ≤ r ∧ 12 * opp r + 2304 = 12 * r) := by unfold opp; omega
/-- a letter by the two ends of its line -/
theorem bit_val {p r : Nat} (hp : good p) (hr : r % 2 = 1) (hr2 : r ≤ 383) : (if bitN p r = true then (1 : Int) else 0) = (if r < 192 then 0 else 1) + X (12 * r) p - X (12 * opp r) p := by
  have b1 := bit_or hp hr hr2
  have o := opp_or hr2
  have x1 := X_or (12 * r) p
  have x3 := X_or (12 * opp r) p
  have h5 : (12 * r) % 8 = 4 := by omega
  obtain ⟨h1, h2⟩ := hp
  generalize X (12 * r) p = y1 at *
  generalize X (12 * opp r) p = y3 at *
  generalize 12 * opp r = e2 at *
  rcases o with ⟨o1, o2⟩ | ⟨o1, o2⟩
  · have c : (if r < 192 then (0 : Int) else 1) = 0 := if_pos o1
    rw [c]
    rcases b1 with ⟨e, b1⟩ | ⟨e, b1⟩
    · rw [if_pos e]; omega
    · rw [if_neg (by rw [e]; decide)]; omega
  · have c : (if r < 192 then (0 : Int) else 1) = 1 := if_neg (by omega)
    rw [c]
    rcases b1 with ⟨e, b1⟩ | ⟨e, b1⟩
    · rw [if_pos e]; omega
    · rw [if_neg (by rw [e]; decide)]; omega
theorem ham1_ab (b c : Bool) : ham1 b c = ab ((if b = true then 1 else 0) - if c = true then 1 else 0) := by cases b <;> cases c <;> decide
theorem line_ab {p q r : Nat} (hp : good p) (hq : good q) (hr : r % 2 = 1) (hr2 : r ≤ 383) : ham1 (bitN p r) (bitN q r) = ab (X (12 * r) p - X (12 * r) q - (X (12 * opp r) p - X (12 * opp r) q)) := by
  rw [ham1_ab, bit_val hp hr hr2, bit_val hq hr hr2]
  congr 1
  omega
theorem ab_tri (x y u : Int) : ab (x - y) ≤ ab (x - u) + ab (y - u) := by unfold ab; omega
theorem line_le {p q r : Nat} (hp : good p) (hq : good q) (hr : r % 2 = 1) (hr2 : r ≤ 383) (u : Int) : ham1 (bitN p r) (bitN q r) ≤ ab (X (12 * r) p - X (12 * r) q - u) + ab (X (12 * opp r) p - X (12 * opp r) q - u) := by
  rw [line_ab hp hq hr hr2]
  exact ab_tri _ _ _
/-- how two places lie to an end -/
theorem X_up {e p q : Nat} (h : q ≤ p) : (X e p - X e q = 1 ∧ q ≤ e ∧ e < p) ∨ (X e p - X e q = 0 ∧ (e < q ∨ p ≤ e)) := by
  have := X_or e p
  have := X_or e q
  omega
theorem ab_01 {x y : Int} (hx : x = 0 ∨ x = 1) (hy : y = 0 ∨ y = 1) : (x + y ≤ 1 → ab (x - y) = ab (x - 0) + ab (y - 0)) ∧ (1 ≤ x + y → ab (x - y) = ab (x - 1) + ab (y - 1)) := by
  rcases hx with rfl | rfl <;> rcases hy with rfl | rfl <;> decide
theorem line_up {p q e f : Nat} (he : e < 2304) (hq : q < p) (hp : p < 4608) (hef : f = e + 2304) : ab (X e p - X e q - (X f p - X f q)) = ab (X e p - X e q - tt p q) + ab (X f p - X f q - tt p q) := by
  have x := X_up (e := e) (Nat.le_of_lt hq)
  have y := X_up (e := f) (Nat.le_of_lt hq)
  have z := @ab_01 (X e p - X e q) (X f p - X f q) (by omega) (by omega)
  have t : (tt p q = 1 ∧ q + 2304 < p) ∨ (tt p q = 0 ∧ p ≤ q + 2304) := by have := tt_or p q; omega
  generalize X e p - X e q = d at *
  generalize X f p - X f q = g at *
  rcases t with ⟨t, h⟩ | ⟨t, h⟩
  · rw [t]
    refine z.2 ?_
    omega
  · rw [t]
    refine z.1 ?_
    omega
theorem ab_neg (x : Int) : ab (-x) = ab x := by unfold ab; omega
theorem tt_neg (p q : Nat) : tt q p = -tt p q := by
  have := tt_or p q
  have := tt_or q p
  omega
theorem tt_self (p : Nat) : tt p p = 0 := by have := tt_or p p; omega
theorem line_any {p q e f : Nat} (he : e < 2304) (hp : p < 4608) (hq : q < 4608) (hef : f = e + 2304) : ab (X e p - X e q - (X f p - X f q)) = ab (X e p - X e q - tt p q) + ab (X f p - X f q - tt p q) := by
  rcases Nat.lt_trichotomy q p with h | h | h
  · exact line_up he h hp hef
  · subst h
    rw [tt_self, Int.sub_self, Int.sub_self]; rfl
  · have := line_up he h hq hef
    rw [tt_neg p q] at this
    have e1 : X e p - X e q - (X f p - X f q) = -(X e q - X e p - (X f q - X f p)) := by omega
    have e2 : X e p - X e q - tt p q = -(X e q - X e p - -tt p q) := by omega
    have e3 : X f p - X f q - tt p q = -(X f q - X f p - -tt p q) := by omega
    rw [e1, e2, e3, ab_neg, ab_neg, ab_neg]
    exact this
theorem line_eq {p q r : Nat} (hp : good p) (hq : good q) (hr : r % 2 = 1) (hr2 : r ≤ 383) : ham1 (bitN p r) (bitN q r) = ab (X (12 * r) p - X (12 * r) q - tt p q) + ab (X (12 * opp r) p - X (12 * opp r) q - tt p q) := by
  rw [line_ab hp hq hr hr2]
  have o := opp_or hr2
  obtain ⟨h1, h2⟩ := hp
  obtain ⟨h3, h4⟩ := hq
  generalize hE : 12 * r = e at *
  generalize 12 * opp r = f at *
  rcases o with ⟨_, o⟩ | ⟨_, o⟩
  · exact line_any (by omega) h1 h3 o
  · have w := line_any (e := f) (f := e) (by omega) h1 h3 o.symm
    rw [Int.add_comm, ← w, ← ab_neg]
    congr 1
    omega
end

-- part P2
section
theorem perm_sum {l l' : List Int} (h : l.Perm l') : l.sum = l'.sum := by
  induction h with
  | nil => rfl
  | cons x _ ih => rw [List.sum_cons, List.sum_cons, ih]
  | swap x y l => simp only [List.sum_cons]; omega
  | trans _ _ ih1 ih2 => exact ih1.trans ih2
def sL {α : Type} (l : List α) (f : α → Int) : Int := (l.map f).sum
section
variable {α β : Type}
theorem sL_nil {f : α → Int} : sL [] f = 0 := rfl
theorem sL_cons {x : α} {l : List α} {f : α → Int} : sL (x :: l) f = f x + sL l f := by unfold sL; rw [List.map_cons, List.sum_cons]
theorem sL_congr {l : List α} {f g : α → Int} (h : ∀ x ∈ l, f x = g x) : sL l f = sL l g := by unfold sL; rw [List.map_congr_left h]
theorem sL_perm {l l' : List α} {f : α → Int} (h : l.Perm l') : sL l f = sL l' f := perm_sum (h.map f)
theorem sL_add {l : List α} {f g : α → Int} : sL l (fun x => f x + g x) = sL l f + sL l g := by
  induction l with
  | nil => rfl
  | cons x l ih => rw [sL_cons, sL_cons, sL_cons, ih]; omega
theorem sL_sub {l : List α} {f g : α → Int} : sL l (fun x => f x - g x) = sL l f - sL l g := by
  induction l with
  | nil => rfl
  | cons x l ih => rw [sL_cons, sL_cons, sL_cons, ih]; omega
theorem sL_le {l : List α} {f g : α → Int} (h : ∀ x ∈ l, f x ≤ g x) : sL l f ≤ sL l g := by
  induction l with
  | nil => exact Int.le_refl _
  | cons x l ih =>
    rw [sL_cons, sL_cons]
    have := h x (.head _)
    have := ih fun y hy => h y (.tail _ hy)
    omega
theorem sL_swap {l : List α} {m : List β} {f : α → β → Int} : sL l (fun x => sL m (f x)) = sL m fun y => sL l fun x => f x y := by
  induction l with
  | nil =>
    rw [sL_nil]
    induction m with
    | nil => rfl
    | cons y m ih => rw [sL_cons, ← ih, sL_nil]; rfl
  | cons x l ih =>
    rw [sL_cons, ih, ← sL_add]
    exact sL_congr fun y _ => by rw [sL_cons]
theorem sL_ab {l : List α} {f : α → Int} : ab (sL l f) ≤ sL l fun x => ab (f x) := by
  induction l with
  | nil =>
    show ab 0 ≤ 0
    decide
  | cons x l ih =>
    rw [sL_cons, sL_cons]
    unfold ab at *
    omega
theorem sL_map {l : List β} {g : β → α} {f : α → Int} : sL (l.map g) f = sL l fun x => f (g x) := by unfold sL; rw [List.map_map]; rfl
end
def ends (R : Nat → Nat) : List Nat := endsF [R 0, R 1, R 2, R 3]
def Mh (R : Nat → Nat) (p q : Nat) : Int := ham1 (bitN p (R 0)) (bitN q (R 0)) + (ham1 (bitN p (R 1)) (bitN q (R 1)) + (ham1 (bitN p (R 2)) (bitN q (R 2)) + ham1 (bitN p (R 3)) (bitN q (R 3))))
def rayOk (R : Nat → Nat) : Prop := ∀ i, R i % 2 = 1 ∧ R i ≤ 383
theorem sum_ends (R : Nat → Nat) (f : Nat → Int) : sL (ends R) f = (f (12 * R 0) + f (12 * opp (R 0))) + ((f (12 * R 1) + f (12 * opp (R 1))) + ((f (12 * R 2) + f (12 * opp (R 2))) + (f (12 * R 3) + f (12 * opp (R 3))))) := by
  have e : ends R = [12 * R 0, 12 * R 1, 12 * R 2, 12 * R 3, 12 * opp (R 0), 12 * opp (R 1), 12 * opp (R 2), 12 * opp (R 3)] := rfl
  rw [e]
  simp only [sL_cons, sL_nil]
  omega
theorem pair_eq {R : Nat → Nat} {p q : Nat} (hR : rayOk R) (hp : good p) (hq : good q) : Mh R p q = sL (ends R) fun e => ab (X e p - X e q - tt p q) := by
  unfold Mh
  rw [sum_ends, line_eq hp hq (hR 0).1 (hR 0).2, line_eq hp hq (hR 1).1 (hR 1).2, line_eq hp hq (hR 2).1 (hR 2).2, line_eq hp hq (hR 3).1 (hR 3).2]
theorem pair_le {R : Nat → Nat} {p q : Nat} (hR : rayOk R) (hp : good p) (hq : good q) (u : Int) : Mh R p q ≤ sL (ends R) fun e => ab (X e p - X e q - u) := by
  unfold Mh
  rw [sum_ends]
  have h0 := line_le hp hq (hR 0).1 (hR 0).2 u
  have h1 := line_le hp hq (hR 1).1 (hR 1).2 u
  have h2 := line_le hp hq (hR 2).1 (hR 2).2 u
  have h3 := line_le hp hq (hR 3).1 (hR 3).2 u
  omega
-- the least
def topF (xs : List Int) : Int := (xs.drop 4).sum - (xs.take 4).sum
theorem top_le {ds : List Int} (h : ds.length = 8) (T : Int) : topF (sortI ds) ≤ sL ds fun d => ab (d - T) := by
  rw [← sL_perm (sortI_perm ds)]
  have hl : (sortI ds).length = 8 := by rw [(sortI_perm ds).length_eq, h]
  have hs := sortI_sorted ds
  generalize sortI ds = xs at *
  match xs, hl with
  | [x1, x2, x3, x4, x5, x6, x7, x8], _ =>
    simp only [List.pairwise_cons, List.mem_cons, List.not_mem_nil, or_false, forall_eq_or_imp, forall_eq] at hs
    unfold topF
    simp only [sL_cons, sL_nil, List.drop, List.take, List.sum_cons, List.sum_nil]
    unfold ab
    omega
theorem top_at {ds : List Int} (h : ds.length = 8) : ∃ m ∈ ds, (sL ds fun d => ab (d - m)) = topF (sortI ds) := by
  have hl : (sortI ds).length = 8 := by rw [(sortI_perm ds).length_eq, h]
  have hs := sortI_sorted ds
  have hp := sortI_perm ds
  have hm : ∀ m ∈ sortI ds, m ∈ ds := fun m hm => hp.mem_iff.mp hm
  generalize sortI ds = xs at *
  match xs, hl with
  | [x1, x2, x3, x4, x5, x6, x7, x8], _ =>
    refine ⟨x4, hm x4 (by simp), ?_⟩
    rw [← sL_perm hp]
    simp only [List.pairwise_cons, List.mem_cons, List.not_mem_nil, or_false, forall_eq_or_imp, forall_eq] at hs
    unfold topF
    simp only [sL_cons, sL_nil, List.drop, List.take, List.sum_cons, List.sum_nil]
    unfold ab
    omega
theorem over_is (e : Nat) : ∀ (l : List Nat), (over l e : Int) = sL l fun p => X e p
  | [] => rfl
  | p :: r => by
    rw [sL_cons, ← over_is e r]
    unfold over X
    rw [List.filter_cons]
    by_cases h : e < p
    · simp [h]; omega
    · simp [h]
def rg (n : Nat) : List Nat := List.range n
theorem least_is (R a b : Nat → Nat) (n : Nat) : leastF ((rg n).map a) ((rg n).map b) [R 0, R 1, R 2, R 3] = topF (sortI ((ends R).map fun e => sL (rg n) (fun k => X e (a k)) - sL (rg n) fun k => X e (b k))) := by
  unfold leastF moreF topF
  have : (fun e => (over ((rg n).map a) e : Int) - (over ((rg n).map b) e : Int)) = fun e => sL (rg n) (fun k => X e (a k)) - sL (rg n) fun k => X e (b k) := funext fun e => by
    rw [over_is, over_is, sL_map, sL_map]
  rw [this]; rfl
end

-- part P3
section
theorem ord_perm : ∀ n : Nat, n ≤ 4 → ∀ o ∈ ordF n, o.Perm (rg n) := fun n h => by
  have : n = 0 ∨ n = 1 ∨ n = 2 ∨ n = 3 ∨ n = 4 := by omega
  rcases this with rfl | rfl | rfl | rfl | rfl <;> decide +kernel
def nd (l : List Nat) : Bool := !(decide l.Nodup) || decide (l ∈ ordF l.length)
theorem nd_ok {l : List Nat} (h : nd l = true) (hn : l.Nodup) : l ∈ ordF l.length := by
  unfold nd at h
  simpa [hn] using h
theorem mem2 : ∀ x0 < 2, ∀ x1 < 2, nd [x0, x1] = true := by decide +kernel
theorem mem3 : ∀ x0 < 3, ∀ x1 < 3, ∀ x2 < 3, nd [x0, x1, x2] = true := by decide +kernel
theorem mem4 : ∀ x0 < 4, ∀ x1 < 4, ∀ x2 < 4, ∀ x3 < 4, nd [x0, x1, x2, x3] = true := by decide +kernel
theorem perm_ord {n : Nat} (h2 : 2 ≤ n) (h4 : n ≤ 4) {l : List Nat} (h : l.Perm (rg n)) : l ∈ ordF n := by
  have hl : l.length = n := by rw [h.length_eq]; exact List.length_range
  have hx : ∀ x ∈ l, x < n := fun x hx => List.mem_range.mp (h.mem_iff.mp hx)
  have hn : l.Nodup := h.nodup_iff.mpr List.nodup_range
  have : n = 2 ∨ n = 3 ∨ n = 4 := by omega
  rcases this with rfl | rfl | rfl
  · match l, hl with
    | [x0, x1], _ => exact nd_ok (mem2 x0 (hx _ (by simp)) x1 (hx _ (by simp))) hn
  · match l, hl with
    | [x0, x1, x2], _ => exact nd_ok (mem3 x0 (hx _ (by simp)) x1 (hx _ (by simp)) x2 (hx _ (by simp))) hn
  · match l, hl with
    | [x0, x1, x2, x3], _ => exact nd_ok (mem4 x0 (hx _ (by simp)) x1 (hx _ (by simp)) x2 (hx _ (by simp)) x3 (hx _ (by simp))) hn
/-- places in order -/
theorem sort_ord {n : Nat} (h2 : 2 ≤ n) (h4 : n ≤ 4) (a : Nat → Nat) : ∃ o ∈ ordF n, ∀ i j, i < j → j < n → a (o.getD i 0) ≤ a (o.getD j 0) := by
  let le : Nat → Nat → Bool := fun x y => decide (a x ≤ a y)
  have hp : ((rg n).mergeSort le).Perm (rg n) := List.mergeSort_perm ..
  have hs : ((rg n).mergeSort le).Pairwise fun x y => le x y = true := List.pairwise_mergeSort (fun x y z => by simp [le]; omega) (fun x y => by simp [le]; omega) _
  refine ⟨_, perm_ord h2 h4 hp, fun i j hij hj => ?_⟩
  have hl : ((rg n).mergeSort le).length = n := by rw [hp.length_eq]; exact List.length_range
  have q := List.pairwise_iff_getElem.mp hs i j (by omega) (by omega) hij
  have g : ∀ i (hi : i < ((rg n).mergeSort le).length), ((rg n).mergeSort le).getD i 0 = ((rg n).mergeSort le)[i] := fun i hi => by rw [List.getD_eq_getElem?_getD, List.getElem?_eq_getElem hi]; rfl
  rw [g i (by omega), g j (by omega)]
  simpa [le] using q
def shift (n u : Nat) (t : List Nat) : List Nat := (rg n).map fun k => t.getD ((k + u) % n) 0
theorem shift_ord : ∀ n, 2 ≤ n → n ≤ 4 → ∀ t ∈ ordF n, ∀ u, u < 9 → shift n u t ∈ ordF n := fun n h2 h4 => by
  have : n = 2 ∨ n = 3 ∨ n = 4 := by omega
  rcases this with rfl | rfl | rfl <;> decide +kernel
theorem glue_ord : ∀ n, 2 ≤ n → n ≤ 4 → ∀ s ∈ ordF n, ∀ t ∈ ordF n, ∃ o ∈ ordF n, ∀ k, k < n → o.getD (s.getD k 0) 0 = t.getD k 0 := fun n h2 h4 => by
  have : n = 2 ∨ n = 3 ∨ n = 4 := by omega
  rcases this with rfl | rfl | rfl <;> decide +kernel
/-- rising rows of bits -/
def rise : Nat → List (List Int)
  | 0 => [[]]
  | n + 1 => List.replicate (n + 1) 1 :: (rise n).map fun l => 0 :: l
theorem rise2 : ∀ x0 x1 : Bool, (x0 = true → x1 = true) → [if x0 then (1 : Int) else 0, if x1 then 1 else 0] ∈ rise 2 := by decide +kernel
theorem rise3 : ∀ x0 x1 x2 : Bool, (x0 = true → x1 = true) → (x1 = true → x2 = true) → [if x0 then (1 : Int) else 0, if x1 then 1 else 0, if x2 then 1 else 0] ∈ rise 3 := by decide +kernel
theorem rise4' : ∀ x0 x1 x2 x3 : Bool, (!(!x0 || x1) || (!(!x1 || x2) || (!(!x2 || x3) || decide ([if x0 then (1 : Int) else 0, if x1 then 1 else 0, if x2 then 1 else 0, if x3 then 1 else 0] ∈ rise 4)))) = true := by decide +kernel
theorem rise4 (x0 x1 x2 x3 : Bool) (h0 : x0 = true → x1 = true) (h1 : x1 = true → x2 = true) (h2 : x2 = true → x3 = true) : [if x0 then (1 : Int) else 0, if x1 then 1 else 0, if x2 then 1 else 0, if x3 then 1 else 0] ∈ rise 4 := by
  have h := rise4' x0 x1 x2 x3
  have e0 : (!x0 || x1) = true := by cases x0 <;> simp_all
  have e1 : (!x1 || x2) = true := by cases x1 <;> simp_all
  have e2 : (!x2 || x3) = true := by cases x2 <;> simp_all
  rw [e0, e1, e2] at h
  simpa using h
theorem X_b (e p : Nat) : X e p = if decide (e < p) = true then 1 else 0 := by unfold X; simp
theorem rise_mem {n : Nat} (h2 : 2 ≤ n) (h4 : n ≤ 4) (e : Nat) {f : Nat → Nat} (h : ∀ i j, i < j → j < n → f i ≤ f j) : (rg n).map (fun k => X e (f k)) ∈ rise n := by
  have m : ∀ i, i + 1 < n → decide (e < f i) = true → decide (e < f (i + 1)) = true := fun i hi hd => by
    have := h i (i + 1) (by omega) hi
    simp only [decide_eq_true_eq] at *
    omega
  have : n = 2 ∨ n = 3 ∨ n = 4 := by omega
  rcases this with rfl | rfl | rfl
  · show [X e (f 0), X e (f 1)] ∈ _
    rw [X_b, X_b]
    exact rise2 _ _ (m 0 (by omega))
  · show [X e (f 0), X e (f 1), X e (f 2)] ∈ _
    rw [X_b, X_b, X_b]
    exact rise3 _ _ _ (m 0 (by omega)) (m 1 (by omega))
  · show [X e (f 0), X e (f 1), X e (f 2), X e (f 3)] ∈ _
    rw [X_b, X_b, X_b, X_b]
    exact rise4 _ _ _ _ (m 0 (by omega)) (m 1 (by omega)) (m 2 (by omega))
/-- all cross the same way -/
theorem same_way : ∀ n, 2 ≤ n → n ≤ 4 → ∀ A ∈ rise n, ∀ B ∈ rise n, ∀ u, u < 9 → u ≤ 2 * n →
    (sL (rg n) fun k => ab (A.getD k 0 - B.getD ((k + u) % n) 0 - (((k + u) / n : Nat) - 1 : Int))) = ab (sL (rg n) (fun k => A.getD k 0) - sL (rg n) (fun k => B.getD k 0) - ((u : Int) - n)) := fun n h2 h4 => by
  have : n = 2 ∨ n = 3 ∨ n = 4 := by omega
  rcases this with rfl | rfl | rfl <;> decide +kernel
end

-- part P4
section
theorem map_getD {o : List Nat} : (rg o.length).map (fun k => o.getD k 0) = o := by
  refine List.ext_getElem (by simp [rg]) fun i h1 h2 => ?_
  rw [List.getElem_map]
  unfold rg
  rw [List.getElem_range, List.getD_eq_getElem?_getD, List.getElem?_eq_getElem h2]; rfl
theorem reidx {n : Nat} (h4 : n ≤ 4) {o : List Nat} (ho : o ∈ ordF n) (g : Nat → Int) : sL (rg n) (fun k => g (o.getD k 0)) = sL (rg n) g := by
  have hp := ord_perm n h4 o ho
  have hl : o.length = n := by rw [hp.length_eq]; exact List.length_range
  have e := @map_getD o
  rw [hl] at e
  rw [← sL_map (l := rg n) (g := fun k => o.getD k 0) (f := g), e]
  exact sL_perm hp
theorem rg_getD {α : Type} {n k : Nat} (hk : k < n) (f : Nat → α) (d : α) : ((rg n).map f).getD k d = f k := by
  unfold rg
  rw [List.getD_eq_getElem?_getD, List.getElem?_map, List.getElem?_range hk]; rfl
theorem sL_one (n : Nat) : (sL (rg n) fun _ => (1 : Int)) = n := by
  unfold sL rg
  rw [List.map_const', List.length_range, List.sum_replicate_int]; omega
theorem X_bounds (e p : Nat) : 0 ≤ X e p ∧ X e p ≤ 1 := by have := X_or e p; omega
theorem sX {n : Nat} (e : Nat) (f : Nat → Nat) : 0 ≤ (sL (rg n) fun k => X e (f k)) ∧ (sL (rg n) fun k => X e (f k)) ≤ n := by
  have h1 := sL_le (l := rg n) (f := fun _ => (0 : Int)) (g := fun k => X e (f k)) fun k _ => (X_bounds e (f k)).1
  have h2 := sL_le (l := rg n) (f := fun k => X e (f k)) (g := fun _ => (1 : Int)) fun k _ => (X_bounds e (f k)).2
  rw [sL_one] at h2
  have h0 : (sL (rg n) fun _ => (0 : Int)) = 0 := by
    have := sL_sub (l := rg n) (f := fun _ => (1 : Int)) (g := fun _ => (1 : Int))
    simp only [Int.sub_self] at this
    exact this
  rw [h0] at h1
  exact ⟨h1, h2⟩
section
variable {R a b : Nat → Nat} {n : Nat} (hR : rayOk R) (ga : ∀ k, good (a k)) (gb : ∀ k, good (b k)) (h2 : 2 ≤ n) (h4 : n ≤ 4)
include hR ga gb h4
theorem lower_is {o : List Nat} (ho : o ∈ ordF n) : topF (sortI ((ends R).map fun e => sL (rg n) (fun k => X e (a k)) - sL (rg n) fun k => X e (b k))) ≤ sL (rg n) fun k => Mh R (a k) (b (o.getD k 0)) := by
  rw [sL_congr (l := rg n) (g := fun k => sL (ends R) fun e => ab (X e (a k) - X e (b (o.getD k 0)) - tt (a k) (b (o.getD k 0)))) fun k _ => pair_eq hR (ga k) (gb _), sL_swap]
  refine Int.le_trans (top_le (by rw [List.length_map]; rfl) (sL (rg n) fun k => tt (a k) (b (o.getD k 0)))) ?_
  rw [sL_map]
  refine sL_le fun e _ => ?_
  have q : sL (rg n) (fun k => X e (a k)) - (sL (rg n) fun k => X e (b k)) - (sL (rg n) fun k => tt (a k) (b (o.getD k 0))) = sL (rg n) fun k => X e (a k) - X e (b (o.getD k 0)) - tt (a k) (b (o.getD k 0)) := by
    rw [sL_sub, sL_sub, reidx h4 ho (fun j => X e (b j))]
  rw [q]
  exact sL_ab
include h2
theorem upper_is : ∃ o ∈ ordF n, (sL (rg n) fun k => Mh R (a k) (b (o.getD k 0))) ≤ topF (sortI ((ends R).map fun e => sL (rg n) (fun k => X e (a k)) - sL (rg n) fun k => X e (b k))) := by
  obtain ⟨m, hm, em⟩ := top_at (ds := (ends R).map fun e => sL (rg n) (fun k => X e (a k)) - sL (rg n) fun k => X e (b k)) (by rw [List.length_map]; rfl)
  obtain ⟨e0, _, he0⟩ := List.mem_map.mp hm
  have s1 := sX (n := n) e0 a
  have s2 := sX (n := n) e0 b
  obtain ⟨s, hs, ms⟩ := sort_ord h2 h4 a
  obtain ⟨t, ht, mt⟩ := sort_ord h2 h4 b
  have hu : ∃ u : Nat, u < 9 ∧ u ≤ 2 * n ∧ (u : Int) - n = m := ⟨(m + n).toNat, by omega, by omega, by omega⟩
  obtain ⟨u, hu9, hun, hum⟩ := hu
  obtain ⟨o, ho, ho2⟩ := glue_ord n h2 h4 s hs (shift n u t) (shift_ord n h2 h4 t ht u hu9)
  refine ⟨o, ho, ?_⟩
  rw [← em, sL_map, ← reidx h4 hs (fun k => Mh R (a k) (b (o.getD k 0)))]
  refine Int.le_trans (sL_le (g := fun k => sL (ends R) fun e => ab (X e (a (s.getD k 0)) - X e (b (t.getD ((k + u) % n) 0)) - (((k + u) / n : Nat) - 1 : Int))) fun k hk => ?_) ?_
  · have hk := List.mem_range.mp hk
    rw [ho2 k hk]
    unfold shift
    rw [rg_getD hk]
    exact pair_le hR (ga _) (gb _) _
  · rw [sL_swap]
    refine sL_le fun e _ => ?_
    have w := same_way n h2 h4 _ (rise_mem h2 h4 e ms) _ (rise_mem h2 h4 e mt) u hu9 hun
    have n0 : 0 < n := by omega
    have wa : ∀ k, k < n → ((rg n).map fun k => X e (a (s.getD k 0))).getD k 0 = X e (a (s.getD k 0)) := fun k hk => rg_getD hk _ _
    have wb : ∀ k, k < n → ((rg n).map fun k => X e (b (t.getD k 0))).getD k 0 = X e (b (t.getD k 0)) := fun k hk => rg_getD hk _ _
    rw [sL_congr (l := rg n) (g := fun k => ab (X e (a (s.getD k 0)) - X e (b (t.getD ((k + u) % n) 0)) - (((k + u) / n : Nat) - 1 : Int))) fun k hk => by
      have hk := List.mem_range.mp hk
      rw [wa k hk, wb _ (Nat.mod_lt _ n0)]] at w
    rw [w, sL_congr (l := rg n) (g := fun k => X e (a (s.getD k 0))) fun k hk => wa k (List.mem_range.mp hk), sL_congr (l := rg n) (g := fun k => X e (b (t.getD k 0))) fun k hk => wb k (List.mem_range.mp hk), hum,
      reidx h4 hs (fun j => X e (a j)), reidx h4 ht (fun j => X e (b j))]
    exact Int.le_refl _
end
theorem imin_le : ∀ (ns : List Int) (x : Int), x ∈ ns → imin ns ≤ x
  | y :: r, x, h => by
    have q : ∀ (r : List Int) (y : Int), r.foldl min y ≤ y ∧ ∀ x ∈ r, r.foldl min y ≤ x := by
      intro r
      induction r with
      | nil => intro y; exact ⟨Int.le_refl _, fun x h => nomatch h⟩
      | cons z r ih =>
        intro y
        have := ih (min y z)
        rw [List.foldl_cons]
        refine ⟨by omega, fun x hx => ?_⟩
        rcases List.mem_cons.mp hx with rfl | hx
        · omega
        · exact this.2 x hx
    show r.foldl min y ≤ x
    rcases List.mem_cons.mp h with rfl | h
    · exact (q r x).1
    · exact (q r y).2 x h
theorem imax_neg : ∀ (ns : List Int) (K : Int), ns ≠ [] → imax ns = K - imin (ns.map fun x => K - x)
  | [], _, h => absurd rfl h
  | y :: r, K, _ => by
    have q : ∀ (r : List Int) (y : Int), r.foldl max y = K - (r.map fun x => K - x).foldl min (K - y) := by
      intro r
      induction r with
      | nil => intro y; show y = K - (K - y); omega
      | cons z r ih =>
        intro y
        rw [List.foldl_cons, List.map_cons, List.foldl_cons, ih]
        have : K - max y z = min (K - y) (K - z) := by omega
        rw [this]
    exact q r y
theorem imin_is {ns : List Int} {v : Int} (hne : ns ≠ []) (h1 : ∀ x ∈ ns, v ≤ x) (h2 : ∃ x ∈ ns, x ≤ v) : imin ns = v := by
  obtain ⟨x, hx, hxv⟩ := h2
  have a := h1 _ (imin_mem ns hne)
  have b := imin_le ns x hx
  omega
theorem pairing {R a b : Nat → Nat} {n : Nat} (hR : rayOk R) (ga : ∀ k, good (a k)) (gb : ∀ k, good (b k)) (h2 : 2 ≤ n) (h4 : n ≤ 4) :
    imin ((ordF n).map fun o => sL (rg n) fun k => Mh R (a k) (b (o.getD k 0))) = leastF ((rg n).map a) ((rg n).map b) [R 0, R 1, R 2, R 3] := by
  rw [least_is]
  refine imin_is (fun h => ord_ne n h4 (List.map_eq_nil_iff.mp h)) (fun x hx => ?_) ?_
  · obtain ⟨o, ho, rfl⟩ := List.mem_map.mp hx
    exact lower_is hR ga gb h4 ho
  · obtain ⟨o, ho, h⟩ := upper_is hR ga gb h2 h4
    exact ⟨_, List.mem_map_of_mem ho, h⟩
end

-- part P5
section
theorem good64 {q : Nat} (h : q < 72) : good (64 * q) := ⟨by omega, by omega⟩
theorem good_hp (m : Nat) : good (hpN m) := by
  have h := colB_ok (col_m m)
  have e2 : hpN m = hpD (m % 5) (m / 5 % 5) (m / 25 % 5) := rfl
  rw [e2, ← h.1]
  exact good64 h.2.1
theorem good_tp (m : Nat) : good (tpN m) := by
  have e2 : tpN m = 64 * (m / 125 % 72) := Nat.mul_comm _ _
  rw [e2]
  exact good64 (Nat.mod_lt _ (by decide))
def away (q : Nat) : Nat := (q + 2304) % 4608
theorem good_away {q : Nat} (h : good q) : good (away q) := by unfold good away at *; omega
theorem bit_away {q r : Nat} (h : good q) (hr : r % 2 = 1) (hr2 : r ≤ 383) : bitN (away q) r = !bitN q r := by
  have b1 := bit_or h hr hr2
  have b2 := bit_or (good_away h) hr hr2
  have hg := h
  unfold good at hg
  have ha : away q = (q + 2304) % 4608 := rfl
  have h5 : (12 * r) % 8 = 4 := by omega
  rcases b1 with ⟨e1, b1⟩ | ⟨e1, b1⟩ <;> rcases b2 with ⟨e2, b2⟩ | ⟨e2, b2⟩ <;> rw [e1, e2] <;> first | rfl | (exfalso; omega)
theorem ham1_not (b c : Bool) : ham1 b (!c) = 1 - ham1 b c := by cases b <;> cases c <;> rfl
theorem ham1_b (b c : Bool) : 0 ≤ ham1 b c ∧ ham1 b c ≤ 1 := by cases b <;> cases c <;> decide
theorem Mh_away {R : Nat → Nat} (hR : rayOk R) {p q : Nat} (h : good q) : Mh R p (away q) = 4 - Mh R p q := by
  unfold Mh
  rw [bit_away h (hR 0).1 (hR 0).2, bit_away h (hR 1).1 (hR 1).2, bit_away h (hR 2).1 (hR 2).2, bit_away h (hR 3).1 (hR 3).2, ham1_not, ham1_not, ham1_not, ham1_not]
  omega
theorem Mh_b (R : Nat → Nat) (p q : Nat) : 0 ≤ Mh R p q ∧ Mh R p q ≤ 4 := by
  unfold Mh
  have h0 := ham1_b (bitN p (R 0)) (bitN q (R 0))
  have h1 := ham1_b (bitN p (R 1)) (bitN q (R 1))
  have h2 := ham1_b (bitN p (R 2)) (bitN q (R 2))
  have h3 := ham1_b (bitN p (R 3)) (bitN q (R 3))
  omega
theorem sL_four (n : Nat) : (sL (rg n) fun _ => (4 : Int)) = ((4 * n : Nat) : Int) := by
  unfold sL rg
  rw [List.map_const', List.length_range, List.sum_replicate_int]; omega
theorem sL_zero (n : Nat) : (sL (rg n) fun _ => (0 : Int)) = 0 := by
  unfold sL rg
  rw [List.map_const', List.length_range, List.sum_replicate_int]; omega
section
variable (s : Nat → Nat)
def rayS (i : Nat) : Nat := ray (s i)
theorem rayS_ok : rayOk (rayS s) := fun i => by unfold rayS ray; omega
theorem tb_Mh (k j : Nat) : tb s k j = Mh (rayS s) (hpN (s k)) (tpN (s j)) := by
  rw [tb_is, b1_is, b1_is, b1_is, b1_is, b2_is, b2_is, b2_is, b2_is]; rfl
theorem csts_is (n : Nat) : csts s n = (ordF n).map fun o => sL (rg n) fun k => Mh (rayS s) (hpN (s k)) (tpN (s (o.getD k 0))) := by
  unfold csts
  refine List.map_congr_left fun o _ => ?_
  unfold cst
  exact sL_congr fun k _ => tb_Mh s k _
theorem H4_take {n : Nat} (h4 : n ≤ 4) : (H4 s).take n = (rg n).map fun k => hpN (s k) := by
  have : n = 0 ∨ n = 1 ∨ n = 2 ∨ n = 3 ∨ n = 4 := by omega
  rcases this with rfl | rfl | rfl | rfl | rfl <;> rfl
theorem T4_take {n : Nat} (h4 : n ≤ 4) : (T4 s).take n = (rg n).map fun k => tpN (s k) := by
  have : n = 0 ∨ n = 1 ∨ n = 2 ∨ n = 3 ∨ n = 4 := by omega
  rcases this with rfl | rfl | rfl | rfl | rfl <;> rfl
theorem csts_b {n : Nat} (h4 : n ≤ 4) : ∀ x ∈ csts s n, ∃ v : Nat, v < 65 ∧ x = (v : Int) := fun x hx => by
  rw [csts_is] at hx
  obtain ⟨o, _, rfl⟩ := List.mem_map.mp hx
  have h1 := sL_le (l := rg n) (f := fun _ => (0 : Int)) (g := fun k => Mh (rayS s) (hpN (s k)) (tpN (s (o.getD k 0)))) fun k _ => (Mh_b _ _ _).1
  have h2 := sL_le (l := rg n) (f := fun k => Mh (rayS s) (hpN (s k)) (tpN (s (o.getD k 0)))) (g := fun _ => (4 : Int)) fun k _ => (Mh_b _ _ _).2
  rw [sL_zero] at h1
  rw [sL_four] at h2
  exact ⟨(sL (rg n) fun k => Mh (rayS s) (hpN (s k)) (tpN (s (o.getD k 0)))).toNat, by omega, by omega⟩
theorem csts_ne {n : Nat} (h4 : n ≤ 4) : csts s n ≠ [] := fun h => ord_ne n h4 (List.map_eq_nil_iff.mp h)
theorem near_is {n : Nat} (h2 : 2 ≤ n) (h4 : n ≤ 4) : imin (csts s n) = leastF ((H4 s).take n) ((T4 s).take n) (R4 s) := by
  rw [csts_is, H4_take s h4, T4_take s h4]
  exact pairing (R := rayS s) (a := fun k => hpN (s k)) (b := fun k => tpN (s k)) (rayS_ok s) (fun k => good_hp _) (fun k => good_tp _) h2 h4
theorem far_is {n : Nat} (h2 : 2 ≤ n) (h4 : n ≤ 4) : imax (csts s n) = ((4 * n : Nat) : Int) - leastF ((H4 s).take n) (farT ((T4 s).take n)) (R4 s) := by
  rw [imax_neg _ ((4 * n : Nat) : Int) (csts_ne s h4), csts_is, H4_take s h4, T4_take s h4]
  have e1 : farT ((rg n).map fun k => tpN (s k)) = (rg n).map fun k => away (tpN (s k)) := by unfold farT; rw [List.map_map]; rfl
  have e2 : ((ordF n).map fun o => sL (rg n) fun k => Mh (rayS s) (hpN (s k)) (tpN (s (o.getD k 0)))).map (fun x => ((4 * n : Nat) : Int) - x) = (ordF n).map fun o => sL (rg n) fun k => Mh (rayS s) (hpN (s k)) (away (tpN (s (o.getD k 0)))) := by
    rw [List.map_map]
    refine List.map_congr_left fun o _ => ?_
    show ((4 * n : Nat) : Int) - _ = _
    rw [← sL_four, ← sL_sub]
    exact sL_congr fun k _ => (Mh_away (rayS_ok s) (good_tp _)).symm
  rw [e1, e2, pairing (R := rayS s) (a := fun k => hpN (s k)) (b := fun k => away (tpN (s k))) (rayS_ok s) (fun k => good_hp _) (fun k => good_away (good_tp _)) h2 h4]
  rfl
theorem imax_mem : ∀ ns : List Int, ns ≠ [] → imax ns ∈ ns
  | [], h => absurd rfl h
  | x :: r, _ => by
    have : ∀ (r : List Int) (x : Int), r.foldl max x = x ∨ r.foldl max x ∈ r := by
      intro r
      induction r with
      | nil => intro x; exact .inl rfl
      | cons y r ih =>
        intro x
        rw [List.foldl_cons]
        rcases ih (max x y) with h | h
        · rw [h]
          have : max x y = x ∨ max x y = y := by omega
          rcases this with h | h
          · exact .inl h
          · rw [h]; exact .inr (List.Mem.head _)
        · exact .inr (List.Mem.tail _ h)
    rcases this r x with h | h
    · show r.foldl max x ∈ _
      rw [h]; exact List.Mem.head _
    · exact List.Mem.tail _ h
theorem plain : Plain s where
  tbB k j := by
    have := Mh_b (rayS s) (hpN (s k)) (tpN (s j))
    rw [tb_Mh]; omega
  near n h2 h4 := near_is s h2 h4
  far n h2 h4 := far_is s h2 h4
  nearB n _ h4 := csts_b s h4 _ (imin_mem _ (csts_ne s h4))
  farB n _ h4 := csts_b s h4 _ (imax_mem _ (csts_ne s h4))
theorem plain2 : Plain2 s := plain2_of s (b1_is s) (b2_is s)
end
end

-- part T3
section
/-- the text without the three floats' names -/
def vw : Program := { PySem.Challenge.pw_pm0038_01 with main := { PySem.Challenge.pw_pm0038_01.main with body := PySem.Challenge.pw_pm0038_01.main.body.take 7 ++ PySem.Challenge.pw_pm0038_01.main.body.drop 10 } }
def lo : List PySem.Str := ["ONE_THIRD", "ONE_SIXTH", "TWO_THIRD"]
def lv : List (PySem.Str × WData) := [("ONE_THIRD", WData.float 4599676419421066581), ("ONE_SIXTH", WData.float 4595172819793696085), ("TWO_THIRD", WData.float 4604180019048437077)]
theorem lef : LeftO PySem.Challenge.pw_pm0038_01 vw lo (fun s => xlAt vw lv s && recOk [] s) (Hook.obs Hook.none) (Hook.val Hook.none) 1230 := by
  intro w
  kernel_rfl
end
end Mine
theorem PySem.Challenge.cw_pm0038_01_holds : PySem.Challenge.rw_pm0038_01.Holds := by
  w_on
  o_law
  rename_i said
  refine holds_open (r := PySem.Challenge.rw_pm0038_01.row) (q := Mine.vw) (loose := Mine.lo) (Xt := fun s => xlAt Mine.vw Mine.lv s && recOk [] s) (XP := XL Mine.vw Mine.lv) (Yf := Hook.obs Hook.none) (Ya := Hook.val Hook.none) (YP := Hook.says Hook.none) (N := 1230) Mine.lef (Hook.of Hook.none) (Hook.keeps Hook.none)
    (fun s e => xl_of s (Bool.and_eq_true_iff.mp e).1) XL.keeps (by rfl) (by rfl) (by rfl) (fun s e => recFacts_of (Bool.and_eq_true_iff.mp e).2) (by rfl) said (by decide +kernel) ⟨rfl, rfl, rfl, rfl, rfl, by decide +kernel⟩ ?hw ?hc
  case hw => w_witness2
  intro w s₀ s₁ mg mb G Y fa o pm cd doc dV kV ho hd' hcd hD hmg hg args vals as hpre hlay hrd hwl hlo
  have V := (Ground.X G).2
  refine Ground.open G ?_
  intro T B D TE TW
  try (refine guard_noD D (by decide +kernel) ?_; clear D)
  have TA := at_of_top T
  wrow_args hpre hlay hrd hwl hlo
  clear hD hcd hd' TA TE TW B G Y
  refine Mine.law_end T V ?W hmg (by assumption) (by assumption) (by omega) Mine.tabs (Mine.plain _) (Mine.plain2 _) fun s' k => ?Q
  case Q =>
    refine ⟨.inl ⟨_, _, [], rfl, fun _ => rfl, .bool true, ?_, fun _ => ⟨.nil, fun _ h => nomatch h⟩⟩, .of_keep k.grows, ?_, .of_eq ?_⟩
    · kernel_rfl
    · obtain ⟨⟨_, _, e⟩, _⟩ := k; rw [e]
    · obtain ⟨⟨_, _, e⟩, _⟩ := k; rw [e]; exact hg
  case W =>
    exact ⟨⟨_, List.mem_of_getElem? (i := 0) rfl, rfl, rfl, rfl, rfl⟩, ⟨_, List.mem_of_getElem? (i := 1) rfl, rfl, rfl, rfl, rfl⟩, ⟨_, List.mem_of_getElem? (i := 2) rfl, rfl, rfl, rfl, rfl⟩, ⟨_, List.mem_of_getElem? (i := 3) rfl, rfl, rfl, rfl, rfl⟩, ⟨_, List.mem_of_getElem? (i := 4) rfl, rfl, rfl, rfl, rfl⟩, ⟨_, List.mem_of_getElem? (i := 5) rfl, rfl, rfl, rfl, rfl⟩, ⟨_, List.mem_of_getElem? (i := 6) rfl, rfl, rfl, rfl, rfl⟩, ⟨_, List.mem_of_getElem? (i := 7) rfl, rfl, rfl, rfl, rfl⟩, ⟨_, List.mem_of_getElem? (i := 8) rfl, rfl, rfl, rfl, rfl⟩, ⟨_, List.mem_of_getElem? (i := 9) rfl, rfl, rfl, rfl, rfl⟩, ⟨_, List.mem_of_getElem? (i := 10) rfl, rfl, rfl, rfl, rfl⟩, ⟨_, List.mem_of_getElem? (i := 11) rfl, rfl, rfl, rfl, rfl⟩, ⟨_, List.mem_of_getElem? (i := 12) rfl, rfl, rfl, rfl, rfl⟩, ⟨_, List.mem_of_getElem? (i := 13) rfl, rfl, rfl, rfl, rfl⟩, by kernel_rfl, by kernel_rfl, by kernel_rfl, .head _, .tail _ (.head _), .tail _ (.tail _ (.head _)), by decide +kernel⟩
