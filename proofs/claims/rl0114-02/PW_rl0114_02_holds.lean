import PyProof.Rows.All
import Wide.All
import OpenK.AllK
import Wide.FinOn
import Lean
import PySem.Challenge.RW_rl0114_02
set_option Elab.async false
-- MP1
set_option maxRecDepth 100000
set_option linter.unusedVariables false
namespace Mine
open PySem PySem.Calls PyProof.Rows

/-- plain values -/
inductive AV where
  | none | bool (b : Bool) | int (i : Int) | str (s : List Nat) | tup (xs : List AV) | lst (xs : List AV) | dct (kvs : List (Int × Int))

abbrev Keep (h h' : Heap) : Prop := ∀ b o, h.get? b = some o → h'.get? b = some o
/-- all but the owned ones stay -/
abbrev KeepX (X : Addr → Prop) (h h' : Heap) : Prop := ∀ b o, ¬ X b → h.get? b = some o → h'.get? b = some o
theorem Keep.toX {X : Addr → Prop} {h h' : Heap} (k : Keep h h') : KeepX X h h' := fun b o _ e => k b o e
theorem Keep.refl (h : Heap) : Keep h h := fun _ _ e => e
theorem Keep.trans {a b c : Heap} (x : Keep a b) (y : Keep b c) : Keep a c := fun p o e => y p o (x p o e)

/-- a list, a tuple: the object written out -/
def LstX (h : Heap) (a : Addr) (items : Array Value) : Prop := ∃ n, IsL h a items n
def TupX (h : Heap) (a : Addr) (items : Array Value) : Prop := ∃ n, IsT h a items n
theorem LstX.isList {h : Heap} {a : Addr} {items} (x : LstX h a items) : h.IsList a items := let ⟨_, y⟩ := x; y.isList
theorem TupX.isTup {h : Heap} {a : Addr} {items} (x : TupX h a items) : IsTup h a items := let ⟨n, y⟩ := x; ⟨_, y, rfl, n, rfl⟩
/-- an int-keyed dict of ints -/
def IntDict (h : Heap) (a : Addr) (kvs : List (Int × Int)) : Prop :=
  (a == sysModules) = false ∧ ∃ o es n, h.get? a = some o ∧ o.ExactDict ∧ o.data = .dict es n ∧ ∃ ts : List (Tok × Tok), ts.length = kvs.length ∧
    es.toList = (kvs.zip ts).map (fun x => (⟨hashInt x.1.1, .int x.1.1 x.2.1, .int x.1.2 x.2.2⟩ : DictEntry)) ∧ (kvs.map (·.1)).Nodup

mutual
inductive Rep (X : Addr → Prop) (h : Heap) : Value → AV → Prop
  | none : Rep X h .none .none
  | bool (b) : Rep X h (.bool b) (.bool b)
  | int (i : Int) (t) : Rep X h (.int i t) (.int i)
  | str (s : List Nat) (t) : Rep X h (.str ⟨s.toArray⟩ t) (.str s)
  | tup {a : Addr} {vs : List Value} {xs : List AV} : ¬ X a → TupX h a vs.toArray → RepL X h vs xs → Rep X h (.ref a) (.tup xs)
  | lst {a : Addr} {vs : List Value} {xs : List AV} : ¬ X a → LstX h a vs.toArray → RepL X h vs xs → Rep X h (.ref a) (.lst xs)
  | dct {a : Addr} {kvs : List (Int × Int)} : ¬ X a → IntDict h a kvs → Rep X h (.ref a) (.dct kvs)
inductive RepL (X : Addr → Prop) (h : Heap) : List Value → List AV → Prop
  | nil : RepL X h [] []
  | cons {v : Value} {vs : List Value} {x : AV} {xs : List AV} : Rep X h v x → RepL X h vs xs → RepL X h (v :: vs) (x :: xs)
end

theorem isList_keepX {X : Addr → Prop} {h h' : Heap} {a : Addr} {items} (k : KeepX X h h') (n : ¬ X a) (x : LstX h a items) : LstX h' a items := by
  obtain ⟨o, e⟩ := x; exact ⟨o, k _ _ n e⟩
theorem isL_keep {h h' : Heap} {a : Addr} {items} (k : Keep h h') (x : LstX h a items) : LstX h' a items := x.imp fun _ e => k _ _ e
theorem isTup_keepX {X : Addr → Prop} {h h' : Heap} {a : Addr} {items} (k : KeepX X h h') (n : ¬ X a) (x : TupX h a items) : TupX h' a items := by
  obtain ⟨o, e⟩ := x; exact ⟨o, k _ _ n e⟩
/-- how what is held moves from heap to heap -/
structure Mv (X X' : Addr → Prop) (h h' : Heap) : Prop where
  it : ∀ a o, ¬ X a → h.get? a = some o → ¬ X' a ∧ h'.get? a = some o
mutual
theorem Rep.map {X X' : Addr → Prop} {h h' : Heap} (k : Mv X X' h h') : ∀ {v a}, Rep X h v a → Rep X' h' v a
  | _, _, .none => .none
  | _, _, .bool b => .bool b
  | _, _, .int i t => .int i t
  | _, _, .str s t => .str s t
  | _, _, .tup n ⟨m, x⟩ r => .tup (k.it _ _ n x).1 ⟨m, (k.it _ _ n x).2⟩ (RepL.map k r)
  | _, _, .lst n ⟨m, x⟩ r => .lst (k.it _ _ n x).1 ⟨m, (k.it _ _ n x).2⟩ (RepL.map k r)
  | _, _, .dct n ⟨z, o, es, m, x, r⟩ => .dct (k.it _ _ n x).1 ⟨z, o, es, m, (k.it _ _ n x).2, r⟩
theorem RepL.map {X X' : Addr → Prop} {h h' : Heap} (k : Mv X X' h h') : ∀ {v a}, RepL X h v a → RepL X' h' v a
  | _, _, .nil => .nil
  | _, _, .cons x r => .cons (Rep.map k x) (RepL.map k r)
end
theorem Mv.keepX {X : Addr → Prop} {h h' : Heap} (k : KeepX X h h') : Mv X X h h' := ⟨fun a o n e => ⟨n, k a o n e⟩⟩
theorem Mv.reX {X Y : Addr → Prop} {h : Heap} (k : ∀ a, Y a → X a ∨ h.get? a = none) : Mv X Y h h := ⟨fun a o n e => ⟨fun y => (k a y).elim n fun q => (nomatch q.symm.trans e), e⟩⟩
theorem Rep.keepX {X : Addr → Prop} {h h' : Heap} {v a} (r : Rep X h v a) (k : KeepX X h h') : Rep X h' v a := r.map (.keepX k)
theorem RepL.keepX {X : Addr → Prop} {h h' : Heap} {v a} (r : RepL X h v a) (k : KeepX X h h') : RepL X h' v a := r.map (.keepX k)
theorem Rep.keep {X : Addr → Prop} {h h' : Heap} {v a} (r : Rep X h v a) (k : Keep h h') : Rep X h' v a := r.keepX k.toX
theorem RepL.keep {X : Addr → Prop} {h h' : Heap} {v a} (r : RepL X h v a) (k : Keep h h') : RepL X h' v a := r.keepX k.toX

theorem Rep.reX {X Y : Addr → Prop} {h : Heap} {v a} (r : Rep X h v a) (k : ∀ a, Y a → X a ∨ h.get? a = Option.none) : Rep Y h v a := r.map (.reX k)
theorem RepL.reX {X Y : Addr → Prop} {h : Heap} {v a} (r : RepL X h v a) (k : ∀ a, Y a → X a ∨ h.get? a = none) : RepL Y h v a := r.map (.reX k)
theorem Rep.toNone {X : Addr → Prop} {h : Heap} {v : Value} (r : Rep X h v .none) : v = .none := by cases r; rfl
theorem Rep.toBool {X : Addr → Prop} {h : Heap} {v : Value} {b : Bool} (r : Rep X h v (.bool b)) : v = .bool b := by cases r; rfl
theorem Rep.toInt {X : Addr → Prop} {h : Heap} {v : Value} {i : Int} (r : Rep X h v (.int i)) : ∃ t, v = .int i t := by cases r; exact ⟨_, rfl⟩
theorem Rep.toStr {X : Addr → Prop} {h : Heap} {v : Value} {x : List Nat} (r : Rep X h v (.str x)) : ∃ t, v = .str ⟨x.toArray⟩ t := by cases r; exact ⟨_, rfl⟩
theorem Rep.toTup {X : Addr → Prop} {h : Heap} {v : Value} {xs : List AV} (r : Rep X h v (.tup xs)) : ∃ a vs, v = .ref a ∧ ¬ X a ∧ TupX h a (List.toArray vs) ∧ RepL X h vs xs := by
  cases r with | tup n x q => exact ⟨_, _, rfl, n, x, q⟩
theorem Rep.toLst {X : Addr → Prop} {h : Heap} {v : Value} {xs : List AV} (r : Rep X h v (.lst xs)) : ∃ a vs, v = .ref a ∧ ¬ X a ∧ LstX h a (List.toArray vs) ∧ RepL X h vs xs := by
  cases r with | lst n x q => exact ⟨_, _, rfl, n, x, q⟩
theorem Rep.toDct {X : Addr → Prop} {h : Heap} {v : Value} {kvs : List (Int × Int)} (r : Rep X h v (.dct kvs)) : ∃ a, v = .ref a ∧ ¬ X a ∧ IntDict h a kvs := by
  cases r with | dct n x => exact ⟨_, rfl, n, x⟩
theorem RepL.toNil {X : Addr → Prop} {h : Heap} {vs : List Value} (r : RepL X h vs []) : vs = [] := by cases r; rfl
theorem RepL.toCons {X : Addr → Prop} {h : Heap} {vs : List Value} {x : AV} {xs : List AV} (r : RepL X h vs (x :: xs)) : ∃ v ws, vs = v :: ws ∧ Rep X h v x ∧ RepL X h ws xs := by
  cases r with | cons a b => exact ⟨_, _, rfl, a, b⟩
theorem RepL.length {X : Addr → Prop} {h : Heap} {xs : List AV} : ∀ {vs}, RepL X h vs xs → vs.length = xs.length := by
  induction xs with
  | nil => intro vs r; rw [r.toNil]; rfl
  | cons x xs ih => intro vs r; obtain ⟨v, ws, rfl, _, q⟩ := r.toCons; exact congrArg (· + 1) (ih q)
theorem RepL.append {X : Addr → Prop} {h : Heap} {vs : List Value} {xs : List AV} (r : RepL X h vs xs) {ws : List Value} {ys : List AV} (r' : RepL X h ws ys) : RepL X h (vs ++ ws) (xs ++ ys) := by
  induction xs generalizing vs with
  | nil => rw [r.toNil]; exact r'
  | cons x xs ih => obtain ⟨v, us, rfl, a, q⟩ := r.toCons; exact .cons a (ih q)
theorem RepL.get {X : Addr → Prop} {h : Heap} {x : AV} {xs : List AV} : ∀ {vs}, RepL X h vs xs → ∀ {i : Nat}, xs[i]? = some x → ∃ v, vs[i]? = some v ∧ Rep X h v x := by
  induction xs with
  | nil => intro vs r i e; cases e
  | cons y xs ih =>
    intro vs r i e
    obtain ⟨v, us, rfl, a, q⟩ := r.toCons
    cases i with
    | zero => cases e; exact ⟨v, rfl, a⟩
    | succ i => exact ih q e
theorem RepL.set {X : Addr → Prop} {h : Heap} {vs : List Value} {xs : List AV} (r : RepL X h vs xs) (i : Nat) {v : Value} {x : AV} (a : Rep X h v x) : RepL X h (vs.set i v) (xs.set i x) := by
  induction xs generalizing vs i with
  | nil => rw [r.toNil]; exact .nil
  | cons y xs ih =>
    obtain ⟨u, us, rfl, b, q⟩ := r.toCons
    cases i with
    | zero => exact .cons a q
    | succ i => exact .cons b (ih q i)
theorem RepL.to1 {X : Addr → Prop} {h : Heap} {vs : List Value} {x : AV} (r : RepL X h vs [x]) : ∃ v, vs = [v] ∧ Rep X h v x := by
  obtain ⟨v, ws, rfl, a, b⟩ := r.toCons
  cases b.toNil; exact ⟨_, rfl, a⟩
theorem RepL.to2 {X : Addr → Prop} {h : Heap} {vs : List Value} {x y : AV} (r : RepL X h vs [x, y]) : ∃ v u, vs = [v, u] ∧ Rep X h v x ∧ Rep X h u y := by
  obtain ⟨v, ws, rfl, a, b⟩ := r.toCons
  obtain ⟨u, rfl, c⟩ := b.to1; exact ⟨_, _, rfl, a, c⟩
theorem RepL.to3 {X : Addr → Prop} {h : Heap} {vs : List Value} {x y z : AV} (r : RepL X h vs [x, y, z]) : ∃ v u w, vs = [v, u, w] ∧ Rep X h v x ∧ Rep X h u y ∧ Rep X h w z := by
  obtain ⟨v, ws, rfl, a, b⟩ := r.toCons
  obtain ⟨u, w, rfl, c, d⟩ := b.to2; exact ⟨_, _, _, rfl, a, c, d⟩

/-- what a step of an expression may do -/
def Grow (s s' : Shared) : Prop := (∃ h tk, s' = { s with heap := h, toks := tk }) ∧ Keep s.heap s'.heap
theorem Grow.refl (s : Shared) : Grow s s := ⟨⟨s.heap, s.toks, rfl⟩, Keep.refl _⟩
theorem Grow.trans {a b c : Shared} (x : Grow a b) (y : Grow b c) : Grow a c := by
  obtain ⟨⟨h, t, rfl⟩, k⟩ := x; obtain ⟨⟨h', t', rfl⟩, k'⟩ := y
  exact ⟨⟨h', t', rfl⟩, k.trans k'⟩
theorem Grow.tok (s : Shared) (t : Nat) : Grow s { s with toks := t } := ⟨⟨s.heap, t, rfl⟩, Keep.refl _⟩
theorem Grow.toks {s s' : Shared} (g : Grow s s') (t : Nat) : Grow s { s' with toks := t } := g.trans (Grow.tok s' t)
theorem Grow.push (s : Shared) (o : Obj) : Grow s { s with heap := s.heap.push o } := ⟨⟨_, s.toks, rfl⟩, fun _ _ e => Heap.get?_push_of_some _ e⟩
theorem Grow.heap {s : Shared} {h : Heap} (t : Nat) (k : Keep s.heap h) : Grow s { s with heap := h, toks := t } := ⟨⟨h, t, rfl⟩, k⟩

/-- a value is given back -/
inductive EPost (X : Addr → Prop) (s : Shared) (Q : AV → Prop) (v : Value) (s' : Shared) : Prop
  | mk (g : Grow s s') (a : AV) (q : Q a) (r : Rep X s'.heap v a)
theorem EPost.from {X : Addr → Prop} {s s1 s' : Shared} {Q : AV → Prop} {v : Value} (p : EPost X s1 Q v s') (g : Grow s s1) : EPost X s Q v s' := by
  obtain ⟨g', a, q, r⟩ := p; exact ⟨g.trans g', a, q, r⟩
inductive APost (X : Addr → Prop) (s : Shared) (n : Nat) (Q : List AV → Prop) (vs : List Value) (s' : Shared) : Prop
  | mk (g : Grow s s') (as : List AV) (q : Q as) (r : RepL X s'.heap vs as) (l : vs.length = n)
inductive LV where
  | unset | val (a : AV) | own (xs : List AV) | itr (a : Addr) (xs : List AV)

def Reads (env : Env) (h : Heap) (x : Str) (v : Value) : Prop :=
  (env.kindOf x = some .local ∧ ∃ m, h.Ns env.locals m ∧ m x = some v) ∨
  ((env.kindOf x = some .cell ∨ env.kindOf x = some .free) ∧ ∃ c, env.cells.lookup x = some c ∧ h.IsCell c (some v))
theorem Reads.keep {env : Env} {h h' : Heap} {x : Str} {v : Value} (r : Reads env h x v) (k : Keep h h') : Reads env h' x v :=
  r.imp (fun ⟨a, m, n, e⟩ => ⟨a, m, n.keeps k, e⟩) (fun ⟨a, c, l, i⟩ => ⟨a, c, l, i.keeps k⟩)

/-- a list iterator with what it has left -/
inductive IterAt (X : Addr → Prop) (h : Heap) (a : Addr) (xs : List AV) : Prop
  | mk (l : Addr) (i : Nat) (vs : Array Value) (ys : List AV) (it : h.IsListIter a l i) (n : ¬ X l) (L : LstX h l vs) (R : RepL X h vs.toList ys) (q : ys.drop i = xs) (hi : i ≤ ys.length)

inductive HVal (X : Addr → Prop) (h : Heap) (P : Value → Prop) (a : AV) : Prop
  | mk (v : Value) (p : P v) (r : Rep X h v a)
inductive HOwn (X : Addr → Prop) (h : Heap) (P : Value → Prop) (xs : List AV) : Prop
  | mk (a : Addr) (vs : Array Value) (p : P (.ref a)) (x : X a) (l : LstX h a vs) (q : RepL X h vs.toList xs)
inductive HItr (X : Addr → Prop) (h : Heap) (P : Value → Prop) (a : Addr) (xs : List AV) : Prop
  | mk (p : P (.ref a)) (x : X a) (i : IterAt X h a xs)
/-- what a place holds, whoever reads it -/
def HoldsP (X : Addr → Prop) (h : Heap) (P : Value → Prop) : LV → Prop
  | .unset => True
  | .val a => HVal X h P a
  | .own xs => HOwn X h P xs
  | .itr a xs => HItr X h P a xs
abbrev Holds1 (X : Addr → Prop) (env : Env) (h : Heap) (x : Str) (lv : LV) : Prop := HoldsP X h (Reads env h x) lv
theorem IterAt.keep {X : Addr → Prop} {h h' : Heap} {a : Addr} {xs} (i : IterAt X h a xs) (k : Keep h h') : IterAt X h' a xs := by
  obtain ⟨l, i, vs, ys, ⟨o, e, r⟩, n, L, R, q, hi⟩ := i
  exact ⟨l, i, vs, ys, ⟨o, k _ _ e, r⟩, n, isList_keepX k.toX n L, R.keep k, q, hi⟩
theorem HoldsP.keepM {X : Addr → Prop} {h h' : Heap} {P P' : Value → Prop} {lv : LV} (r : HoldsP X h P lv) (k : Keep h h') (m : ∀ v, P v → P' v) : HoldsP X h' P' lv := by
  cases lv with
  | unset => trivial
  | val a => obtain ⟨v, a, b⟩ := r; exact ⟨v, m _ a, b.keep k⟩
  | own xs => obtain ⟨a, vs, r, x, l, q⟩ := r; exact ⟨a, vs, m _ r, x, isL_keep k l, q.keep k⟩
  | itr a xs => obtain ⟨r, x, i⟩ := r; exact ⟨m _ r, x, i.keep k⟩
theorem Holds1.keep {X : Addr → Prop} {env : Env} {h h' : Heap} {x : Str} {lv : LV} (r : Holds1 X env h x lv) (k : Keep h h') : Holds1 X env h' x lv := HoldsP.keepM r k fun _ a => a.keep k

/-- the module's names and what is pinned -/
structure Gl (mg mb : Str → Option Value) (pins : List (Addr × Obj)) (h : Heap) : Prop where
  g : h.Ns mainGlobals mg
  b : h.Ns builtinsNs mb
  nolimit : h.NoLimit
  pin : ∀ p ∈ pins, h.get? p.1 = some p.2
theorem Gl.keep {mg mb pins} {h h' : Heap} (G : Gl mg mb pins h) (k : Keep h h') : Gl mg mb pins h' :=
  ⟨G.g.keeps k, G.b.keeps k, G.nolimit.keeps k, fun p hp => k _ _ (G.pin p hp)⟩

structure EnvOk (sc : Scope) (env : Env) : Prop where
  scope : env.scope = sc
  kind : sc.kind = .function
  globals : env.globals = mainGlobals
  builtins : env.builtins = builtinsNs
theorem EnvOk.kindOf {sc env} (x : EnvOk sc env) (n : Str) : env.kindOf n = sc.names.lookup n := by unfold Env.kindOf; rw [x.scope]
theorem EnvOk.fn {sc env} (x : EnvOk sc env) : env.scope.kind = .function := by rw [x.scope]; exact x.kind

/-- how deep a tree may call; is no exception handled around it -/
structure Lim where
  d : Nat
  z : Bool
/-- an exception without a context -/
def QuietExc (o : Obj) : Prop := ∃ vs : Array Value, o.data = .fields vs ∧ vs[2]? = some .none
structure AOk (pins : List (Addr × Obj)) (l : Lim) (A : Around) : Prop where
  depth : A.depth + l.d < recursionLimit
  units : A.units + 10 * l.d + 40 < cLine
  calm : A.handled = none ∨ (l.z = false ∧ ∃ h o, A.handled = some (.ref h) ∧ (h, o) ∈ pins ∧ QuietExc o)
def Lim.le (a b : Lim) : Bool := Nat.ble a.d b.d && (!a.z || b.z)
theorem AOk.mono {pins} {l l' : Lim} {A : Around} (a : AOk pins l A) (h : l'.le l = true) : AOk pins l' A := by
  obtain ⟨h1, h2⟩ := Bool.and_eq_true_iff.mp h
  have h1 := Nat.le_of_ble_eq_true h1
  refine ⟨by have := a.depth; (first | lia | omega), by have := a.units; (first | lia | omega), a.calm.imp id fun ⟨e, r⟩ => ⟨?_, r⟩⟩
  rw [e] at h2; simpa using h2
theorem AOk.none {pins} {l : Lim} {A : Around} (a : AOk pins l A) (h : l.z = true) : A.handled = none := a.calm.elim id fun ⟨e, _⟩ => by rw [h] at e; cases e
theorem AOk.deeper {pins} {n : Nat} {z : Bool} {A : Around} (a : AOk pins ⟨n + 1, z⟩ A) (env : Env) : AOk pins ⟨n, z⟩ (A.deeper env) :=
  ⟨by have := a.depth; simp only [Around.deeper] at *; (first | lia | omega), by have := a.units; simp only [Around.deeper_units] at *; (first | lia | omega), a.calm⟩
theorem AOk.in1 {pins} {n : Nat} {z : Bool} {A : Around} (a : AOk pins ⟨n + 1, z⟩ A) : AOk pins ⟨n, z⟩ A.in1 :=
  ⟨by have := a.depth; simp only [Around.in1_depth] at *; (first | lia | omega), by have := a.units; simp only [Around.in1_units] at *; (first | lia | omega), a.calm⟩

abbrev Sto := List LV
abbrev WE := Sto → (AV → Prop) → Prop

section
variable (prog : Program) (w : World) (mg mb : Str → Option Value) (pins : List (Addr × Obj))

structure Rel (nm : List Str) (X : Addr → Prop) (env : Env) (σ : Sto) (h : Heap) : Prop where
  gl : Gl mg mb pins h
  dom : ∀ a, X a → ∃ o, h.get? a = some o
  var : ∀ k x, nm[k]? = some x → Holds1 X env h x (σ.getD k .unset)

variable {mg mb pins} in
theorem Rel.keep {nm X env σ} {h h' : Heap} (R : Rel mg mb pins nm X env σ h) (k : Keep h h') : Rel mg mb pins nm X env σ h' :=
  ⟨R.gl.keep k, fun a x => let ⟨o, e⟩ := R.dom a x; ⟨o, k _ _ e⟩, fun k' x e => (R.var k' x e).keep k⟩
variable {mg mb pins} in
theorem Rel.fresh {nm X env σ} {h : Heap} (R : Rel mg mb pins nm X env σ h) : ¬ X h.objs.size := fun x => by
  obtain ⟨o, e⟩ := R.dom _ x
  exact absurd (Heap.lt_size e) (Nat.lt_irrefl _)

/-- e meets w -/
structure SemE (l : Lim) (sc : Scope) (nm : List Str) (e : Expr) (W : WE) : Prop where
  it : ∀ (A : Around) (env : Env) (X : Addr → Prop) (σ : Sto) (s : Shared) (Q : AV → Prop) (E : Value → Shared → Prop),
    AOk pins l A → EnvOk sc env → Rel mg mb pins nm X env σ s.heap → W σ Q →
    wpAny (model prog w) A (eval e env) (EPost X s Q) E s
/-- a test -/
structure SemT (l : Lim) (sc : Scope) (nm : List Str) (e : Expr) (W : Sto → (Bool → Prop) → Prop) : Prop where
  it : ∀ (A : Around) (env : Env) (X : Addr → Prop) (σ : Sto) (s : Shared) (Q : Bool → Prop) (E : Value → Shared → Prop),
    AOk pins l A → EnvOk sc env → Rel mg mb pins nm X env σ s.heap → W σ Q →
    wpAny (model prog w) A (isTrue e env (eval e env)) (fun b s' => Grow s s' ∧ Q b) E s
/-- arguments -/
structure SemA (l : Lim) (sc : Scope) (nm : List Str) (es : List Expr) (W : Sto → (List AV → Prop) → Prop) : Prop where
  it : ∀ (A : Around) (env : Env) (X : Addr → Prop) (σ : Sto) (s : Shared) (Q : List AV → Prop) (E : Value → Shared → Prop) (pos : Pos),
    AOk pins l A → EnvOk sc env → Rel mg mb pins nm X env σ s.heap → W σ Q →
    wpAny (model prog w) A (spliced (backTo pos (starEach es env))) (APost X s es.length Q) E s
/-- what is not starred -/
def plainE : Expr → Bool
  | .Starred .. => false
  | _ => true
end
end Mine
-- MP2
set_option maxRecDepth 100000
set_option linter.unusedVariables false
namespace Mine
open PySem PySem.Calls PyProof.Rows

def strL (x : Str) : List Nat := x.cps.toList
theorem mk_strL (x : Str) : (⟨(strL x).toArray⟩ : Str) = x := by cases x; simp [strL]
theorem rep_str {X : Addr → Prop} {h : Heap} (x : Str) (t : Tok) : Rep X h (.str x t) (.str (strL x)) := by
  have := Rep.str (X := X) (h := h) (strL x) t
  rw [mk_strL] at this
  exact this

inductive Ix : List Str → Nat → Str → Prop
  | head {x l} : Ix (x :: l) 0 x
  | tail {x y l k} : Ix l k x → Ix (y :: l) (k + 1) x
theorem Ix.get {l k x} (i : Ix l k x) : l[k]? = some x := by
  induction i with
  | head => rfl
  | tail _ ih => simpa using ih

def LV.read : LV → (AV → Prop) → Prop
  | .val a, Q => Q a
  | _, _ => False
def varW (k : Nat) : WE := fun σ Q => (σ.getD k .unset).read Q

section
variable {prog : Program} {w : World} {mg mb : Str → Option Value} {pins : List (Addr × Obj)} {l : Lim} {sc : Scope} {nm : List Str}


theorem semE_int {i k pos} : SemE prog w mg mb pins l sc nm (.Constant (.int i) k pos) (fun _ Q => Q (.int i)) :=
  .mk fun A env X σ s Q E _ _ _ h => wpAny_Constant_int ⟨Grow.tok _ _, _, h, .int _ _⟩
theorem semE_str {x k pos} : SemE prog w mg mb pins l sc nm (.Constant (.str x) k pos) (fun _ Q => Q (.str (strL x))) :=
  .mk fun A env X σ s Q E _ _ _ h => wpAny_Constant_str ⟨Grow.tok _ _, _, h, rep_str _ _⟩
theorem semE_none {k pos} : SemE prog w mg mb pins l sc nm (.Constant .none k pos) (fun _ Q => Q .none) :=
  .mk fun A env X σ s Q E _ _ _ h => wpAny_Constant_none ⟨Grow.refl _, _, h, .none⟩
theorem semE_bool {b k pos} : SemE prog w mg mb pins l sc nm (.Constant (.bool b) k pos) (fun _ Q => Q (.bool b)) :=
  .mk fun A env X σ s Q E _ _ _ h => wpAny_Constant_bool ⟨Grow.refl _, _, h, .bool _⟩

theorem load_of_reads {env : Env} {A : Around} {s : Shared} {x : Str} {pos : Pos} {v : Value} {Q : Value → Shared → Prop} {E : Value → Shared → Prop} (hk : env.scope.kind = .function) (r : Reads env s.heap x v) (h : Q v s)
    (hd : (x == ("__debug__" : Str)) = false) (hc : (x == ("__classdict__" : Str)) = false) : wpAny (model prog w) A (eval (.Name x pos) env) Q E s := by
  rcases r with ⟨hl, m, hn, hm⟩ | ⟨hl | hl, c, hcl, hi⟩
  · exact wpAny_Name (wpAny_loadName_local hk hl hn hm h) hd
  · exact wpAny_Name (wpAny_loadName_cell hk hl hcl hi h) hd
  · exact wpAny_Name (wpAny_loadName_free hk hl hcl hi h hc) hd

theorem semE_var {x pos k} (hx : Ix nm k x) (hd : (x == ("__debug__" : Str)) = false := by decide +kernel) (hc : (x == ("__classdict__" : Str)) = false := by decide +kernel) : SemE prog w mg mb pins l sc nm (.Name x pos) (varW k) := by
  refine .mk ?_
  intro A env X σ s Q E a eo R hq
  have hv := R.var k x hx.get
  unfold varW at hq
  cases e : σ.getD k .unset with
  | val v =>
    rw [e] at hq hv
    obtain ⟨u, r, rp⟩ := hv
    exact load_of_reads eo.fn r ⟨Grow.refl _, _, hq, rp⟩ hd hc
  | _ => rw [e] at hq; exact hq.elim

/-- a global that is a plain value -/
def FlatV : Value → AV → Prop
  | .none, .none => True
  | .bool b, .bool c => b = c
  | .int i _, .int j => i = j
  | .str x _, .str l => strL x = l
  | _, _ => False
theorem FlatV.rep {X : Addr → Prop} {h : Heap} {v : Value} {a : AV} (f : FlatV v a) : Rep X h v a := by
  cases v <;> try exact f.elim
  · cases a <;> try exact f.elim
    exact .none
  · cases a <;> try exact f.elim
    cases f; exact .bool _
  · cases a <;> try exact f.elim
    cases f; exact .int _ _
  · cases a <;> try exact f.elim
    cases f; exact rep_str _ _
theorem semE_glob {x pos v a} (hk : sc.names.lookup x = some .globalImplicit) (hv : mg x = some v) (hf : FlatV v a) (hd : (x == ("__debug__" : Str)) = false := by decide +kernel) :
    SemE prog w mg mb pins l sc nm (.Name x pos) (fun _ Q => Q a) := .mk fun A env X σ s Q E _ eo R h =>
  Name_function_global eo.fn (by rw [eo.kindOf]; exact hk) (loadGlobal_global (env := env) (eo.globals ▸ R.gl.g) hv ⟨Grow.refl _, _, h, hf.rep⟩) hd

theorem semA_nil : SemA prog w mg mb pins l sc nm [] (fun _ Q => Q []) := .mk fun A env X σ s Q E pos _ _ _ h => args_nil ⟨Grow.refl _, _, h, .nil, rfl⟩
theorem starEach_plain {e : Expr} {rest : List Expr} {env : Env} (h : plainE e = true) : starEach (e :: rest) env = (false, eval e env) :: starEach rest env := by
  cases e <;> first | rfl | exact nomatch h
def consW (W : WE) (Ws : Sto → (List AV → Prop) → Prop) : Sto → (List AV → Prop) → Prop := fun σ Q => W σ fun a => Ws σ fun as => Q (a :: as)
theorem semA_cons {e es W Ws} (h1 : SemE prog w mg mb pins l sc nm e W) (h2 : SemA prog w mg mb pins l sc nm es Ws) (hp : plainE e = true := by rfl) : SemA prog w mg mb pins l sc nm (e :: es) (consW W Ws) := by
  refine .mk ?_
  intro A env X σ s Q E pos a eo R hq
  unfold consW at hq
  refine args_cons (wpAny_mono (h1.it A env X σ s _ E a eo R hq) (fun v s₁ hpat => ?_) fun _ _ x => x) (starEach_plain hp)
  obtain ⟨g1, x, hx, rx⟩ := hpat
  refine wpAny_mono (h2.it A env X σ s₁ _ E pos a eo (R.keep g1.2) hx) (fun vs s₂ hpat => ?_) fun _ _ x => x
  obtain ⟨g2, xs, hxs, rxs, hl⟩ := hpat
  exact ⟨g1.trans g2, _, hxs, .cons (rx.keep g2.2) rxs, by simp [hl]⟩

/-- a step on two values -/
structure Prim2 (prog : Program) (w : World) (mg mb : Str → Option Value) (pins : List (Addr × Obj)) (l : Lim) (f : Value → Value → Sem Value) (W : AV → AV → (AV → Prop) → Prop) : Prop where
  it : ∀ (A : Around) (X : Addr → Prop) (s : Shared) (va vb : Value) (a b : AV) (Q : AV → Prop) (E : Value → Shared → Prop), AOk pins l A → Gl mg mb pins s.heap → (∀ a, X a → ∃ o, s.heap.get? a = some o) →
    Rep X s.heap va a → Rep X s.heap vb b → W a b Q → wpAny (model prog w) A (f va vb) (EPost X s Q) E s

theorem semE_bin {x op r pos W1 W2 B} (h1 : SemE prog w mg mb pins l sc nm x W1) (h2 : SemE prog w mg mb pins l sc nm r W2) (hB : Prim2 prog w mg mb pins l (binaryOp op) B) :
    SemE prog w mg mb pins l sc nm (.BinOp x op r pos) (fun σ Q => W1 σ fun a => W2 σ fun b => B a b Q) := by
  refine .mk ?_
  intro A env X σ s Q E a eo R hq
  refine wpAny_BinOp (wpAny_mono (h1.it A env X σ s _ E a eo R hq) (fun v s₁ hpat => ?_) fun _ _ x => x)
  obtain ⟨g1, x, hx, rx⟩ := hpat
  refine wpAny_mono (h2.it A env X σ s₁ _ E a eo (R.keep g1.2) hx) (fun u s₂ hpat => ?_) fun _ _ x => x
  obtain ⟨g2, y, hy, ry⟩ := hpat
  have R2 := R.keep (g1.trans g2).2
  exact wpAny_mono (hB.it A X s₂ v u x y Q E a R2.gl R2.dom (rx.keep g2.2) ry hy) (fun z s₃ ⟨g3, c, hc, rc⟩ => ⟨(g1.trans g2).trans g3, c, hc, rc⟩) fun _ _ x => x
theorem semE_cmp {x op r pos W1 W2 B} (h1 : SemE prog w mg mb pins l sc nm x W1) (h2 : SemE prog w mg mb pins l sc nm r W2) (hB : Prim2 prog w mg mb pins l (compareOp op) B) (hm : behindInMarks op r = false := by with_unfolding_all rfl) :
    SemE prog w mg mb pins l sc nm (.Compare x [op] [r] pos) (fun σ Q => W1 σ fun a => W2 σ fun b => B a b Q) := by
  refine .mk ?_
  intro A env X σ s Q E a eo R hq
  refine wpAny_Compare1 (wpAny_mono (h1.it A env X σ s _ E a eo R hq) (fun v s₁ hpat => ?_) fun _ _ x => x) hm
  obtain ⟨g1, x, hx, rx⟩ := hpat
  refine wpAny_mono (h2.it A env X σ s₁ _ E a eo (R.keep g1.2) hx) (fun u s₂ hpat => ?_) fun _ _ x => x
  obtain ⟨g2, y, hy, ry⟩ := hpat
  have R2 := R.keep (g1.trans g2).2
  exact wpAny_mono (hB.it A X s₂ v u x y Q E a R2.gl R2.dom (rx.keep g2.2) ry hy) (fun z s₃ ⟨g3, c, hc, rc⟩ => ⟨(g1.trans g2).trans g3, c, hc, rc⟩) fun _ _ x => x

/-- truth of a value -/
def truW (a : AV) (Q : Bool → Prop) : Prop := match a with
  | .none => Q false
  | .bool b => Q b
  | .int i => Q (i != 0)
  | .str s => s.length ≤ 1000000 ∧ Q (!s.isEmpty)
  | .lst xs => xs.length ≤ 1000000 ∧ Q (!xs.isEmpty)
  | _ => False
theorem truthy_ok {A : Around} {X : Addr → Prop} {s : Shared} {v : Value} {a : AV} {Q : Bool → Prop} {E : Value → Shared → Prop} (r : Rep X s.heap v a) (h : truW a Q) :
    wpAny (model prog w) A (truthy v) (fun b s' => Grow s s' ∧ Q b) E s := by
  cases a with
  | none => cases r.toNone; exact truthy_none ⟨Grow.refl _, h⟩
  | bool b => cases r.toBool; exact wpAny_truthy_bool ⟨Grow.refl _, h⟩
  | int i => obtain ⟨t, rfl⟩ := r.toInt; exact PySem.P.truthy_int ⟨Grow.refl _, h⟩
  | str x =>
    obtain ⟨t, rfl⟩ := r.toStr
    refine PySem.P.truthy_str (by simp only [Str.length, List.size_toArray]; have := h.1; (first | lia | omega)) ⟨(Grow.tok _ _), ?_⟩
    have e : (((⟨x.toArray⟩ : Str).length : Int) != 0) = !x.isEmpty := by
      cases x <;> simp [Str.length]
      (first | lia | omega)
    rw [e]; exact h.2
  | lst xs =>
    obtain ⟨p, vs, rfl, n, l, rl⟩ := r.toLst
    have hl := rl.length
    refine wpAny_truthy_list l.isList (by have := h.1; simp only [List.size_toArray]; (first | lia | omega)) ⟨Grow.tok _ _, ?_⟩
    have e : (!vs.toArray.isEmpty) = !xs.isEmpty := by
      cases xs <;> cases vs <;> simp_all
    rw [e]; exact h.2
  | _ => exact h.elim

theorem semT_of {e W} (h : SemE prog w mg mb pins l sc nm e W) (he : ∀ env whole, isTrue e env whole = (do let v ← whole; standAt e.pos; holding [v] (truthy v)) := by intros; rfl) : SemT prog w mg mb pins l sc nm e (fun σ Q => W σ fun a => truW a Q) := by
  refine .mk ?_
  intro A env X σ s Q E a eo R hq
  refine wpAny_isTrue_value (wpAny_mono (h.it A env X σ s _ E a eo R hq) (fun v s₁ hpat => ?_) fun _ _ x => x) (he _ _)
  obtain ⟨g1, x, hx, rx⟩ := hpat
  exact wpAny_mono (truthy_ok rx hx) (fun b s₂ ⟨g2, q⟩ => ⟨g1.trans g2, q⟩) fun _ _ x => x
theorem semT_cmp {x op r pos W1 W2 B} (h1 : SemE prog w mg mb pins l sc nm x W1) (h2 : SemE prog w mg mb pins l sc nm r W2) (hB : Prim2 prog w mg mb pins l (compareOp op) B) (hm : behindInMarks op r = false := by with_unfolding_all rfl) :
    SemT prog w mg mb pins l sc nm (.Compare x [op] [r] pos) (fun σ Q => W1 σ fun a => W2 σ fun b => B a b fun c => truW c Q) := by
  refine .mk ?_
  intro A env X σ s Q E a eo R hq
  refine wpAny_isTrue_Compare1 (wpAny_mono (h1.it A env X σ s _ E a eo R hq) (fun v s₁ hpat => ?_) fun _ _ x => x) hm
  obtain ⟨g1, x, hx, rx⟩ := hpat
  refine wpAny_mono (h2.it A env X σ s₁ _ E a eo (R.keep g1.2) hx) (fun u s₂ hpat => ?_) fun _ _ x => x
  obtain ⟨g2, y, hy, ry⟩ := hpat
  have R2 := R.keep (g1.trans g2).2
  refine wpAny_mono (hB.it A X s₂ v u x y _ E a R2.gl R2.dom (rx.keep g2.2) ry hy) (fun z s₃ hpat => ?_) fun _ _ x => x
  obtain ⟨g3, c, hc, rc⟩ := hpat
  exact wpAny_mono (truthy_ok rc hc) (fun b s₄ ⟨g4, q⟩ => ⟨((g1.trans g2).trans g3).trans g4, q⟩) fun _ _ x => x
theorem semT_not {x pos W} (h : SemT prog w mg mb pins l sc nm x W) : SemT prog w mg mb pins l sc nm (.UnaryOp .Not x pos) (fun σ Q => W σ fun b => Q (!b)) := by
  refine .mk ?_
  intro A env X σ s Q E a eo R hq
  exact wpAny_isTrue_Not (h.it A env X σ s _ E a eo R hq)
/-- and, or of tests -/
structure SemL (prog : Program) (w : World) (mg mb : Str → Option Value) (pins : List (Addr × Obj)) (l : Lim) (sc : Scope) (nm : List Str) (op : BoolOp) (es : List Expr) (W : Sto → (Bool → Prop) → Prop) : Prop where
  it : ∀ (A : Around) (env : Env) (X : Addr → Prop) (σ : Sto) (s : Shared) (Q : Bool → Prop) (E : Value → Shared → Prop),
    AOk pins l A → EnvOk sc env → Rel mg mb pins nm X env σ s.heap → W σ Q →
    wpAny (model prog w) A (allTrue op es env) (fun b s' => Grow s s' ∧ Q b) E s
theorem semL_and_nil : SemL prog w mg mb pins l sc nm .And [] (fun _ Q => Q true) := .mk fun A env X σ s Q E _ _ _ h => wpAny_allTrue_And_nil ⟨Grow.refl _, h⟩
theorem semL_or_nil : SemL prog w mg mb pins l sc nm .Or [] (fun _ Q => Q false) := .mk fun A env X σ s Q E _ _ _ h => wpAny_allTrue_Or_nil ⟨Grow.refl _, h⟩
theorem semL_and {x es W Ws} (h1 : SemT prog w mg mb pins l sc nm x W) (h2 : SemL prog w mg mb pins l sc nm .And es Ws) : SemL prog w mg mb pins l sc nm .And (x :: es) (fun σ Q => W σ fun b => if b = true then Ws σ Q else Q false) := by
  refine .mk ?_
  intro A env X σ s Q E a eo R hq
  refine wpAny_allTrue_And_cons (wpAny_mono (h1.it A env X σ s _ E a eo R hq) (fun b s₁ hpat => ?_) fun _ _ x => x)
  obtain ⟨g1, hb⟩ := hpat
  cases b with
  | true => exact wpAny_mono (h2.it A env X σ s₁ Q E a eo (R.keep g1.2) (by simpa using hb)) (fun b s₂ ⟨g2, q⟩ => ⟨g1.trans g2, q⟩) fun _ _ x => x
  | false => exact ⟨g1, by simpa using hb⟩
theorem semL_or {x es W Ws} (h1 : SemT prog w mg mb pins l sc nm x W) (h2 : SemL prog w mg mb pins l sc nm .Or es Ws) : SemL prog w mg mb pins l sc nm .Or (x :: es) (fun σ Q => W σ fun b => if b = true then Q true else Ws σ Q) := by
  refine .mk ?_
  intro A env X σ s Q E a eo R hq
  refine wpAny_allTrue_Or_cons (wpAny_mono (h1.it A env X σ s _ E a eo R hq) (fun b s₁ hpat => ?_) fun _ _ x => x)
  obtain ⟨g1, hb⟩ := hpat
  cases b with
  | false => exact wpAny_mono (h2.it A env X σ s₁ Q E a eo (R.keep g1.2) (by simpa using hb)) (fun b s₂ ⟨g2, q⟩ => ⟨g1.trans g2, q⟩) fun _ _ x => x
  | true => exact ⟨g1, by simpa using hb⟩
theorem semT_bool {op es pos W} (h : SemL prog w mg mb pins l sc nm op es W) : SemT prog w mg mb pins l sc nm (.BoolOp op es pos) W := .mk fun A env X σ s Q E a eo R hq => wpAny_isTrue_BoolOp (h.it A env X σ s Q E a eo R hq)

theorem semE_ite {t b o pos Wt Wb Wo} (ht : SemT prog w mg mb pins l sc nm t Wt) (hb : SemE prog w mg mb pins l sc nm b Wb) (ho : SemE prog w mg mb pins l sc nm o Wo) : SemE prog w mg mb pins l sc nm (.IfExp t b o pos) (fun σ Q => Wt σ fun c => if c = true then Wb σ Q else Wo σ Q) := by
  refine .mk ?_
  intro A env X σ s Q E a eo R hq
  refine wpAny_IfExp (wpAny_mono (ht.it A env X σ s _ E a eo R hq) (fun c s₁ hpat => ?_) fun _ _ x => x)
  obtain ⟨g1, hc⟩ := hpat
  cases c with
  | true => simp only [if_true] at hc ⊢; exact wpAny_mono (hb.it A env X σ s₁ Q E a eo (R.keep g1.2) hc) (fun v s₂ q => q.from g1) fun _ _ x => x
  | false => simp only [if_false, Bool.false_eq_true] at hc ⊢; exact wpAny_mono (ho.it A env X σ s₁ Q E a eo (R.keep g1.2) hc) (fun v s₂ q => q.from g1) fun _ _ x => x
theorem semE_and {x y pos Wx Wy} (hx : SemE prog w mg mb pins l sc nm x Wx) (hy : SemE prog w mg mb pins l sc nm y Wy) : SemE prog w mg mb pins l sc nm (.BoolOp .And [x, y] pos) (fun σ Q => Wx σ fun a => truW a fun c => if c = true then Wy σ Q else Q a) := by
  refine .mk ?_
  intro A env X σ s Q E a eo R hq
  refine wpAny_And2 (wpAny_mono (hx.it A env X σ s _ E a eo R hq) (fun v s₁ hpat => ?_) fun _ _ x => x)
  obtain ⟨g1, p, hp, rp⟩ := hpat
  refine wpAny_mono (truthy_ok rp hp) (fun c s₂ hpat => ?_) fun _ _ x => x
  obtain ⟨g2, hc⟩ := hpat
  cases c with
  | true => simp only [if_true] at hc ⊢; exact wpAny_mono (hy.it A env X σ s₂ Q E a eo (R.keep (g1.trans g2).2) hc) (fun v s₃ q => q.from (g1.trans g2)) fun _ _ x => x
  | false => simp only [if_false, Bool.false_eq_true] at hc ⊢; exact ⟨g1.trans g2, p, hc, rp.keep g2.2⟩
theorem semE_or {x y pos Wx Wy} (hx : SemE prog w mg mb pins l sc nm x Wx) (hy : SemE prog w mg mb pins l sc nm y Wy) : SemE prog w mg mb pins l sc nm (.BoolOp .Or [x, y] pos) (fun σ Q => Wx σ fun a => truW a fun c => if c = true then Q a else Wy σ Q) := by
  refine .mk ?_
  intro A env X σ s Q E a eo R hq
  refine wpAny_Or2 (wpAny_mono (hx.it A env X σ s _ E a eo R hq) (fun v s₁ hpat => ?_) fun _ _ x => x)
  obtain ⟨g1, p, hp, rp⟩ := hpat
  refine wpAny_mono (truthy_ok rp hp) (fun c s₂ hpat => ?_) fun _ _ x => x
  obtain ⟨g2, hc⟩ := hpat
  cases c with
  | false => simp only [if_false, Bool.false_eq_true] at hc ⊢; exact wpAny_mono (hy.it A env X σ s₂ Q E a eo (R.keep (g1.trans g2).2) hc) (fun v s₃ q => q.from (g1.trans g2)) fun _ _ x => x
  | true => simp only [if_true] at hc ⊢; exact ⟨g1.trans g2, p, hc, rp.keep g2.2⟩

theorem semE_tuple {es k pos W} (h : SemA prog w mg mb pins l sc nm es W) (hl : es.length ≤ 1000 := by decide +kernel) : SemE prog w mg mb pins l sc nm (.Tuple es k pos) (fun σ Q => W σ fun as => Q (.tup as)) := by
  refine .mk ?_
  intro A env X σ s Q E a eo R hq
  refine wpAny_Tuple (wpAny_mono (h.it A env X σ s _ E pos a eo R hq) (fun vs s₁ hpat => ?_) fun _ _ x => x)
  obtain ⟨g1, xs, hx, rx, hn⟩ := hpat
  refine ⟨by rw [sizeLine_eq]; (first | lia | omega), g1.trans (Grow.push _ _), _, hx, .tup (R.keep g1.2).fresh ⟨0, IsT.new _ _⟩ (rx.keep (Grow.push _ _).2)⟩
theorem semE_list {es pos W} (h : SemA prog w mg mb pins l sc nm es W) (hl : es.length ≤ 1000 := by decide +kernel) : SemE prog w mg mb pins l sc nm (.List es pos) (fun σ Q => W σ fun as => Q (.lst as)) := by
  refine .mk ?_
  intro A env X σ s Q E a eo R hq
  refine wpAny_List (wpAny_mono (h.it A env X σ s _ E pos a eo R hq) (fun vs s₁ hpat => ?_) fun _ _ x => x)
  obtain ⟨g1, xs, hx, rx, hn⟩ := hpat
  refine ⟨by rw [sizeLine_eq]; (first | lia | omega), g1.trans (Grow.push _ _), _, hx, .lst (R.keep g1.2).fresh ⟨0, IsL.new _ _⟩ (rx.keep (Grow.push _ _).2)⟩
theorem semE_neg {x pos W} (h : SemE prog w mg mb pins l sc nm x W) : SemE prog w mg mb pins l sc nm (.UnaryOp .USub x pos) (fun σ Q => W σ fun a => match a with | .int i => Q (.int (-i)) | _ => False) := by
  refine .mk ?_
  intro A env X σ s Q E a eo R hq
  refine wpAny_UnaryOp (wpAny_mono (h.it A env X σ s _ E a eo R hq) (fun v s₁ hpat => ?_) fun _ _ x => x)
  obtain ⟨g1, p, hp, rp⟩ := hpat
  cases p with
  | int i =>
    obtain ⟨t, rfl⟩ := rp.toInt
    exact PySem.P.neg_int ⟨g1.trans (Grow.tok _ _), _, hp, .int _ _⟩
  | _ => exact hp.elim
end
end Mine
-- MP3
set_option maxRecDepth 100000
set_option linter.unusedVariables false
namespace Mine
open PySem PySem.Calls PyProof.Rows PySem.SeqAt PySem.MeetsSeq

/-- == of plain values, three deep -/
def allO : List (Option Bool) → Option Bool
  | [] => some true
  | some b :: r => (allO r).map (b && ·)
  | none :: _ => none
def eqA : Nat → AV → AV → Option Bool
  | _, .int i, .int j => some (i == j)
  | _, .str x, .str y => some (x == y)
  | _, .bool a, .bool b => some (a == b)
  | n + 1, .lst xs, .lst ys => if xs.length = ys.length then allO (List.zipWith (eqA n) xs ys) else some false
  | _, _, _ => none

theorem allO_get : ∀ (l : List (Option Bool)) (r : Bool), allO l = some r → ∃ bs : List Bool, l = bs.map some ∧ r = bs.all id
  | [], r, e => by simp [allO] at e; exact ⟨[], rfl, e⟩
  | none :: _, r, e => by simp [allO] at e
  | some b :: l, r, e => by
    simp only [allO, Option.map_eq_some_iff] at e
    obtain ⟨c, e1, rfl⟩ := e
    obtain ⟨bs, rfl, rfl⟩ := allO_get l c e1
    exact ⟨b :: bs, rfl, rfl⟩

theorem range_all_getD (bs : List Bool) : ((List.range bs.length).all fun j => bs.getD j false) = bs.all id := by
  induction bs with
  | nil => rfl
  | cons b r ih => simp only [List.length_cons, List.range_succ_eq_map, List.all_cons, List.all_map]; rw [← ih]; rfl

/-- what an answer of eqA tells -/
theorem eqA_inv {n : Nat} {a b : AV} {r : Bool} (e : eqA n a b = some r) : (∃ i j, a = .int i ∧ b = .int j ∧ r = (i == j)) ∨ (∃ x y, a = .str x ∧ b = .str y ∧ r = (x == y)) ∨ (∃ x y, a = .bool x ∧ b = .bool y ∧ r = (x == y)) ∨
    ∃ m xs ys, n = m + 1 ∧ a = .lst xs ∧ b = .lst ys ∧ (if xs.length = ys.length then allO (List.zipWith (eqA m) xs ys) else some false) = some r := by
  unfold eqA at e
  split at e
  · exact .inl ⟨_, _, rfl, rfl, (Option.some.inj e).symm⟩
  · exact .inr (.inl ⟨_, _, rfl, rfl, (Option.some.inj e).symm⟩)
  · exact .inr (.inr (.inl ⟨_, _, rfl, rfl, (Option.some.inj e).symm⟩))
  · exact .inr (.inr (.inr ⟨_, _, _, rfl, rfl, rfl, e⟩))
  · exact nomatch e
/-- two lists' items, one by one -/
theorem items_eq {f : AV → AV → Option Bool} : ∀ {xs ys : List AV} {r : Bool}, xs.length = ys.length → allO (List.zipWith f xs ys) = some r → ∃ bs : List Bool, bs.length = xs.length ∧ r = bs.all id ∧ ∀ j x y, xs[j]? = some x → ys[j]? = some y → f x y = some (bs.getD j false) := by
  intro xs ys r hl e
  obtain ⟨bs, e1, e2⟩ := allO_get _ _ e
  have hb : bs.length = xs.length := by
    have := congrArg List.length e1
    rw [List.length_map, List.length_zipWith] at this; (first | lia | omega)
  refine ⟨bs, hb, e2, fun j x y hx hy => ?_⟩
  have h1 : j < bs.length := by rw [hb]; exact (List.getElem?_eq_some_iff.mp hx).1
  have := congrArg (fun l => l[j]?) e1
  simp only [List.getElem?_zipWith, List.getElem?_map, hx, hy] at this
  rw [List.getElem?_eq_getElem h1] at this
  rw [Option.some.inj this, List.getD_eq_getElem?_getD, List.getElem?_eq_getElem h1]; rfl
/-- one value gives one answer -/
theorem eqA_same {X Y : Addr → Prop} {h : Heap} (n : Nat) : ∀ {v : Value} {a b c : AV} {r r' : Bool}, Rep X h v a → Rep Y h v b → eqA n a c = some r → eqA n b c = some r' → r = r' := by
    induction n using Nat.strongRecOn with | _ n ih => ?_
    intro v a b c r r' ra rb e e'
    rcases eqA_inv e with ⟨i, j, rfl, rfl, rfl⟩ | ⟨i, j, rfl, rfl, rfl⟩ | ⟨i, j, rfl, rfl, rfl⟩ | ⟨m, xs, ys, rfl, rfl, rfl, e1⟩ <;>
      rcases eqA_inv e' with ⟨i', j', rfl, q, rfl⟩ | ⟨i', j', rfl, q, rfl⟩ | ⟨i', j', rfl, q, rfl⟩ | ⟨m', xs', ys', q', rfl, q, e2⟩ <;> try (exact AV.noConfusion q)
    · obtain ⟨_, rfl⟩ := ra.toInt
      obtain ⟨_, q2⟩ := rb.toInt
      rw [(Value.int.inj q2).1, AV.int.inj q]
    · obtain ⟨_, rfl⟩ := ra.toStr
      obtain ⟨_, q2⟩ := rb.toStr
      have : i = i' := by simpa using (Value.str.inj q2).1
      rw [this, AV.str.inj q]
    · cases ra.toBool
      cases rb.toBool
      rw [AV.bool.inj q]
    · cases q'
      cases q
      obtain ⟨p, vs, rfl, _, ⟨_, l1⟩, q1⟩ := ra.toLst
      obtain ⟨p', vs', q2, _, ⟨_, l2⟩, q3⟩ := rb.toLst
      cases q2
      have hv : vs = vs' := (by simpa using (l1.symm.trans l2) : vs = vs' ∧ _).1
      subst hv
      have h1 := q1.length
      have h3 := q3.length
      by_cases hl : xs.length = ys.length
      · rw [if_pos hl] at e1
        rw [if_pos (by (first | lia | omega))] at e2
        obtain ⟨bs, b1, rfl, b3⟩ := items_eq hl e1
        obtain ⟨bs', b1', rfl, b3'⟩ := items_eq (by (first | lia | omega)) e2
        have : bs = bs' := by
          refine List.ext_getElem? fun j => ?_
          by_cases hj : j < bs.length
          · have hx : j < xs.length := by (first | lia | omega)
            have hx' : j < xs'.length := by (first | lia | omega)
            have hy : j < ys.length := by (first | lia | omega)
            obtain ⟨u, g1, r1⟩ := q1.get (List.getElem?_eq_getElem hx)
            obtain ⟨u', g2, r2⟩ := q3.get (List.getElem?_eq_getElem hx')
            rw [g1] at g2; cases g2
            have := ih m (Nat.lt_succ_self m) r1 r2 (b3 j _ _ (List.getElem?_eq_getElem hx) (List.getElem?_eq_getElem hy)) (b3' j _ _ (List.getElem?_eq_getElem hx') (List.getElem?_eq_getElem hy))
            rw [List.getD_eq_getElem?_getD, List.getD_eq_getElem?_getD, List.getElem?_eq_getElem hj, List.getElem?_eq_getElem (by (first | lia | omega) : j < bs'.length)] at this
            rw [List.getElem?_eq_getElem hj, List.getElem?_eq_getElem (by (first | lia | omega) : j < bs'.length)]
            exact congrArg some this
          · rw [List.getElem?_eq_none (by (first | lia | omega)), List.getElem?_eq_none (by (first | lia | omega))]
        rw [this]
      · rw [if_neg hl] at e1
        rw [if_neg (by (first | lia | omega))] at e2
        rw [← Option.some.inj e1, ← Option.some.inj e2]
theorem eqA_refl {X Y : Addr → Prop} {h : Heap} (n : Nat) : ∀ {v : Value} {a b : AV} {r : Bool}, Rep X h v a → Rep Y h v b → eqA n a b = some r → r = true := by
    induction n using Nat.strongRecOn with | _ n ih => ?_
    intro v a b r ra rb e
    rcases eqA_inv e with ⟨i, j, rfl, rfl, rfl⟩ | ⟨i, j, rfl, rfl, rfl⟩ | ⟨i, j, rfl, rfl, rfl⟩ | ⟨m, xs, ys, rfl, rfl, rfl, e1⟩
    · obtain ⟨_, rfl⟩ := ra.toInt
      obtain ⟨_, q2⟩ := rb.toInt
      exact beq_iff_eq.mpr (Value.int.inj q2).1
    · obtain ⟨_, rfl⟩ := ra.toStr
      obtain ⟨_, q2⟩ := rb.toStr
      have : i = j := by simpa using (Value.str.inj q2).1
      exact beq_iff_eq.mpr this
    · cases ra.toBool
      cases rb.toBool
      exact beq_iff_eq.mpr rfl
    · obtain ⟨p, vs, rfl, _, ⟨_, l1⟩, q1⟩ := ra.toLst
      obtain ⟨p', vs', q2, _, ⟨_, l2⟩, q3⟩ := rb.toLst
      cases q2
      have hv : vs = vs' := (by simpa using (l1.symm.trans l2) : vs = vs' ∧ _).1
      subst hv
      have h1 := q1.length
      have h3 := q3.length
      have hl : xs.length = ys.length := by (first | lia | omega)
      rw [if_pos hl] at e1
      obtain ⟨bs, hb, rfl, hi⟩ := items_eq hl e1
      refine List.all_eq_true.mpr fun c hc => ?_
      obtain ⟨j, hj, rfl⟩ := List.mem_iff_getElem.mp hc
      obtain ⟨v1, g1, r1⟩ := q1.get (List.getElem?_eq_getElem (show j < xs.length by (first | lia | omega)))
      obtain ⟨v2, g2, r2⟩ := q3.get (List.getElem?_eq_getElem (show j < ys.length by (first | lia | omega)))
      rw [g1] at g2; cases g2
      have := ih m (Nat.lt_succ_self m) r1 r2 (hi j _ _ (List.getElem?_eq_getElem _) (List.getElem?_eq_getElem _))
      rwa [List.getD_eq_getElem?_getD, List.getElem?_eq_getElem hj] at this
/-- == is answered by eqA -/
theorem eqAt_ok {X : Addr → Prop} {s : Shared} : ∀ (n : Nat) (A : Around) (v u : Value) (a b : AV) (r : Bool), A.units + n < cLine → Rep X s.heap v a → Rep X s.heap u b → eqA n a b = some r → EqAt A s v u r ∧ RcAt A s v u r := by
    intro n
    induction n using Nat.strongRecOn with | _ n ih => ?_
    intro A v u a b r hu ra rb e
    rcases eqA_inv e with ⟨i, j, rfl, rfl, rfl⟩ | ⟨i, j, rfl, rfl, rfl⟩ | ⟨i, j, rfl, rfl, rfl⟩ | ⟨m, xs, ys, rfl, rfl, rfl, e1⟩
    · obtain ⟨_, rfl⟩ := ra.toInt
      obtain ⟨_, rfl⟩ := rb.toInt
      exact ⟨EqAt.int_int _ _ _ _, fun prog w E Q h => PySem.P.eq_int h⟩
    · obtain ⟨_, rfl⟩ := ra.toStr
      obtain ⟨_, rfl⟩ := rb.toStr
      exact ⟨(PySem.SeqRoads2.EqGives.str _ _ _ _).at A s, fun prog w E Q h => PySem.P.eq_str h⟩
    · cases ra.toBool
      cases rb.toBool
      exact ⟨EqAt.bool_bool _ _, fun prog w E Q h => eq_bool h⟩
    · obtain ⟨p, vs, rfl, nx, lx, qx⟩ := ra.toLst
      obtain ⟨p', vs', rfl, ny, ly, qy⟩ := rb.toLst
      have hlx := qx.length
      have hly := qy.length
      have hrc : RcAt A s (.ref p) (.ref p') r := by
        by_cases hl : xs.length = ys.length
        · rw [if_pos hl] at e1
          obtain ⟨bs, hb, rfl, hi⟩ := items_eq hl e1
          have := RcAt.lists (A := A) (s := s) (e := fun j => bs.getD j false) lx.isList ly.isList (by simp only [List.size_toArray]; (first | lia | omega)) (by (first | lia | omega)) (fun j h1 h2 => ?_)
          · rw [show vs.toArray.size = bs.length by rw [List.size_toArray]; (first | lia | omega)] at this
            rwa [range_all_getD] at this
          · simp only [List.size_toArray] at h1 h2
            obtain ⟨v1, g1, r1⟩ := qx.get (List.getElem?_eq_getElem (show j < xs.length by (first | lia | omega)))
            obtain ⟨v2, g2, r2⟩ := qy.get (List.getElem?_eq_getElem (show j < ys.length by (first | lia | omega)))
            have := (ih m (Nat.lt_succ_self m) A.in1 v1 v2 _ _ _ (by simp only [Around.in1_units]; (first | lia | omega)) r1 r2 (hi j _ _ (List.getElem?_eq_getElem _) (List.getElem?_eq_getElem _))).1
            rw [List.getElem?_eq_getElem h1] at g1
            rw [List.getElem?_eq_getElem h2] at g2
            rw [← Option.some.inj g1, ← Option.some.inj g2] at this
            simpa only [List.getElem_toArray] using this
        · rw [if_neg hl] at e1
          cases e1
          exact RcAt.lists_lengths lx.isList ly.isList (by simp only [List.size_toArray, bne_iff_ne]; (first | lia | omega)) (by (first | lia | omega))
      by_cases hpp : p = p'
      · subst hpp
        have : r = true := eqA_refl (m + 1) (Rep.lst nx lx qx) (Rep.lst ny ly qy) e
        subst this
        exact ⟨EqAt.same _, hrc⟩
      · exact ⟨EqAt.of_refs hpp hrc, hrc⟩
end Mine
-- MP4
set_option maxRecDepth 100000
set_option linter.unusedVariables false
set_option linter.unusedSimpArgs false
namespace Mine
open PySem PySem.Calls PyProof.Rows PySem.SeqAt PySem.MeetsSeq

theorem neAt_ok {A : Around} {X : Addr → Prop} {s : Shared} (n : Nat) (v u : Value) (a b : AV) (r : Bool) (hu : A.units + n < cLine) (ra : Rep X s.heap v a) (rb : Rep X s.heap u b) (e : eqA n a b = some r) : RcNeAt A s v u (!r) := by
  rcases eqA_inv e with ⟨i, j, rfl, rfl, rfl⟩ | ⟨i, j, rfl, rfl, rfl⟩ | ⟨i, j, rfl, rfl, rfl⟩ | ⟨m, xs, ys, rfl, rfl, rfl, e1⟩
  · obtain ⟨_, rfl⟩ := ra.toInt
    obtain ⟨_, rfl⟩ := rb.toInt
    exact RcNeAt.int_int _ _ _ _
  · obtain ⟨_, rfl⟩ := ra.toStr
    obtain ⟨_, rfl⟩ := rb.toStr
    have q : (i == j) = ((⟨i.toArray⟩ : Str) == ⟨j.toArray⟩) := by rw [Bool.eq_iff_iff]; simp
    rw [q]; exact RcNeAt.str_str _ _ _ _
  · cases ra.toBool
    cases rb.toBool
    exact RcNeAt.bool_bool _ _
  · obtain ⟨p, vs, rfl, nx, lx, qx⟩ := ra.toLst
    obtain ⟨p', vs', rfl, ny, ly, qy⟩ := rb.toLst
    have hlx := qx.length
    have hly := qy.length
    by_cases hl : xs.length = ys.length
    · rw [if_pos hl] at e1
      obtain ⟨bs, hb, rfl, hi⟩ := items_eq hl e1
      have := RcNeAt.lists (A := A) (s := s) (e := fun j => bs.getD j false) lx.isList ly.isList (by simp only [List.size_toArray]; (first | lia | omega)) (by (first | lia | omega)) (fun j h1 h2 => ?_)
      · rw [show vs.toArray.size = bs.length by rw [List.size_toArray]; (first | lia | omega)] at this
        rwa [range_all_getD] at this
      · simp only [List.size_toArray] at h1 h2
        obtain ⟨v1, g1, r1⟩ := qx.get (List.getElem?_eq_getElem (show j < xs.length by (first | lia | omega)))
        obtain ⟨v2, g2, r2⟩ := qy.get (List.getElem?_eq_getElem (show j < ys.length by (first | lia | omega)))
        have := (eqAt_ok m A.in1 v1 v2 _ _ _ (by simp only [Around.in1_units]; (first | lia | omega)) r1 r2 (hi j _ _ (List.getElem?_eq_getElem _) (List.getElem?_eq_getElem _))).1
        rw [List.getElem?_eq_getElem h1] at g1
        rw [List.getElem?_eq_getElem h2] at g2
        rw [← Option.some.inj g1, ← Option.some.inj g2] at this
        simpa only [List.getElem_toArray] using this
    · rw [if_neg hl] at e1
      cases e1
      exact RcNeAt.lists_lengths lx.isList ly.isList (by simp only [List.size_toArray, bne_iff_ne]; (first | lia | omega)) (by (first | lia | omega))

section
variable {prog : Program} {w : World} {mg mb : Str → Option Value} {pins : List (Addr × Obj)} {l : Lim}

def eqW (a b : AV) (Q : AV → Prop) : Prop := match eqA 3 a b with | some r => Q (.bool r) | none => False
def neW (a b : AV) (Q : AV → Prop) : Prop := match eqA 3 a b with | some r => Q (.bool (!r)) | none => False
theorem eq_ok : Prim2 prog w mg mb pins l (compareOp .Eq) eqW := by
  refine .mk ?_
  intro A X s va vb a b Q E ao G D ra rb h
  unfold eqW at h
  cases e : eqA 3 a b with
  | none => rw [e] at h; exact h.elim
  | some r => rw [e] at h; exact (eqAt_ok 3 A va vb a b r (by have := ao.units; (first | lia | omega)) ra rb e).2 prog w E _ ⟨Grow.refl _, _, h, .bool _⟩
theorem ne_ok : Prim2 prog w mg mb pins l (compareOp .NotEq) neW := by
  refine .mk ?_
  intro A X s va vb a b Q E ao G D ra rb h
  unfold neW at h
  cases e : eqA 3 a b with
  | none => rw [e] at h; exact h.elim
  | some r => rw [e] at h; exact (neAt_ok 3 va vb a b r (by have := ao.units; (first | lia | omega)) ra rb e) prog w E _ ⟨Grow.refl _, _, h, .bool _⟩
def intW (B : Int → Int → (AV → Prop) → Prop) (a b : AV) (Q : AV → Prop) : Prop := match a, b with | .int x, .int y => B x y Q | _, _ => False
theorem intW_inv {B a b Q} (h : intW B a b Q) : ∃ x y, a = .int x ∧ b = .int y ∧ B x y Q := by
  unfold intW at h
  split at h
  · exact ⟨_, _, rfl, rfl, h⟩
  · exact h.elim
theorem prim_int {f : Value → Value → Sem Value} {B : Int → Int → (AV → Prop) → Prop} (hB : ∀ (A : Around) (X : Addr → Prop) (s : Shared) (x y : Int) (t u : Tok) (Q : AV → Prop) (E : Value → Shared → Prop), AOk pins l A → B x y Q →
    wpAny (model prog w) A (f (.int x t) (.int y u)) (EPost X s Q) E s) : Prim2 prog w mg mb pins l f (intW B) := .mk fun A X s va vb a b Q E ao G D ra rb h => by
  obtain ⟨x, y, rfl, rfl, h⟩ := intW_inv h
  obtain ⟨t, rfl⟩ := ra.toInt
  obtain ⟨u, rfl⟩ := rb.toInt
  exact hB A X s x y t u Q E ao h
def ltW (a b : AV) (Q : AV → Prop) : Prop := match a, b with | .int x, .int y => Q (.bool (decide (x < y))) | _, _ => False
def gtW (a b : AV) (Q : AV → Prop) : Prop := match a, b with | .int x, .int y => Q (.bool (decide (x > y))) | _, _ => False
theorem lt_ok : Prim2 prog w mg mb pins l (compareOp .Lt) ltW := prim_int (B := fun x y Q => Q (.bool (decide (x < y)))) fun _ _ _ x y _ _ _ _ _ h => PySem.P.lt_int ⟨Grow.refl _, _, h, .bool _⟩
theorem gt_ok : Prim2 prog w mg mb pins l (compareOp .Gt) gtW := prim_int (B := fun x y Q => Q (.bool (decide (x > y)))) fun _ _ _ x y _ _ _ _ _ h => PySem.P.gt_int ⟨Grow.refl _, _, h, .bool _⟩
/-- is not None -/
def isNotW (a b : AV) (Q : AV → Prop) : Prop := match a, b with
  | .none, .none => Q (.bool false)
  | .str _, .none => Q (.bool true)
  | _, _ => False
theorem isNot_ok : Prim2 prog w mg mb pins l (compareOp .IsNot) isNotW := .mk fun A X s va vb a b Q E ao G D ra rb h => by
  cases a <;> try exact h.elim
  · cases b <;> try exact h.elim
    cases ra.toNone
    cases rb.toNone
    exact wpAny_isNot_self rfl ⟨Grow.refl _, _, h, .bool _⟩
  · cases b <;> try exact h.elim
    obtain ⟨t, rfl⟩ := ra.toStr
    cases rb.toNone
    exact wpAny_isNot_other rfl (by simp) ⟨Grow.refl _, _, h, .bool _⟩

/-- in a list, a tuple -/
def anyO (f : AV → Option Bool) : List AV → Option Bool
  | [] => some false
  | x :: r => match f x, anyO f r with | some b, some c => some (b || c) | _, _ => none
def inA (a b : AV) : Option Bool := match b with
  | .lst xs => anyO (fun x => eqA 2 x a) xs
  | .tup xs => anyO (fun x => eqA 2 x a) xs
  | _ => none
theorem anyO_mem {f : AV → Option Bool} : ∀ {xs : List AV} {r : Bool}, anyO f xs = some r → ∀ x ∈ xs, ∃ b, f x = some b
  | [], _, _, x, hx => nomatch hx
  | y :: xs, r, e, x, hx => by
    simp only [anyO] at e
    split at e
    · rename_i b c e1 e2
      rcases List.mem_cons.mp hx with rfl | hx
      · exact ⟨b, e1⟩
      · exact anyO_mem e2 x hx
    · cases e
theorem anyO_map {f : AV → Option Bool} (g : Value → Bool) {X : Addr → Prop} {h : Heap} (hg : ∀ v x b, Rep X h v x → f x = some b → g v = b) : ∀ {vs : List Value} {xs : List AV} {r : Bool}, RepL X h vs xs → anyO f xs = some r → vs.any g = r
  | _, _, r, .nil, e => by simp [anyO] at e; simp [e]
  | _, _, r, .cons x q, e => by
    simp only [anyO] at e
    split at e
    · rename_i b c e1 e2
      cases e
      rw [List.any_cons, hg _ _ b x e1, anyO_map g hg q e2]
    · cases e
theorem RepL.mem {X : Addr → Prop} {h : Heap} : ∀ {vs xs}, RepL X h vs xs → ∀ v ∈ vs, ∃ x ∈ xs, Rep X h v x
  | _, _, .nil, v, hv => nomatch hv
  | _, _, .cons x r, v, hv => by
    rcases List.mem_cons.mp hv with rfl | hv
    · exact ⟨_, .head _, x⟩
    · obtain ⟨y, hy, q⟩ := RepL.mem r v hv; exact ⟨y, .tail _ hy, q⟩
open Classical in
noncomputable def eqOf (X : Addr → Prop) (h : Heap) (a : AV) (v : Value) : Bool := if hx : ∃ b x, Rep X h v x ∧ eqA 2 x a = some b then hx.choose else false
theorem eqOf_eq {X : Addr → Prop} {h : Heap} {a x : AV} {v : Value} {b : Bool} (r : Rep X h v x) (e : eqA 2 x a = some b) : eqOf X h a v = b := by
  have hx : ∃ b x, Rep X h v x ∧ eqA 2 x a = some b := ⟨b, x, r, e⟩
  unfold eqOf
  rw [dif_pos hx]
  obtain ⟨x', r', e'⟩ := hx.choose_spec
  exact eqA_same 2 r' r e' e
theorem in_facts {A : Around} {X : Addr → Prop} {s : Shared} {vs : List Value} {xs : List AV} {u : Value} {a : AV} {r : Bool} (hu : A.units + 5 < cLine) (q : RepL X s.heap vs xs) (ra : Rep X s.heap u a)
    (e : anyO (fun x => eqA 2 x a) xs = some r) : (∀ y, y ∈ vs.toArray → EqAt A.in1 s y u (eqOf X s.heap a y)) ∧ vs.toArray.any (eqOf X s.heap a) = r := by
  refine ⟨fun y hy => ?_, ?_⟩
  · obtain ⟨x, hx, rx⟩ := q.mem y (by simpa using hy)
    obtain ⟨b, hb⟩ := anyO_mem e x hx
    rw [eqOf_eq rx hb]
    exact (eqAt_ok 2 A.in1 y u x a b (by simp only [Around.in1_units]; (first | lia | omega)) rx ra hb).1
  · rw [← Array.any_toList]
    exact anyO_map _ (fun v x b rx hb => eqOf_eq rx hb) q e
def inW (a b : AV) (Q : AV → Prop) : Prop := match inA a b with | some r => Q (.bool r) | none => False
def notInW (a b : AV) (Q : AV → Prop) : Prop := match inA a b with | some r => Q (.bool (!r)) | none => False
theorem TupX.isTuple {h : Heap} {a : Addr} {items} (x : TupX h a items) : h.IsTuple a items := let ⟨n, y⟩ := x; ⟨_, y, rfl, n, rfl⟩
theorem inA_inv {a b : AV} {r : Bool} (e : inA a b = some r) : (∃ xs, b = .lst xs ∧ anyO (fun x => eqA 2 x a) xs = some r) ∨ ∃ xs, b = .tup xs ∧ anyO (fun x => eqA 2 x a) xs = some r := by
  cases b with
  | tup xs => exact .inr ⟨_, rfl, e⟩
  | lst xs => exact .inl ⟨_, rfl, e⟩
  | _ => cases e
theorem in_ok : Prim2 prog w mg mb pins l (compareOp .In) inW := .mk fun A X s va vb a b Q E ao G D ra rb h => by
  unfold inW at h
  have hu : A.units + 5 < cLine := by have := ao.units; (first | lia | omega)
  cases e : inA a b with
  | none => rw [e] at h; exact h.elim
  | some r =>
    rw [e] at h
    rcases inA_inv e with ⟨xs, rfl, e⟩ | ⟨xs, rfl, e⟩
    · obtain ⟨p, vs, rfl, _, x, q⟩ := rb.toLst
      obtain ⟨k1, k2⟩ := in_facts hu q ra e; exact in_listAt _ x.isList k1 (by rw [k2]; exact ⟨Grow.refl _, _, h, .bool _⟩)
    · obtain ⟨p, vs, rfl, _, x, q⟩ := rb.toTup
      obtain ⟨k1, k2⟩ := in_facts hu q ra e; exact in_tupleAt _ x.isTuple k1 (by rw [k2]; exact ⟨Grow.refl _, _, h, .bool _⟩)
theorem notIn_ok : Prim2 prog w mg mb pins l (compareOp .NotIn) notInW := .mk fun A X s va vb a b Q E ao G D ra rb h => by
  unfold notInW at h
  have hu : A.units + 5 < cLine := by have := ao.units; (first | lia | omega)
  cases e : inA a b with
  | none => rw [e] at h; exact h.elim
  | some r =>
    rw [e] at h
    rcases inA_inv e with ⟨xs, rfl, e⟩ | ⟨xs, rfl, e⟩
    · obtain ⟨p, vs, rfl, _, x, q⟩ := rb.toLst
      obtain ⟨k1, k2⟩ := in_facts hu q ra e; exact notIn_listAt _ x.isList k1 (by rw [k2]; exact ⟨Grow.refl _, _, h, .bool _⟩)
    · obtain ⟨p, vs, rfl, _, x, q⟩ := rb.toTup
      obtain ⟨k1, k2⟩ := in_facts hu q ra e; exact notIn_tupleAt _ x.isTuple k1 (by rw [k2]; exact ⟨Grow.refl _, _, h, .bool _⟩)

def Small (i : Int) : Prop := i.natAbs < 2 ^ 64
theorem mulOk {a b : Int} (h : Small a ∨ Small b) : IntMulOk a b := h.elim (fun x => .of_left (intBits_le x)) (fun x => .of_right (intBits_le x))

def addW (a b : AV) (Q : AV → Prop) : Prop := match a, b with
  | .int x, .int y => Q (.int (x + y))
  | .str x, .str y => x.length + y.length ≤ 100000 ∧ Q (.str (x ++ y))
  | .lst x, .lst y => x.length + y.length ≤ 100000 ∧ Q (.lst (x ++ y))
  | .tup x, .tup y => x ≠ [] ∧ y ≠ [] ∧ x.length + y.length ≤ 100000 ∧ Q (.tup (x ++ y))
  | _, _ => False
theorem fresh_of {X : Addr → Prop} {h : Heap} (D : ∀ a, X a → ∃ o, h.get? a = some o) : ¬ X h.objs.size := fun x => by obtain ⟨o, e⟩ := D _ x; exact absurd (Heap.lt_size e) (Nat.lt_irrefl _)
theorem RepL.ne_nil {X : Addr → Prop} {h : Heap} {vs xs} (q : RepL X h vs xs) (n : xs ≠ []) : vs ≠ [] := fun e => by
  subst e
  have := q.length
  exact n (List.length_eq_zero_iff.mp this.symm)
theorem add_ok : Prim2 prog w mg mb pins l (binaryOp .Add) addW := .mk fun A X s va vb a b Q E ao G D ra rb h => by
  have hf := fresh_of D
  cases a <;> try exact h.elim
  · cases b <;> try exact h.elim
    obtain ⟨t, rfl⟩ := ra.toInt
    obtain ⟨u, rfl⟩ := rb.toInt
    exact PySem.P.add_int ⟨Grow.tok _ _, _, h, .int _ _⟩
  · rename_i x
    cases b <;> try exact h.elim
    rename_i y
    obtain ⟨t, rfl⟩ := ra.toStr
    obtain ⟨u, rfl⟩ := rb.toStr
    refine PyProof.Rows.add_str (fun t' tk => ⟨Grow.tok _ _, _, h.2, ?_⟩) (by have := h.1; simp only [Str.length, List.size_toArray, sizeLine_eq]; (first | lia | omega))
    have : (⟨x.toArray⟩ : Str) ++ ⟨y.toArray⟩ = ⟨(x ++ y).toArray⟩ := by show Str.append _ _ = _; simp [Str.append]
    rw [this]; exact .str _ _
  · cases b <;> try exact h.elim
    obtain ⟨p, vs, rfl, _, ⟨_, x1⟩, q1⟩ := ra.toTup
    obtain ⟨p', vs', rfl, _, ⟨_, x2⟩, q2⟩ := rb.toTup
    have h1 := q1.length
    have h2 := q2.length
    refine PySem.P.add_tuple x1 x2 (by simpa using q1.ne_nil h.1) (by simpa using q2.ne_nil h.2.1) ⟨Grow.push _ _, _, h.2.2.2, .tup hf ⟨0, ?_⟩ ((q1.append q2).keep (Grow.push _ _).2)⟩ (by have := h.2.2.1; simp only [List.size_toArray, sizeLine_eq]; (first | lia | omega))
    simpa using IsT.new s.heap _
  · cases b <;> try exact h.elim
    obtain ⟨p, vs, rfl, _, ⟨_, x1⟩, q1⟩ := ra.toLst
    obtain ⟨p', vs', rfl, _, ⟨_, x2⟩, q2⟩ := rb.toLst
    have h1 := q1.length
    have h2 := q2.length
    refine PySem.P.add_list x1 x2 ⟨Grow.push _ _, _, h.2, .lst hf ⟨0, ?_⟩ ((q1.append q2).keep (Grow.push _ _).2)⟩ (by have := h.1; simp only [List.size_toArray, sizeLine_eq]; (first | lia | omega))
    simpa using IsL.new s.heap _
def subW (a b : AV) (Q : AV → Prop) : Prop := match a, b with | .int x, .int y => Q (.int (x - y)) | _, _ => False
theorem sub_ok : Prim2 prog w mg mb pins l (binaryOp .Sub) subW := prim_int (B := fun x y Q => Q (.int (x - y))) fun _ _ _ x y _ _ _ _ _ h => PySem.P.sub_int ⟨Grow.tok _ _, _, h, .int _ _⟩
def divW (a b : AV) (Q : AV → Prop) : Prop := match a, b with | .int x, .int y => 0 < y ∧ y < 1073741825 ∧ Q (.int (x / y)) | _, _ => False
theorem fdiv_pos {x y : Int} (h : 0 < y) : x.fdiv y = x / y := Int.fdiv_eq_ediv_of_nonneg _ (by (first | lia | omega))
theorem fmod_pos {x y : Int} (h : 0 < y) : x.fmod y = x % y := Int.fmod_eq_emod_of_nonneg _ (by (first | lia | omega))
theorem noPyl {x y : Int} (h : y.natAbs < 2 ^ 64) : Builtin.divisionGoesByPylong x y = false := PyProof.noPylong_of_log2 (by
  by_cases h0 : y.natAbs = 0
  · rw [h0]; decide
  · have : y.natAbs.log2 < 64 := (Nat.log2_lt h0).mpr h
    (first | lia | omega))
theorem small_y {y : Int} (h : 0 < y) (h' : y < 1073741825) : y.natAbs < 2 ^ 64 := by (first | lia | omega)
theorem div_ok : Prim2 prog w mg mb pins l (binaryOp .FloorDiv) divW := prim_int (B := fun x y Q => 0 < y ∧ y < 1073741825 ∧ Q (.int (x / y))) fun _ _ _ x y _ _ _ _ _ h => PyProof.Rows.floordiv_int (Int.ne_of_gt h.1) (by rw [fdiv_pos h.1]; exact ⟨Grow.tok _ _, _, h.2.2, .int _ _⟩) (.inl (noPyl (small_y h.1 h.2.1)))
def modW (a b : AV) (Q : AV → Prop) : Prop := match a, b with | .int x, .int y => 0 < y ∧ Q (.int (x % y)) | _, _ => False
theorem mod_ok : Prim2 prog w mg mb pins l (binaryOp .Mod) modW := prim_int (B := fun x y Q => 0 < y ∧ Q (.int (x % y))) fun _ _ _ x y _ _ _ _ _ h => PyProof.Rows.mod_int' (Int.ne_of_gt h.1) (by rw [fmod_pos h.1]; exact ⟨Grow.tok _ _, _, h.2, .int _ _⟩)
def shlW (a b : AV) (Q : AV → Prop) : Prop := match a, b with | .int x, .int y => 0 ≤ y ∧ y ≤ 1000 ∧ Small x ∧ Q (.int (x * 2 ^ y.toNat)) | _, _ => False
theorem le_1000 {y : Int} (h : y ≤ 1000) : y ≤ 1000000 := Int.le_trans h (by decide)
theorem shl_ok : Prim2 prog w mg mb pins l (binaryOp .LShift) shlW := prim_int (B := fun x y Q => 0 ≤ y ∧ y ≤ 1000 ∧ Small x ∧ Q (.int (x * 2 ^ y.toNat))) fun _ _ _ x y _ _ _ _ _ h => lshift_int_small h.1 (le_1000 h.2.1) h.2.2.1 ⟨Grow.tok _ _, _, h.2.2.2, .int _ _⟩
def shrW (a b : AV) (Q : AV → Prop) : Prop := match a, b with | .int x, .int y => 0 ≤ y ∧ Q (.int (x / 2 ^ y.toNat)) | _, _ => False
theorem shr_ok : Prim2 prog w mg mb pins l (binaryOp .RShift) shrW := prim_int (B := fun x y Q => 0 ≤ y ∧ Q (.int (x / 2 ^ y.toNat))) fun _ _ _ x y _ _ _ _ _ h => PyProof.Rows.rshift_int h.1 (by rw [fdiv_pos (Int.pow_pos (by decide))]; exact ⟨Grow.tok _ _, _, h.2, .int _ _⟩)
def powW (a b : AV) (Q : AV → Prop) : Prop := match a, b with | .int x, .int y => 0 ≤ y ∧ y ≤ 1000 ∧ Small x ∧ Q (.int (x ^ y.toNat)) | _, _ => False
theorem pow_ok : Prim2 prog w mg mb pins l (binaryOp .Pow) powW := prim_int (B := fun x y Q => 0 ≤ y ∧ y ≤ 1000 ∧ Small x ∧ Q (.int (x ^ y.toNat))) fun _ _ _ x y _ _ _ _ _ h => pow_int_small h.1 (le_1000 h.2.1) h.2.2.1 ⟨Grow.tok _ _, _, h.2.2.2, .int _ _⟩
def andW (a b : AV) (Q : AV → Prop) : Prop := match a, b with | .int x, .int y => Q (.int (Builtin.bitAnd x y)) | _, _ => False
def orW (a b : AV) (Q : AV → Prop) : Prop := match a, b with | .int x, .int y => Q (.int (Builtin.bitOr x y)) | _, _ => False
def xorW (a b : AV) (Q : AV → Prop) : Prop := match a, b with | .int x, .int y => Q (.int (Builtin.bitXor x y)) | _, _ => False
theorem and_ok : Prim2 prog w mg mb pins l (binaryOp .BitAnd) andW := prim_int (B := fun x y Q => Q (.int (Builtin.bitAnd x y))) fun _ _ _ x y _ _ _ _ _ h => PyProof.Rows.and_int ⟨Grow.tok _ _, _, h, .int _ _⟩
def mulW (a b : AV) (Q : AV → Prop) : Prop := match a, b with
  | .int x, .int y => (Small x ∨ Small y) ∧ Q (.int (x * y))
  | .lst xs, .int y => 0 ≤ y ∧ xs.length * y.toNat ≤ 10000 ∧ xs.length ≤ 10000 ∧ y ≤ 10000 ∧ Q (.lst (List.replicate y.toNat xs).flatten)
  | _, _ => False
theorem foldl_arr (l : List (Array Value)) : ∀ acc : Array Value, (List.foldl (fun x1 x2 => x1 ++ x2) acc l).toList = acc.toList ++ (l.map Array.toList).flatten := by
  induction l with
  | nil => intro acc; simp
  | cons x r ih => intro acc; rw [List.foldl_cons, ih]; simp
theorem RepL.replicate {X : Addr → Prop} {h : Heap} {vs xs} (q : RepL X h vs xs) : ∀ n : Nat, RepL X h (List.replicate n vs).flatten (List.replicate n xs).flatten
  | 0 => .nil
  | n + 1 => by simp only [List.replicate_succ, List.flatten_cons]; exact q.append (RepL.replicate q n)
theorem mul_ok : Prim2 prog w mg mb pins l (binaryOp .Mult) mulW := .mk fun A X s va vb a b Q E ao G D ra rb h => by
  have hf := fresh_of D
  cases a <;> try exact h.elim
  · cases b <;> try exact h.elim
    obtain ⟨t, rfl⟩ := ra.toInt
    obtain ⟨u, rfl⟩ := rb.toInt
    exact PySem.P.mul_int ⟨Grow.tok _ _, _, h.2, .int _ _⟩ (mulOk h.1)
  · rename_i xs
    cases b <;> try exact h.elim
    rename_i x
    obtain ⟨p, vs, rfl, _, ⟨k, hl⟩, q1⟩ := ra.toLst
    obtain ⟨u, rfl⟩ := rb.toInt
    have hlen := q1.length
    obtain ⟨h0, h1, h2, h3, h4⟩ := h
    refine wpAny_binaryOp_repeat_ref (T := "list") (U := "int") (by decide) ⟨_, hl, rfl⟩ (fun s' => typeIs_int s' x u) noFill_list_mul F.fills_int_mul F.slot_int_rmul repeat_list F.slot_int_index.lookup
      (call_meets F.slot_int_rmul (typeIs_int s x u) F.entry_int_rmul (F.args_int_rmul_2 _ _) (int___rmul___int_list x u p vs.toArray k)
        ⟨hl, rfl, ⟨_, hl, rfl⟩, call_meets F.slot_list_mul ⟨_, hl, rfl⟩ F.entry_list_mul (F.args_list_mul_2 _ _)
          (AutoListH.list___mul___list_int_3 p vs.toArray k x u (by simp [Builtin.List.listFitsIndex]; (first | lia | omega)) (by simp only [List.size_toArray, hlen]; (first | lia | omega)) (by simp only [Builtin.List.listTooLong, sizeLine, List.size_toArray, hlen]; simp; (first | lia | omega)))
          ⟨hl, Grow.push _ _, _, h4, .lst hf ⟨0, ?_⟩ ((q1.replicate x.toNat).keep (Grow.push _ _).2)⟩⟩)
    have : (List.foldl (fun x1 x2 => x1 ++ x2) #[] (List.replicate (if vs.toArray.isEmpty = true then 0 else x.toNat) vs.toArray)) = (List.replicate x.toNat vs).flatten.toArray := by
      rw [← Array.toList_inj, foldl_arr]
      split
      · rename_i he
        have : vs = [] := by simpa using he
        subst this; simp
      · simp
    rw [this]
    exact IsL.new _ _
end
end Mine
-- MP5
set_option maxRecDepth 100000
set_option linter.unusedVariables false
set_option linter.unusedSimpArgs false
namespace Mine
open PySem PySem.Calls PyProof.Rows PySem.SeqAt PySem.MeetsSeq PySem.StrLaws

def getA {α : Type} (xs : List α) (k : Int) : Option α := (seqIndex? k xs.length).bind (xs[·]?)
theorem seqIndex_bounds {k : Int} {n j : Nat} (h : seqIndex? k n = some j) : -(n : Int) ≤ k ∧ k < n ∧ j < n := by
  simp only [seqIndex?] at h
  by_cases hk : k < 0
  · simp only [hk, if_true] at h
    split at h
    · rename_i hc; simp only [Bool.and_eq_true, decide_eq_true_eq] at hc; simp only [Option.some.injEq] at h; (first | lia | omega)
    · cases h
  · simp only [hk, if_false] at h
    split at h
    · rename_i hc; simp only [Bool.and_eq_true, decide_eq_true_eq] at hc; simp only [Option.some.injEq] at h; (first | lia | omega)
    · cases h

section
variable {prog : Program} {w : World} {mg mb : Str → Option Value} {pins : List (Addr × Obj)} {l : Lim} {sc : Scope} {nm : List Str}

/-- an item -/
def itemW (a i : AV) (Q : AV → Prop) : Prop := match a, i with
  | .tup xs, .int k => xs.length ≤ 100000 ∧ match getA xs k with | some x => Q x | none => False
  | .lst xs, .int k => xs.length ≤ 100000 ∧ match getA xs k with | some x => Q x | none => False
  | .str s, .int k => s.length ≤ 100000 ∧ match getA s k with | some c => Q (.str [c]) | none => False
  | _, _ => False
theorem getItem_listX {A : Around} {X : Addr → Prop} {s : Shared} {p : Addr} {vs : List Value} {xs : List AV} {k : Int} {t : Tok} {x : AV} {Q : AV → Prop} {E : Value → Shared → Prop} (hl : LstX s.heap p vs.toArray) (q : RepL X s.heap vs xs)
    (hb : xs.length ≤ 100000) (e : getA xs k = some x) (h : Q x) : wpAny (model prog w) A (getItem (.ref p) (.int k t)) (EPost X s Q) E s := by
  unfold getA at e
  have hlen := q.length
  cases hj : seqIndex? k xs.length with
  | none => rw [hj] at e; simp at e
  | some j =>
    rw [hj] at e
    simp only [Option.bind_some] at e
    obtain ⟨v, gv, rv⟩ := q.get e
    obtain ⟨b1, b2, b3⟩ := seqIndex_bounds hj
    by_cases h0 : 0 ≤ k
    · refine wpAny_getItem_list hl.isList h0 (by (first | lia | omega)) (x := v) ?_ ⟨Grow.refl _, _, h, rv⟩
      rw [seqIndex_of h0 b2] at hj
      cases hj
      simpa using gv
    · refine wpAny_getItem_list_neg hl.isList (by (first | lia | omega)) (by simp; (first | lia | omega)) (by (first | lia | omega)) (x := v) ?_ ⟨Grow.refl _, _, h, rv⟩
      rw [PySem.seqIndex_neg (by (first | lia | omega)) b1] at hj
      cases hj
      simp only [List.size_toArray, List.getElem?_toArray, hlen]
      exact gv
/-- what an answer of itemW tells -/
theorem itemW_inv {a i : AV} {Q : AV → Prop} (h : itemW a i Q) : ∃ k, i = .int k ∧ ((∃ xs x, a = .tup xs ∧ xs.length ≤ 100000 ∧ getA xs k = some x ∧ Q x) ∨ (∃ xs x, a = .lst xs ∧ xs.length ≤ 100000 ∧ getA xs k = some x ∧ Q x) ∨ ∃ s c, a = .str s ∧ s.length ≤ 100000 ∧ getA s k = some c ∧ Q (.str [c])) := by
  cases a with
  | tup xs =>
    cases i with
    | int k =>
      obtain ⟨hb, h⟩ := h
      cases e : getA xs k with
      | none => rw [e] at h; exact h.elim
      | some x => rw [e] at h; exact ⟨_, rfl, .inl ⟨_, _, rfl, hb, e, h⟩⟩
    | _ => exact h.elim
  | lst xs =>
    cases i with
    | int k =>
      obtain ⟨hb, h⟩ := h
      cases e : getA xs k with
      | none => rw [e] at h; exact h.elim
      | some x => rw [e] at h; exact ⟨_, rfl, .inr (.inl ⟨_, _, rfl, hb, e, h⟩)⟩
    | _ => exact h.elim
  | str s =>
    cases i with
    | int k =>
      obtain ⟨hb, h⟩ := h
      cases e : getA s k with
      | none => rw [e] at h; exact h.elim
      | some x => rw [e] at h; exact ⟨_, rfl, .inr (.inr ⟨_, _, rfl, hb, e, h⟩)⟩
    | _ => exact h.elim
  | _ => exact h.elim
theorem getItem_ok : Prim2 prog w mg mb pins l getItem itemW := .mk fun A X s va vb a b Q E ao G D ra rb h => by
  obtain ⟨k, rfl, h'⟩ := itemW_inv h
  clear h
  obtain ⟨u, rfl⟩ := rb.toInt
  rcases h' with ⟨xs, c, rfl, hb, e, h⟩ | ⟨xs, c, rfl, hb, e, h⟩ | ⟨x, c, rfl, hb, e, h⟩
  · obtain ⟨p, vs, rfl, _, x, q⟩ := ra.toTup
    unfold getA at e
    have hlen := q.length
    cases hj : seqIndex? k xs.length with
    | none => rw [hj] at e; cases e
    | some j =>
      obtain ⟨b1, b2, b3⟩ := seqIndex_bounds hj
      rw [hj] at e
      obtain ⟨v, gv, rv⟩ := q.get (i := j) e
      exact PyProof.Rows.getItem_tuple x.isTup (by (first | lia | omega)) (by (first | lia | omega)) (by simp only [List.size_toArray, hlen]; exact hj) (by simpa using gv) ⟨Grow.refl _, _, h, rv⟩
  · obtain ⟨p, vs, rfl, _, x, q⟩ := ra.toLst
    exact getItem_listX x q hb e h
  · obtain ⟨t, rfl⟩ := ra.toStr
    unfold getA at e
    cases hj : seqIndex? k x.length with
    | none => rw [hj] at e; cases e
    | some j =>
      obtain ⟨b1, b2, b3⟩ := seqIndex_bounds hj
      refine PySem.P.getItem_str (c := c) (by simp; (first | lia | omega)) ?_ ⟨Grow.tok _ _, _, h, .str [c] _⟩
      simp only [Str.length, List.size_toArray]
      rw [hj] at e ⊢
      simpa using e

theorem item_type {X : Addr → Prop} {s : Shared} {v : Value} {a i : AV} {Q : AV → Prop} (r : Rep X s.heap v a) (h : itemW a i Q) : ∃ T id, s.TypeIs v T ∧ typeLookup (.type T) "__getitem__" = pure (some (.builtin id)) := by
  obtain ⟨k, rfl, h'⟩ := itemW_inv h
  rcases h' with ⟨xs, c, rfl, _⟩ | ⟨xs, c, rfl, _⟩ | ⟨x, c, rfl, _⟩
  · obtain ⟨p, vs, rfl, _, ⟨_, x⟩, q⟩ := r.toTup; exact ⟨"tuple", _, ⟨_, x, rfl⟩, slot_tuple_getitem.lookup⟩
  · obtain ⟨p, vs, rfl, _, ⟨_, x⟩, q⟩ := r.toLst; exact ⟨"list", _, ⟨_, x, rfl⟩, PySem.slot_list_getitem.lookup⟩
  · obtain ⟨t, rfl⟩ := r.toStr; exact ⟨"str", _, typeIs_str _ _ _, slot_str_getitem.lookup⟩

theorem semE_sub {value slice pos W1 W2} (h1 : SemE prog w mg mb pins l sc nm value W1) (h2 : SemE prog w mg mb pins l sc nm slice W2)
    (hs : ∀ o i, subscripted slice false o i = operate [o, i] (getItem o i) := by intros; with_unfolding_all rfl) :
    SemE prog w mg mb pins l sc nm (.Subscript value slice pos) (fun σ Q => W1 σ fun a => W2 σ fun i => itemW a i Q) := by
  refine .mk ?_
  intro A env X σ s Q E a eo R hq
  refine Subscript_ (wpAny_mono (h1.it A env X σ s _ E a eo R hq) (fun v s₁ hpat => ?_) fun _ _ x => x)
  obtain ⟨g1, x, hx, rx⟩ := hpat
  refine wpAny_mono (h2.it A env X σ s₁ _ E a eo (R.keep g1.2) hx) (fun u s₂ hpat => ?_) fun _ _ x => x
  obtain ⟨g2, y, hy, ry⟩ := hpat
  have R2 := R.keep (g1.trans g2).2
  obtain ⟨T, id, hT, hl⟩ := item_type (rx.keep g2.2) hy
  refine tail_any hT hl ?_ (hs _ _)
  exact wpAny_mono (getItem_ok.it A X s₂ v u x y Q E a R2.gl R2.dom (rx.keep g2.2) ry hy) (fun z s₃ ⟨g3, c, hc, rc⟩ => ⟨(g1.trans g2).trans g3, c, hc, rc⟩) fun _ _ x => x

/-- x[i] where x may be a list of the frame's own -/
def LV.seq : LV → (AV → Prop) → Prop
  | .val a, Q => Q a
  | .own xs, Q => Q (.lst xs)
  | _, _ => False
theorem semE_subVar {x p slice pos k W2} (hx : Ix nm k x) (h2 : SemE prog w mg mb pins l sc nm slice W2)
    (hs : ∀ o i, subscripted slice false o i = operate [o, i] (getItem o i) := by intros; with_unfolding_all rfl)
    (hd : (x == ("__debug__" : Str)) = false := by decide +kernel) (hc : (x == ("__classdict__" : Str)) = false := by decide +kernel) :
    SemE prog w mg mb pins l sc nm (.Subscript (.Name x p) slice pos) (fun σ Q => (σ.getD k .unset).seq fun a => W2 σ fun i => itemW a i Q) := by
  refine .mk ?_
  intro A env X σ s Q E a eo R hq
  have hv := R.var k x hx.get
  cases e : σ.getD k .unset with
  | val v => refine (semE_sub (semE_var hx hd hc) h2 hs).it A env X σ s Q E a eo R ?_; unfold varW; rw [e] at hq ⊢; exact hq
  | own xs =>
    rw [e] at hq hv
    obtain ⟨p, vs, r, hX, hl, q⟩ := hv
    refine Subscript_ (load_of_reads eo.fn r ?_ hd hc)
    refine wpAny_mono (h2.it A env X σ s _ E a eo R hq) (fun u s₂ hpat => ?_) fun _ _ x => x
    obtain ⟨g2, y, hy, ry⟩ := hpat
    have hl2 : LstX s₂.heap p vs.toList.toArray := by obtain ⟨n, hl⟩ := hl; exact ⟨n, by simpa using g2.2 _ _ hl⟩
    refine tail_any hl2.isList.typeIs PySem.slot_list_getitem.lookup ?_ (hs _ _)
    obtain ⟨i, rfl, hy'⟩ := itemW_inv hy
    clear hy
    obtain ⟨t, rfl⟩ := ry.toInt
    rcases hy' with ⟨_, _, e, _⟩ | ⟨xs', c, e, hb, e', hy⟩ | ⟨_, _, e, _⟩
    · exact AV.noConfusion e
    · cases e
      exact wpAny_mono (getItem_listX hl2 (q.keep g2.2) hb e' hy) (fun z s₃ ⟨g3, c, hc, rc⟩ => ⟨g2.trans g3, c, hc, rc⟩) fun _ _ x => x
    · exact AV.noConfusion e
  | _ => rw [e] at hq; exact hq.elim

/-- a text's slice -/
def fromW (a i : AV) (Q : AV → Prop) : Prop := match a, i with
  | .str s, .int k => 0 ≤ k ∧ k ≤ s.length ∧ s.length ≤ 100000 ∧ Q (.str (s.drop k.toNat))
  | _, _ => False
def toW (a i : AV) (Q : AV → Prop) : Prop := match a, i with
  | .str s, .none => s.length ≤ 100000 ∧ Q (.str s)
  | .str s, .int k => k < 0 ∧ -(s.length : Int) ≤ k ∧ s.length ≤ 100000 ∧ Q (.str (s.take (s.length + k).toNat))
  | _, _ => False
theorem made_post {X : Addr → Prop} {x : Str} {t : Tok} {lo hi : Option (Int × Tok)} {s : Shared} {Q : AV → Prop} {r : List Nat} {s₀ : Shared} (g : Grow s₀ s) (e : sliceText x (lo.map (·.1)) (hi.map (·.1)) = ⟨r.toArray⟩) (hl : r.length ≤ 100000) (h : Q (.str r)) :
    (sliceMade x t lo hi none).post (EPost X s₀ Q) s := by
  by_cases hc : (Builtin.Str.strSliceIndices (lo.map (·.1)) (hi.map (·.1)) 1 x.length).length = x.length
  · have c : ((1 : Int) == 1 && (Builtin.Str.strSliceIndices (lo.map (·.1)) (hi.map (·.1)) 1 x.length).length == x.length) = true := by rw [hc]; simp
    have e1 : sliceMade x t lo hi none = .val (.str x t) := if_pos c
    have e2 : sliceText x (lo.map (·.1)) (hi.map (·.1)) = x := if_pos c
    rw [e1]
    rw [e2] at e
    subst e
    exact ⟨g, _, h, .str _ _⟩
  · have c : ¬ ((1 : Int) == 1 && (Builtin.Str.strSliceIndices (lo.map (·.1)) (hi.map (·.1)) 1 x.length).length == x.length) = true := by
      intro q; rw [Bool.and_eq_true] at q; exact hc (beq_iff_eq.mp q.2)
    have e1 : sliceMade x t lo hi none = .str ⟨((Builtin.Str.strSliceIndices (lo.map (·.1)) (hi.map (·.1)) 1 x.length).filterMap (x.cps[·]?)).toArray⟩ := if_neg c
    have e2 : sliceText x (lo.map (·.1)) (hi.map (·.1)) = ⟨((Builtin.Str.strSliceIndices (lo.map (·.1)) (hi.map (·.1)) 1 x.length).filterMap (x.cps[·]?)).toArray⟩ := if_neg c
    rw [e1]
    rw [e2] at e
    rw [e]
    exact ⟨by simp only [Str.length, List.size_toArray, sizeLine_eq]; (first | lia | omega), g.toks _, _, h, .str _ _⟩
theorem semE_from {value lo p pos W1 W2} (h1 : SemE prog w mg mb pins l sc nm value W1) (h2 : SemE prog w mg mb pins l sc nm lo W2) (ht : ∀ o r, letTemporaryGo value o r = pure () := by intro _ _; rfl) :
    SemE prog w mg mb pins l sc nm (.Subscript value (.Slice (some lo) none none p) pos) (fun σ Q => W1 σ fun a => W2 σ fun i => fromW a i Q) := by
  refine .mk ?_
  intro A env X σ s Q E a eo R hq
  refine wpAny_Subscript_str_slice (wpAny_mono (h1.it A env X σ s _ E a eo R hq) (fun v s₁ hpat => ?_) fun _ _ x => x) ht
  obtain ⟨g1, x, hx, rx⟩ := hpat
  refine wpAny_evalPart_some (wpAny_mono (h2.it A env X σ s₁ _ E a eo (R.keep g1.2) hx) (fun u s₂ hpat => ?_) fun _ _ x => x)
  obtain ⟨g2, y, hy, ry⟩ := hpat
  refine wpAny_evalPart_none ?_
  cases x with
  | str x =>
    cases y with
    | int k =>
      obtain ⟨t, rfl⟩ := rx.toStr
      obtain ⟨u, rfl⟩ := ry.toInt
      obtain ⟨k0, k1, k2, hy⟩ := hy
      refine ⟨_, _, some (k, u), none, rfl, rfl, rfl, made_post ((g1.trans g2).trans (Grow.push _ _)) (r := x.drop k.toNat) ?_ (by rw [List.length_drop]; (first | lia | omega)) hy⟩
      simp only [Option.map_some, Option.map_none]
      rw [sliceText_from ⟨k0, by simpa using k1⟩]
      congr 2
      exact List.take_of_length_le (by simp; (first | lia | omega))
    | _ => exact hy.elim
  | _ => exact hy.elim
theorem semE_to {value hi p pos W1 W2} (h1 : SemE prog w mg mb pins l sc nm value W1) (h2 : SemE prog w mg mb pins l sc nm hi W2) (ht : ∀ o r, letTemporaryGo value o r = pure () := by intro _ _; rfl) :
    SemE prog w mg mb pins l sc nm (.Subscript value (.Slice none (some hi) none p) pos) (fun σ Q => W1 σ fun a => W2 σ fun i => toW a i Q) := by
  refine .mk ?_
  intro A env X σ s Q E a eo R hq
  refine wpAny_Subscript_str_slice (wpAny_mono (h1.it A env X σ s _ E a eo R hq) (fun v s₁ hpat => ?_) fun _ _ x => x) ht
  obtain ⟨g1, x, hx, rx⟩ := hpat
  refine wpAny_evalPart_none ?_
  refine wpAny_evalPart_some (wpAny_mono (h2.it A env X σ s₁ _ E a eo (R.keep g1.2) hx) (fun u s₂ hpat => ?_) fun _ _ x => x)
  obtain ⟨g2, y, hy, ry⟩ := hpat
  cases x with
  | str x =>
    obtain ⟨t, rfl⟩ := rx.toStr
    cases y with
    | none =>
      cases ry.toNone
      refine ⟨_, _, none, none, rfl, rfl, rfl, made_post ((g1.trans g2).trans (Grow.push _ _)) (r := x) ?_ hy.1 hy.2⟩
      simp only [Option.map_none]
      have e : sliceText ⟨x.toArray⟩ none none = sliceText ⟨x.toArray⟩ (some 0) none := by unfold sliceText; rw [sliceIdx_none_lo]
      rw [e, sliceText_from ⟨Int.le_refl _, by simp⟩]
      simp
    | int k =>
      obtain ⟨u, rfl⟩ := ry.toInt
      obtain ⟨k0, k1, k2, hy⟩ := hy
      refine ⟨_, _, none, some (k, u), rfl, rfl, rfl, made_post ((g1.trans g2).trans (Grow.push _ _)) (r := x.take (x.length + k).toNat) ?_ (by rw [List.length_take]; (first | lia | omega)) hy⟩
      simp only [Option.map_some, Option.map_none]
      rw [sliceText_to_neg k0 (by simpa [Str.length] using k1)]
      simp [Str.length, Int.add_comm]
    | _ => exact hy.elim
  | _ => exact hy.elim

/-- in place, ints -/
def ipW (B : AV → AV → (AV → Prop) → Prop) (a b : AV) (Q : AV → Prop) : Prop := match a, b with | .int x, .int y => B (.int x) (.int y) Q | _, _ => False
theorem prim_ip {f : Value → Value → Sem Value} {B' : AV → AV → (AV → Prop) → Prop} {B : Int → Int → (AV → Prop) → Prop} (hB : ∀ (A : Around) (X : Addr → Prop) (s : Shared) (x y : Int) (t u : Tok) (Q : AV → Prop) (E : Value → Shared → Prop), AOk pins l A → B x y Q →
    wpAny (model prog w) A (f (.int x t) (.int y u)) (EPost X s Q) E s) (he : ∀ x y Q, B' (.int x) (.int y) Q → B x y Q) : Prim2 prog w mg mb pins l f (ipW B') := .mk fun A X s va vb a b Q E ao G D ra rb h => by
  have h' : intW B a b Q := by
    cases a <;> try exact h.elim
    cases b <;> try exact h.elim
    exact he _ _ _ h
  exact (prim_int (B := B) hB).it A X s va vb a b Q E ao G D ra rb h'
theorem iadd_ok : Prim2 prog w mg mb pins l (inplaceOp .Add) (ipW addW) := prim_ip (B := fun x y Q => Q (.int (x + y))) (fun _ _ _ x y _ _ _ _ _ h => PySem.P.iadd_int ⟨Grow.tok _ _, _, h, .int _ _⟩) fun _ _ _ h => h
theorem isub_ok : Prim2 prog w mg mb pins l (inplaceOp .Sub) (ipW subW) := prim_ip (B := fun x y Q => Q (.int (x - y))) (fun _ _ _ x y _ _ _ _ _ h => PySem.P.isub_int ⟨Grow.tok _ _, _, h, .int _ _⟩) fun _ _ _ h => h
theorem imul_ok : Prim2 prog w mg mb pins l (inplaceOp .Mult) (ipW mulW) := prim_ip (B := fun x y Q => (Small x ∨ Small y) ∧ Q (.int (x * y))) (fun _ _ _ x y _ _ _ _ _ h => PySem.P.imul_int ⟨Grow.tok _ _, _, h.2, .int _ _⟩ (mulOk h.1)) fun _ _ _ h => h
theorem idiv_ok : Prim2 prog w mg mb pins l (inplaceOp .FloorDiv) (ipW divW) := prim_ip (B := fun x y Q => 0 < y ∧ y < 1073741825 ∧ Q (.int (x / y))) (fun _ _ _ x y _ _ _ _ _ h => PyProof.Rows.ifloordiv_int (Int.ne_of_gt h.1) (by rw [fdiv_pos h.1]; exact ⟨Grow.tok _ _, _, h.2.2, .int _ _⟩) (.inl (noPyl (small_y h.1 h.2.1)))) fun _ _ _ h => h
theorem ishl_ok : Prim2 prog w mg mb pins l (inplaceOp .LShift) (ipW shlW) := prim_ip (B := fun x y Q => 0 ≤ y ∧ y ≤ 1000 ∧ Small x ∧ Q (.int (x * 2 ^ y.toNat))) (fun _ _ _ x y _ _ _ _ _ h => ilshift_int_small h.1 (le_1000 h.2.1) h.2.2.1 ⟨Grow.tok _ _, _, h.2.2.2, .int _ _⟩) fun _ _ _ h => h
theorem ior_ok : Prim2 prog w mg mb pins l (inplaceOp .BitOr) (ipW orW) := prim_ip (B := fun x y Q => Q (.int (Builtin.bitOr x y))) (fun _ _ _ x y _ _ _ _ _ h => PyProof.Rows.ior_int ⟨Grow.tok _ _, _, h, .int _ _⟩) fun _ _ _ h => h
theorem ixor_ok : Prim2 prog w mg mb pins l (inplaceOp .BitXor) (ipW xorW) := prim_ip (B := fun x y Q => Q (.int (Builtin.bitXor x y))) (fun _ _ _ x y _ _ _ _ _ h => PyProof.Rows.ixor_int ⟨Grow.tok _ _, _, h, .int _ _⟩) fun _ _ _ h => h
end
end Mine
-- MP6
set_option maxRecDepth 100000
set_option linter.unusedVariables false
set_option linter.unusedSimpArgs false
namespace Mine
open PySem PySem.Calls PyProof.Rows PySem.SeqAt PySem.MeetsSeq

theorem nodup_get {α : Type} : ∀ {l : List α} {i j : Nat} {x : α}, l.Nodup → l[i]? = some x → l[j]? = some x → i = j
  | [], i, _, _, _, h, _ => by simp at h
  | a :: l, 0, 0, _, _, _, _ => rfl
  | a :: l, 0, j + 1, x, n, h1, h2 => by
    simp at h1 h2; subst h1
    exact absurd (List.mem_of_getElem? h2) (List.nodup_cons.mp n).1
  | a :: l, i + 1, 0, x, n, h1, h2 => by
    simp at h1 h2; subst h2
    exact absurd (List.mem_of_getElem? h1) (List.nodup_cons.mp n).1
  | a :: l, i + 1, j + 1, x, n, h1, h2 => by
    simp at h1 h2
    rw [nodup_get (List.nodup_cons.mp n).2 h1 h2]

theorem HoldsP.mono {X : Addr → Prop} {h : Heap} {P P' : Value → Prop} (hP : ∀ v, P v → P' v) {lv : LV} (H : HoldsP X h P lv) : HoldsP X h P' lv := H.keepM (Keep.refl h) hP
theorem HoldsP.to1 {X : Addr → Prop} {env : Env} {h : Heap} {x : Str} {P : Value → Prop} (hP : ∀ v, P v → Reads env h x v) {lv : LV} (H : HoldsP X h P lv) : Holds1 X env h x lv := H.mono hP
def LV.owns : LV → Bool
  | .own _ => true
  | .itr _ _ => true
  | _ => false

theorem ns_data {h : Heap} {a : Addr} {m} (n : h.Ns a m) : ∃ o es ep, h.get? a = some o ∧ o.data = .dict es ep := let ⟨o, es, ep, e, d, _⟩ := n; ⟨o, es, ep, e, d⟩
theorem not_owned_ns {h : Heap} {a b : Addr} {m} (n : h.Ns a m) {items k} (l : IsL h b items k) : b ≠ a := fun e => by
  obtain ⟨o, es, ep, e1, d⟩ := ns_data n
  subst e
  have := l.symm.trans e1
  simp at this
  subst this
  simp at d

theorem not_iter_ns {h : Heap} {a b : Addr} {m} (n : h.Ns a m) {l i} (it : h.IsListIter b l i) : b ≠ a := fun e => by
  obtain ⟨o, es, ep, e1, d⟩ := ns_data n
  obtain ⟨o2, e2, _, d2⟩ := it
  subst e
  rw [e1] at e2; cases e2; rw [d] at d2; cases d2
/-- what a statement may change -/
structure Step (X Z : Addr → Prop) (h h' : Heap) (X' : Addr → Prop) : Prop where
  keep : ∀ b o, (¬ X b ∨ Z b) → h.get? b = some o → h'.get? b = some o
  newX : ∀ a, X' a → X a ∨ h.get? a = none
theorem Step.refl (X Z : Addr → Prop) (h : Heap) : Step X Z h h X := ⟨fun _ _ _ e => e, fun _ x => .inl x⟩
theorem Step.grow {X Z : Addr → Prop} {s s' : Shared} (g : Grow s s') : Step X Z s.heap s'.heap X := ⟨fun b o _ e => g.2 b o e, fun _ x => .inl x⟩
theorem Step.trans {X Z : Addr → Prop} {h h1 h2 : Heap} {X1 X2 : Addr → Prop} (a : Step X Z h h1 X1) (b : Step X1 Z h1 h2 X2) : Step X Z h h2 X2 := by
  refine ⟨fun c o hc e => b.keep c o ?_ (a.keep c o hc e), fun c x => ?_⟩
  · by_cases z : Z c
    · exact .inr z
    · have nx := hc.resolve_right z
      exact .inl fun x1 => (a.newX c x1).elim nx fun q => by rw [q] at e; cases e
  · by_cases xc : X c
    · exact .inl xc
    · refine .inr ?_
      rcases b.newX c x with q | q
      · exact (a.newX c q).resolve_left xc
      · cases e : h.get? c with
        | none => rfl
        | some o => rw [a.keep c o (.inl xc) e] at q; cases q

theorem Step.mv {X Z X' : Addr → Prop} {h h' : Heap} (k : Step X Z h h' X') : Mv X X' h h' := ⟨fun a o n e => ⟨fun q => (k.newX _ q).elim n fun q => (nomatch q.symm.trans e), k.keep _ _ (.inl n) e⟩⟩
theorem Rep.step {X Z X' : Addr → Prop} {h h' : Heap} {v a} (r : Rep X h v a) (k : Step X Z h h' X') : Rep X' h' v a := r.map k.mv
theorem RepL.step {X Z X' : Addr → Prop} {h h' : Heap} {v a} (r : RepL X h v a) (k : Step X Z h h' X') : RepL X' h' v a := r.map k.mv
theorem LstX.step {X Z X' : Addr → Prop} {h h' : Heap} (k : Step X Z h h' X') {a : Addr} {items} (n : ¬ X a) (x : LstX h a items) : ¬ X' a ∧ LstX h' a items := by
  obtain ⟨m, x⟩ := x
  exact ⟨fun q => (k.newX _ q).elim n fun e => (nomatch x.symm.trans e), m, k.keep _ _ (.inl n) x⟩
/-- what a place holds, where the mutable ones turn -/
theorem HoldsP.move {X Z X' : Addr → Prop} {h h' : Heap} {P P' : Value → Prop} {lv : LV} (H : HoldsP X h P lv) (st : Step X Z h h' X') (hP : ∀ v, P v → P' v)
    (own : lv.owns = true → ∀ a, P (.ref a) → X a → (∀ m, h.Ns a m → False) → (∀ m, h.IsCell a m → False) → X' a ∧ ∀ o, h.get? a = some o → h'.get? a = some o) : HoldsP X' h' P' lv := by
  cases lv with
  | unset => trivial
  | val a => obtain ⟨v, p, r⟩ := H; exact ⟨v, hP v p, r.step st⟩
  | own xs =>
    obtain ⟨a, vs, p, x, ⟨n, l⟩, q⟩ := H
    obtain ⟨x', k⟩ := own rfl a p x (fun m hn => not_owned_ns hn l rfl) fun m hc => by
      obtain ⟨o, e, d⟩ := hc
      have := l.symm.trans e
      cases this; cases d
    exact ⟨a, vs, hP _ p, x', ⟨n, k _ l⟩, q.step st⟩
  | itr a xs =>
    obtain ⟨p, x, l, i, vs, ys, it, n, L, R, q, hi⟩ := H
    have it0 := it
    obtain ⟨o, e, c, d⟩ := it
    have L2 := L.step st n
    obtain ⟨x', k⟩ := own rfl a p x (fun m hn => not_iter_ns hn it0 rfl) fun m hc => by
      obtain ⟨o2, e2, d2⟩ := hc
      rw [e] at e2; cases e2; rw [d] at d2; cases d2
    exact ⟨hP _ p, x', ⟨l, i, vs, ys, ⟨o, k _ e, c, d⟩, L2.1, L2.2, R.step st, q, hi⟩⟩
def RdM (env : Env) (m cm : Str → Option Value) (x : Str) (v : Value) : Prop :=
  (env.kindOf x = some .local ∧ m x = some v) ∨ (env.kindOf x = some .cell ∧ (∃ c, env.cells.lookup x = some c) ∧ cm x = some v)
theorem RdM.unique {env m cm x v u} (a : RdM env m cm x v) (b : RdM env m cm x u) : v = u := by
  rcases a with ⟨k, e⟩ | ⟨k, _, e⟩ <;> rcases b with ⟨k', e'⟩ | ⟨k', _, e'⟩
  · rw [e] at e'; cases e'; rfl
  · rw [k] at k'; cases k'
  · rw [k] at k'; cases k'
  · rw [e] at e'; cases e'; rfl

/-- the frame of a def of the text -/
structure FRel (mg mb : Str → Option Value) (pins : List (Addr × Obj)) (nm : List Str) (X₀ : Addr → Prop) (s₀ : Shared) (env : Env) (σ : Sto) (s : Shared) (Z X : Addr → Prop) (m cm : Str → Option Value) : Prop where
  call : InCallC s₀ env.locals m env.cells cm s
  gl : Gl mg mb pins s₀.heap
  dom₀ : ∀ a, X₀ a → ∃ o, s₀.heap.get? a = some o
  dom : ∀ a, X a → ∃ o, s.heap.get? a = some o
  old : ∀ a, X₀ a → X a
  new : ∀ a, X a → X₀ a ∨ s₀.heap.get? a = none
  loc : X env.locals
  cel : ∀ n c, env.cells.lookup n = some c → X c
  len : σ.length = nm.length
  var : ∀ k x, nm[k]? = some x → HoldsP X s.heap (RdM env m cm x) (σ.getD k .unset)
  apart : ∀ k j x y a, nm[k]? = some x → nm[j]? = some y → (σ.getD k .unset).owns = true → (σ.getD j .unset).owns = true → RdM env m cm x (.ref a) → RdM env m cm y (.ref a) → k = j
  mine : ∀ k x a, nm[k]? = some x → (σ.getD k .unset).owns = true → RdM env m cm x (.ref a) → s₀.heap.get? a = none
  prot : ∀ a, Z a → X a ∧ a ≠ env.locals ∧ (∀ n c, env.cells.lookup n = some c → a ≠ c) ∧ ∀ k x, nm[k]? = some x → (σ.getD k .unset).owns = true → ¬ RdM env m cm x (.ref a)

section
variable {prog : Program} {w : World} {mg mb : Str → Option Value} {pins : List (Addr × Obj)} {nm : List Str} {X₀ X Z : Addr → Prop} {s₀ s : Shared} {env : Env} {σ : Sto} {m cm : Str → Option Value}

theorem FRel.reads (F : FRel mg mb pins nm X₀ s₀ env σ s Z X m cm) {x : Str} {v : Value} (r : RdM env m cm x v) : Reads env s.heap x v := by
  rcases r with ⟨k, e⟩ | ⟨k, ⟨c, hc⟩, e⟩
  · exact .inl ⟨k, m, F.call.toInCall.ns, e⟩
  · exact .inr ⟨.inl k, c, hc, e ▸ F.call.cell x c hc⟩
theorem FRel.keep₀ (F : FRel mg mb pins nm X₀ s₀ env σ s Z X m cm) : Keep s₀.heap s.heap := F.call.toInCall.keep
theorem FRel.rel (F : FRel mg mb pins nm X₀ s₀ env σ s Z X m cm) : Rel mg mb pins nm X env σ s.heap :=
  ⟨F.gl.keep F.keep₀, F.dom, fun k x e => (F.var k x e).to1 fun v r => F.reads r⟩
/-- an expression's growth -/
theorem FRel.grow (F : FRel mg mb pins nm X₀ s₀ env σ s Z X m cm) {s' : Shared} (g : Grow s s') : FRel mg mb pins nm X₀ s₀ env σ s' Z X m cm := by
  obtain ⟨⟨h, t, rfl⟩, k⟩ := g
  obtain ⟨⟨⟨h₁, t₁, rfl⟩, hns, hk, hf⟩, hc, ha, hab⟩ := F.call
  refine ⟨⟨⟨⟨h, t, rfl⟩, hns.keeps k, fun b o e => k _ _ (hk b o e), hf⟩, fun n c e => (hc n c e).keeps k, ha, hab⟩, F.gl, F.dom₀, fun a x => let ⟨o, e⟩ := F.dom a x; ⟨o, k _ _ e⟩, F.old, F.new, F.loc, F.cel, F.len,
    fun k' x e => (F.var k' x e).keepM k fun _ p => p, F.apart, F.mine, F.prot⟩

theorem HoldsP.aliveX {X : Addr → Prop} {h : Heap} {P : Value → Prop} {lv : LV} (H : HoldsP X h P lv) (ho : lv.owns = true) : ∃ a o, (P (.ref a) ∧ X a) ∧ h.get? a = some o := by
  cases lv with
  | own xs => obtain ⟨a, vs, p, x, ⟨n, l⟩, _⟩ := H; exact ⟨a, _, ⟨p, x⟩, l⟩
  | itr a xs => obtain ⟨p, x, _, _, _, _, ⟨o, e, _⟩, _⟩ := H; exact ⟨a, o, ⟨p, x⟩, e⟩
  | _ => cases ho
theorem getD_same {σ : Sto} {k : Nat} {lv : LV} (h : k < σ.length) : (σ.set k lv).getD k .unset = lv := by simp [List.getD_eq_getElem?_getD, h]
theorem getD_other {σ : Sto} {k j : Nat} {lv : LV} (h : j ≠ k) : (σ.set k lv).getD j .unset = σ.getD j .unset := by simp [List.getD_eq_getElem?_getD, List.getElem?_set, Ne.symm h]
/-- a name is bound -/
theorem FRel.bind (F : FRel mg mb pins nm X₀ s₀ env σ s Z X m cm) {A : Around} {x : Str} {k : Nat} {v : Value} {Q : Unit → Shared → Prop} {E : Value → Shared → Prop} (hk : env.scope.kind = .function) (hx : nm[k]? = some x) (hn : nm.Nodup)
    (hkind : env.kindOf x = some .local ∨ (env.kindOf x = some .cell ∧ ∃ c, env.cells.lookup x = some c)) (lv : LV)
    (X' : Addr → Prop) (hX : ∀ a, X a → X' a) (hXd : ∀ a, X' a → ∃ o, s.heap.get? a = some o) (hXn : ∀ a, X' a → X a ∨ s₀.heap.get? a = none)
    (hnew : ∀ a, X' a → ¬ X a → s₀.heap.get? a = none)
    (hv : HoldsP X' s.heap (fun u => u = v) lv) (hrest : ∀ j y, j ≠ k → nm[j]? = some y → HoldsP X' s.heap (RdM env m cm y) (σ.getD j .unset))
    (hap : lv.owns = true → ∀ j y, j ≠ k → nm[j]? = some y → (σ.getD j .unset).owns = true → ¬ RdM env m cm y v)
    (hzp : lv.owns = true → ∀ a, Z a → v ≠ .ref a) (hmi : lv.owns = true → ∀ a, v = .ref a → s₀.heap.get? a = none)
    (h : ∀ s' m' cm', FRel mg mb pins nm X₀ s₀ env (σ.set k lv) s' Z X' m' cm' → (∀ c o, (¬ X c ∨ Z c) → s.heap.get? c = some o → s'.heap.get? c = some o) → Q () s') : wpAny (model prog w) A (storeName env x v) Q E s := by
  have hkl : k < σ.length := by rw [F.len]; exact (List.getElem?_eq_some_iff.mp hx).1
  have hne : ∀ j y, j ≠ k → nm[j]? = some y → y ≠ x := fun j y hj hy e => by
    subst e
    exact hj (nodup_get hn hy hx)
  -- what is the same in both kinds
  have fin : ∀ (s' : Shared) (m' cm' : Str → Option Value) (b : Addr), InCallC s₀ env.locals m' env.cells cm' s' → X b → Heap.SameBut b s.heap s'.heap → ((∃ m, s.heap.Ns b m) ∨ ∃ m, s.heap.IsCell b m) →
      (∀ y u, y ≠ x → (RdM env m' cm' y u ↔ RdM env m cm y u)) → (∀ u, RdM env m' cm' x u ↔ u = v) → (∃ o, s'.heap.get? b = some o) → ¬ Z b → Q () s' := by
    intro s' m' cm' b ic xb sb bk r1 r2 hb nz
    have keepOwn : ∀ {P P' : Value → Prop} {lv : LV}, (∀ v, P v → P' v) → HoldsP X' s.heap P lv → HoldsP X' s'.heap P' lv := fun hP H =>
      H.move (Z := fun _ => False) ⟨fun c o hc e => (sb.2 c fun q => hc.elim (fun n => n (q ▸ hX _ xb)) id).trans e, fun _ q => .inl q⟩ hP fun _ a p xa n1 n2 => ⟨xa, fun o e => (sb.2 a fun q => bk.elim (fun ⟨m, h⟩ => n1 m (q ▸ h)) fun ⟨m, h⟩ => n2 m (q ▸ h)).trans e⟩
    refine h s' m' cm' ⟨ic, F.gl, F.dom₀, fun a xa => ?_, fun a xa => hX _ (F.old a xa), fun a xa => ?_, hX _ F.loc, fun n c e => hX _ (F.cel n c e), by rw [List.length_set]; exact F.len, fun j y hy => ?_, fun j i y z a hy hz ho1 ho2 e1 e2 => ?_, fun j y a hy ho e1 => ?_, fun a za => ⟨hX _ (F.prot a za).1, (F.prot a za).2.1, (F.prot a za).2.2.1, fun j y hy ho e1 => ?_⟩⟩ (fun c o hc e => (sb.2 c fun q => ?_).trans e)
    · by_cases e : a = b
      · subst e; exact hb
      · obtain ⟨o, q⟩ := hXd a xa; exact ⟨o, (sb.2 a e).trans q⟩
    · by_cases q : X a
      · exact F.new a q
      · exact .inr (hnew a xa q)
    · by_cases hj : j = k
      · subst hj
        rw [hx] at hy; cases hy
        have : (σ.set j lv).getD j .unset = lv := getD_same hkl
        rw [this]
        exact keepOwn (fun u e => (r2 u).mpr e) hv
      · have : (σ.set k lv).getD j .unset = σ.getD j .unset := getD_other hj
        rw [this]
        exact keepOwn (fun u e => (r1 y u (hne j y hj hy)).mpr e) (hrest j y hj hy)
    · by_cases hj : j = k <;> by_cases hi : i = k
      · rw [hj, hi]
      · exfalso
        subst hj
        rw [hx] at hy; cases hy
        have q1 : (σ.set j lv).getD j .unset = lv := getD_same hkl
        have q2 : (σ.set j lv).getD i .unset = σ.getD i .unset := getD_other hi
        rw [q1] at ho1; rw [q2] at ho2
        have e3 := (r2 _).mp e1
        have e4 := (r1 z _ (hne i z hi hz)).mp e2
        rw [e3] at e4
        exact hap ho1 i z hi hz ho2 e4
      · exfalso
        subst hi
        rw [hx] at hz; cases hz
        have q1 : (σ.set i lv).getD i .unset = lv := getD_same hkl
        have q2 : (σ.set i lv).getD j .unset = σ.getD j .unset := getD_other hj
        rw [q1] at ho2; rw [q2] at ho1
        have e3 := (r2 _).mp e2
        have e4 := (r1 y _ (hne j y hj hy)).mp e1
        rw [e3] at e4
        exact hap ho2 j y hj hy ho1 e4
      · have q1 : (σ.set k lv).getD i .unset = σ.getD i .unset := getD_other hi
        have q2 : (σ.set k lv).getD j .unset = σ.getD j .unset := getD_other hj
        rw [q2] at ho1; rw [q1] at ho2
        exact F.apart j i y z a hy hz ho1 ho2 ((r1 y _ (hne j y hj hy)).mp e1) ((r1 z _ (hne i z hi hz)).mp e2)
    · by_cases hj : j = k
      · subst hj
        rw [hx] at hy; cases hy
        have q1 : (σ.set j lv).getD j .unset = lv := getD_same hkl
        rw [q1] at ho
        exact hmi ho a ((r2 _).mp e1).symm
      · have q2 : (σ.set k lv).getD j .unset = σ.getD j .unset := getD_other hj
        rw [q2] at ho
        exact F.mine j y a hy ho ((r1 y _ (hne j y hj hy)).mp e1)
    · by_cases hj : j = k
      · subst hj
        rw [hx] at hy; cases hy
        have q1 : (σ.set j lv).getD j .unset = lv := getD_same hkl
        rw [q1] at ho
        exact hzp ho a za ((r2 _).mp e1).symm
      · have q2 : (σ.set k lv).getD j .unset = σ.getD j .unset := getD_other hj
        rw [q2] at ho
        exact (F.prot a za).2.2.2 j y hy ho ((r1 y _ (hne j y hj hy)).mp e1)
    · subst q
      exact hc.elim (fun n => n xb) nz
  have ic := F.call
  rcases hkind with hl | ⟨hl, c, hc⟩
  · refine wpAny_storeName_local hl ic.toInCall.ns (fun h' hn' hs' => ?_) (by rw [hk]; rfl)
    refine fin _ (fun y => if y = x then some v else m y) cm env.locals ⟨⟨?_, hn', fun b o e => ?_, ic.toInCall.fresh⟩, fun n c hc => ?_, ic.apart, ic.above⟩ F.loc hs' (.inl ⟨_, ic.toInCall.ns⟩) (fun y u hy => ?_) (fun u => ?_) ?_ ?_
    · obtain ⟨h₁, tk, rfl⟩ := ic.toInCall.same; exact ⟨h', _, rfl⟩
    · exact hs'.extBut b o (Nat.ne_of_lt (Nat.lt_of_lt_of_le (Heap.lt_size e) ic.toInCall.fresh)) (ic.toInCall.keep b o e)
    · exact (ic.cell n c hc).sameBut hs' (Nat.ne_of_gt (ic.above n c (mem_of_lookup hc)))
    · unfold RdM; simp only [hy, if_false]
    · unfold RdM; simp only [hl, if_true, Option.some.injEq, reduceCtorEq, false_and, or_false, true_and]; exact eq_comm
    · obtain ⟨o, _, _, e, _⟩ := ns_data hn'; exact ⟨o, e⟩
    · exact fun z => (F.prot _ z).2.1 rfl
  · have hLc := ic.above x c (mem_of_lookup hc)
    refine wpAny_storeName_cell hk hl hc (ic.cell x c hc) fun h' hc' hs' => ?_
    refine fin _ m (fun y => if y = x then some v else cm y) c ⟨⟨?_, ic.toInCall.ns.sameBut hs' (Nat.ne_of_lt hLc), fun b o e => ?_, ic.toInCall.fresh⟩, fun n c' hc2 => ?_, ic.apart, ic.above⟩ (F.cel x c hc) hs' (.inr ⟨_, ic.cell x c hc⟩) (fun y u hy => ?_) (fun u => ?_) ?_ ?_
    · obtain ⟨h₁, tk, rfl⟩ := ic.toInCall.same; exact ⟨h', _, rfl⟩
    · exact hs'.extBut b o (Nat.ne_of_lt (Nat.lt_trans (Nat.lt_of_lt_of_le (Heap.lt_size e) ic.toInCall.fresh) hLc)) (ic.toInCall.keep b o e)
    · by_cases hkn : n = x
      · subst hkn
        rw [hc] at hc2; cases hc2
        simpa using hc'
      · rw [if_neg hkn]
        exact (ic.cell n c' hc2).sameBut hs' fun e => hkn (name_of_addr ic.apart (mem_of_lookup hc2) (e ▸ mem_of_lookup hc))
    · unfold RdM; simp only [hy, if_false]
    · unfold RdM; simp only [hl, if_true, Option.some.injEq, reduceCtorEq, false_and, false_or, true_and]
      exact ⟨fun ⟨_, e⟩ => e.symm, fun e => ⟨⟨c, hc⟩, e.symm⟩⟩
    · obtain ⟨o, e, _⟩ := hc'; exact ⟨o, e⟩
    · exact fun z => (F.prot _ z).2.2.1 x c hc rfl
end
end Mine
-- MP7
set_option maxRecDepth 100000
set_option linter.unusedVariables false
set_option linter.unusedSimpArgs false
namespace Mine
open PySem PySem.Calls PyProof.Rows PySem.SeqAt PySem.MeetsSeq

inductive Fl where
  | next | brk | cont | ret (a : AV)
def FlIs (X₀ : Addr → Prop) (h : Heap) : Flow → Fl → Prop
  | .next, .next => True
  | .brk, .brk => True
  | .cont, .cont => True
  | .ret v, .ret a => Rep X₀ h v a
  | _, _ => False

structure FnEnv (sc : Scope) (env : Env) : Prop extends EnvOk sc env where
  cells : ∀ x, sc.names.lookup x = some .cell → ∃ c, env.cells.lookup x = some c

abbrev WS := Sto → (Fl → Sto → Prop) → Prop

section
variable (prog : Program) (w : World) (mg mb : Str → Option Value) (pins : List (Addr × Obj)) (l : Lim) (sc : Scope) (nm : List Str)

inductive SPost (X₀ : Addr → Prop) (s₀ : Shared) (env : Env) (s : Shared) (Z X : Addr → Prop) (Q : Fl → Sto → Prop) (fl : Flow) (s' : Shared) : Prop
  | mk (f : Fl) (σ' : Sto) (X' : Addr → Prop) (m' cm' : Str → Option Value) (q : Q f σ') (hf : FlIs X₀ s'.heap fl f) (F' : FRel mg mb pins nm X₀ s₀ env σ' s' Z X' m' cm') (st : Step X Z s.heap s'.heap X')

structure SemS (st : List Stmt) (W : WS) : Prop where
  it : ∀ (A : Around) (env : Env) (X₀ : Addr → Prop) (s₀ : Shared) (σ : Sto) (s : Shared) (Z X : Addr → Prop) (m cm : Str → Option Value) (Q : Fl → Sto → Prop) (E : Value → Shared → Prop),
    AOk pins l A → FnEnv sc env → FRel mg mb pins nm X₀ s₀ env σ s Z X m cm → W σ Q →
    wpAny (model prog w) A (execs st env) (SPost mg mb pins nm X₀ s₀ env s Z X Q) E s
structure Sem1 (st : Stmt) (W : WS) : Prop where
  it : ∀ (A : Around) (env : Env) (X₀ : Addr → Prop) (s₀ : Shared) (σ : Sto) (s : Shared) (Z X : Addr → Prop) (m cm : Str → Option Value) (Q : Fl → Sto → Prop) (E : Value → Shared → Prop),
    AOk pins l A → FnEnv sc env → FRel mg mb pins nm X₀ s₀ env σ s Z X m cm → W σ Q →
    wpAny (model prog w) A (exec st env) (SPost mg mb pins nm X₀ s₀ env s Z X Q) E s
end

section
variable {prog : Program} {w : World} {mg mb : Str → Option Value} {pins : List (Addr × Obj)} {l : Lim} {sc : Scope} {nm : List Str}

/-- one statement, then the rest -/
def seqK (W2 : WS) (Q : Fl → Sto → Prop) : Fl → Sto → Prop
  | .next, σ => W2 σ Q
  | f, σ => Q f σ
def seqW (W1 W2 : WS) : WS := fun σ Q => W1 σ (seqK W2 Q)
theorem seqW_of {W1 W2 : WS} {σ σ1 : Sto} {Q : Fl → Sto → Prop} (h1 : ∀ K : Fl → Sto → Prop, K .next σ1 → W1 σ K) (h2 : W2 σ1 Q) : seqW W1 W2 σ Q := h1 _ h2
theorem seqW_mk {W1 W2 : WS} {σ : Sto} {Q : Fl → Sto → Prop} (h : W1 σ (seqK W2 Q)) : seqW W1 W2 σ Q := h
theorem seqN {W2 : WS} {σ : Sto} {Q : Fl → Sto → Prop} (h : W2 σ Q) : seqK W2 Q .next σ := h
theorem semS_nil : SemS prog w mg mb pins l sc nm [] (fun σ Q => Q .next σ) := .mk fun A env X₀ s₀ σ s Z X m cm Q E a eo F h =>
  wpAny_execs_nil ⟨.next, σ, X, m, cm, h, trivial, F, Step.refl _ _ _⟩
theorem semS_cons {st rest W1 W2} (h1 : Sem1 prog w mg mb pins l sc nm st W1) (h2 : SemS prog w mg mb pins l sc nm rest W2) :
    SemS prog w mg mb pins l sc nm (st :: rest) (seqW W1 W2) := by
  refine .mk ?_
  intro A env X₀ s₀ σ s Z X m cm Q E a eo F h
  unfold seqW at h
  refine wpAny_execs_cons (wpAny_mono (h1.it A env X₀ s₀ σ s Z X m cm _ E a eo F h) (fun fl s₁ hpat => ?_) fun _ _ x => x)
  obtain ⟨f, σ', X', m', cm', q, hf, F', st'⟩ := hpat
  cases fl <;> cases f <;> try exact hf.elim
  · exact wpAny_mono (h2.it A env X₀ s₀ σ' s₁ Z X' m' cm' Q E a eo F' q) (fun fl s₂ ⟨f, σ2, X2, m2, cm2, q2, hf2, F2, st2⟩ => ⟨f, σ2, X2, m2, cm2, q2, hf2, F2, st'.trans st2⟩) fun _ _ x => x
  · exact ⟨_, σ', X', m', cm', q, hf, F', st'⟩
  · exact ⟨_, σ', X', m', cm', q, hf, F', st'⟩
  · exact ⟨_, σ', X', m', cm', q, hf, F', st'⟩

/-- a ghost step: an owned list is owned no more -/
def freeze (k : Nat) (σ : Sto) : Sto := match σ.getD k .unset with
  | .own xs => σ.set k (.val (.lst xs))
  | _ => σ
theorem freeze_own {k : Nat} {σ : Sto} {xs} (e : σ.getD k .unset = .own xs) : Mine.freeze k σ = σ.set k (.val (.lst xs)) := by unfold Mine.freeze; rw [e]
theorem freeze_id {k : Nat} {σ : Sto} (e : ∀ xs, σ.getD k .unset ≠ .own xs) : Mine.freeze k σ = σ := by
  unfold Mine.freeze
  split
  · rename_i xs q; exact absurd q (e xs)
  · rfl
/-- one owned place turns -/
theorem FRel.turn {X₀ X X' Z : Addr → Prop} {s₀ s : Shared} {env : Env} {σ : Sto} {m cm : Str → Option Value} (F : FRel mg mb pins nm X₀ s₀ env σ s Z X m cm) {k : Nat} {x : Str} {p : Addr} {h' : Heap} (tk : Nat) (lv : LV)
    (hx : nm[k]? = some x) (ho : (σ.getD k .unset).owns = true) (rp : RdM env m cm x (.ref p)) (sub : ∀ a, X' a → X a) (sup : ∀ a, X a → a ≠ p → X' a)
    (kk : ∀ b o, b ≠ p → s.heap.get? b = some o → h'.get? b = some o) (hp : ∃ o, h'.get? p = some o) (kx : ¬ X' p → h'.get? p = s.heap.get? p) (hv : HoldsP X' h' (RdM env m cm x) lv) (hlv : lv.owns = true → X' p)
    (npl : env.locals ≠ p) (npc : ∀ n c, env.cells.lookup n = some c → c ≠ p) :
    FRel mg mb pins nm X₀ s₀ env (σ.set k lv) { s with heap := h', toks := tk } Z X' m cm ∧ Step X Z s.heap h' X' := by
  have hkl : k < σ.length := by rw [F.len]; exact (List.getElem?_eq_some_iff.mp hx).1
  have p0 : s₀.heap.get? p = none := F.mine k x p hx ho rp
  have nz : ∀ a, Z a → a ≠ p := fun a z q => (F.prot a z).2.2.2 k x hx ho (q ▸ rp)
  have xp : X p := by
    obtain ⟨a, o, r, _⟩ := (F.var k x hx).aliveX ho
    cases r.1.unique rp; exact r.2
  have own_of : ∀ j y a, nm[j]? = some y → ((σ.set k lv).getD j .unset).owns = true → RdM env m cm y (.ref a) → (σ.getD j .unset).owns = true ∧ (j = k → lv.owns = true) := fun j y a hy h r => by
    by_cases hj : j = k
    · subst hj; rw [getD_same hkl] at h; exact ⟨ho, fun _ => h⟩
    · rw [getD_other hj] at h; exact ⟨h, fun q => absurd q hj⟩
  have st : Step X Z s.heap h' X' := ⟨fun b o hb e => by
    by_cases q : b = p
    · subst q; exact hb.elim (fun n => absurd xp n) fun z => absurd rfl (nz b z)
    · exact kk b o q e, fun a x => .inl (sub a x)⟩
  refine ⟨⟨⟨⟨?_, F.call.toInCall.ns.at fun o q => kk _ o npl q, fun b o eb => kk b o (fun q => ?_) (F.keep₀ b o eb), F.call.toInCall.fresh⟩, fun n c hc => ?_, F.call.apart, F.call.above⟩, F.gl, F.dom₀, fun a xa => ?_, fun a xa => sup a (F.old a xa) fun q => ?_, fun a xa => F.new a (sub a xa), sup _ F.loc npl, fun n c hc => sup _ (F.cel n c hc) (npc n c hc), by rw [List.length_set]; exact F.len, fun j y hy => ?_,
    fun i j y z a hy hz o1 o2 r1 r2 => F.apart i j y z a hy hz (own_of i y a hy o1 r1).1 (own_of j z a hz o2 r2).1 r1 r2, fun j y a hy ho' r' => F.mine j y a hy (own_of j y a hy ho' r').1 r', fun a z => ⟨sup a (F.prot a z).1 (nz a z), (F.prot a z).2.1, (F.prot a z).2.2.1, fun j y hy ho' r => (F.prot a z).2.2.2 j y hy (own_of j y a hy ho' r).1 r⟩⟩, st⟩
  · obtain ⟨h₁, t₁, rfl⟩ := F.call.toInCall.same; exact ⟨h', tk, rfl⟩
  · subst q; rw [p0] at eb; cases eb
  · obtain ⟨o, eo, d⟩ := F.call.cell n c hc; exact ⟨o, kk _ _ (npc n c hc) eo, d⟩
  · by_cases q : a = p
    · subst q; exact hp
    · obtain ⟨o, eo⟩ := F.dom a (sub a xa); exact ⟨o, kk _ _ q eo⟩
  · subst q; obtain ⟨o, eo⟩ := F.dom₀ a xa; rw [p0] at eo; cases eo
  · by_cases hj : j = k
    · subst hj
      rw [hx] at hy; cases hy
      rw [getD_same hkl]; exact hv
    · rw [getD_other hj]
      refine (F.var j y hy).move st (fun _ p => p) fun ho' a r xa _ _ => ?_
      have na : a ≠ p := fun q => hj (F.apart j k y x a hy hx ho' ho r (q ▸ rp))
      exact ⟨sup a xa na, fun o e => kk a o na e⟩
theorem FRel.freeze {X₀ : Addr → Prop} {s₀ s : Shared} {env : Env} {σ : Sto} {Z X : Addr → Prop} {m cm} (F : FRel mg mb pins nm X₀ s₀ env σ s Z X m cm) (k : Nat) : ∃ X', FRel mg mb pins nm X₀ s₀ env (freeze k σ) s Z X' m cm ∧ ∀ a, X' a → X a := by
  by_cases hown : ∃ xs, σ.getD k .unset = .own xs
  · obtain ⟨xs, e⟩ := hown
    rw [freeze_own e]
    by_cases hk : k < nm.length
    · have hx : nm[k]? = some nm[k] := List.getElem?_eq_getElem hk
      have hv := F.var k _ hx
      rw [e] at hv
      obtain ⟨p, vs, rp, xp, ⟨n, lp⟩, q⟩ := hv
      have npl : p ≠ env.locals := not_owned_ns F.call.toInCall.ns lp
      have npc : ∀ n c, env.cells.lookup n = some c → c ≠ p := fun n c hc q' => by
        obtain ⟨o, eo, d⟩ := F.call.cell n c hc
        subst q'
        have := lp.symm.trans eo
        cases this; cases d
      have sub : ∀ a, (X a ∧ a ≠ p) → X a ∨ s.heap.get? a = none := fun a xa => .inl xa.1
      exact ⟨fun a => X a ∧ a ≠ p, (F.turn (X' := fun a => X a ∧ a ≠ p) s.toks (.val (.lst xs)) hx (by rw [e]; rfl) rp (fun a x => x.1) (fun a x n => ⟨x, n⟩) (fun b o _ e => e) ⟨_, lp⟩ (fun _ => rfl)
        ⟨.ref p, rp, .lst (vs := vs.toList) (fun h => h.2 rfl) ⟨n, by simpa using lp⟩ (q.reX sub)⟩ (fun h => nomatch h) npl.symm npc).1, fun a x => x.1⟩
    · have : σ.set k (.val (.lst xs)) = σ := List.set_eq_of_length_le (by rw [F.len]; (first | lia | omega))
      rw [this]; exact ⟨X, F, fun _ x => x⟩
  · rw [freeze_id fun xs q => hown ⟨xs, q⟩]
    exact ⟨X, F, fun _ x => x⟩
theorem semS_freeze {st W} (k : Nat) (h : SemS prog w mg mb pins l sc nm st W) : SemS prog w mg mb pins l sc nm st (fun σ Q => W (freeze k σ) Q) := by
  refine .mk ?_
  intro A env X₀ s₀ σ s Z X m cm Q E a eo F hq
  obtain ⟨X', F', hX⟩ := F.freeze k
  refine wpAny_mono (h.it A env X₀ s₀ _ s Z X' m cm Q E a eo F' hq) (fun fl s₁ ⟨f, σ', X2, m', cm', q, hf, F2, st'⟩ => ⟨f, σ', X2, m', cm', q, hf, F2, ?_⟩) fun _ _ x => x
  exact ⟨fun b o hb e => st'.keep b o (hb.imp (fun n x => n (hX b x)) id) e, fun b x => (st'.newX b x).imp (hX b) id⟩

theorem Rep.ret {X₀ X : Addr → Prop} {h : Heap} {v a} (r : Rep X h v a) (s : ∀ a, X₀ a → X a) : Rep X₀ h v a := r.reX fun a x => .inl (s a x)

theorem sem1_return {e pos W} (h : SemE prog w mg mb pins l sc nm e W) : Sem1 prog w mg mb pins l sc nm (.Return (some e) pos) (fun σ Q => W σ fun a => Q (.ret a) σ) := by
  refine .mk ?_
  intro A env X₀ s₀ σ s Z X m cm Q E a eo F hq
  refine wpAny_Return_some (wpAny_mono (h.it A env X σ s _ E a eo.toEnvOk F.rel hq) (fun v s₁ hpat => ?_) fun _ _ x => x)
  obtain ⟨g, x, hx, rx⟩ := hpat
  exact ⟨.ret x, σ, X, m, cm, hx, rx.ret F.old, F.grow g, Step.grow g⟩
theorem sem1_if {t b o pos Wt Wb Wo} (ht : SemT prog w mg mb pins l sc nm t Wt) (hb : SemS prog w mg mb pins l sc nm b Wb) (ho : SemS prog w mg mb pins l sc nm o Wo) :
    Sem1 prog w mg mb pins l sc nm (.If t b o pos) (fun σ Q => Wt σ fun c => if c = true then Wb σ Q else Wo σ Q) := by
  refine .mk ?_
  intro A env X₀ s₀ σ s Z X m cm Q E a eo F hq
  refine wpAny_If (wpAny_mono (ht.it A env X σ s _ E a eo.toEnvOk F.rel hq) (fun c s₁ hpat => ?_) fun _ _ x => x)
  obtain ⟨g, hc⟩ := hpat
  cases c with
  | true => simp only [if_true] at hc ⊢; exact wpAny_mono (hb.it A env X₀ s₀ σ s₁ Z X m cm Q E a eo (F.grow g) hc) (fun fl s₂ ⟨f, σ2, X2, m2, cm2, q2, hf2, F2, st2⟩ => ⟨f, σ2, X2, m2, cm2, q2, hf2, F2, (Step.grow g).trans st2⟩) fun _ _ x => x
  | false => simp only [if_false, Bool.false_eq_true] at hc ⊢; exact wpAny_mono (ho.it A env X₀ s₀ σ s₁ Z X m cm Q E a eo (F.grow g) hc) (fun fl s₂ ⟨f, σ2, X2, m2, cm2, q2, hf2, F2, st2⟩ => ⟨f, σ2, X2, m2, cm2, q2, hf2, F2, (Step.grow g).trans st2⟩) fun _ _ x => x
theorem sem1_break {pos} : Sem1 prog w mg mb pins l sc nm (.Break pos) (fun σ Q => Q .brk σ) := .mk fun A env X₀ s₀ σ s Z X m cm Q E a eo F hq => wpAny_Break ⟨.brk, σ, X, m, cm, hq, trivial, F, Step.refl _ _ _⟩

/-- a name of the frame's -/
def isLoc (sc : Scope) (x : Str) : Bool := sc.names.lookup x == some .local || sc.names.lookup x == some .cell
theorem loc_kind {env : Env} {x : Str} (eo : FnEnv sc env) (h : isLoc sc x = true) : env.kindOf x = some .local ∨ (env.kindOf x = some .cell ∧ ∃ c, env.cells.lookup x = some c) := by
  rw [eo.kindOf]
  rcases Bool.or_eq_true_iff.mp h with q | q
  · exact .inl (by simpa using q)
  · exact .inr ⟨by simpa using q, eo.cells x (by simpa using q)⟩
/-- a plain value is bound -/
theorem FRel.bindVal {X₀ : Addr → Prop} {s₀ s : Shared} {env : Env} {σ : Sto} {Z X : Addr → Prop} {m cm} (F : FRel mg mb pins nm X₀ s₀ env σ s Z X m cm) {A : Around} {x : Str} {k : Nat} {v : Value} {a : AV} {Q : Unit → Shared → Prop} {E : Value → Shared → Prop} (eo : FnEnv sc env)
    (hx : Ix nm k x) (hn : nm.Nodup) (hl : isLoc sc x = true) (r : Rep X s.heap v a)
    (h : ∀ s' m' cm', FRel mg mb pins nm X₀ s₀ env (σ.set k (.val a)) s' Z X m' cm' → Step X Z s.heap s'.heap X → Q () s') : wpAny (model prog w) A (storeName env x v) Q E s :=
  F.bind eo.fn hx.get hn (loc_kind eo hl) (.val a) X (fun _ x => x) F.dom (fun _ x => .inl x) (fun _ x n => absurd x n) ⟨v, rfl, r⟩ (fun j y _ hy => F.var j y hy) (fun q => by cases q) (fun q => by cases q) (fun q => by cases q)
    fun s' m' cm' F' k' => h s' m' cm' F' ⟨fun b o hb e => k' b o hb e, fun _ x => .inl x⟩
theorem sem1_assign {x p value pos k W} (h : SemE prog w mg mb pins l sc nm value W) (hx : Ix nm k x) (hn : nm.Nodup := by decide +kernel) (hl : isLoc sc x = true := by decide +kernel)
    (hs : ∀ env, swapsWith value (some (.Name x p)) pos.line env = pure false := by intro _; rfl) :
    Sem1 prog w mg mb pins l sc nm (.Assign [.Name x p] value pos) (fun σ Q => W σ fun a => Q .next (σ.set k (.val a))) := by
  refine .mk ?_
  intro A env X₀ s₀ σ s Z X m cm Q E a eo F hq
  refine wpAny_Assign_Name (wpAny_mono (h.it A env X σ s _ E a eo.toEnvOk F.rel hq) (fun v s₁ hpat => ?_) fun _ _ x => x) (hs env)
  obtain ⟨g, y, hy, ry⟩ := hpat
  exact (F.grow g).bindVal eo hx hn hl ry fun s' m' cm' F' st => ⟨.next, _, X, m', cm', hy, trivial, F', (Step.grow g).trans st⟩
theorem sem1_aug {x p op value pos k W B} (h : SemE prog w mg mb pins l sc nm value W) (hB : Prim2 prog w mg mb pins l (inplaceOp op) B) (hx : Ix nm k x) (hn : nm.Nodup := by decide +kernel) (hl : isLoc sc x = true := by decide +kernel)
    (hc : (x == ("__classdict__" : Str)) = false := by decide +kernel) :
    Sem1 prog w mg mb pins l sc nm (.AugAssign (.Name x p) op value pos) (fun σ Q => (σ.getD k .unset).read fun old => W σ fun b => B old b fun a => Q .next (σ.set k (.val a))) := by
  refine .mk ?_
  intro A env X₀ s₀ σ s Z X m cm Q E a eo F hq
  have hv := F.rel.var k x hx.get
  cases e : σ.getD k .unset with
  | val old =>
    rw [e] at hq hv
    obtain ⟨u, r, rp⟩ := hv
    have cont : wpAny (model prog w) A (eval value env) (fun v s₂ => wpAny (model prog w) A (inplaceOp op u v)
      (fun r s₃ => wpAny (model prog w) A (storeName env x r) (fun _ => SPost mg mb pins nm X₀ s₀ env s Z X Q .next) E s₃) E s₂) E s := by
      refine wpAny_mono (h.it A env X σ s _ E a eo.toEnvOk F.rel hq) (fun v s₁ hpat => ?_) fun _ _ x => x
      obtain ⟨g, y, hy, ry⟩ := hpat
      have F1 := F.grow g
      refine wpAny_mono (hB.it A X s₁ u v old y _ E a F1.rel.gl F1.dom (rp.keep g.2) ry hy) (fun z s₂ hpat => ?_) fun _ _ x => x
      obtain ⟨g2, c, hc, rc⟩ := hpat
      exact (F1.grow g2).bindVal eo hx hn hl rc fun s' m' cm' F' st => ⟨.next, _, X, m', cm', hc, trivial, F', (Step.grow (g.trans g2)).trans st⟩
    rcases r with ⟨hl', m', hn', hm⟩ | ⟨hl' | hl', c, hcl, hi⟩
    · exact wpAny_AugAssign_Name (wpAny_loadName_local eo.fn hl' hn' hm cont)
    · exact wpAny_AugAssign_Name (wpAny_loadName_cell eo.fn hl' hcl hi cont)
    · exact wpAny_AugAssign_Name (wpAny_loadName_free eo.fn hl' hcl hi cont hc)
  | _ => rw [e] at hq; exact hq.elim
theorem sem1_assign2 {x y p p' value pos k j W} (h : SemE prog w mg mb pins l sc nm value W) (hx : Ix nm k x) (hy : Ix nm j y) (hn : nm.Nodup := by decide +kernel) (hlx : isLoc sc x = true := by decide +kernel) (hly : isLoc sc y = true := by decide +kernel)
    (hw : ∀ env, swappedStores [.Name x p, .Name y p'] value env = pure none := by intro _; rfl) :
    Sem1 prog w mg mb pins l sc nm (.Assign [.Name x p, .Name y p'] value pos) (fun σ Q => W σ fun a => Q .next ((σ.set k (.val a)).set j (.val a))) := by
  refine .mk ?_
  intro A env X₀ s₀ σ s Z X m cm Q E a eo F hq
  refine wpAny_Assign_two (wpAny_mono (h.it A env X σ s _ E a eo.toEnvOk F.rel hq) (fun v s₁ hpat => ?_) fun _ _ x => x) rfl (hw env)
  obtain ⟨g, b, hb, rb⟩ := hpat
  refine wpAny_assign_Name ((F.grow g).bindVal eo hx hn hlx rb fun s₂ m2 cm2 F2 st2 => ?_)
  refine wpAny_assign_Name (F2.bindVal (a := b) eo hy hn hly ?_ fun s₃ m3 cm3 F3 st3 => ?_)
  · exact rb.keepX fun c o n e => st2.keep c o (.inl n) e
  · exact ⟨.next, _, X, m3, cm3, hb, trivial, F3, ((Step.grow g).trans st2).trans st3⟩
end
end Mine
-- MP8
set_option maxRecDepth 100000
set_option linter.unusedVariables false
set_option linter.unusedSimpArgs false
namespace Mine
open PySem PySem.Calls PyProof.Rows PySem.SeqAt PySem.MeetsSeq

def Calm (A : Around) (h : Heap) : Prop := A.handled = none ∨ ∃ p o, A.handled = some (.ref p) ∧ h.get? p = some o ∧ QuietExc o
theorem AOk.toCalm {mg mb pins} {l : Lim} {A : Around} {h : Heap} (a : AOk pins l A) (G : Gl mg mb pins h) : Calm A h :=
  a.calm.imp id fun ⟨_, p, o, e, m, q⟩ => ⟨p, o, e, G.pin _ m, q⟩
theorem Calm.keep {A : Around} {h h' : Heap} (c : Calm A h) (k : Keep h h') : Calm A h' := c.imp id fun ⟨p, o, e, g, q⟩ => ⟨p, o, e, k _ _ g, q⟩

section
variable {prog : Program} {w : World} {A : Around} {E : Value → Shared → Prop} {s : Shared}

theorem raiseNew_calm {α : Type} {e : Addr} {oe : Obj} {vs : Array Value} {Q : α → Shared → Prop} (c : Calm A s.heap) (he : s.heap.get? e = some oe) (hd : oe.data = .fields vs) (hsz : 2 < vs.size) (hne : ∀ p, A.handled = some (.ref p) → p ≠ e)
    (h : ∀ h', Heap.SameBut e s.heap h' → (∃ o', h'.get? e = some o' ∧ o'.cls = oe.cls) → E (.ref e) { s with heap := h' }) : wpAny (model prog w) A (raiseNew (.ref e) : Sem α) Q E s := by
  unfold raiseNew
  refine wpAny_bind (wpAny_handled ?_)
  rcases c with c | ⟨p, o, hp, hpo, us, hus, hu2⟩
  · rw [c]
    exact wpAny_bind (wpAny_pure (wpAny_throw (h _ (Heap.SameBut.refl ..) ⟨oe, he, rfl⟩)))
  · rw [hp]
    have npe : p ≠ e := hne p hp
    have hb : (Value.ref p != Value.ref e) = true := by simp [bne, npe]
    simp only [hb, if_true]
    refine wpAny_bind (wpAny_holding (wpAny_runValue (codeAny_builtin (b := Builtin.«proto.unchain») (entryFor_of_tree (by kernel_rfl)) ?_)))
    show wpAny _ _ (field (.ref p) 2 >>= _) _ _ s
    refine wpAny_bind (wpAny_field hpo hus hu2 ?_)
    show wpAny _ _ (if (Value.none == Value.none) = true then _ else _) _ _ s
    rw [if_pos (by rfl)]
    show wpAny _ _ (ret Value.none) _ _ s
    refine wpAny_pure ?_
    show wpAny _ _ (updateField e 2 (.ref p) >>= _) _ _ s
    unfold updateField
    refine wpAny_bind (wpAny_bind (wpAny_load he ?_))
    rw [hd]
    show wpAny _ _ (if 2 < vs.size then _ else _) _ _ s
    rw [if_pos hsz]
    refine wpAny_update he (wpAny_throw (h _ (Heap.SameBut.update ..) ?_))
    obtain ⟨c, dd, dt, sl⟩ := oe
    simp only at hd
    subst hd
    exact ⟨_, Heap.get?_update_self _ he rfl, rfl⟩

theorem stop_raise {α : Type} {Q : α → Shared → Prop} (c : Calm A s.heap)
    (h : ∀ h' e, Keep s.heap h' → s.heap.get? e = none → (∃ o, h'.get? e = some o ∧ o.cls = .type "StopIteration") → E (.ref e) { s with heap := h' }) :
    wpAny (model prog w) A (do raiseNew (← newExc (.type "StopIteration") []) : Sem α) Q E s := by
  refine wpAny_bind ?_
  simp only [newExc, newTuple]
  refine wpAny_bind (wpAny_newObj_type ?_ (by size_fits))
  refine wpAny_bind (m := firstArgMember _ _) (wpAny_of_eq (a := Value.none) (by first | rfl | (simp only [firstArgMember]; rfl)) ?_)
  refine wpAny_newObj_type ?_ (by size_fits)
  have k1 : Keep s.heap (s.heap.push { cls := .type "tuple", data := .seq #[] }) := fun _ _ e => Heap.get?_push_of_some _ e
  have k2 : Keep s.heap ((s.heap.push { cls := .type "tuple", data := .seq #[] }).push { cls := .type "StopIteration", data := .fields (#[.ref s.heap.objs.size, .none, .none, .none, .bool false, .none] ++ ownMembersOf (.type "StopIteration") []) }) := fun b o e => Heap.get?_push_of_some _ (k1 b o e)
  refine raiseNew_calm (c.keep k2) (Heap.get?_push_size _ rfl) rfl (by simp; (first | lia | omega)) (fun p hp q => ?_) (fun h' sb ⟨o', e1, e2⟩ => h h' _ (fun b o e => (sb.2 b fun q => ?_).trans (k2 b o e)) ?_ ⟨o', e1, e2⟩)
  · rcases c with c | ⟨p', o, hp', hpo, _⟩
    · rw [c] at hp; cases hp
    · rw [hp'] at hp; cases hp
      have := Heap.lt_size hpo
      rw [q, Heap.size_push] at this; exact absurd (Nat.lt_of_succ_lt this) (Nat.lt_irrefl _)
  · have := Heap.lt_size e
    rw [q, Heap.size_push] at this; exact absurd (Nat.lt_of_succ_lt this) (Nat.lt_irrefl _)
  · rw [Heap.size_push]; exact Heap.get?_none_of_le (Nat.le_succ _)

theorem next_list_end {it p : Addr} {i : Nat} {items} {Q : Option Value → Shared → Prop} (c : Calm A s.heap) (hci : ∀ q, A.handled = some (.ref q) → q ≠ it)
    (hit : s.heap.IsListIter it p i) (hl : s.heap.IsList p items) (hx : items[i]? = none)
    (hQ : ∀ h', (∀ b o, b ≠ it → s.heap.get? b = some o → h'.get? b = some o) → (∃ o, h'.get? it = some o) → Q none { s with heap := h' }) : wpAny (model prog w) A (pyNext (.ref it)) Q E s := by
  obtain ⟨o, ho, hc, hd⟩ := id hit
  obtain ⟨ol, hol, _, nl, hdl⟩ := hl
  unfold pyNext
  refine wpAny_bind (wpAny_attempt (wpAny_callSpecial?_slot (name := Str.ofString "__next__") hit.typeIs slot_listiter_next
    (wpAny_call_entry slot_listiter_next hit.typeIs entry_listiter_next ?_ (args_listiter_next _))))
  show wpAny _ _ (field (.ref it) 0 >>= _) _ _ s
  refine wpAny_bind (wpAny_field ho hd (x := .ref p) rfl ?_)
  show wpAny _ _ (if (Value.ref p == Value.none) = true then _ else _) _ _ s
  rw [if_neg (show ¬ ((Value.ref p == Value.none) = true) from Bool.false_ne_true)]
  show wpAny _ _ (field (.ref it) 1 >>= _) _ _ s
  refine wpAny_bind (wpAny_field ho hd (x := .int i 0) rfl ?_)
  show wpAny _ _ (seqItems? (.ref p) >>= _) _ _ s
  refine wpAny_bind (wpAny_seqItems hol hdl ?_)
  simp only [Int.toNat_natCast, hx]
  refine wpAny_bind (wpAny_rule (wpAny_bind (wpAny_setField ho hd (by simp) ?_)))
  have sb := Heap.SameBut.update s.heap it (Obj.mapFields (·.setIfInBounds 0 .none))
  refine stop_raise (s := { s with heap := s.heap.update it (Obj.mapFields (·.setIfInBounds 0 .none)) }) (c.imp id fun ⟨q, o', e, g, r⟩ => ⟨q, o', e, (sb.2 q (hci q e)).trans g, r⟩) (fun h' e k _ ⟨o', e1, e2⟩ => ?_)
  refine wpAny_bind (wpAny_isInstance (T := "StopIteration") (b := true) ⟨_, e1, e2⟩ isSubtype_stop ?_)
  refine wpAny_pure (hQ _ (fun b o nb eb => k _ _ ((sb.2 b nb).trans eb)) ?_)
  obtain ⟨c, dd, dt, sl⟩ := o
  simp only at hd
  subst hd
  exact ⟨_, k _ _ (Heap.get?_update_self _ ho rfl)⟩
theorem next_range_end {it : Addr} {x left step : Int} {Q : Option Value → Shared → Prop} (c : Calm A s.heap) (hit : IsRangeIter s.heap it x left step) (hleft : left ≤ 0)
    (hQ : ∀ h', Keep s.heap h' → Q none { s with heap := h' }) : wpAny (model prog w) A (pyNext (.ref it)) Q E s := by
  have hT : s.TypeIs (.ref it) "range_iterator" := ⟨_, hit, rfl⟩
  unfold pyNext
  refine wpAny_bind (wpAny_attempt (wpAny_callSpecial?_slot (name := Str.ofString "__next__") hT F.slot_range_iterator_next
    (wpAny_call_entry F.slot_range_iterator_next hT F.entry_range_iterator_next ?_ (F.args_range_iterator_next_1 _))))
  show wpAny _ _ (field (.ref it) 0 >>= _) _ _ s
  refine wpAny_bind (wpAny_field hit rfl (x := rawInt x) rfl ?_)
  show wpAny _ _ (field (.ref it) 1 >>= _) _ _ s
  refine wpAny_bind (wpAny_field hit rfl (x := rawInt left) rfl ?_)
  show wpAny _ _ (field (.ref it) 2 >>= _) _ _ s
  refine wpAny_bind (wpAny_field hit rfl (x := rawInt step) rfl ?_)
  show wpAny _ _ (if left ≤ 0 then _ else _) _ _ s
  rw [if_pos hleft]
  refine wpAny_bind (wpAny_rule ?_)
  refine wpAny_bind ?_
  refine stop_raise (s := s) c (fun h' e k _ ⟨o', e1, e2⟩ => ?_)
  refine wpAny_bind (wpAny_isInstance (T := "StopIteration") (b := true) ⟨_, e1, e2⟩ isSubtype_stop ?_)
  exact wpAny_pure (hQ _ k)
end

/-- what next on an iterator may change -/
structure GrowI (I : Addr → Prop) (s s' : Shared) : Prop where
  same : ∃ h tk, s' = { s with heap := h, toks := tk }
  keep : ∀ b o, ¬ I b → s.heap.get? b = some o → s'.heap.get? b = some o

inductive NPost (I : Addr → Prop) (J : (Addr → Prop) → List AV → Heap → Prop) (X : Addr → Prop) (s : Shared) (x : AV) (r : List AV) (o : Option Value) (s' : Shared) : Prop
  | mk (v : Value) (e : o = some v) (g : GrowI I s s') (rv : Rep X s'.heap v x) (j : J X r s'.heap)
/-- an iterator: J X xs h says that it has xs left -/
structure IsIt (prog : Program) (w : World) (mg mb : Str → Option Value) (pins : List (Addr × Obj)) (l : Lim) (I : Addr → Prop) (J : (Addr → Prop) → List AV → Heap → Prop) (it : Value) : Prop where
  item : ∀ (A : Around) (X : Addr → Prop) (s : Shared) (x : AV) (r : List AV) (E : Value → Shared → Prop), AOk pins l A → Gl mg mb pins s.heap → (∀ a, I a → X a) → J X (x :: r) s.heap →
    wpAny (model prog w) A (pyNext it) (NPost I J X s x r) E s
  fin : ∀ (A : Around) (X : Addr → Prop) (s : Shared) (E : Value → Shared → Prop), AOk pins l A → Gl mg mb pins s.heap → (∀ a, I a → X a) → (∀ p ∈ pins, ¬ I p.1) → J X [] s.heap →
    wpAny (model prog w) A (pyNext it) (fun o s' => o = none ∧ GrowI I s s') E s
  self : ∀ (A : Around) (X : Addr → Prop) (s : Shared) (xs : List AV) (E : Value → Shared → Prop) (Q : Value → Shared → Prop), J X xs s.heap → Q it s → wpAny (model prog w) A (pyIter it) Q E s
  stable : ∀ (X Z X' : Addr → Prop) (h h' : Heap) (xs : List AV), J X xs h → (∀ a, I a → Z a) → Step X Z h h' X' → J X' xs h'
  alive : ∀ (X : Addr → Prop) (h : Heap) (xs : List AV), J X xs h → ∀ a, I a → ∃ o, h.get? a = some o

section
variable {prog : Program} {w : World} {mg mb : Str → Option Value} {pins : List (Addr × Obj)} {l : Lim} {sc : Scope} {nm : List Str}

theorem isIt_list (it : Addr) : IsIt prog w mg mb pins l (fun a => a = it) (fun X xs h => IterAt X h it xs) (.ref it) where
  item := fun A X s x r E ao G hI ⟨p, i, vs, ys, hit, np, hl, q, e, hi⟩ => by
    have hlen := q.length
    have hyi : ys[i]? = some x := by
      have : ys[i]? = (ys.drop i)[0]? := by simp
      rw [this, e]; rfl
    obtain ⟨v, gv, rv⟩ := q.get (i := i) (x := x) hyi
    have hne : p ≠ it := fun e' => by
      subst e'
      obtain ⟨o, e1, c1, _⟩ := hit
      obtain ⟨_, l1⟩ := hl
      have := l1.symm.trans e1
      simp at this; subst this; simp at c1
    refine wpAny_pyNext_list_item hit hl.isList (x := v) (by simpa using gv) fun h' hit' sb => ?_
    have kx : KeepX X s.heap h' := fun b o n e => (sb.2 b fun q => n (q ▸ hI it rfl)).trans e
    refine ⟨v, rfl, ⟨⟨h', s.toks, rfl⟩, fun b o n e => (sb.2 b n).trans e⟩, rv.keepX kx, p, i + 1, vs, ys, hit', np, isList_keepX kx np hl, q.keepX kx, ?_, ?_⟩
    · rw [← List.drop_drop, e]; rfl
    · have : i < ys.length := by
        rcases Nat.lt_or_ge i ys.length with q | q
        · exact q
        · rw [List.drop_of_length_le q] at e; cases e
      (first | lia | omega)
  fin := fun A X s E ao G hI hp ⟨p, i, vs, ys, hit, np, hl, q, e, hi⟩ => by
    have hlen := q.length
    refine next_list_end (ao.toCalm G) (fun q' hq' => ?_) hit hl.isList ?_ fun h' k hal => ⟨rfl, ⟨⟨h', s.toks, rfl⟩, fun b o n e => k b o n e⟩⟩
    · rcases ao.calm with c | ⟨_, h, o, c, m, _⟩
      · rw [c] at hq'; cases hq'
      · rw [c] at hq'; cases hq'; exact hp _ m
    · have : ys.length ≤ i := by
        rcases Nat.lt_or_ge i ys.length with q | q
        · have := congrArg List.length e; simp at this; (first | lia | omega)
        · exact q
      rw [Array.getElem?_eq_none_iff, ← Array.length_toList]; (first | lia | omega)
  self := fun A X s xs E Q ⟨_, _, _, _, hit, _, _, _, _, _⟩ h => wpAny_pyIter_listiter hit h
  stable := fun X Z X' h h' xs ⟨p, i, vs, ys, ⟨o, e1, e2⟩, np, ⟨n, hl⟩, q, e, hi⟩ hZ st =>
    ⟨p, i, vs, ys, ⟨o, st.keep _ _ (.inr (hZ it rfl)) e1, e2⟩, (fun x => (st.newX _ x).elim np fun e => nomatch hl.symm.trans e), ⟨n, st.keep _ _ (.inl np) hl⟩, q.step st, e, hi⟩
  alive := fun X h xs ⟨_, _, _, _, ⟨o, e1, e2⟩, _, _, _, _, _⟩ a ha => ha ▸ ⟨o, e1⟩

def rangeL (a c : Int) (n : Nat) : List AV := (List.range n).map fun i => .int (a + (i : Nat) * c)
theorem rangeL_succ (a c : Int) (n : Nat) : rangeL a c (n + 1) = .int a :: rangeL (a + c) c n := by
  unfold rangeL
  rw [List.range_succ_eq_map, List.map_cons, List.map_map]
  congr 1
  · simp
  · apply List.map_congr_left
    intro i _
    simp only [Function.comp]
    congr 1
    rw [show ((i.succ : Nat) : Int) = (i : Int) + 1 by (first | lia | omega), Int.add_mul, Int.one_mul]; (first | lia | omega)
inductive RangeIt (it : Addr) (X : Addr → Prop) (xs : List AV) (h : Heap) : Prop
  | mk (x step : Int) (n : Nat) (r : IsRangeIter h it x n step) (e : xs = rangeL x step n)
theorem isIt_range (it : Addr) : IsIt prog w mg mb pins l (fun a => a = it) (RangeIt it) (.ref it) where
  item := fun A X s y r E ao G hI ⟨x, step, n, hit, e⟩ => by
    cases n with
    | zero => cases e
    | succ n =>
      rw [rangeL_succ] at e
      cases e
      refine wpAny_pyNext_range_item hit (by (first | lia | omega)) fun h' hit' sb => ?_
      refine ⟨_, rfl, ⟨⟨h', _, rfl⟩, fun b o n e => (sb.2 b n).trans e⟩, .int _ _, x + step, step, n, ?_, rfl⟩
      rw [show ((n + 1 : Nat) : Int) - 1 = n by (first | lia | omega)] at hit'
      exact hit'
  fin := fun A X s E ao G hI hp ⟨x, step, n, hit, e⟩ => by
    have hn : n = 0 := by
      have := congrArg List.length e
      simp [rangeL] at this; (first | lia | omega)
    subst hn
    exact next_range_end (ao.toCalm G) hit (by (first | lia | omega)) fun h' k => ⟨rfl, ⟨⟨h', s.toks, rfl⟩, fun b o _ e => k b o e⟩⟩
  self := fun A X s xs E Q ⟨x, step, n, hit, _⟩ h => wpAny_pyIter_rangeiter hit h
  stable := fun X Z X' h h' xs ⟨x, step, n, hit, e⟩ hZ st => ⟨x, step, n, st.keep _ _ (.inr (hZ it rfl)) hit, e⟩
  alive := fun X h xs ⟨x, step, n, hit, _⟩ a ha => ha ▸ ⟨_, hit⟩
inductive TupIt (it : Addr) (X : Addr → Prop) (xs : List AV) (h : Heap) : Prop
  | mk (p : Addr) (i : Nat) (vs : Array Value) (ys : List AV) (hit : h.IsTupleIter it p i) (np : ¬ X p) (hl : TupX h p vs) (q : RepL X h vs.toList ys) (e : ys.drop i = xs) (hi : i ≤ ys.length)
theorem isIt_tuple (hz : l.z = true) (it : Addr) : IsIt prog w mg mb pins l (fun a => a = it) (TupIt it) (.ref it) where
  item := fun A X s x r E ao G hI ⟨p, i, vs, ys, hit, np, hl, q, e, hi⟩ => by
    have hlen := q.length
    have hyi : ys[i]? = some x := by
      have : ys[i]? = (ys.drop i)[0]? := by simp
      rw [this, e]; rfl
    obtain ⟨v, gv, rv⟩ := q.get (i := i) (x := x) hyi
    refine wpAny_pyNext_tuple_item hit hl.isTuple (x := v) (by simpa using gv) fun h' hit' sb => ?_
    have kx : KeepX X s.heap h' := fun b o n e => (sb.2 b fun q => n (q ▸ hI it rfl)).trans e
    refine ⟨v, rfl, ⟨⟨h', s.toks, rfl⟩, fun b o n e => (sb.2 b n).trans e⟩, rv.keepX kx, p, i + 1, vs, ys, hit', np, isTup_keepX kx np hl, q.keepX kx, ?_, ?_⟩
    · rw [← List.drop_drop, e]; rfl
    · have : i < ys.length := by
        rcases Nat.lt_or_ge i ys.length with q | q
        · exact q
        · rw [List.drop_of_length_le q] at e; cases e
      (first | lia | omega)
  fin := fun A X s E ao G hI hp ⟨p, i, vs, ys, hit, np, hl, q, e, hi⟩ => by
    have hlen := q.length
    refine wpAny_pyNext_tuple_end (ao.none hz) hit hl.isTuple ?_ fun h' k => ⟨rfl, ⟨⟨h', s.toks, rfl⟩, fun b o n e => k b o n e⟩⟩
    have : ys.length ≤ i := by
      rcases Nat.lt_or_ge i ys.length with q | q
      · have := congrArg List.length e; simp at this; (first | lia | omega)
      · exact q
    rw [Array.getElem?_eq_none_iff, ← Array.length_toList]; (first | lia | omega)
  self := fun A X s xs E Q ⟨_, _, _, _, hit, _, _, _, _, _⟩ h => wpAny_pyIter_tupleiter hit h
  stable := fun X Z X' h h' xs ⟨p, i, vs, ys, ⟨o, e1, e2⟩, np, ⟨n, hl⟩, q, e, hi⟩ hZ st =>
    ⟨p, i, vs, ys, ⟨o, st.keep _ _ (.inr (hZ it rfl)) e1, e2⟩, (fun x => (st.newX _ x).elim np fun e => nomatch hl.symm.trans e), ⟨n, st.keep _ _ (.inl np) hl⟩, q.step st, e, hi⟩
  alive := fun X h xs ⟨_, _, _, _, ⟨o, e1, e2⟩, _, _, _, _, _⟩ a ha => ha ▸ ⟨o, e1⟩
def chrs (s : List Nat) : List AV := s.map fun c => .str [c]
inductive StrIt (it : Addr) (X : Addr → Prop) (xs : List AV) (h : Heap) : Prop
  | mk (ty : String) (t : Tok) (i : Nat) (y : List Nat) (hty : ty = "str_ascii_iterator" ∨ ty = "str_iterator") (hit : h.IsStrIter it ty ⟨y.toArray⟩ t i) (e : chrs (y.drop i) = xs) (hi : i ≤ y.length)
theorem isIt_str (hz : l.z = true) (it : Addr) : IsIt prog w mg mb pins l (fun a => a = it) (StrIt it) (.ref it) where
  item := fun A X s x r E ao G hI ⟨ty, t, i, y, hty, hit, e, hi⟩ => by
    have hlt : i < y.length := by
      rcases Nat.lt_or_ge i y.length with q | q
      · exact q
      · rw [List.drop_of_length_le q] at e; cases e
    rw [List.drop_eq_getElem_cons hlt] at e
    simp only [chrs, List.map_cons, List.cons.injEq] at e
    obtain ⟨e1, e2⟩ := e
    have hx : (⟨y.toArray⟩ : Str).cps[i]? = some y[i] := by simp [hlt]
    rcases hty with rfl | rfl
    · refine wpAny_pyNext_ascii_item hit hx fun h' hit' sb => ⟨_, rfl, ⟨⟨h', _, rfl⟩, fun b o n e => (sb.2 b n).trans e⟩, e1 ▸ .str [y[i]] _, _, t, i + 1, y, .inl rfl, hit', e2, by (first | lia | omega)⟩
    · refine wpAny_pyNext_wide_item hit hx fun h' hit' sb => ⟨_, rfl, ⟨⟨h', _, rfl⟩, fun b o n e => (sb.2 b n).trans e⟩, e1 ▸ .str [y[i]] _, _, t, i + 1, y, .inr rfl, hit', e2, by (first | lia | omega)⟩
  fin := fun A X s E ao G hI hp ⟨ty, t, i, y, hty, hit, e, hi⟩ => by
    have hle : y.length ≤ i := by
      rcases Nat.lt_or_ge i y.length with q | q
      · have := congrArg List.length e; simp [chrs] at this; (first | lia | omega)
      · exact q
    have hx : (⟨y.toArray⟩ : Str).cps[i]? = none := by simp; (first | lia | omega)
    rcases hty with rfl | rfl
    · exact wpAny_pyNext_ascii_end (ao.none hz) hit hx fun h' k => ⟨rfl, ⟨⟨h', s.toks, rfl⟩, fun b o n e => k b o n e⟩⟩
    · exact wpAny_pyNext_wide_end (ao.none hz) hit hx fun h' k => ⟨rfl, ⟨⟨h', s.toks, rfl⟩, fun b o n e => k b o n e⟩⟩
  self := fun A X s xs E Q ⟨ty, t, i, y, hty, hit, _, _⟩ h => by
    rcases hty with rfl | rfl
    · exact wpAny_pyIter_striter_ascii hit h
    · exact wpAny_pyIter_striter_wide hit h
  stable := fun X Z X' h h' xs ⟨ty, t, i, y, hty, ⟨o, e1, e2⟩, r, r'⟩ hZ st => ⟨ty, t, i, y, hty, ⟨o, st.keep _ _ (.inr (hZ it rfl)) e1, e2⟩, r, r'⟩
  alive := fun X h xs ⟨ty, t, i, y, hty, ⟨o, e1, e2⟩, _, _⟩ a ha => ha ▸ ⟨o, e1⟩
end
end Mine
-- MP9
set_option maxRecDepth 100000
set_option linter.unusedVariables false
set_option linter.unusedSimpArgs false
namespace Mine
open PySem PySem.Calls PyProof.Rows PySem.SeqAt PySem.MeetsSeq

section
variable {prog : Program} {w : World} {mg mb : Str → Option Value} {pins : List (Addr × Obj)} {l : Lim} {sc : Scope} {nm : List Str}
  {X₀ X Z : Addr → Prop} {s₀ s : Shared} {env : Env} {σ : Sto} {m cm : Str → Option Value}

/-- an iterator is made: it joins the mutable ones, protected -/
theorem FRel.extend (F : FRel mg mb pins nm X₀ s₀ env σ s Z X m cm) {s' : Shared} (g : Grow s s') {I : Addr → Prop} (hI : ∀ a, I a → s.heap.get? a = none ∧ ∃ o, s'.heap.get? a = some o) :
    FRel mg mb pins nm X₀ s₀ env σ s' (fun a => Z a ∨ I a) (fun a => X a ∨ I a) m cm := by
  have G := F.grow g
  have st : Step X Z s.heap s'.heap (fun a => X a ∨ I a) := ⟨fun b o _ e => g.2 b o e, fun a x => x.imp id fun i => (hI a i).1⟩
  have dead : ∀ a o, I a → s.heap.get? a = some o → False := fun a o i e => by rw [(hI a i).1] at e; cases e
  refine ⟨G.call, G.gl, G.dom₀, fun a x => x.elim (G.dom a) fun i => (hI a i).2, fun a x => .inl (G.old a x), fun a x => x.elim (G.new a) fun i => .inr ?_, .inl G.loc, fun n c e => .inl (G.cel n c e), G.len, fun k x e => (F.var k x e).move st (fun _ p => p) fun _ a _ xa _ _ => ⟨.inl xa, g.2 a⟩, G.apart, G.mine, fun a z => z.elim (fun z => let q := G.prot a z; ⟨.inl q.1, q.2⟩) fun i => ⟨.inr i, ?_, fun n c hc => ?_, fun k x hx ho r => ?_⟩⟩
  · cases q : s₀.heap.get? a with
    | none => rfl
    | some o => exact (dead a o i (F.keep₀ _ _ q)).elim
  · rintro rfl
    obtain ⟨o, _, _, e, _⟩ := ns_data F.call.toInCall.ns
    exact dead _ o i e
  · rintro rfl
    obtain ⟨o, e, _⟩ := F.call.cell n _ hc
    exact dead _ o i e
  · obtain ⟨b, o, p, e⟩ := (F.var k x hx).aliveX ho
    cases r.unique p.1
    exact dead _ o i e
/-- what an iterator's next does to the frame; then it may be let go -/
theorem FRel.growD (F : FRel mg mb pins nm X₀ s₀ env σ s Z X m cm) {s' : Shared} {I Z' X' : Addr → Prop} (g : GrowI I s s') (hZ : ∀ a, I a → Z a) (hX : ∀ a, I a → X a) (h0 : ∀ a, I a → s₀.heap.get? a = none) (sub : ∀ a, X' a → X a) (sup : ∀ a, X a → ¬ I a → X' a) (al : ∀ a, I a → X' a → ∃ o, s'.heap.get? a = some o) (hZ' : ∀ a, Z' a → Z a ∧ (I a → X' a)) :
    FRel mg mb pins nm X₀ s₀ env σ s' Z' X' m cm := by
  obtain ⟨⟨h, tk, rfl⟩, k⟩ := g
  have st : Step X (fun _ => False) s.heap h X' := ⟨fun b o n e => k b o (fun i => n.elim (fun n => n (hX b i)) id) e, fun a x => .inl (sub a x)⟩
  have hns : h.Ns env.locals m := F.call.toInCall.ns.at fun o e => k _ _ (fun i => (F.prot _ (hZ _ i)).2.1 rfl) e
  refine ⟨⟨⟨?_, hns, fun b o e => k b o (fun i => by rw [h0 b i] at e; cases e) (F.keep₀ b o e), F.call.toInCall.fresh⟩, fun n c hc => ?_, F.call.apart, F.call.above⟩, F.gl, F.dom₀, fun a x => ?_, fun a x => sup a (F.old a x) fun i => ?_, fun a x => F.new a (sub a x), sup _ F.loc fun i => (F.prot _ (hZ _ i)).2.1 rfl, fun n c hc => sup _ (F.cel n c hc) fun i => (F.prot _ (hZ _ i)).2.2.1 n c hc rfl, F.len,
    fun j x e => (F.var j x e).move st (fun _ p => p) fun ho a p xa _ _ => ?_, F.apart, F.mine, fun a z => let q := F.prot a (hZ' a z).1; ⟨?_, q.2⟩⟩
  · obtain ⟨h₁, t₁, rfl⟩ := F.call.toInCall.same; exact ⟨h, tk, rfl⟩
  · obtain ⟨o, e, d⟩ := F.call.cell n c hc
    exact ⟨o, k _ _ (fun i => (F.prot _ (hZ _ i)).2.2.1 n c hc rfl) e, d⟩
  · by_cases i : I a
    · exact al a i x
    · obtain ⟨o, e⟩ := F.dom a (sub a x); exact ⟨o, k _ _ i e⟩
  · obtain ⟨o, e⟩ := F.dom₀ a x; rw [h0 a i] at e; cases e
  · have ni : ¬ I a := fun i => (F.prot _ (hZ _ i)).2.2.2 j x e ho p
    exact ⟨sup a xa ni, fun o eo => k a o ni eo⟩
  · by_cases i : I a
    · exact (hZ' a z).2 i
    · exact sup a q.1 i
theorem FRel.growI (F : FRel mg mb pins nm X₀ s₀ env σ s Z X m cm) {s' : Shared} {I : Addr → Prop} (g : GrowI I s s') (hZ : ∀ a, I a → Z a) (hX : ∀ a, I a → X a) (h0 : ∀ a, I a → s₀.heap.get? a = none) (al : ∀ a, I a → ∃ o, s'.heap.get? a = some o) :
    FRel mg mb pins nm X₀ s₀ env σ s' Z X m cm := F.growD g hZ hX h0 (fun _ x => x) (fun _ x _ => x) (fun a i _ => al a i) fun a z => ⟨z, hX a⟩
theorem FRel.dropI (F : FRel mg mb pins nm X₀ s₀ env σ s Z X m cm) {s' : Shared} {I Z' : Addr → Prop} (g : GrowI I s s') (hZ : ∀ a, I a → Z a) (hX : ∀ a, I a → X a) (h0 : ∀ a, I a → s₀.heap.get? a = none) (hZ' : ∀ a, Z' a → Z a ∧ ¬ I a) :
    FRel mg mb pins nm X₀ s₀ env σ s' Z' (fun a => X a ∧ ¬ I a) m cm := F.growD g hZ hX h0 (fun _ x => x.1) (fun _ x n => ⟨x, n⟩) (fun a i x => absurd i x.2) fun a z => ⟨(hZ' a z).1, fun i => absurd i (hZ' a z).2⟩
theorem FRel.monoZ (F : FRel mg mb pins nm X₀ s₀ env σ s Z X m cm) {Z' : Addr → Prop} (hZ' : ∀ a, Z' a → Z a) : FRel mg mb pins nm X₀ s₀ env σ s Z' X m cm :=
  ⟨F.call, F.gl, F.dom₀, F.dom, F.old, F.new, F.loc, F.cel, F.len, F.var, F.apart, F.mine, fun a z => F.prot a (hZ' a z)⟩
end

section
variable (prog : Program) (w : World) (mg mb : Str → Option Value) (pins : List (Addr × Obj)) (l : Lim) (sc : Scope) (nm : List Str)
inductive IPost (X : Addr → Prop) (s : Shared) (Q : List AV → Prop) (it : Value) (s₂ : Shared) : Prop
  | mk (g : Grow s s₂) (xs : List AV) (I : Addr → Prop) (J : (Addr → Prop) → List AV → Heap → Prop) (q : Q xs) (j : J (fun a => X a ∨ I a) xs s₂.heap) (isIt : IsIt prog w mg mb pins l I J it) (hI : ∀ a, I a → s.heap.get? a = none ∧ ∃ o, s₂.heap.get? a = some o)
/-- an iterable -/
structure SemI (e : Expr) (W : Sto → (List AV → Prop) → Prop) : Prop where
  it : ∀ (A : Around) (env : Env) (X : Addr → Prop) (σ : Sto) (s : Shared) (Q : List AV → Prop) (E : Value → Shared → Prop),
    AOk pins l A → EnvOk sc env → Rel mg mb pins nm X env σ s.heap → W σ Q →
    wpAny (model prog w) A (eval e env) (fun x s₁ => wpAny (model prog w) A (pyIter x) (IPost prog w mg mb pins l X s Q) E s₁) E s
end

section
variable {prog : Program} {w : World} {mg mb : Str → Option Value} {pins : List (Addr × Obj)} {l : Lim} {sc : Scope} {nm : List Str}

theorem not_of_keep {h h' : Heap} (k : Keep h h') {a : Addr} (e : h'.get? a = none) : h.get? a = none := by
  cases q : h.get? a with
  | none => rfl
  | some o => have := k _ _ q; rw [e] at this; cases this
theorem fresh_none (h : Heap) : h.get? h.objs.size = none := Heap.get?_none_of_le (Nat.le_refl _)

def itemsW (a : AV) (Q : List AV → Prop) : Prop := match a with
  | .lst xs => Q xs
  | .tup xs => Q xs
  | .str s => Q (chrs s)
  | _ => False
theorem semI_of {e W} (h : SemE prog w mg mb pins l sc nm e W) (hz : l.z = true) : SemI prog w mg mb pins l sc nm e (fun σ Q => W σ fun a => itemsW a Q) := by
  refine .mk ?_
  intro A env X σ s Q E a eo R hq
  refine wpAny_mono (h.it A env X σ s _ E a eo R hq) (fun v s₁ hpat => ?_) fun _ _ x => x
  obtain ⟨g, x, hx, rx⟩ := hpat
  have fr : ∀ a, (X a ∨ a = s₁.heap.objs.size) → X a ∨ s₁.heap.get? a = none := fun a x => x.imp id fun e => by subst e; exact fresh_none _
  have nw : ∀ o : Obj, o.isFreed = false → ∀ a, a = s₁.heap.objs.size → s.heap.get? a = none ∧ ∃ o', (s₁.heap.push o).get? a = some o' := fun o ho a e => by
    subst e; exact ⟨not_of_keep g.2 (fresh_none _), o, Heap.get?_push_size _ ho⟩
  cases x with
  | lst xs =>
    obtain ⟨p, vs, rfl, n, x, q⟩ := rx.toLst
    refine wpAny_pyIter_list x.isList ⟨g.trans (Grow.push _ _), _, _, _, hx, ?_, isIt_list _, nw _ rfl⟩
    exact ⟨_, 0, _, _, ⟨_, Heap.get?_push_size _ rfl, rfl, rfl⟩, (fun h => (fr _ h).elim n fun e => by obtain ⟨_, x⟩ := x; exact nomatch x.symm.trans e), isList_keepX (Keep.toX (Grow.push _ _).2) n x, by simpa using (q.reX fr).keep (Grow.push _ _).2, rfl, Nat.zero_le _⟩
  | tup xs =>
    obtain ⟨p, vs, rfl, n, x, q⟩ := rx.toTup
    refine wpAny_pyIter_tuple x.isTuple ⟨g.trans (Grow.push _ _), _, _, _, hx, ?_, isIt_tuple hz _, nw _ rfl⟩
    exact ⟨_, 0, _, _, ⟨_, Heap.get?_push_size _ rfl, rfl, rfl⟩, (fun h => (fr _ h).elim n fun e => by obtain ⟨_, x⟩ := x; exact nomatch x.symm.trans e), isTup_keepX (Keep.toX (Grow.push _ _).2) n x, by simpa using (q.reX fr).keep (Grow.push _ _).2, rfl, Nat.zero_le _⟩
  | str y =>
    obtain ⟨t, rfl⟩ := rx.toStr
    by_cases ha : (⟨y.toArray⟩ : Str).cps.all (· < 128) = true
    · exact wpAny_pyIter_ascii ha ⟨g.trans (Grow.push _ _), _, _, _, hx, ⟨_, t, 0, y, .inl rfl, ⟨_, Heap.get?_push_size _ rfl, rfl, rfl⟩, rfl, Nat.zero_le _⟩, isIt_str hz _, nw _ rfl⟩
    · exact wpAny_pyIter_wide (by simpa using ha) ⟨g.trans (Grow.push _ _), _, _, _, hx, ⟨_, t, 0, y, .inr rfl, ⟨_, Heap.get?_push_size _ rfl, rfl, rfl⟩, rfl, Nat.zero_le _⟩, isIt_str hz _, nw _ rfl⟩
  | _ => exact hx.elim
/-- a call of a built-in class by its name -/
theorem eval_callType {A : Around} {env : Env} {X : Addr → Prop} {σ : Sto} {s : Shared} {x : Str} {p pos : Pos} {e : Expr} {rest : List Expr} {T : String} {Wa : Sto → (List AV → Prop) → Prop} {P : List AV → Prop} {Q' : Value → Shared → Prop} {E : Value → Shared → Prop}
    (ha : SemA prog w mg mb pins l sc nm (e :: rest) Wa) (hp : ((e :: rest).all plainE) = true)
    (hk : sc.names.lookup x = some .globalImplicit) (hm : mg x = none) (hb : mb x = some (.type T)) (hd : (x == ("__debug__" : Str)) = false)
    (a : AOk pins l A) (eo : EnvOk sc env) (R : Rel mg mb pins nm X env σ s.heap) (hq : Wa σ P)
    (h : ∀ vs s₁ as, Grow s s₁ → P as → RepL X s₁.heap vs as → wpAny (model prog w) A (call (.type T) vs) Q' E s₁) : wpAny (model prog w) A (eval (.Call (.Name x p) (e :: rest) [] pos) env) Q' E s := by
  refine wpAny_Call_NameR (Name_function_global eo.fn (by rw [eo.kindOf]; exact hk) (loadGlobal_builtin (env := env) (eo.globals ▸ R.gl.g) hm (eo.builtins ▸ R.gl.b) hb ?_) hd)
  have hpe : plainE e = true := List.all_eq_true.mp hp e (.head _)
  have hpl : ∀ (es : List Expr), es.all plainE = true → (backTo pos (starEach es env)).any (·.1) = false := by
    intro es
    induction es with
    | nil => intro _; rfl
    | cons y ys ih =>
      intro hy
      have h1 := List.all_eq_true.mp hy y (.head _)
      rw [starEach_plain h1]
      have := ih (List.all_eq_true.mpr fun z hz => List.all_eq_true.mp hy z (.tail _ hz))
      simpa [backTo] using this
  exact callWith_type1 (wpAny_mono (ha.it A env X σ s P E pos a eo R hq) (fun vs s₁ ⟨g, as, hP, r, _⟩ => h vs s₁ as g hP r) fun _ _ x => x) (starEach_plain hpe) (hpl rest (List.all_eq_true.mpr fun z hz => List.all_eq_true.mp hp z (.tail _ hz)))

end
end Mine
-- MP10
set_option maxRecDepth 100000
set_option linter.unusedVariables false
set_option linter.unusedSimpArgs false
namespace Mine
open PySem PySem.Calls PyProof.Rows PySem.SeqAt PySem.MeetsSeq

def forW (k : Nat) (Wb Wo : WS) : List AV → WS
  | [], σ, Q => Wo σ Q
  | x :: r, σ, Q => Wb (σ.set k (.val x)) fun f σ' => match f with
    | .next => forW k Wb Wo r σ' Q
    | .cont => forW k Wb Wo r σ' Q
    | .brk => Q .next σ'
    | .ret a => Q (.ret a) σ'
def whW (Wt : Sto → (Bool → Prop) → Prop) (Wb : WS) : Nat → WS
  | 0, _, _ => False
  | n + 1, σ, Q => Wt σ fun c => if c = true then Wb σ (fun f σ' => match f with
      | .next => whW Wt Wb n σ' Q
      | .cont => whW Wt Wb n σ' Q
      | .brk => Q .next σ'
      | .ret a => Q (.ret a) σ') else Q .next σ

section
variable {prog : Program} {w : World} {mg mb : Str → Option Value} {pins : List (Addr × Obj)} {l : Lim} {sc : Scope} {nm : List Str}

inductive ForInv (mg mb : Str → Option Value) (pins : List (Addr × Obj)) (nm : List Str) (X₀ : Addr → Prop) (s₀ : Shared) (env : Env) (s : Shared) (Z X I : Addr → Prop) (J : (Addr → Prop) → List AV → Heap → Prop) (P : List AV → Sto → Prop) (n : Nat) (s' : Shared) : Prop
  | mk (ys : List AV) (σ' : Sto) (X' : Addr → Prop) (m' cm' : Str → Option Value) (hn : ys.length = n) (hJ : J X' ys s'.heap) (F' : FRel mg mb pins nm X₀ s₀ env σ' s' (fun a => Z a ∨ I a) X' m' cm') (w : P ys σ') (st : Step X Z s.heap s'.heap X')
inductive WhInv (mg mb : Str → Option Value) (pins : List (Addr × Obj)) (nm : List Str) (X₀ : Addr → Prop) (s₀ : Shared) (env : Env) (s : Shared) (Z X : Addr → Prop) (P : Nat → Sto → Prop) (n : Nat) (s' : Shared) : Prop
  | mk (σ' : Sto) (X' : Addr → Prop) (m' cm' : Str → Option Value) (F' : FRel mg mb pins nm X₀ s₀ env σ' s' Z X' m' cm') (w : P n σ') (st : Step X Z s.heap s'.heap X')
theorem sem1_for {x p iter body orelse pos k Wi Wb Wo} (hi : SemI prog w mg mb pins l sc nm iter Wi) (hb : SemS prog w mg mb pins l sc nm body Wb) (ho : SemS prog w mg mb pins l sc nm orelse Wo) (hx : Ix nm k x)
    (hn : nm.Nodup := by decide +kernel) (hl : isLoc sc x = true := by decide +kernel) (hs : ∀ env x, foldedSetIterable iter env x = pure x := by intros; rfl) :
    Sem1 prog w mg mb pins l sc nm (.For (.Name x p) iter body orelse pos) (fun σ Q => Wi σ fun xs => forW k Wb Wo xs σ Q) := by
  refine .mk ?_
  intro A env X₀ s₀ σ s Z X m cm Q E a eo F hq
  refine wpAny_For (wpAny_mono (hi.it A env X σ s _ E a eo.toEnvOk F.rel hq) (fun v s₁ h₁ => ?_) fun _ _ x => x) (hs env)
  refine wpAny_mono h₁ (fun it s₂ hpat => ?_) fun _ _ x => x
  obtain ⟨g, xs, I, J, hxs, hJ, hIt, hI⟩ := hpat
  have F2 := F.extend g hI
  have I0 : ∀ a, I a → s₀.heap.get? a = none := fun a i => not_of_keep F.keep₀ (hI a i).1
  have st2 : Step X Z s.heap s₂.heap (fun a => X a ∨ I a) := ⟨fun b o _ e => g.2 b o e, fun a x => x.imp id fun i => (hI a i).1⟩
  have pinI : ∀ p ∈ pins, ¬ I p.1 := fun p hp i => by
    have := F.rel.gl.pin p hp
    rw [(hI _ i).1] at this; cases this
  refine codeAny_forLoop (ForInv mg mb pins nm X₀ s₀ env s Z X I J (fun ys σ' => forW k Wb Wo ys σ' Q)) ?_ xs.length ⟨xs, σ, _, m, cm, rfl, hJ, F2, hxs, st2⟩
  rintro n s' ⟨ys, σ', X', m', cm', rfl, hJ', F', hW, st'⟩
  have IX : ∀ a, I a → X' a := fun a i => (F'.prot a (.inr i)).1
  have ZI : ∀ a, I a → (Z a ∨ I a) := fun a i => .inr i
  cases ys with
  | nil =>
    refine wpAny_mono (hIt.fin A X' s' _ a F'.rel.gl IX pinI hJ') (fun o s₃ hpat => ?_) fun _ _ x => x
    obtain ⟨e, gI⟩ := hpat
    subst e
    have F3 := F'.dropI gI ZI IX I0 (Z' := Z) fun a z => ⟨.inl z, fun i => by
      obtain ⟨o, e⟩ := F.dom a (F.prot a z).1
      rw [(hI a i).1] at e; cases e⟩
    have st3 : Step X Z s.heap s₃.heap (fun a => X' a ∧ ¬ I a) := ⟨fun b o hb e => gI.keep b o (fun i => by rw [(hI b i).1] at e; cases e) (st'.keep b o hb e), fun a x => st'.newX a x.1⟩
    exact wpAny_mono (ho.it A env X₀ s₀ σ' s₃ Z _ m' cm' Q _ a eo F3 hW) (fun f s₄ ⟨f', σ4, X4, m4, cm4, q4, hf4, F4, st4⟩ => ⟨f', σ4, X4, m4, cm4, q4, hf4, F4, st3.trans st4⟩) fun _ _ x => x
  | cons y r =>
    refine wpAny_mono (hIt.item A X' s' y r _ a F'.rel.gl IX hJ') (fun o s₃ hpat => ?_) fun _ _ x => x
    obtain ⟨v, e, gI, rv, hJ3⟩ := hpat
    subst e
    have F3 := F'.growI gI ZI IX I0 (hIt.alive _ _ _ hJ3)
    refine wpAny_assign_Name (F3.bindVal eo hx hn hl rv fun s₄ m4 cm4 F4 st4 => ?_)
    have st03 : Step X Z s.heap s₃.heap X' := ⟨fun b o hb e => gI.keep b o (fun i => by rw [(hI b i).1] at e; cases e) (st'.keep b o hb e), st'.newX⟩
    have hJ4 := hIt.stable _ _ _ _ _ _ hJ3 ZI st4
    have mono : ∀ {Xa Xb : Addr → Prop} {ha hb : Heap}, Step Xa (fun a => Z a ∨ I a) ha hb Xb → Step Xa Z ha hb Xb := fun q => ⟨fun b o h e => q.keep b o (h.imp id .inl) e, q.newX⟩
    refine wpAny_mono (hb.it A env X₀ s₀ _ s₄ (fun a => Z a ∨ I a) X' m4 cm4 _ _ a eo F4 hW) (fun f s₅ hpat => ?_) fun _ _ x => x
    obtain ⟨f', σ5, X5, m5, cm5, q5, hf5, F5, st5⟩ := hpat
    have stt := (st03.trans (mono st4)).trans (mono st5)
    cases f <;> cases f' <;> try exact hf5.elim
    · exact ⟨r.length, by simp, r, σ5, X5, m5, cm5, rfl, hIt.stable _ _ _ _ _ _ hJ4 ZI st5, F5, q5, stt⟩
    · exact ⟨.next, σ5, X5, m5, cm5, q5, trivial, F5.monoZ fun a z => .inl z, stt⟩
    · exact ⟨r.length, by simp, r, σ5, X5, m5, cm5, rfl, hIt.stable _ _ _ _ _ _ hJ4 ZI st5, F5, q5, stt⟩
    · exact ⟨.ret _, σ5, X5, m5, cm5, q5, hf5, F5.monoZ fun a z => .inl z, stt⟩
theorem sem1_while {t body pos Wt Wb} (ht : SemT prog w mg mb pins l sc nm t Wt) (hb : SemS prog w mg mb pins l sc nm body Wb) :
    Sem1 prog w mg mb pins l sc nm (.While t body [] pos) (fun σ Q => ∃ n, whW Wt Wb n σ Q) := by
  refine .mk ?_
  intro A env X₀ s₀ σ s Z X m cm Q E a eo F ⟨n, hq⟩
  refine wpAny_While (codeAny_whileLoop (WhInv mg mb pins nm X₀ s₀ env s Z X (fun n σ' => whW Wt Wb n σ' Q)) ?_ n ⟨σ, X, m, cm, F, hq, Step.refl _ _ _⟩)
  rintro n s' ⟨σ', X', m', cm', F', hW, st'⟩
  cases n with
  | zero => exact hW.elim
  | succ n =>
    refine wpAny_mono (ht.it A env X' σ' s' _ _ a eo.toEnvOk F'.rel hW) (fun c s₁ hpat => ?_) fun _ _ x => x
    obtain ⟨g, hc⟩ := hpat
    have st1 := st'.trans (Step.grow g)
    cases c with
    | false =>
      simp only [if_false, Bool.false_eq_true] at hc ⊢
      exact wpAny_execs_nil ⟨.next, σ', X', m', cm', hc, trivial, F'.grow g, st1⟩
    | true =>
      simp only [if_true] at hc ⊢
      refine wpAny_mono (hb.it A env X₀ s₀ σ' s₁ Z X' m' cm' _ _ a eo (F'.grow g) hc) (fun f s₅ hpat => ?_) fun _ _ x => x
      obtain ⟨f', σ5, X5, m5, cm5, q5, hf5, F5, st5⟩ := hpat
      have stt := st1.trans st5
      cases f <;> cases f' <;> try exact hf5.elim
      · exact ⟨n, by (first | lia | omega), σ5, X5, m5, cm5, F5, q5, stt⟩
      · exact ⟨.next, σ5, X5, m5, cm5, q5, trivial, F5, stt⟩
      · exact ⟨n, by (first | lia | omega), σ5, X5, m5, cm5, F5, q5, stt⟩
      · exact ⟨.ret _, σ5, X5, m5, cm5, q5, hf5, F5, stt⟩
end
end Mine
-- MP11
set_option maxRecDepth 100000
set_option linter.unusedVariables false
set_option linter.unusedSimpArgs false
namespace Mine
open PySem PySem.Calls PyProof.Rows PySem.SeqAt PySem.MeetsSeq

section
variable {M : Model} {A : Around} {E : Value → Shared → Prop} {s : Shared} {env : Env}
theorem noStar (pos : Pos) : ∀ (es : List Expr), es.all plainE = true → (backTo pos (starEach es env)).any (·.1) = false
  | [], _ => rfl
  | y :: ys, hy => by
    have h1 := List.all_eq_true.mp hy y (.head _)
    rw [starEach_plain h1]
    have := noStar pos ys (List.all_eq_true.mpr fun z hz => List.all_eq_true.mp hy z (.tail _ hz))
    simpa [backTo] using this
theorem callWith_b {pos : Pos} {id : String} {first : List Value} {es : List Expr} {Q : Value → Shared → Prop} (hp : es.all plainE = true)
    (h : wpAny M A (spliced (backTo pos (starEach es env))) (fun vs s₁ => wpAny M A (call (.builtin id) (first ++ vs)) Q E s₁) E s) : wpAny M A (callWith pos (.builtin id) first (backTo pos (starEach es env)) []) Q E s := by
  refine callWith_builtin (noStar pos es hp) ?_
  cases es with
  | nil =>
    refine PySem.evalArgs_none fun Γ p hΓ => ?_
    have q : Sem.wp M Γ (pure [] : Sem (List Value)) (fun vs _ s₁ => wpAny M A (call (.builtin id) (first ++ vs)) Q E s₁) (fun e _ s' => E e s') p s := h Γ p hΓ
    rw [Sem.wp_pure'] at q
    exact q Γ p hΓ
  | cons e rest =>
    have h1 := List.all_eq_true.mp hp e (.head _)
    rw [starEach_plain h1] at h ⊢
    exact evalArgs_plain h
end

section
variable {prog : Program} {w : World} {mg mb : Str → Option Value} {pins : List (Addr × Obj)} {l : Lim} {sc : Scope} {nm : List Str}

/-- a call of a built-in -/
structure BnOk (prog : Program) (w : World) (mg mb : Str → Option Value) (pins : List (Addr × Obj)) (l : Lim) (id : String) (M : List AV → (AV → Prop) → Prop) : Prop where
  it : ∀ (A : Around) (X : Addr → Prop) (s : Shared) (vs : List Value) (as : List AV) (Q : AV → Prop) (E : Value → Shared → Prop), AOk pins l A → Gl mg mb pins s.heap → (∀ a, X a → ∃ o, s.heap.get? a = some o) → RepL X s.heap vs as → M as Q →
    wpAny (model prog w) A (call (.builtin id) vs) (EPost X s Q) E s
def TyOk (T : String) (isT : AV → Prop) : Prop := ∀ (X : Addr → Prop) (s : Shared) (v : Value) (a : AV), Rep X s.heap v a → isT a → s.TypeIs v T ∧ ∀ b, v = .ref b → ∃ ob, s.heap.get? b = some ob ∧ ob.dict = none

theorem semE_bfn {x p es pos id Wa M} (ha : SemA prog w mg mb pins l sc nm es Wa) (hM : BnOk prog w mg mb pins l id M) (hk : sc.names.lookup x = some .globalImplicit) (hm : mg x = none) (hb : mb x = some (.builtin id))
    (hp : es.all plainE = true := by rfl) (hd : (x == ("__debug__" : Str)) = false := by decide +kernel) :
    SemE prog w mg mb pins l sc nm (.Call (.Name x p) es [] pos) (fun σ Q => Wa σ fun as => M as Q) := by
  refine .mk ?_
  intro A env X σ s Q E a eo R hq
  refine wpAny_Call_NameR (Name_function_global eo.fn (by rw [eo.kindOf]; exact hk) (loadGlobal_builtin (env := env) (eo.globals ▸ R.gl.g) hm (eo.builtins ▸ R.gl.b) hb ?_) hd)
  refine callWith_b hp (wpAny_mono (ha.it A env X σ s _ E pos a eo R hq) (fun vs s₁ hpat => ?_) fun _ _ x => x)
  obtain ⟨g, as, hP, r, _⟩ := hpat
  have R1 := R.keep g.2
  exact wpAny_mono (hM.it A X s₁ vs as Q E a R1.gl R1.dom r hP) (fun v s₂ q => q.from g) fun _ _ x => x

theorem fewArgs {env : Env} {pos : Pos} (es : List Expr) (hp : es.all plainE = true) (hn : es.length < 30) : ((backTo pos (starEach es env)).all (fun x => !x.1) && (backToKw pos (keywordEach [] env)).all (fun x => x.1.isSome)
      && decide (es.length + ([] : List Keyword).length + (if ([] : List Keyword).isEmpty then 0 else 1) < 30)) = true := by
  have h1 := noStar (env := env) pos es hp
  have h2 : (backTo pos (starEach es env)).all (fun x => !x.1) = true := by
    rw [List.all_eq_true]
    intro x hx
    rw [List.any_eq_false] at h1
    simpa using h1 x hx
  have e : (backToKw pos (keywordEach [] env)).all (fun x => x.1.isSome) = true := rfl
  rw [h2, e]
  exact decide_eq_true hn
theorem semE_meth {o name apos es pos T id isT Wo Wa M} (ho : SemE prog w mg mb pins l sc nm o Wo) (ha : SemA prog w mg mb pins l sc nm es Wa) (ty : TyOk T isT) (pa : PlainAttrs T) (slot : Slot T name id) (hty : typeOf (.builtin id) = pure (.type "method_descriptor"))
    (hM : BnOk prog w mg mb pins l id M) (hline : (apos.endLine == pos.line) = true := by rfl) (hp : es.all plainE = true := by rfl) (hn : es.length < 30 := by decide +kernel) (hbase : ∀ env, attributeBase o name env (eval o env) = eval o env := by intro _; rfl) :
    SemE prog w mg mb pins l sc nm (.Call (.Attribute o name apos) es [] pos) (fun σ Q => Wo σ fun a => isT a ∧ Wa σ fun as => M (a :: as) Q) := by
  refine .mk ?_
  intro A env X σ s Q E a eo R hq
  refine wpAny_Call_method (hbase env) (fewArgs es hp hn) hline pa slot hty (wpAny_mono (ho.it A env X σ s _ E a eo R hq) (fun ov s₁ hpat => ?_) fun _ _ x => x)
  obtain ⟨g, b, hb, rb⟩ := hpat
  obtain ⟨t1, t2⟩ := ty X s₁ ov b rb hb.1
  refine ⟨t1, t2, callWith_b hp (wpAny_mono (ha.it A env X σ s₁ _ E pos a eo (R.keep g.2) hb.2) (fun vs s₂ hpat => ?_) fun _ _ x => x)⟩
  obtain ⟨g2, as, hP, r, _⟩ := hpat
  have R2 := R.keep (g.trans g2).2
  exact wpAny_mono (hM.it A X s₂ (ov :: vs) (b :: as) Q E a R2.gl R2.dom (.cons (rb.keep g2.2) r) hP) (fun v s₃ q => q.from (g.trans g2)) fun _ _ x => x

/-- a def of the text -/
inductive FnOk (prog : Program) (w : World) (mg mb : Str → Option Value) (pins : List (Addr × Obj)) (l : Lim) (f : Str) (Wf : List AV → (AV → Prop) → Prop) : Prop
  | mk (fa : Addr) (o : Obj) (fd : FuncData) (h1 : mg f = some (.ref fa)) (h2 : (fa, o) ∈ pins) (h3 : o.data = .func fd)
    (h4 : ∀ (A : Around) (X : Addr → Prop) (s : Shared) (vs : List Value) (as : List AV) (Q : AV → Prop) (E : Value → Shared → Prop), AOk pins l A → Gl mg mb pins s.heap → (∀ a, X a → ∃ o, s.heap.get? a = some o) → RepL X s.heap vs as → Wf as Q →
      wpAny (model prog w) A (call (.ref fa) vs) (EPost X s Q) E s)
theorem FnOk.mono {l' f Wf Wf'} (h : FnOk prog w mg mb pins l f Wf) (hl : l.le l' = true) (hW : ∀ as Q, Wf' as Q → Wf as Q) : FnOk prog w mg mb pins l' f Wf' := by
  obtain ⟨fa, o, fd, h1, h2, h3, h4⟩ := h
  exact ⟨fa, o, fd, h1, h2, h3, fun A X s vs as Q E a G D r q => h4 A X s vs as Q E (a.mono hl) G D r (hW as Q q)⟩
theorem semE_fn {f p e es pos l' Wa Wf} (ha : SemA prog w mg mb pins l sc nm (e :: es) Wa) (hF : FnOk prog w mg mb pins l' f Wf) (hk : sc.names.lookup f = some .globalImplicit) (hl : l'.le l = true := by rfl)
    (hp : (e :: es).all plainE = true := by rfl) (hd : (f == ("__debug__" : Str)) = false := by decide +kernel) :
    SemE prog w mg mb pins l sc nm (.Call (.Name f p) (e :: es) [] pos) (fun σ Q => Wa σ fun as => Wf as Q) := by
  refine .mk ?_
  intro A env X σ s Q E a eo R hq
  obtain ⟨fa, o, fd, h1, h2, h3, h4⟩ := hF
  refine wpAny_Call_NameR (Name_function_global eo.fn (by rw [eo.kindOf]; exact hk) (loadGlobal_global (env := env) (eo.globals ▸ R.gl.g) h1 ?_) hd)
  refine callWith_def (o := o) h3 (wpAny_mono (ha.it A env X σ s _ E pos a eo R hq) (fun vs s₁ hpat => ?_) fun _ _ x => x) (starEach_plain (List.all_eq_true.mp hp e (.head _)))
  obtain ⟨g, as, hP, r, _⟩ := hpat
  have R1 := R.keep g.2
  exact ⟨R1.gl.pin _ h2, wpAny_mono (h4 A X s₁ vs as Q E (a.mono hl) R1.gl R1.dom r hP) (fun v s₂ q => q.from g) fun _ _ x => x⟩

/-- the frame at a def's entry -/
theorem FRel.entry {X : Addr → Prop} {s s₁ : Shared} {env : Env} {m cm : Str → Option Value} (G : Gl mg mb pins s.heap) (D : ∀ a, X a → ∃ o, s.heap.get? a = some o) (ic : InCallC s env.locals m env.cells cm s₁) (σ : Sto) (hlen : σ.length = nm.length)
    (hv : ∀ k x, nm[k]? = some x → σ.getD k .unset = .unset ∨ ∃ a v, σ.getD k .unset = .val a ∧ RdM env m cm x v ∧ Rep X s.heap v a) :
    FRel mg mb pins nm X s env σ s₁ (fun _ => False) (fun a => X a ∨ a = env.locals ∨ ∃ n, env.cells.lookup n = some a) m cm := by
  have k0 := ic.toInCall.keep
  have hL : s.heap.get? env.locals = none := Heap.get?_none_of_le ic.toInCall.fresh
  have hC : ∀ n c, env.cells.lookup n = some c → s.heap.get? c = none := fun n c hc => Heap.get?_none_of_le (Nat.le_of_lt (Nat.lt_of_le_of_lt ic.toInCall.fresh (ic.above n c (mem_of_lookup hc))))
  have re : ∀ a, (X a ∨ a = env.locals ∨ ∃ n, env.cells.lookup n = some a) → X a ∨ s.heap.get? a = none := fun a x => x.imp id fun q => q.elim (fun e => by subst e; exact hL) fun ⟨n, hn⟩ => hC n a hn
  refine ⟨ic, G, D, fun a x => ?_, fun a x => .inl x, re, .inr (.inl rfl), fun n c hc => .inr (.inr ⟨n, hc⟩), hlen, fun k x e => ?_, fun k j x y a e1 e2 o1 => ?_, fun k x a e o1 => ?_, fun a z => z.elim⟩
  · rcases x with x | x | ⟨n, hn⟩
    · obtain ⟨o, e⟩ := D a x; exact ⟨o, k0 _ _ e⟩
    · subst x; obtain ⟨o, _, _, e, _⟩ := ns_data ic.toInCall.ns; exact ⟨o, e⟩
    · obtain ⟨o, e, _⟩ := ic.cell n a hn; exact ⟨o, e⟩
  · rcases hv k x e with q | ⟨a, v, q, r, rv⟩
    · rw [q]; trivial
    · rw [q]; exact ⟨v, r, (rv.reX re).keep k0⟩
  · rcases hv k x e1 with q | ⟨a, v, q, _⟩ <;> (rw [q] at o1; cases o1)
  · rcases hv k x e with q | ⟨a, v, q, _⟩ <;> (rw [q] at o1; cases o1)
end
end Mine
-- MP12
set_option maxRecDepth 100000
set_option linter.unusedVariables false
set_option linter.unusedSimpArgs false
namespace Mine
open PySem PySem.Calls PyProof.Rows PySem.SeqAt PySem.MeetsSeq

theorem bindL_not {kd : Str → Option NameKind} {x : Str} : ∀ {bs : List (Str × Value)} {m : Str → Option Value}, x ∉ bs.map (·.1) → bindL kd bs m x = m x
  | [], _, _ => rfl
  | (n, v) :: r, m, h => by
    simp only [List.map_cons, List.mem_cons, not_or] at h
    rw [bindL, bindL_not h.2]
    split
    · simp [h.1]
    · rfl
theorem bindC_not {kd : Str → Option NameKind} {x : Str} : ∀ {bs : List (Str × Value)} {m : Str → Option Value}, x ∉ bs.map (·.1) → bindC kd bs m x = m x
  | [], _, _ => rfl
  | (n, v) :: r, m, h => by
    simp only [List.map_cons, List.mem_cons, not_or] at h
    rw [bindC, bindC_not h.2]
    split
    · rfl
    · simp [h.1]
theorem bindL_mem {kd : Str → Option NameKind} {x : Str} {v : Value} (hk : kd x = some .local) : ∀ {bs : List (Str × Value)} {m : Str → Option Value}, (bs.map (·.1)).Nodup → (x, v) ∈ bs → bindL kd bs m x = some v
  | (n, u) :: r, m, hn, h => by
    simp only [List.map_cons, List.nodup_cons] at hn
    rcases List.mem_cons.mp h with e | h
    · cases e
      rw [bindL, bindL_not hn.1, if_pos hk]; simp
    · rw [bindL, bindL_mem hk hn.2 h]
theorem bindC_mem {kd : Str → Option NameKind} {x : Str} {v : Value} (hk : kd x ≠ some .local) : ∀ {bs : List (Str × Value)} {m : Str → Option Value}, (bs.map (·.1)).Nodup → (x, v) ∈ bs → bindC kd bs m x = some v
  | (n, u) :: r, m, hn, h => by
    simp only [List.map_cons, List.nodup_cons] at hn
    rcases List.mem_cons.mp h with e | h
    · cases e
      rw [bindC, bindC_not hn.1, if_neg hk]; simp
    · rw [bindC, bindC_mem hk hn.2 h]

def sto0 (nm : List Str) (as : List AV) : Sto := as.map .val ++ List.replicate (nm.length - as.length) .unset
theorem RepL.zip_get {X : Addr → Prop} {h : Heap} {names : List Str} {vs : List Value} {as : List AV} (r : RepL X h vs as) (hl : vs.length = names.length) {k : Nat} {x : Str} (hx : names[k]? = some x) : ∃ v a, as[k]? = some a ∧ Rep X h v a ∧ (x, v) ∈ names.zip vs := by
  have hk : k < names.length := (List.getElem?_eq_some_iff.mp hx).1
  have hka : k < as.length := by rw [← r.length, hl]; exact hk
  obtain ⟨v, gv, rv⟩ := r.get (i := k) (x := as[k]) (by simp [hka])
  refine ⟨v, as[k], by simp [hka], rv, ?_⟩
  have : (names.zip vs)[k]? = some (x, v) := by simp [List.getElem?_zip_eq_some, hx, gv]
  exact List.mem_of_getElem? this

section
variable {prog : Program} {w : World} {mg mb : Str → Option Value} {pins : List (Addr × Obj)} {sc : Scope} {nm : List Str}

theorem FnOk.of_body {n : Nat} {z : Bool} {f : Str} {fa : Addr} {o : Obj} {fd : FuncData} {body : List Stmt} {names : List Str} {W : WS} (hf : mg f = some (.ref fa)) (hp : (fa, o) ∈ pins) (hd : o.data = .func fd) (hb : fd.body = .stmts body) (hs : fd.scope = sc) (hc : fd.closure = [])
    (hg : fd.globals = mainGlobals) (hbl : fd.builtins = builtinsNs) (hcode : ∀ h : Heap, (∀ p ∈ pins, h.get? p.1 = some p.2) → h.CodeRec fd.code fd.qualname)
    (hbind : ∀ vs : List Value, vs.length = names.length → bindArgs fd ⟨vs, []⟩ = pure (names.zip vs)) (hpre : ∃ rest, nm = names ++ rest) (hnd : names.Nodup) (hloc : names.all (isLoc sc) = true)
    (hk : sc.kind = .function) (hco : sc.isCoroutine = false) (hgen : sc.isGenerator = false)
    (hW : SemS prog w mg mb pins ⟨n, z⟩ sc nm body W) :
    FnOk prog w mg mb pins ⟨n + 1, z⟩ f (fun as Q => as.length = names.length ∧ W (sto0 nm as) fun fl _ => match fl with | .ret a => Q a | .next => Q .none | _ => False) := by
  subst hs
  refine ⟨fa, o, fd, hf, hp, hd, fun A X s vs as Q E a G D r ⟨hlen, hq⟩ => ?_⟩
  have hvl : vs.length = names.length := r.length.trans hlen
  have hkeys : (names.zip vs).map (·.1) = names := by rw [List.map_fst_zip]; (first | lia | omega)
  have hloc' : ((names.zip vs).all fun y => fd.scope.names.lookup y.1 == some .local || fd.scope.names.lookup y.1 == some .cell) = true := by
    rw [List.all_eq_true]
    intro y hy
    have : y.1 ∈ names := hkeys ▸ List.mem_map_of_mem hy
    exact List.all_eq_true.mp hloc y.1 this
  refine wpAny_call (codeAny_call_cells (body := body) (binds := names.zip vs) (by have := a.depth; (first | lia | omega)) (G.pin _ hp) hd G.nolimit (hcode _ G.pin) hb (hbind vs hvl) hc (fun x hx => PySem.W.kindsX hloc' _ x hx) (fun s₁ ic => ?_) hco hgen hk)
  have eo : FnEnv fd.scope (callEnvC fd s.heap.objs.size fa) := ⟨⟨rfl, hk, hg, hbl⟩, fun x hx => Option.isSome_iff_exists.mp (PySem.W.cellsFrom_some _ _ _ (.inl hx))⟩
  obtain ⟨rest, hrest⟩ := hpre
  have F := FRel.entry (nm := nm) (X := X) G D ic (sto0 nm as) (by subst hrest; simp [sto0]; (first | lia | omega)) (fun k x e => ?_)
  · refine wpAny_mono (hW.it _ _ X s _ s₁ _ _ _ _ _ (fun _ _ => False) (a.deeper _) eo F hq) (fun fl s' hpat => ?_) fun _ _ x => x.elim
    obtain ⟨f', σ', X', m', cm', q, hf', F', _⟩ := hpat
    · obtain ⟨h', tk, e, k⟩ := F'.call.done
      have g : Grow s s' := ⟨⟨h', tk, e⟩, by rw [e]; exact k⟩
      cases fl <;> cases f' <;> try exact hf'.elim
      · exact ⟨g, _, q, .none⟩
      · exact q.elim
      · exact q.elim
      · exact ⟨g, _, q, hf'⟩
  · by_cases hkn : k < names.length
    · right
      have hxn : names[k]? = some x := by rw [hrest, List.getElem?_append_left hkn] at e; exact e
      obtain ⟨v, b, hb', rb, hm⟩ := r.zip_get hvl hxn
      refine ⟨b, v, ?_, ?_, rb⟩
      · unfold sto0
        rw [List.getD_eq_getElem?_getD, List.getElem?_append_left (by simp; (first | lia | omega))]
        simp [hb']
      · have hl := List.all_eq_true.mp hloc x (List.mem_of_getElem? hxn)
        rcases loc_kind eo hl with q | ⟨q, c⟩
        · exact .inl ⟨q, bindL_mem q (by rw [hkeys]; exact hnd) hm⟩
        · exact .inr ⟨q, c, bindC_mem (by rw [q]; decide) (by rw [hkeys]; exact hnd) hm⟩
    · left
      unfold sto0
      rw [List.getD_eq_getElem?_getD, List.getElem?_append_right (by simp; (first | lia | omega))]
      rw [List.getElem?_replicate]
      split <;> rfl
end
end Mine
-- MP13
set_option maxRecDepth 100000
set_option linter.unusedVariables false
set_option linter.unusedSimpArgs false
namespace Mine
open PySem PySem.Calls PyProof.Rows PySem.SeqAt PySem.MeetsSeq

section
variable {prog : Program} {w : World} {mg mb : Str → Option Value} {pins : List (Addr × Obj)} {l : Lim} {sc : Scope} {nm : List Str}

/-- an owned list is turned -/
theorem FRel.setOwn {X₀ X Z : Addr → Prop} {s₀ s : Shared} {env : Env} {σ : Sto} {m cm : Str → Option Value} (F : FRel mg mb pins nm X₀ s₀ env σ s Z X m cm) {k : Nat} {x : Str} {xs xs' : List AV} {p : Addr} {vs vs' : Array Value} {n : Nat} {h' : Heap} (t : Nat)
    (hx : nm[k]? = some x) (e : σ.getD k .unset = .own xs) (rp : RdM env m cm x (.ref p)) (xp : X p) (lp : IsL s.heap p vs n) (sb : Heap.SameBut p s.heap h') (lx : LstX h' p vs') (r : RepL X s.heap vs'.toList xs') :
    FRel mg mb pins nm X₀ s₀ env (σ.set k (.own xs')) { s with heap := h', toks := t } Z X m cm ∧ Step X Z s.heap h' X := by
  have npl : env.locals ≠ p := (not_owned_ns F.call.toInCall.ns lp).symm
  have npc : ∀ n c, env.cells.lookup n = some c → c ≠ p := fun n c hc q' => by
    obtain ⟨o, eo, d⟩ := F.call.cell n c hc
    subst q'
    have := lp.symm.trans eo
    cases this; cases d
  obtain ⟨n', lx⟩ := lx
  exact F.turn t (.own xs') hx (by rw [e]; rfl) rp (fun _ x => x) (fun _ x _ => x) (fun b o nb eb => (sb.2 b nb).trans eb) ⟨_, lx⟩ (fun n => absurd xp n) ⟨p, vs', rp, xp, ⟨n', lx⟩, r.keepX fun b o nx e => (sb.2 b fun q => nx (q ▸ xp)).trans e⟩ (fun _ => xp) npl npc

/-- a fresh list -/
inductive FPost (X : Addr → Prop) (s : Shared) (Q : List AV → Prop) (v : Value) (s' : Shared) : Prop
  | mk (g : Grow s s') (p : Addr) (vs : Array Value) (xs : List AV) (ev : v = .ref p) (hf : s.heap.get? p = none) (hl : LstX s'.heap p vs) (q : Q xs) (r : RepL (fun a => X a ∨ a = p) s'.heap vs.toList xs)
structure SemF (prog : Program) (w : World) (mg mb : Str → Option Value) (pins : List (Addr × Obj)) (l : Lim) (sc : Scope) (nm : List Str) (e : Expr) (W : Sto → (List AV → Prop) → Prop) : Prop where
  it : ∀ (A : Around) (env : Env) (X : Addr → Prop) (σ : Sto) (s : Shared) (Q : List AV → Prop) (E : Value → Shared → Prop),
    AOk pins l A → EnvOk sc env → Rel mg mb pins nm X env σ s.heap → W σ Q → wpAny (model prog w) A (eval e env) (FPost X s Q) E s
theorem semF_list {es pos W} (h : SemA prog w mg mb pins l sc nm es W) (hl : es.length ≤ 1000 := by decide +kernel) : SemF prog w mg mb pins l sc nm (.List es pos) W := by
  refine .mk ?_
  intro A env X σ s Q E a eo R hq
  refine wpAny_List (wpAny_mono (h.it A env X σ s _ E pos a eo R hq) (fun vs s₁ hpat => ?_) fun _ _ x => x)
  obtain ⟨g1, xs, hx, rx, hn⟩ := hpat
  exact ⟨by rw [sizeLine_eq]; (first | lia | omega), g1.trans (Grow.push _ _), _, vs.toArray, xs, rfl, not_of_keep g1.2 (fresh_none _), ⟨0, IsL.new _ _⟩, hx, by simpa using (rx.reX fun a x => x.imp id fun e => by subst e; exact fresh_none _).keep (Grow.push _ _).2⟩
theorem sem1_assignOwn {x p value pos k W} (h : SemF prog w mg mb pins l sc nm value W) (hx : Ix nm k x) (hn : nm.Nodup := by decide +kernel) (hl : isLoc sc x = true := by decide +kernel)
    (hs : ∀ env, swapsWith value (some (.Name x p)) pos.line env = pure false := by intro _; rfl) :
    Sem1 prog w mg mb pins l sc nm (.Assign [.Name x p] value pos) (fun σ Q => W σ fun xs => Q .next (σ.set k (.own xs))) := by
  refine .mk ?_
  intro A env X₀ s₀ σ s Z X m cm Q E a eo F hq
  refine wpAny_Assign_Name (wpAny_mono (h.it A env X σ s _ E a eo.toEnvOk F.rel hq) (fun v s₁ hpat => ?_) fun _ _ x => x) (hs env)
  obtain ⟨g, q, vs, xs, ev, hf, hl', hy, ry⟩ := hpat
  subst ev
  have F1 := F.grow g
  obtain ⟨n, hl'⟩ := hl'
  have nX : ¬ X q := fun x => by obtain ⟨o, e⟩ := F.dom q x; rw [hf] at e; cases e
  have re : ∀ a, (X a ∨ a = q) → X a ∨ s.heap.get? a = none := fun a x => x.imp id fun e => by subst e; exact hf
  have ne_of : ∀ j y, nm[j]? = some y → (σ.getD j .unset).owns = true → ¬ RdM env m cm y (.ref q) := fun j y hy ho r => by
    obtain ⟨b, o, p', e⟩ := (F.var j y hy).aliveX ho
    have := r.unique p'.1
    cases this
    rw [hf] at e; cases e
  -- an item of the new list is none of the mutable ones, nor the list itself
  have items : RepL (fun a => X a ∨ a = q) s₁.heap vs.toList xs := ry
  refine F1.bind eo.fn hx.get hn (loc_kind eo hl) (.own xs) (fun a => X a ∨ a = q) (fun _ x => .inl x) (fun a x => x.elim (F1.dom a) fun e => by subst e; exact ⟨_, hl'⟩) (fun a x => x.imp id fun e => by subst e; exact not_of_keep F.keep₀ hf)
    (fun a x n => by rcases x with x | x; exact absurd x n; subst x; exact not_of_keep F.keep₀ hf) ⟨q, vs, rfl, .inr rfl, ⟨n, hl'⟩, items⟩ (fun j y hj hy => ?_) (fun _ j y hj hy ho r => ne_of j y hy ho r) (fun _ a z e => ?_) (fun _ a e => ?_) fun s' m' cm' F' k' => ⟨.next, _, _, m', cm', hy, trivial, F', ⟨fun b o hb e => k' b o hb (g.2 _ _ e), re⟩⟩
  · exact (F.var j y hy).move (Z := Z) ⟨fun b o _ e => g.2 b o e, re⟩ (fun _ p => p) fun _ a _ xa _ _ => ⟨.inl xa, g.2 a⟩
  · cases e
    obtain ⟨o, e⟩ := F.dom _ (F.prot _ z).1
    rw [hf] at e; cases e
  · cases e; exact not_of_keep F.keep₀ hf

/-- x.append(e) -/
theorem sem1_append {x p apos e pos pos2 k W} (h : SemE prog w mg mb pins l sc nm e W) (hx : Ix nm k x) (hline : (apos.endLine == pos.line) = true := by rfl) (hpl : plainE e = true := by rfl)
    (hd : (x == ("__debug__" : Str)) = false := by decide +kernel) (hc : (x == ("__classdict__" : Str)) = false := by decide +kernel) :
    Sem1 prog w mg mb pins l sc nm (.Expr (.Call (.Attribute (.Name x p) "append" apos) [e] [] pos) pos2)
      (fun σ Q => ∃ xs, σ.getD k .unset = .own xs ∧ xs.length ≤ 100000 ∧ W σ fun a => Q .next (σ.set k (.own (xs ++ [a])))) := by
  refine .mk ?_
  intro A env X₀ s₀ σ s Z X m cm Q E a eo F ⟨xs, ek, hlen, hq⟩
  have hv := F.var k x hx.get
  rw [ek] at hv
  obtain ⟨q, vs, rq, xq, ⟨n, lq⟩, rl⟩ := hv
  refine wpAny_Expr_any ?_ (by simp [interactive, eo.fn]) rfl
  refine wpAny_Call_method (hfew := fewArgs [e] (by simp [hpl]) (by simp)) rfl hline PySem.F.plainAttrs_list PySem.F.slot_list_append PySem.F.type_list_append (load_of_reads eo.fn (F.reads rq) ⟨⟨_, lq, rfl⟩, fun b hb => ?_, ?_⟩ hd hc)
  · cases hb; exact ⟨_, lq, rfl⟩
  · rw [starEach_plain hpl]
    refine PySem.P.append_list (wpAny_mono (h.it A env X σ s _ E a eo.toEnvOk F.rel hq) (fun v s₁ hpat => ?_) fun _ _ x => x)
    obtain ⟨g, y, hy, ry⟩ := hpat
    have lq1 : IsL s₁.heap q vs n := g.2 _ _ lq
    have F1 := F.grow g
    have hl' := rl.length
    refine ⟨vs, n, by rw [sizeLine_eq, ← Array.length_toList]; (first | lia | omega), lq1, ?_⟩
    obtain ⟨F2, st⟩ := F1.setOwn (xs' := xs ++ [y]) (vs' := vs.push v) s₁.toks hx.get ek rq xq lq1 (Heap.SameBut.update _ _ (Obj.mapSeq fun xs => xs.push v)) ⟨_, lq1.update fun xs => xs.push v⟩ (by simpa using (rl.keep g.2).append (.cons ry .nil))
    exact ⟨.next, _, X, m, cm, hy, trivial, F2, (Step.grow g).trans st⟩
end
end Mine
-- MP14
set_option maxRecDepth 100000
set_option linter.unusedVariables false
set_option linter.unusedSimpArgs false
namespace Mine
open PySem PySem.Calls PyProof.Rows PySem.SeqAt PySem.MeetsSeq

section
variable {prog : Program} {w : World} {A : Around} {E : Value → Shared → Prop} {s : Shared}
theorem setItem_X {p : Addr} {items : Array Value} {n : Nat} {k : Int} {t : Tok} {v : Value} {j : Nat} {Q : Unit → Shared → Prop} (lp : IsL s.heap p items n) (hj : seqIndex? k items.size = some j) (hsz : items.size ≤ 1000000)
    (hQ : Q () { s with heap := s.heap.update p (Obj.mapSeq (·.setIfInBounds j v)) }) : wpAny (model prog w) A (setItem (.ref p) (.int k t) v) Q E s := by
  have hl := lp.isList
  obtain ⟨b1, b2, b3⟩ := seqIndex_bounds hj
  unfold setItem
  try with_reducible refine wpAny_holding ?_
  first | refine wpAny_bind (wpAny_pure ?_) | skip
  refine wpAny_bind (wpAny_sequenceKey hl.typeIs (by decide) ?_)
  refine wpAny_bind (wpAny_callSpecial?_slot (name := Str.ofString "__setitem__") hl.typeIs slot_list_setitem
    (wpAny_call_entry slot_list_setitem hl.typeIs entry_list_setitem ?_ (args_list_setitem _ _ _)))
  show wpAny _ _ (Builtin.List.listSubscript? (.int k t) >>= _) _ _ s
  have hx' : items[j]? = some items[j] := Array.getElem?_eq_getElem b3
  by_cases h0 : 0 ≤ k
  · refine wpAny_bind (wpAny_listSubscript_int (fitsIndex_of h0 (by (first | lia | omega))) ?_)
    rw [PySem.seqIndex_of h0 b2] at hj
    cases hj
    obtain ⟨j, rfl⟩ := Int.eq_ofNat_of_zero_le h0
    simp only [Int.toNat_natCast] at hx' hQ
    show wpAny _ _ ((seqItemAt p j >>= fun r => pure (r.map (j, ·))) >>= _) _ _ s
    refine wpAny_bind (wpAny_bind (wpAny_seqItemAt lp rfl (wpAny_pure ?_)))
    rw [hx']
    show wpAny _ _ (setSeqItemAt p j v >>= _) _ _ s
    refine wpAny_bind (wpAny_setSeqItemAt lp rfl ?_)
    first
      | exact wpAny_bind (wpAny_pure (wpAny_pure ⟨.none, rfl, wpAny_pure hQ⟩))
      | exact wpAny_pure ⟨.none, rfl, wpAny_pure hQ⟩
  · refine wpAny_bind (wpAny_listSubscript_int (fitsIndex_neg (by (first | lia | omega)) (by (first | lia | omega))) ?_)
    obtain ⟨i, rfl⟩ : ∃ i : Nat, k = Int.negSucc i := by
      cases k with
      | ofNat n => exact absurd (Int.ofNat_nonneg n) h0
      | negSucc n => exact ⟨n, rfl⟩
    show wpAny _ _ ((Builtin.List.listItems (.ref p) >>= fun xs => pure ((seqIndex? (Int.negSucc i) xs.size).bind fun i => xs[i]?.map (i, ·))) >>= _) _ _ s
    refine wpAny_bind (wpAny_bind ?_)
    show wpAny _ _ (seqItems? (.ref p) >>= _) _ _ s
    refine wpAny_bind (wpAny_seqItems lp rfl (wpAny_pure (wpAny_pure ?_)))
    rw [hj]
    simp only [Option.bind_some, hx', Option.map_some]
    show wpAny _ _ (setSeqItemAt p j v >>= _) _ _ s
    refine wpAny_bind (wpAny_setSeqItemAt lp rfl ?_)
    first
      | exact wpAny_bind (wpAny_pure (wpAny_pure ⟨.none, rfl, wpAny_pure hQ⟩))
      | exact wpAny_pure ⟨.none, rfl, wpAny_pure hQ⟩
end

def setA {α : Type} (xs : List α) (k : Int) (x : α) : Option (List α) := (seqIndex? k xs.length).map fun j => xs.set j x

section
variable {prog : Program} {w : World} {mg mb : Str → Option Value} {pins : List (Addr × Obj)} {l : Lim} {sc : Scope} {nm : List Str}

def storeW (σ : Sto) (k : Nat) (xs : List AV) (i a : AV) (Q : Sto → Prop) : Prop := match i with
  | .int j => xs.length ≤ 100000 ∧ match setA xs j a with | some ys => Q (σ.set k (.own ys)) | none => False
  | _ => False
/-- x[i] = e, x an owned list -/
theorem sem1_store {x p i spos value pos k W Wi} (h : SemE prog w mg mb pins l sc nm value W) (hi : SemE prog w mg mb pins l sc nm i Wi) (hx : Ix nm k x)
    (hd : (x == ("__debug__" : Str)) = false := by decide +kernel) (hc : (x == ("__classdict__" : Str)) = false := by decide +kernel)
    (hs : ∀ env, swapsWith value (some (.Subscript (.Name x p) i spos)) pos.line env = pure false := by intro _; rfl) :
    Sem1 prog w mg mb pins l sc nm (.Assign [.Subscript (.Name x p) i spos] value pos)
      (fun σ Q => W σ fun a => ∃ xs, σ.getD k .unset = .own xs ∧ Wi σ fun j => storeW σ k xs j a (Q .next)) := by
  refine .mk ?_
  intro A env X₀ s₀ σ s Z X m cm Q E a eo F hq
  refine wpAny_Assign_Subscript (wpAny_mono (h.it A env X σ s _ E a eo.toEnvOk F.rel hq) (fun v s₁ hpat => ?_) fun _ _ x => x) (hs env)
  obtain ⟨g, y, ⟨xs, ek, hy⟩, ry⟩ := hpat
  have F1 := F.grow g
  have hv := F1.var k x hx.get
  rw [ek] at hv
  obtain ⟨q, vs, rq, xq, ⟨n, lq⟩, rl⟩ := hv
  refine load_of_reads eo.fn (F1.reads rq) ?_ hd hc
  refine wpAny_mono (hi.it A env X σ s₁ _ E a eo.toEnvOk F1.rel hy) (fun iv s₂ hpat => ?_) fun _ _ x => x
  obtain ⟨g2, z, hz, rz⟩ := hpat
  have F2 := F1.grow g2
  cases z with
  | int j =>
    obtain ⟨t, rfl⟩ := rz.toInt
    obtain ⟨hl, hz⟩ := hz
    have hlen := rl.length
    unfold setA at hz
    cases ej : seqIndex? j xs.length with
    | none => rw [ej] at hz; exact hz.elim
    | some jj =>
      rw [ej] at hz
      have lq2 : IsL s₂.heap q vs n := g2.2 _ _ lq
      have hsz : vs.size = xs.length := by rw [← Array.length_toList]; exact hlen
      refine setItem_X lq2 (by rw [hsz]; exact ej) (by rw [hsz]; (first | lia | omega)) ?_
      obtain ⟨F3, st⟩ := F2.setOwn (xs' := xs.set jj y) (vs' := vs.setIfInBounds jj v) s₂.toks hx.get ek rq xq lq2 (Heap.SameBut.update _ _ (Obj.mapSeq (·.setIfInBounds jj v))) ⟨_, lq2.update (·.setIfInBounds jj v)⟩
        (by rw [Array.toList_setIfInBounds]; exact (rl.keep g2.2).set jj (ry.keep g2.2))
      exact ⟨.next, _, X, m, cm, hz, trivial, F3, (Step.grow (g.trans g2)).trans st⟩
  | _ => exact hz.elim
/-- x[i] op= e -/
theorem sem1_augStore {x p i spos op value pos k W Wi B} (hi : SemE prog w mg mb pins l sc nm i Wi) (h : SemE prog w mg mb pins l sc nm value W) (hB : Prim2 prog w mg mb pins l (inplaceOp op) B) (hx : Ix nm k x)
    (hd : (x == ("__debug__" : Str)) = false := by decide +kernel) (hc : (x == ("__classdict__" : Str)) = false := by decide +kernel)
    (hst : ∀ ov iv new, augStore i ov iv new = (do holding [new, ov, iv] (setItem ov iv new); release [new, ov, iv] []; pure .next) := by intros; rfl) :
    Sem1 prog w mg mb pins l sc nm (.AugAssign (.Subscript (.Name x p) i spos) op value pos)
      (fun σ Q => ∃ xs, σ.getD k .unset = .own xs ∧ Wi σ fun j => itemW (.lst xs) j fun old => W σ fun b => B old b fun a => storeW σ k xs j a (Q .next)) := by
  refine .mk ?_
  intro A env X₀ s₀ σ s Z X m cm Q E a eo F ⟨xs, ek, hq⟩
  have hv := F.var k x hx.get
  rw [ek] at hv
  obtain ⟨q, vs, rq, xq, ⟨n, lq⟩, rl⟩ := hv
  refine wpAny_AugAssign_SubscriptAny (load_of_reads eo.fn (F.reads rq) ?_ hd hc) hst
  refine wpAny_mono (hi.it A env X σ s _ E a eo.toEnvOk F.rel hq) (fun iv s₂ hpat => ?_) fun _ _ x => x
  obtain ⟨g2, z, hz, rz⟩ := hpat
  have F2 := F.grow g2
  cases z with
  | int j =>
    obtain ⟨t, rfl⟩ := rz.toInt
    obtain ⟨hl, hz⟩ := hz
    have hlen := rl.length
    cases eg : getA xs j with
    | none => rw [eg] at hz; exact hz.elim
    | some old =>
      rw [eg] at hz
      have lq2 : IsL s₂.heap q vs n := g2.2 _ _ lq
      refine wpAny_mono (getItem_listX (xs := xs) (x := old) (vs := vs.toList) ⟨n, by simpa using lq2⟩ (rl.keep g2.2) hl eg (Q := fun a => a = old) rfl) (fun ov s₃ hpat => ?_) fun _ _ x => x
      obtain ⟨g3, b, eb, rb⟩ := hpat
      subst eb
      have F3 := F2.grow g3
      refine wpAny_mono (h.it A env X σ s₃ _ E a eo.toEnvOk F3.rel hz) (fun bv s₄ hpat => ?_) fun _ _ x => x
      obtain ⟨g4, c, hc', rc⟩ := hpat
      have F4 := F3.grow g4
      refine wpAny_mono (hB.it A X s₄ ov bv b c _ E a F4.rel.gl F4.dom (rb.keep g4.2) rc hc') (fun nv s₅ hpat => ?_) fun _ _ x => x
      obtain ⟨g5, y, hy, ry⟩ := hpat
      have F5 := F4.grow g5
      have lq5 : IsL s₅.heap q vs n := g5.2 _ _ (g4.2 _ _ (g3.2 _ _ lq2))
      obtain ⟨_, hy⟩ := hy
      unfold setA at hy
      cases ej : seqIndex? j xs.length with
      | none => rw [ej] at hy; exact hy.elim
      | some jj =>
        rw [ej] at hy
        have hsz : vs.size = xs.length := by rw [← Array.length_toList]; exact hlen
        refine setItem_X lq5 (by rw [hsz]; exact ej) (by rw [hsz]; (first | lia | omega)) ?_
        obtain ⟨F6, st⟩ := F5.setOwn (xs' := xs.set jj y) (vs' := vs.setIfInBounds jj nv) s₅.toks hx.get ek rq xq lq5 (Heap.SameBut.update _ _ (Obj.mapSeq (·.setIfInBounds jj nv))) ⟨_, lq5.update (·.setIfInBounds jj nv)⟩
          (by rw [Array.toList_setIfInBounds]; exact (rl.keep (((g2.trans g3).trans g4).trans g5).2).set jj ry)
        exact ⟨.next, _, X, m, cm, hy, trivial, F6, (Step.grow (((g2.trans g3).trans g4).trans g5)).trans st⟩
  | _ => exact hz.elim
end
end Mine
-- MP15
set_option maxRecDepth 100000
set_option linter.unusedVariables false
set_option linter.unusedSimpArgs false
namespace Mine
open PySem PySem.Calls PyProof.Rows PySem.SeqAt PySem.MeetsSeq PySem.Builtin PySem.Builtin.Str

section
variable {prog : Program} {w : World} {mg mb : Str → Option Value} {pins : List (Addr × Obj)} {l : Lim}

def lenW : List AV → (AV → Prop) → Prop
  | [.str s], Q => s.length ≤ 1000000 ∧ Q (.int s.length)
  | [.lst xs], Q => xs.length ≤ 1000000 ∧ Q (.int xs.length)
  | _, _ => False
theorem len_ok : BnOk prog w mg mb pins l "len" lenW := .mk fun A X s vs as Q E a G D r h => by
  cases as with
  | nil => exact h.elim
  | cons y q =>
    cases y <;> try exact h.elim
    · cases q <;> try exact h.elim
      obtain ⟨v, rfl, rv⟩ := r.to1
      obtain ⟨t, rfl⟩ := rv.toStr
      have h1 := h.1
      exact call_len_gives (typeIs_str _ _ _) F.slot_str_len F.entry_str_len (F.args_str_len_1 _) (gives_str_len _ _) (by (first | lia | omega)) (by simp only [Str.length, List.size_toArray]; (first | lia | omega)) ⟨Grow.tok _ _, _, h.2, .int _ _⟩
    · cases q <;> try exact h.elim
      obtain ⟨v, rfl, rv⟩ := r.to1
      obtain ⟨p, vs', rfl, n, L, rl⟩ := rv.toLst
      have h1 := h.1
      have e := rl.length
      refine call_len_list L.isList (by simp only [List.size_toArray]; (first | lia | omega)) ⟨Grow.tok _ _, _, h.2, ?_⟩
      rw [List.size_toArray, e]; exact .int _ _

def minW : List AV → (AV → Prop) → Prop
  | [.int a, .int b], Q => Q (.int (if b < a then b else a))
  | _, _ => False
theorem minW_inv {as : List AV} {Q : AV → Prop} (h : minW as Q) : ∃ i j, as = [.int i, .int j] ∧ Q (.int (if j < i then j else i)) := by
  cases as with
  | nil => exact h.elim
  | cons a r =>
    cases a <;> try exact h.elim
    cases r with
    | nil => exact h.elim
    | cons b r =>
      cases b <;> try exact h.elim
      cases r <;> try exact h.elim
      exact ⟨_, _, rfl, h⟩
theorem min_ok (hz : l.z = true) : BnOk prog w mg mb pins l "min" minW := .mk fun A X s vs as Q E a G D r h => by
  obtain ⟨i, j, rfl, h⟩ := minW_inv h
  obtain ⟨v, u, rfl, rv, ru⟩ := r.to2
  obtain ⟨t, rfl⟩ := rv.toInt
  obtain ⟨t', rfl⟩ := ru.toInt
  refine min_two_ints (a.none hz) fun h' tk hk => ⟨Grow.heap _ hk, _, h, ?_⟩
  by_cases c : j < i <;> simp only [c, if_true, if_false] <;> exact .int _ _

def chrW : List AV → (AV → Prop) → Prop
  | [.int i], Q => 0 ≤ i ∧ i ≤ 1114111 ∧ Q (.str [i.toNat])
  | _, _ => False
theorem chrW_inv {as : List AV} {Q : AV → Prop} (h : chrW as Q) : ∃ i, as = [.int i] ∧ 0 ≤ i ∧ i ≤ 1114111 ∧ Q (.str [i.toNat]) := by
  cases as with
  | nil => exact h.elim
  | cons a r =>
    cases a <;> try exact h.elim
    cases r <;> try exact h.elim
    exact ⟨_, rfl, h⟩
theorem chr_ok : BnOk prog w mg mb pins l "chr" chrW := .mk fun A X s vs as Q E a G D r h => by
  obtain ⟨i, rfl, h⟩ := chrW_inv h
  obtain ⟨v, rfl, rv⟩ := r.to1
  obtain ⟨t, rfl⟩ := rv.toInt
  exact chr_of_range h.1 h.2.1 ⟨Grow.tok _ _, _, h.2.2, .str [_] _⟩
def ordW : List AV → (AV → Prop) → Prop
  | [.str [c]], Q => Q (.int c)
  | _, _ => False
theorem ordW_inv {as : List AV} {Q : AV → Prop} (h : ordW as Q) : ∃ c : Nat, as = [.str [c]] ∧ Q (.int c) := by
  cases as with
  | nil => exact h.elim
  | cons a r =>
    cases a <;> try exact h.elim
    rename_i s
    cases s with
    | nil => exact h.elim
    | cons c s =>
      cases s <;> try exact h.elim
      cases r <;> try exact h.elim
      exact ⟨_, rfl, h⟩
theorem ord_ok : BnOk prog w mg mb pins l "ord" ordW := .mk fun A X s vs as Q E a G D r h => by
  obtain ⟨c, rfl, h⟩ := ordW_inv h
  obtain ⟨v, rfl, rv⟩ := r.to1
  obtain ⟨t, rfl⟩ := rv.toStr
  exact ord_of_one rfl ⟨Grow.tok _ _, _, h, .int _ _⟩
def baseW (pre : String) (b : Nat) : List AV → (AV → Prop) → Prop
  | [.int i], Q => (baseText pre b i).length ≤ 1000000 ∧ Q (.str (strL (baseText pre b i)))
  | _, _ => False
theorem baseW_inv {pre : String} {b : Nat} {as : List AV} {Q : AV → Prop} (h : baseW pre b as Q) : ∃ i, as = [.int i] ∧ (baseText pre b i).length ≤ 1000000 ∧ Q (.str (strL (baseText pre b i))) := by
  cases as with
  | nil => exact h.elim
  | cons a r =>
    cases a <;> try exact h.elim
    cases r <;> try exact h.elim
    exact ⟨_, rfl, h⟩
theorem hex_ok : BnOk prog w mg mb pins l "hex" (baseW "0x" 16) := .mk fun A X s vs as Q E a G D r h => by
  obtain ⟨i, rfl, h⟩ := baseW_inv h
  obtain ⟨v, rfl, rv⟩ := r.to1
  obtain ⟨t, rfl⟩ := rv.toInt
  exact PySem.P.hex_of_int ⟨Grow.tok _ _, _, h.2, rep_str _ _⟩ (by have := h.1; rw [sizeLine_eq]; (first | lia | omega))
def intsA : List AV → Option (List Int)
  | [] => some []
  | .int i :: r => (intsA r).map (i :: ·)
  | _ => none
def sumOk : Int → List Int → Prop
  | _, [] => True
  | c, i :: r => InLong i ∧ InLong (c + i) ∧ sumOk (c + i) r
def sumW : List AV → (AV → Prop) → Prop
  | [.lst xs], Q => ∃ is, intsA xs = some is ∧ sumOk 0 is ∧ Q (.int is.sum)
  | _, _ => False
theorem intsA_cons {x : AV} {xs : List AV} {is : List Int} (e : intsA (x :: xs) = some is) : ∃ i js, x = .int i ∧ is = i :: js ∧ intsA xs = some js := by
  cases x with
  | int i =>
    simp only [intsA, Option.map_eq_some_iff] at e
    obtain ⟨js, e1, e2⟩ := e
    exact ⟨i, js, rfl, e2.symm, e1⟩
  | _ => cases e
theorem intsA_rep {X : Addr → Prop} {h : Heap} : ∀ {xs : List AV} {vs is}, RepL X h vs xs → intsA xs = some is → ∃ ps : List (Int × Tok), vs = ps.map (fun p => .int p.1 p.2) ∧ ps.map (·.1) = is := by
  intro xs
  induction xs with
  | nil => intro vs is r e; cases r.toNil; cases e; exact ⟨[], rfl, rfl⟩
  | cons x xs ih =>
    intro vs is r e
    obtain ⟨i, js, rfl, rfl, e'⟩ := intsA_cons e
    obtain ⟨v, ws, rfl, rv, rw'⟩ := r.toCons
    obtain ⟨t, rfl⟩ := rv.toInt
    obtain ⟨ps, rfl, rfl⟩ := ih rw' e'
    exact ⟨(i, t) :: ps, rfl, rfl⟩
theorem numAt_cons (p : Int × Tok) (ps : List (Int × Tok)) (j : Nat) : numAt (p :: ps).toArray (j + 1) = numAt ps.toArray j := by simp [numAt]
theorem preSum_cons (p : Int × Tok) (ps : List (Int × Tok)) : ∀ j, preSum (numAt (p :: ps).toArray) (j + 1) = p.1 + preSum (numAt ps.toArray) j
  | 0 => by simp [preSum, numAt]
  | j + 1 => by
    show preSum (numAt (p :: ps).toArray) (j + 1) + numAt (p :: ps).toArray (j + 1) = p.1 + (preSum (numAt ps.toArray) j + numAt ps.toArray j)
    rw [preSum_cons p ps j, numAt_cons]; (first | lia | omega)
theorem preSum_sum : ∀ (ps : List (Int × Tok)), preSum (numAt ps.toArray) ps.length = (ps.map (·.1)).sum
  | [] => rfl
  | p :: ps => by rw [List.length_cons, preSum_cons, preSum_sum ps]; simp
theorem sumOk_fit : ∀ (ps : List (Int × Tok)) (c : Int), sumOk c (ps.map (·.1)) → ∀ j, j < ps.length → InLong (numAt ps.toArray j) ∧ InLong (c + preSum (numAt ps.toArray) (j + 1))
  | [], _, _, j, hj => by simp at hj
  | p :: ps, c, h, 0, _ => by
    refine ⟨by simpa [numAt] using h.1, ?_⟩
    have : preSum (numAt (p :: ps).toArray) (0 + 1) = p.1 := by rw [preSum_cons]; simp [preSum]
    rw [this]; exact h.2.1
  | p :: ps, c, h, j + 1, hj => by
    have := sumOk_fit ps (c + p.1) h.2.2 j (by simpa using hj)
    rw [numAt_cons, preSum_cons, ← Int.add_assoc]; exact this
theorem sumW_inv {as : List AV} {Q : AV → Prop} (h : sumW as Q) : ∃ xs, as = [.lst xs] ∧ ∃ is, intsA xs = some is ∧ sumOk 0 is ∧ Q (.int is.sum) := by
  cases as with
  | nil => exact h.elim
  | cons a r =>
    cases a <;> try exact h.elim
    cases r <;> try exact h.elim
    exact ⟨_, rfl, h⟩
theorem sum_ok (hz : l.z = true) : BnOk prog w mg mb pins l "sum" sumW := .mk fun A X s vs as Q E a G D r h => by
  obtain ⟨xs, rfl, is, e, ok, q⟩ := sumW_inv h
  obtain ⟨v, rfl, rv⟩ := r.to1
  obtain ⟨p, vs', rfl, n, L, rl⟩ := rv.toLst
  obtain ⟨ps, rfl, rfl⟩ := intsA_rep rl e
  have hL := L.isList; rw [show (List.map (fun (p : Int × Tok) => Value.int p.fst p.snd) ps).toArray = intItems ps.toArray by simp [intItems]] at hL
  refine sum_intList (a.none hz) hL (fun j hj => by have := sumOk_fit ps 0 ok j (by simpa using hj); rwa [Int.zero_add] at this) fun h' tk t' hk => ⟨Grow.heap _ hk, _, q, ?_⟩
  rw [List.size_toArray, preSum_sum ps]; exact .int _ _

/-- strings -/
def strsA : List AV → Option (List (List Nat))
  | [] => some []
  | .str x :: r => (strsA r).map (x :: ·)
  | _ => none
theorem strsA_cons {x : AV} {xs : List AV} {is : List (List Nat)} (e : strsA (x :: xs) = some is) : ∃ i js, x = .str i ∧ is = i :: js ∧ strsA xs = some js := by
  cases x with
  | str i =>
    simp only [strsA, Option.map_eq_some_iff] at e
    obtain ⟨js, e1, e2⟩ := e
    exact ⟨i, js, rfl, e2.symm, e1⟩
  | _ => cases e
theorem strsA_rep {X : Addr → Prop} {h : Heap} : ∀ {xs : List AV} {vs is}, RepL X h vs xs → strsA xs = some is → StrsAre vs (is.map fun x => ⟨x.toArray⟩) := by
  intro xs
  induction xs with
  | nil => intro vs is r e; cases r.toNil; cases e; exact .nil
  | cons x xs ih =>
    intro vs is r e
    obtain ⟨i, js, rfl, rfl, e'⟩ := strsA_cons e
    obtain ⟨v, ws, rfl, rv, rw'⟩ := r.toCons
    obtain ⟨t, rfl⟩ := rv.toStr
    exact .cons _ _ (ih rw' e')
def joinL (sep : List Nat) (ys : List (List Nat)) : List Nat := strL (Txt.join ⟨sep.toArray⟩ (ys.map fun x => ⟨x.toArray⟩))
def joinW : List AV → (AV → Prop) → Prop
  | [.str sep, .lst xs], Q => ∃ ys, strsA xs = some ys ∧ (ys.map (·.length)).sum + ys.length * sep.length ≤ 16777216 ∧ Q (.str (joinL sep ys))
  | _, _ => False
theorem joinW_inv {as : List AV} {Q : AV → Prop} (h : joinW as Q) : ∃ sep xs, as = [.str sep, .lst xs] ∧ ∃ ys, strsA xs = some ys ∧ (ys.map (·.length)).sum + ys.length * sep.length ≤ 16777216 ∧ Q (.str (joinL sep ys)) := by
  cases as with
  | nil => exact h.elim
  | cons a r =>
    cases a <;> try exact h.elim
    cases r with
    | nil => exact h.elim
    | cons b r =>
      cases b <;> try exact h.elim
      cases r <;> try exact h.elim
      exact ⟨_, _, rfl, h⟩
theorem join_ok : BnOk prog w mg mb pins l "str.join" joinW := .mk fun A X s vs as Q E a G D r h => by
  obtain ⟨sep, xs, rfl, ys, e, ok, q⟩ := joinW_inv h
  obtain ⟨v, u, rfl, rv, ru⟩ := r.to2
  obtain ⟨t, rfl⟩ := rv.toStr
  obtain ⟨p, vs', rfl, n, L, rl⟩ := ru.toLst
  exact join_list L.isList (by simpa using strsA_rep rl e) (by simpa [Function.comp_def, Str.length] using ok) fun t' k => ⟨Grow.tok _ _, _, q, rep_str _ _⟩
def splitL (x y : List Nat) : List (List Nat) := (Txt.split ⟨x.toArray⟩ ⟨y.toArray⟩).map strL
def splitW : List AV → (AV → Prop) → Prop
  | [.str x, .str y], Q => y ≠ [] ∧ x.length ≤ 1000000 ∧ (partsBetween ⟨x.toArray⟩ (occurrences ⟨x.toArray⟩ ⟨y.toArray⟩ 0 x.length (x.length + 1)) y.length).length ≤ 1000000 ∧ Q (.lst ((splitL x y).map .str))
  | _, _ => False
theorem repL_strs {X : Addr → Prop} {h : Heap} : ∀ (ps : List (Str × Tok)), RepL X h (strValues ps) ((ps.map (·.1)).map fun x => .str (strL x))
  | [] => .nil
  | p :: ps => .cons (rep_str _ _) (repL_strs ps)
theorem splitW_inv {as : List AV} {Q : AV → Prop} (h : splitW as Q) : ∃ x y, as = [.str x, .str y] ∧ y ≠ [] ∧ x.length ≤ 1000000 ∧ (partsBetween ⟨x.toArray⟩ (occurrences ⟨x.toArray⟩ ⟨y.toArray⟩ 0 x.length (x.length + 1)) y.length).length ≤ 1000000 ∧ Q (.lst ((splitL x y).map .str)) := by
  cases as with
  | nil => exact h.elim
  | cons a r =>
    cases a <;> try exact h.elim
    cases r with
    | nil => exact h.elim
    | cons b r =>
      cases b <;> try exact h.elim
      cases r <;> try exact h.elim
      exact ⟨_, _, rfl, h⟩
theorem split_ok : BnOk prog w mg mb pins l "str.split" splitW := .mk fun A X s vs as Q E a G D r h => by
  obtain ⟨x, y, rfl, hy, hx, hp, q⟩ := splitW_inv h
  obtain ⟨v, v', rfl, rv, ru⟩ := r.to2
  obtain ⟨t, rfl⟩ := rv.toStr
  obtain ⟨u, rfl⟩ := ru.toStr
  have hy' : ((⟨y.toArray⟩ : Str).length == 0) = false := by cases y <;> simp_all [Str.length]
  have hsz : (⟨x.toArray⟩ : Str).length ≤ sizeLine := by rw [sizeLine_eq]; simp only [Str.length, List.size_toArray]; (first | lia | omega)
  have hsz2 : (partsBetween ⟨x.toArray⟩ (occurrences ⟨x.toArray⟩ ⟨y.toArray⟩ 0 (⟨x.toArray⟩ : Str).length ((⟨x.toArray⟩ : Str).length + 1)) (⟨y.toArray⟩ : Str).length).length ≤ sizeLine := by rw [sizeLine_eq]; simp only [Str.length, List.size_toArray]; (first | lia | omega)
  have fin : ∀ (ps : List (Str × Tok)) (k : Nat), ps.map (·.1) = Txt.split ⟨x.toArray⟩ ⟨y.toArray⟩ →
      (EPost X s Q) (.ref s.heap.objs.size) { s with toks := k, heap := s.heap.push { cls := .type "list", data := .seq (strValues ps).toArray } } := fun ps k e => by
    have g : Grow s { s with toks := k, heap := s.heap.push { cls := .type "list", data := .seq (strValues ps).toArray } } := Grow.heap _ fun _ _ e => Heap.get?_push_of_some _ e
    refine ⟨g, _, q, ?_⟩
    have : (splitL x y).map AV.str = (ps.map (·.1)).map fun x => .str (strL x) := by unfold splitL; rw [← e]; simp
    rw [this]
    exact .lst (fun x => by obtain ⟨o, e⟩ := D _ x; exact absurd (Heap.lt_size e) (Nat.lt_irrefl _)) ⟨0, IsL.new _ _⟩ (repL_strs ps)
  cases h1 : (decide ((⟨x.toArray⟩ : Str).length < (⟨y.toArray⟩ : Str).length) || decide (strKind ⟨x.toArray⟩ < strKind ⟨y.toArray⟩))
  · cases hf : (occurrences ⟨x.toArray⟩ ⟨y.toArray⟩ 0 (⟨x.toArray⟩ : Str).length ((⟨x.toArray⟩ : Str).length + 1)).isEmpty
    · refine call_meets F.slot_str_split (typeIs_str _ _ _) F.entry_str_split (F.args_str_split_2 _ _) (meets_str_split_sep _ _ t u h1 hy' hf hsz hsz2) ?_
      show wants _ E _ { s with toks := _, heap := s.heap.push { cls := .type "list", data := .seq (strsFrom s.toks (partsBetween _ (occurrences _ _ 0 _ (_ + 1)) _)).toArray } }
      rw [strsFrom_eq]
      exact fin (numbered s.toks _) _ ((numbered_texts _ _).trans ((if_neg (ne_true_of_eq_false h1)).trans (if_neg (ne_true_of_eq_false hf))).symm)
    · exact call_meets F.slot_str_split (typeIs_str _ _ _) F.entry_str_split (F.args_str_split_2 _ _) (meets_str_split_not_found _ _ t u h1 hy' hf)
        (fin [(_, t)] s.toks ((if_neg (ne_true_of_eq_false h1)).trans (if_pos hf)).symm)
  · exact call_meets F.slot_str_split (typeIs_str _ _ _) F.entry_str_split (F.args_str_split_2 _ _) (meets_str_split_cannot_occur _ _ t u h1)
      (fin [(_, t)] s.toks (if_pos h1).symm)
def lowerL (x : List Nat) : List Nat := (placed ⟨x.toArray⟩ fun i _ => Unicode.lowerAt x.toArray i).toList
def lowerW : List AV → (AV → Prop) → Prop
  | [.str x], Q => (lowerL x).length ≤ 1000000 ∧ Q (.str (lowerL x))
  | _, _ => False
theorem notLong {n : Nat} (h : n ≤ 1000000) : tooLong n = false := by
  unfold tooLong; rw [sizeLine_eq]; simp; (first | lia | omega)
theorem lowerW_inv {as : List AV} {Q : AV → Prop} (h : lowerW as Q) : ∃ x, as = [.str x] ∧ (lowerL x).length ≤ 1000000 ∧ Q (.str (lowerL x)) := by
  cases as with
  | nil => exact h.elim
  | cons a r =>
    cases a <;> try exact h.elim
    cases r <;> try exact h.elim
    exact ⟨_, rfl, h⟩
theorem lower_ok : BnOk prog w mg mb pins l "str.lower" lowerW := .mk fun A X s vs as Q E a G D r h => by
  obtain ⟨x, rfl, h⟩ := lowerW_inv h
  obtain ⟨v, rfl, rv⟩ := r.to1
  obtain ⟨t, rfl⟩ := rv.toStr
  have h1 : (placed ⟨x.toArray⟩ fun i _ => Unicode.lowerAt x.toArray i).size ≤ 1000000 := by have := h.1; simpa [lowerL] using this
  exact call_gives F.slot_str_lower (typeIs_str _ _ _) F.entry_str_lower (F.args_str_lower_1 _) (gives_str_lower ⟨x.toArray⟩ t (notLong h1)) ⟨by simp only [Str.length, sizeLine_eq]; (first | lia | omega), Grow.tok _ _, _, h.2, rep_str _ _⟩
def isStr : AV → Prop
  | .str _ => True
  | _ => False
theorem tyStr : TyOk "str" isStr := by
  intro X s v a r h
  cases a <;> try exact h.elim
  obtain ⟨t, rfl⟩ := r.toStr
  exact ⟨typeIs_str _ _ _, fun b e => nomatch e⟩
end
end Mine
-- MP16
set_option maxRecDepth 100000
set_option linter.unusedVariables false
set_option linter.unusedSimpArgs false
namespace Mine
open PySem PySem.Calls PyProof.Rows PySem.SeqAt PySem.MeetsSeq PySem.Builtin PySem.Builtin.Str

section
variable {prog : Program} {w : World} {mg mb : Str → Option Value} {pins : List (Addr × Obj)} {l : Lim} {sc : Scope} {nm : List Str}

theorem isInt_self {i : Int} {t : Tok} : (intKind prog w).is i (.int i t) = true := by show Value.isInt i (.int i t) = true; simp [Value.isInt]
/-- a pinned dict from ints to strings -/
inductive DictPin (prog : Program) (w : World) (mg : Str → Option Value) (pins : List (Addr × Obj)) (D : Str) (tbl : Int → Option (List Nat)) : Prop
  | mk (d : Addr) (o : Obj) (f : Int → Option Value) (h1 : mg D = some (.ref d)) (h2 : (d, o) ∈ pins) (h3 : (d == sysModules) = false) (h4 : ∀ h : Heap, h.get? d = some o → h.MapOf (intKind prog w) d f)
    (h5 : ∀ k, (f k = none ∧ tbl k = none) ∨ ∃ v x, f k = some v ∧ tbl k = some x ∧ FlatV v (.str x))

def get2W (tbl : Int → Option (List Nat)) (as : List AV) (Q : AV → Prop) : Prop := match as with | [.int i, b] => Q (match tbl i with | some x => .str x | none => b) | _ => False
theorem get2_inv {tbl : Int → Option (List Nat)} {as : List AV} {Q : AV → Prop} (h : get2W tbl as Q) : ∃ i b, as = [.int i, b] ∧ Q (match tbl i with | some x => .str x | none => b) := by
  cases as with
  | nil => exact h.elim
  | cons a r =>
    cases a <;> try exact h.elim
    cases r with
    | nil => exact h.elim
    | cons b r =>
      cases r <;> try exact h.elim
      exact ⟨_, _, rfl, h⟩
def get1W (tbl : Int → Option (List Nat)) (as : List AV) (Q : AV → Prop) : Prop := match as with | [.int i] => Q (match tbl i with | some x => .str x | none => .none) | _ => False
theorem get1_inv {tbl : Int → Option (List Nat)} {as : List AV} {Q : AV → Prop} (h : get1W tbl as Q) : ∃ i, as = [.int i] ∧ Q (match tbl i with | some x => .str x | none => .none) := by
  cases as with
  | nil => exact h.elim
  | cons a r =>
    cases a <;> try exact h.elim
    cases r <;> try exact h.elim
    exact ⟨_, rfl, h⟩
theorem semE_dget2 {D p apos e1 e2 pos tbl Wa} (hD : DictPin prog w mg pins D tbl) (ha : SemA prog w mg mb pins l sc nm [e1, e2] Wa) (hk : sc.names.lookup D = some .globalImplicit)
    (hline : (apos.endLine == pos.line) = true := by rfl) (hp : [e1, e2].all plainE = true := by rfl) (hd : (D == ("__debug__" : Str)) = false := by decide +kernel)
    (hbase : ∀ env, attributeBase (.Name D p) ("get" : Str) env (eval (.Name D p) env) = eval (.Name D p) env := by intro _; rfl) :
    SemE prog w mg mb pins l sc nm (.Call (.Attribute (.Name D p) ("get" : Str) apos) [e1, e2] [] pos) (fun σ Q => Wa σ fun as => get2W tbl as Q) := by
  refine .mk ?_
  intro A env X σ s Q E a eo R hq
  obtain ⟨d, o, f, h1, h2, h3, h4, h5⟩ := hD
  refine wpAny_Call_method (hbase env) (fewArgs [e1, e2] hp (by simp)) hline F.plainAttrs_dict F.slot_dict_get F.type_dict_get (Name_function_global eo.fn (by rw [eo.kindOf]; exact hk) (loadGlobal_global (env := env) (eo.globals ▸ R.gl.g) h1 ?_) hd)
  have M := h4 _ (R.gl.pin _ h2)
  refine ⟨M.typeIs, M.noDict, callWith_b hp (wpAny_mono (ha.it A env X σ s _ E pos a eo R hq) (fun vs s₁ hpat => ?_) fun _ _ x => x)⟩
  obtain ⟨g, as, hP, r, _⟩ := hpat
  have M1 := h4 _ ((R.keep g.2).gl.pin _ h2)
  obtain ⟨i, b, rfl, hP'⟩ := get2_inv hP
  clear hP
  obtain ⟨v, u, rfl, rv, ru⟩ := r.to2
  obtain ⟨t, rfl⟩ := rv.toInt
  refine call_meetsIn F.slot_dict_get M1.typeIs F.entry_dict_get (F.args_dict_get_3 _ _ _) (meets_dict_get_default (intKind prog w) d (k := i) isInt_self h3 _) ⟨f, M1, ?_⟩
  rcases h5 i with ⟨e1, e2⟩ | ⟨u, x, e1, e2, e3⟩
  · rw [e1]; rw [e2] at hP'; exact ⟨g.toks _, _, hP', ru⟩
  · rw [e1]; rw [e2] at hP'; exact ⟨g.toks _, _, hP', e3.rep⟩
theorem semE_dget1 {D p apos e1 pos tbl Wa} (hD : DictPin prog w mg pins D tbl) (ha : SemA prog w mg mb pins l sc nm [e1] Wa) (hk : sc.names.lookup D = some .globalImplicit)
    (hline : (apos.endLine == pos.line) = true := by rfl) (hp : [e1].all plainE = true := by rfl) (hd : (D == ("__debug__" : Str)) = false := by decide +kernel)
    (hbase : ∀ env, attributeBase (.Name D p) ("get" : Str) env (eval (.Name D p) env) = eval (.Name D p) env := by intro _; rfl) :
    SemE prog w mg mb pins l sc nm (.Call (.Attribute (.Name D p) ("get" : Str) apos) [e1] [] pos) (fun σ Q => Wa σ fun as => get1W tbl as Q) := by
  refine .mk ?_
  intro A env X σ s Q E a eo R hq
  obtain ⟨d, o, f, h1, h2, h3, h4, h5⟩ := hD
  refine wpAny_Call_method (hbase env) (fewArgs [e1] hp (by simp)) hline F.plainAttrs_dict F.slot_dict_get F.type_dict_get (Name_function_global eo.fn (by rw [eo.kindOf]; exact hk) (loadGlobal_global (env := env) (eo.globals ▸ R.gl.g) h1 ?_) hd)
  have M := h4 _ (R.gl.pin _ h2)
  refine ⟨M.typeIs, M.noDict, callWith_b hp (wpAny_mono (ha.it A env X σ s _ E pos a eo R hq) (fun vs s₁ hpat => ?_) fun _ _ x => x)⟩
  obtain ⟨g, as, hP, r, _⟩ := hpat
  have M1 := h4 _ ((R.keep g.2).gl.pin _ h2)
  obtain ⟨i, rfl, hP'⟩ := get1_inv hP
  clear hP
  obtain ⟨v, rfl, rv⟩ := r.to1
  obtain ⟨t, rfl⟩ := rv.toInt
  refine call_meetsIn F.slot_dict_get M1.typeIs F.entry_dict_get (F.args_dict_get_2 _ _) (meets_dict_get (intKind prog w) d (k := i) isInt_self h3) ⟨f, M1, ?_⟩
  rcases h5 i with ⟨e1, e2⟩ | ⟨u, x, e1, e2, e3⟩
  · rw [e1]; rw [e2] at hP'; exact ⟨g.toks _, _, hP', .none⟩
  · rw [e1]; rw [e2] at hP'; exact ⟨g.toks _, _, hP', e3.rep⟩

/-- a pinned set of ints -/
inductive SetPin (prog : Program) (w : World) (mg : Str → Option Value) (pins : List (Addr × Obj)) (D : Str) (S : Int → Bool) : Prop
  | mk (d : Addr) (o : Obj) (n : Nat) (h1 : mg D = some (.ref d)) (h2 : (d, o) ∈ pins) (h3 : ∀ h : Heap, h.get? d = some o → h.SetOf (intKind prog w) d S n)
theorem semE_inSet {D p e1 pos S W} (hS : SetPin prog w mg pins D S) (h1 : SemE prog w mg mb pins l sc nm e1 W) (hk : sc.names.lookup D = some .globalImplicit) (hd : (D == ("__debug__" : Str)) = false := by decide +kernel)
    (hm : behindInMarks .In (.Name D p) = false := by with_unfolding_all rfl) :
    SemE prog w mg mb pins l sc nm (.Compare e1 [.In] [.Name D p] pos) (fun σ Q => W σ fun a => match a with | .int i => Q (.bool (S i)) | _ => False) := by
  refine .mk ?_
  intro A env X σ s Q E a eo R hq
  obtain ⟨d, o, n, g1, g2, g3⟩ := hS
  refine wpAny_Compare1 (wpAny_mono (h1.it A env X σ s _ E a eo R hq) (fun v s₁ hpat => ?_) fun _ _ x => x) hm
  obtain ⟨g, x, hx, rx⟩ := hpat
  have R1 := R.keep g.2
  refine Name_function_global eo.fn (by rw [eo.kindOf]; exact hk) (loadGlobal_global (env := env) (eo.globals ▸ R1.gl.g) g1 ?_) hd
  cases x with
  | int i =>
    obtain ⟨t, rfl⟩ := rx.toInt
    exact wpAny_inSet_of (knd := intKind prog w) (k := i) isInt_self rfl (g3 _ (R1.gl.pin _ g2)) ⟨g.toks _, _, hx, .bool _⟩
  | _ => exact hx.elim
end
end Mine
-- MP17
set_option maxRecDepth 100000
set_option linter.unusedVariables false
set_option linter.unusedSimpArgs false
namespace Mine
open PySem PySem.Calls PyProof.Rows PySem.SeqAt PySem.MeetsSeq PySem.Builtin PySem.Builtin.Str
open AutoSeq1 (wpAny_loadPart')

section
variable {prog : Program} {w : World} {A : Around} {E : Value → Shared → Prop} {s : Shared}
end
end Mine
-- MP18
set_option maxRecDepth 100000
set_option linter.unusedVariables false
set_option linter.unusedSimpArgs false
namespace Mine
open PySem PySem.Calls PyProof.Rows PySem.SeqAt PySem.MeetsSeq PySem.Builtin PySem.Builtin.Str

def cntR (a b c : Int) : Nat := (Builtin.Range.rangeSize a b c).toNat
theorem cntR_eq {a b c : Int} (hc : 0 < c) : Builtin.Range.rangeSize a b c = (cntR a b c : Nat) := by
  unfold cntR Builtin.Range.rangeSize
  rw [if_pos hc]
  split
  · have : 0 ≤ (b - a - 1) / c := Int.ediv_nonneg (by (first | lia | omega)) (by (first | lia | omega))
    (first | lia | omega)
  · rfl
theorem cntR_le {a b c : Int} (hc : 0 < c) (ha : -1000000 < a) (hb : b < 1000000) : cntR a b c ≤ 2000000 := by
  unfold cntR Builtin.Range.rangeSize
  rw [if_pos hc]
  split
  · have : (b - a - 1) / c ≤ (b - a - 1) := Int.ediv_le_self _ (by (first | lia | omega))
    (first | lia | omega)
  · simp
theorem small_pos {a b c : Int} (hc : 0 < c) (hc' : c < 1000000) (ha : -1000000 < a) (ha' : a < 1000000) (hb : -1000000 < b) (hb' : b < 1000000) : Builtin.Range.small a b c = true := by
  unfold Builtin.Range.small
  rw [cntR_eq hc]
  have := cntR_le hc ha hb'
  simp only [Builtin.Range.rangeFitsLong, Bool.and_eq_true, Bool.or_eq_true, decide_eq_true_eq, beq_iff_eq, show c > 0 from hc, if_true]
  (first | lia | omega)
def rngW (as : List AV) (Q : Int → Int → Int → Prop) : Prop := match as with
  | [.int n] => -1000000 < n ∧ n < 1000000 ∧ Q 0 n 1
  | [.int a, .int b] => -1000000 < a ∧ a < 1000000 ∧ -1000000 < b ∧ b < 1000000 ∧ Q a b 1
  | [.int a, .int b, .int c] => -1000000 < a ∧ a < 1000000 ∧ -1000000 < b ∧ b < 1000000 ∧ 0 < c ∧ c < 1000000 ∧ Q a b c
  | _ => False

theorem rngW_inv {as : List AV} {Q : Int → Int → Int → Prop} (h : rngW as Q) : (∃ n, as = [.int n] ∧ -1000000 < n ∧ n < 1000000 ∧ Q 0 n 1) ∨ (∃ a b, as = [.int a, .int b] ∧ -1000000 < a ∧ a < 1000000 ∧ -1000000 < b ∧ b < 1000000 ∧ Q a b 1) ∨
    ∃ a b c, as = [.int a, .int b, .int c] ∧ -1000000 < a ∧ a < 1000000 ∧ -1000000 < b ∧ b < 1000000 ∧ 0 < c ∧ c < 1000000 ∧ Q a b c := by
  cases as with
  | nil => exact h.elim
  | cons a r =>
    cases a <;> try exact h.elim
    cases r with
    | nil => exact .inl ⟨_, rfl, h⟩
    | cons b r =>
      cases b <;> try exact h.elim
      cases r with
      | nil => exact .inr (.inl ⟨_, _, rfl, h⟩)
      | cons c r =>
        cases c <;> try exact h.elim
        cases r <;> try exact h.elim
        exact .inr (.inr ⟨_, _, _, rfl, h⟩)

section
variable {prog : Program} {w : World} {mg mb : Str → Option Value} {pins : List (Addr × Obj)} {l : Lim} {sc : Scope} {nm : List Str}
theorem eval_range {A : Around} {env : Env} {X : Addr → Prop} {σ : Sto} {s : Shared} {x : Str} {p pos : Pos} {e : Expr} {rest : List Expr} {Wa : Sto → (List AV → Prop) → Prop} {P : Int → Int → Int → Prop} {Q' : Value → Shared → Prop} {E : Value → Shared → Prop}
    (ha : SemA prog w mg mb pins l sc nm (e :: rest) Wa) (hp : ((e :: rest).all plainE) = true)
    (hk : sc.names.lookup x = some .globalImplicit) (hm : mg x = none) (hb : mb x = some (.type "range")) (hd : (x == ("__debug__" : Str)) = false)
    (a : AOk pins l A) (eo : EnvOk sc env) (R : Rel mg mb pins nm X env σ s.heap) (hq : Wa σ fun as => rngW as P)
    (h : ∀ r s₁ a b c t u v, Grow s s₁ → s.heap.get? r = none → IsRange s₁.heap r a b c t u v → P a b c → 0 < c → c < 1000000 → -1000000 < a → a < 1000000 → -1000000 < b → b < 1000000 → Q' (.ref r) s₁) :
    wpAny (model prog w) A (eval (.Call (.Name x p) (e :: rest) [] pos) env) Q' E s := by
  refine eval_callType ha hp hk hm hb hd a eo R hq fun vs s₁ as g hP r => ?_
  rcases rngW_inv hP with ⟨n, rfl, h1, h2, h3⟩ | ⟨b, c, rfl, h1, h2, h3, h4, h5⟩ | ⟨b, c, d, rfl, h1, h2, h3, h4, h5, h6, h7⟩
  · obtain ⟨v, rfl, rv⟩ := r.to1
    obtain ⟨t, rfl⟩ := rv.toInt
    exact call_range_1 (h _ _ _ _ _ _ _ _ (g.trans ((Grow.push _ _).trans (Grow.tok _ _))) (not_of_keep g.2 (fresh_none _)) (IsRange.new _ _ _ _ _ _ _) h3 (by decide) (by decide) (by decide) (by decide) h1 h2)
  · obtain ⟨v, u, rfl, rv, ru⟩ := r.to2
    obtain ⟨t, rfl⟩ := rv.toInt
    obtain ⟨u, rfl⟩ := ru.toInt
    exact call_range_2 (h _ _ _ _ _ _ _ _ (g.trans ((Grow.push _ _).trans (Grow.tok _ _))) (not_of_keep g.2 (fresh_none _)) (IsRange.new _ _ _ _ _ _ _) h5 (by decide) (by decide) h1 h2 h3 h4)
  · obtain ⟨v, u, w', rfl, rv, ru, rw'⟩ := r.to3
    obtain ⟨t, rfl⟩ := rv.toInt
    obtain ⟨u, rfl⟩ := ru.toInt
    obtain ⟨v, rfl⟩ := rw'.toInt
    exact call_range_3 (Int.ne_of_gt h5) (h _ _ _ _ _ _ _ _ (g.trans (Grow.push _ _)) (not_of_keep g.2 (fresh_none _)) (IsRange.new _ _ _ _ _ _ _) h7 h5 h6 h1 h2 h3 h4) (Or.inl (PyProof.noPylong_small (by (first | lia | omega))))

theorem semI_rng {x p e rest pos Wa} (ha : SemA prog w mg mb pins l sc nm (e :: rest) Wa) (hk : sc.names.lookup x = some .globalImplicit) (hm : mg x = none) (hb : mb x = some (.type "range")) (hp : ((e :: rest).all plainE) = true := by rfl) (hd : (x == ("__debug__" : Str)) = false := by decide +kernel) :
    SemI prog w mg mb pins l sc nm (.Call (.Name x p) (e :: rest) [] pos) (fun σ Q => Wa σ fun as => rngW as fun a b c => Q (rangeL a c (cntR a b c))) := by
  refine .mk ?_
  intro A env X σ s Q E a eo R hq
  refine eval_range ha hp hk hm hb hd a eo R hq fun r s₁ a b c t u v g nr hr hP c0 c1 a0 a1 b0 b1 => ?_
  refine wpAny_pyIter_range hr (small_pos c0 c1 a0 a1 b0 b1) ⟨g.trans (Grow.push _ _), _, _, _, hP, ⟨a, c, cntR a b c, ?_, rfl⟩, isIt_range s₁.heap.objs.size, fun c e => by subst e; exact ⟨not_of_keep g.2 (fresh_none _), _, Heap.get?_push_size _ rfl⟩⟩
  show IsRangeIter _ _ _ _ _
  rw [← cntR_eq c0]; exact Heap.get?_push_size _ rfl

theorem repL_range {X : Addr → Prop} {h : Heap} {a c : Int} {acc : Array Value} {n : Nat} (i : ItemsOf (fun i v => ∃ t, v = .int (a + i * c) t) acc n) : RepL X h acc.toList (rangeL a c n) := by
  have key : ∀ (vs : List Value) (k : Nat), (∀ j v, vs[j]? = some v → ∃ t, v = Value.int (a + ((k + j : Nat) : Int) * c) t) → RepL X h vs ((List.range vs.length).map fun (i : Nat) => AV.int (a + ((k + i : Nat) : Int) * c)) := by
    intro vs
    induction vs with
    | nil => intro k _; exact .nil
    | cons v vs ih =>
      intro k hv
      rw [List.length_cons, List.range_succ_eq_map, List.map_cons, List.map_map]
      refine .cons ?_ ?_
      · obtain ⟨t, rfl⟩ := hv 0 v rfl; exact .int _ _
      · have := ih (k + 1) fun j v hj => by
          obtain ⟨t, e⟩ := hv (j + 1) v (by simpa using hj)
          exact ⟨t, by rw [e]; congr 3; (first | lia | omega)⟩
        have e : ((fun (i : Nat) => AV.int (a + ((k + i : Nat) : Int) * c)) ∘ Nat.succ) = fun (i : Nat) => AV.int (a + ((k + 1 + i : Nat) : Int) * c) := by
          funext i; simp only [Function.comp_apply]; congr 4; (first | lia | omega)
        rw [e]; exact this
  have := key acc.toList 0 fun j v hj => by
    obtain ⟨t, e⟩ := i.2 j v (by simpa using hj)
    exact ⟨t, by rw [e]; simp⟩
  rw [Array.length_toList, i.1] at this
  simpa [rangeL] using this

theorem semF_listRange {f fp fpos x p e rest pos Wa} (hz : l.z = true) (ha : SemA prog w mg mb pins l sc nm (e :: rest) Wa) (hf : sc.names.lookup f = some .globalImplicit) (hfm : mg f = none) (hfb : mb f = some (.type "list"))
    (hk : sc.names.lookup x = some .globalImplicit) (hm : mg x = none) (hb : mb x = some (.type "range")) (hp : ((e :: rest).all plainE) = true := by rfl) (hfd : (f == ("__debug__" : Str)) = false := by decide +kernel) (hd : (x == ("__debug__" : Str)) = false := by decide +kernel) :
    SemF prog w mg mb pins l sc nm (.Call (.Name f fp) [.Call (.Name x p) (e :: rest) [] pos] [] fpos) (fun σ Q => Wa σ fun as => rngW as fun a b c => Q (rangeL a c (cntR a b c))) := by
  refine .mk ?_
  intro A env X σ s Q E a eo R hq
  refine wpAny_Call_NameR (Name_function_global eo.fn (by rw [eo.kindOf]; exact hf) (loadGlobal_builtin (env := env) (eo.globals ▸ R.gl.g) hfm (eo.builtins ▸ R.gl.b) hfb ?_) hfd)
  refine callWith_type1 (args_cons (eval_range ha hp hk hm hb hd a eo R hq fun r s₁ c0 b c t u v g nr hr hP c1 c2 a0 a1 b0 b1 => args_nil ?_) (starEach_plain rfl)) (starEach_plain rfl) rfl
  have hn := cntR_le c1 a0 b1
  refine call_list_range (a.none hz) hr (small_pos c1 c2 a0 a1 b0 b1) (cntR_eq c1) (by (first | lia | omega)) fun h' tk acc c' hk hl hi => ?_
  refine ⟨g.trans (Grow.heap _ hk), _, acc, _, rfl, not_of_keep g.2 (fresh_none _), ⟨c', hl⟩, hP, repL_range hi⟩
theorem semE_ofF {e W} (h : SemF prog w mg mb pins l sc nm e W) : SemE prog w mg mb pins l sc nm e (fun σ Q => W σ fun xs => Q (.lst xs)) := by
  refine .mk ?_
  intro A env X σ s Q E a eo R hq
  refine wpAny_mono (h.it A env X σ s _ E a eo R hq) (fun v s₁ ⟨g, p, vs, xs, ev, hf, hl, hQ, r⟩ => ⟨g, _, hQ, ?_⟩) fun _ _ x => x
  subst ev
  exact .lst (vs := vs.toList) (fun x => by obtain ⟨o, e⟩ := R.dom p x; rw [hf] at e; cases e) (by simpa using hl) (r.reX fun a x => .inl (.inl x))
def pairW (v : AV) (Q : AV → AV → Prop) : Prop := match v with | .tup [a, b] => Q a b | _ => False
theorem pairW_inv {v : AV} {Q : AV → AV → Prop} (h : pairW v Q) : ∃ a b, v = .tup [a, b] ∧ Q a b := by
  cases v with
  | tup xs =>
    cases xs with
    | nil => exact h.elim
    | cons a r =>
      cases r with
      | nil => exact h.elim
      | cons b r =>
        cases r <;> try exact h.elim
        exact ⟨_, _, rfl, h⟩
  | _ => exact h.elim
theorem sem1_swap {x y p1 p2 k tpos value pos kx ky W} (h : SemE prog w mg mb pins l sc nm value W) (hz : l.z = true) (hx : Ix nm kx x) (hy : Ix nm ky y) (hn : nm.Nodup := by decide +kernel) (hlx : isLoc sc x = true := by decide +kernel) (hly : isLoc sc y = true := by decide +kernel)
    (hs : ∀ env, swapsWithSole [.Tuple [.Name x p1, .Name y p2] k tpos] value pos.line env = pure false := by intro _; rfl)
    (hw : ∀ env : Env, env.scope = sc → swappedStores [.Tuple [.Name x p1, .Name y p2] k tpos] value env = pure (some [x, y])) :
    Sem1 prog w mg mb pins l sc nm (.Assign [.Tuple [.Name x p1, .Name y p2] k tpos] value pos) (fun σ Q => W σ fun v => pairW v fun a b => Q .next ((σ.set ky (.val b)).set kx (.val a))) := by
  refine .mk ?_
  intro A env X₀ s₀ σ s Z X m cm Q E a eo F hq
  refine Assign_Tuple_swapped (wpAny_mono (h.it A env X σ s _ E a eo.toEnvOk F.rel hq) (fun v s₁ hpat => ?_) fun _ _ x => x) (hs env) (hw env eo.toEnvOk.scope)
  obtain ⟨g, c, hc, rc⟩ := hpat
  obtain ⟨y1, y2, rfl, hc⟩ := pairW_inv hc
  obtain ⟨p, vs, rfl, nt, ht, rl⟩ := rc.toTup
  obtain ⟨v1, v2, rfl, r1, r2⟩ := rl.to2
  refine unpackItems_tuple (items := #[_, _]) (a.none hz) ht.isTup fun h' he => ?_
  have g2 : Grow s₁ { s₁ with heap := h' } := Grow.heap _ fun b o e => he b o (Nat.ne_of_lt (Heap.lt_size e)) e
  have F1 := (F.grow g).grow g2
  show wpAny _ _ (do holding [_] (bindName env y _); holding [] (bindName env x _); pure ()) _ E _
  refine wpAny_bind (wpAny_holding (bindName_ (F1.bindVal eo hy hn hly (r2.keep g2.2) fun s₂ m2 cm2 F2 st2 => ?_)))
  refine wpAny_bind (wpAny_holding (bindName_ (F2.bindVal eo hx hn hlx ((r1.keep g2.2).keepX fun c o n e => st2.keep c o (.inl n) e) fun s₃ m3 cm3 F3 st3 => wpAny_pure ?_)))
  exact ⟨.next, _, X, m3, cm3, hc, trivial, F3, ((Step.grow (g.trans g2)).trans st2).trans st3⟩
end
end Mine
-- MP19
set_option maxRecDepth 100000
set_option linter.unusedVariables false
set_option linter.unusedSimpArgs false
namespace Mine
open PySem PySem.Calls PyProof.Rows PySem.SeqAt PySem.MeetsSeq

/-- the names of a comprehension's own block, as its body sees them -/
def relS (c sc : Scope) : Scope := { c with names := c.names.map fun (n, k) => if (k == .free && sc.kind == .function && sc.names.lookup n == some .cell) then (n, .cell) else (n, k) }
theorem relabel_eq {c sc : Scope} {env : Env} (e : env.scope = sc) : relabel c env = relS c sc := by
  unfold relabel relS Env.kindOf; rw [e]

def closL (cs : List (Str × Addr)) : List (Str × NameKind) → List (Str × Addr) → List (Str × Addr)
  | [], acc => acc
  | (n, k) :: r, acc => if k == .free then closL cs r ((n, (cs.lookup n).getD 0) :: acc) else closL cs r acc
theorem closureFor_loop {env : Env} : ∀ (names : List (Str × NameKind)) (acc : List (Str × Addr)), (∀ n, (n, NameKind.free) ∈ names → ∃ c, env.cells.lookup n = some c) →
    (forIn names acc (fun (x : Str × NameKind) (r : List (Str × Addr)) => match x with
      | (name, kind) => if (kind == .free) = true then do let c ← cellOf env name; pure (ForInStep.yield ((name, c) :: r)) else pure (ForInStep.yield r)) : Sem _) = pure (closL env.cells names acc)
  | [], acc, _ => rfl
  | (n, k) :: r, acc, h => by
    rw [List.forIn_cons]
    unfold closL
    by_cases hk : (k == NameKind.free) = true
    · simp only [hk, if_true]
      have hk' : k = .free := by cases k <;> first | rfl | (revert hk; decide)
      subst hk'
      obtain ⟨c, hc⟩ := h n (.head _)
      have e : cellOf env n = pure c := by unfold cellOf; rw [hc]
      rw [e, hc]
      simp only [pure_bind, Option.getD_some]
      exact closureFor_loop r _ fun m hm => h m (.tail _ hm)
    · simp only [hk, if_false, pure_bind, Bool.false_eq_true]
      exact closureFor_loop r _ fun m hm => h m (.tail _ hm)
theorem closureFor_some {env : Env} {scope : Scope} (h : ∀ n, (n, NameKind.free) ∈ scope.names → ∃ c, env.cells.lookup n = some c) : closureFor scope env = pure (closL env.cells scope.names []) := by
  unfold closureFor
  have := closureFor_loop (env := env) scope.names [] h
  simp only [bind_pure]
  exact this
theorem closL_lookup (cs : List (Str × Addr)) (n : Str) (c : Addr) (hc : cs.lookup n = some c) : ∀ (names : List (Str × NameKind)) (acc : List (Str × Addr)), ((n, NameKind.free) ∈ names ∨ acc.lookup n = some c) → (closL cs names acc).lookup n = some c
  | [], acc, h => by rcases h with h | h; cases h; exact h
  | (m, k) :: r, acc, h => by
    unfold closL
    by_cases hk : (k == NameKind.free) = true
    · rw [if_pos hk]
      refine closL_lookup cs n c hc r _ ?_
      by_cases e : n = m
      · subst e; right; simp [List.lookup_cons, hc]
      · rcases h with h | h
        · cases h with
          | head => exact absurd rfl e
          | tail _ h => exact .inl h
        · right
          have : (n == m) = false := by simpa using e
          simp only [List.lookup_cons, this]; exact h
    · rw [if_neg hk]
      refine closL_lookup cs n c hc r _ ?_
      rcases h with h | h
      · cases h with
        | head => exact absurd rfl hk
        | tail _ h => exact .inl h
      · exact .inr h
theorem cellsFrom_old (x : Str) (c : Addr) : ∀ (names : List (Str × NameKind)) (n : Nat) (acc : List (Str × Addr)), (x, NameKind.cell) ∉ names → acc.lookup x = some c → (cellsFrom n names acc).lookup x = some c
  | [], n, acc, _, h => h
  | (m, k) :: r, n, acc, hx, h => by
    unfold cellsFrom
    by_cases hk : (k == NameKind.cell) = true
    · rw [if_pos hk]
      have hk' : k = .cell := by cases k <;> first | rfl | (revert hk; decide)
      subst hk'
      have hne : x ≠ m := fun e => hx (e ▸ .head _)
      refine cellsFrom_old x c r _ _ (fun q => hx (.tail _ q)) ?_
      have : (x == m) = false := by simpa using hne
      simp only [List.lookup_cons, this]; exact h
    · rw [if_neg hk]
      exact cellsFrom_old x c r _ _ (fun q => hx (.tail _ q)) h
theorem cellsFrom_new (x : Str) : ∀ (names : List (Str × NameKind)) (h : Heap) (acc : List (Str × Addr)), (x, NameKind.cell) ∈ names → ∃ c, h.objs.size ≤ c ∧ (cellsFrom h.objs.size names acc).lookup x = some c ∧ (pushCells h names).IsCell c none
  | [], h, acc, hx => nomatch hx
  | (m, k) :: r, h, acc, hx => by
    unfold cellsFrom pushCells
    by_cases hk : (k == NameKind.cell) = true
    · rw [if_pos hk, if_pos hk]
      by_cases hr : (x, NameKind.cell) ∈ r
      · obtain ⟨c, h1, h2, h3⟩ := cellsFrom_new x r (h.push { cls := .type "cell", data := .cell none }) ((m, h.objs.size) :: acc) hr
        rw [Heap.size_push] at h1 h2
        exact ⟨c, by (first | lia | omega), h2, h3⟩
      · have e : x = m := by
          cases hx with
          | head => rfl
          | tail _ q => exact absurd q hr
        subst e
        refine ⟨h.objs.size, Nat.le_refl _, cellsFrom_old x _ r _ _ hr (by simp [List.lookup_cons]), ⟨_, pushCells_keeps _ _ _ _ (Heap.get?_push_size _ rfl), rfl⟩⟩
    · rw [if_neg hk, if_neg hk]
      refine cellsFrom_new x r h acc ?_
      cases hx with
      | head => exact absurd rfl hk
      | tail _ q => exact q

section
variable {M : Model} {A : Around} {E : Value → Shared → Prop} {s : Shared}
theorem newEnv_comp {scope : Scope} {globals : Addr} {cl : List (Str × Addr)} {qual : Str} {env : Env} {Q : Env → Shared → Prop}
    (h : Q (newEnv scope s.heap.objs.size globals (cellsFrom (s.heap.objs.size + 1) scope.names cl) qual none .none (some env) builtinsNs) { s with heap := pushCells (s.heap.push { cls := .type "dict", data := .dict #[] }) scope.names }) :
    wpAny M A (newFunctionEnv scope globals cl [] qual none .none (some env)) Q E s := by
  simp only [newFunctionEnv, Option.isSome_some, if_true]
  refine wpAny_bind (wpAny_alloc ?_)
  refine wpAny_bind (wpAny_layCells _ (fun name kind cells => by cases hkc : kind == NameKind.cell <;> simp [hkc]) _ _ _ _ ?_)
  rw [show ({ s with heap := s.heap.push { cls := .type "dict", data := .dict #[] } } : Shared).heap.objs.size = s.heap.objs.size + 1 from Heap.size_push ..]
  exact wpAny_bind (wpAny_pure (wpAny_pure h))
end

def LV.isSet : LV → Bool
  | .unset => false
  | _ => true
def capS (caps : List (Nat × Str)) (σ : Sto) : Sto := caps.map fun p => σ.getD p.1 .unset
def capOk (caps : List (Nat × Str)) (σ : Sto) : Bool := caps.all fun p => (σ.getD p.1 .unset).isSet
/-- what a comprehension's block must be -/
def compOk (sc csc : Scope) (caps : List (Nat × Str)) (x : Str) : Bool :=
  csc.kind == .function && csc.names.all (fun p => p.2 != .local || csc.names.lookup p.1 == some .local) && csc.names.all (fun p => p.2 != .free || caps.any (·.2 == p.1))
    && caps.all (fun p => csc.names.any (fun q => q.1 == p.2 && q.2 == .free) && !(csc.names.any fun q => q.1 == p.2 && q.2 == .cell) && sc.names.lookup p.2 != some .local
      && ((relS csc sc).names.lookup p.2 == some .cell || (relS csc sc).names.lookup p.2 == some .free))
    && ((relS csc sc).names.lookup x == some .local || ((relS csc sc).names.lookup x == some .cell && csc.names.any (fun q => q.1 == x && q.2 == .cell)))
def nmOk (nm : List Str) (caps : List (Nat × Str)) : Bool := caps.all fun p => nm[p.1]? == some p.2

def compL (Wf : Sto → (Bool → Prop) → Prop) (We : WE) (σ : Sto) : List AV → List AV → (List AV → Prop) → Prop
  | [], acc, Q => Q acc
  | y :: r, acc, Q => Wf (σ ++ [.val y]) fun b => if b = true then We (σ ++ [.val y]) fun z => compL Wf We σ r (acc ++ [z]) Q else compL Wf We σ r acc Q
end Mine
-- MP20
set_option maxRecDepth 100000
set_option linter.unusedVariables false
set_option linter.unusedSimpArgs false
namespace Mine
open PySem PySem.Calls PyProof.Rows PySem.SeqAt PySem.MeetsSeq

section
variable {prog : Program} {w : World} {mg mb : Str → Option Value} {pins : List (Addr × Obj)} {l : Lim} {sc : Scope} {nm : List Str}

/-- the tests of a comprehension -/
structure SemC (prog : Program) (w : World) (mg mb : Str → Option Value) (pins : List (Addr × Obj)) (l : Lim) (sc : Scope) (nm : List Str) (ifs : List Expr) (W : Sto → (Bool → Prop) → Prop) : Prop where
  it : ∀ (A : Around) (env : Env) (X : Addr → Prop) (σ : Sto) (s : Shared) (Q : Bool → Prop) (E : Value → Shared → Prop), AOk pins l A → EnvOk sc env → Rel mg mb pins nm X env σ s.heap → W σ Q →
    wpAny (model prog w) A (forIn ifs true fun c r => if r = true then do let ok ← isTrue c env (eval c env); pure (ForInStep.yield ok) else pure (ForInStep.yield r)) (fun b s' => Grow s s' ∧ Q b) E s
theorem semC_nil : SemC prog w mg mb pins l sc nm [] (fun _ Q => Q true) := .mk fun A env X σ s Q E a eo R h => wpAny_tests_nil ⟨Grow.refl _, h⟩
theorem semC_one {c W} (h : SemT prog w mg mb pins l sc nm c W) : SemC prog w mg mb pins l sc nm [c] W := .mk fun A env X σ s Q E a eo R hq => wpAny_tests_one (h.it A env X σ s Q E a eo R hq)

/-- what is held stays held where fresh addresses join the mutable ones and the reading turns -/
theorem Holds1.into {X X' : Addr → Prop} {env env' : Env} {h h' : Heap} {x : Str} {lv : LV} (H : Holds1 X env h x lv) (k : Keep h h') (hX : ∀ a, X a → X' a) (re : ∀ a, X' a → X a ∨ h.get? a = none) (rd : ∀ v, Reads env h x v → Reads env' h' x v) : Holds1 X' env' h' x lv :=
  H.move (Z := fun _ => False) ⟨fun b o _ e => k b o e, re⟩ rd fun _ a _ xa _ _ => ⟨hX a xa, k a⟩
theorem Holds1.reads {X : Addr → Prop} {env : Env} {h : Heap} {x : Str} {lv : LV} (H : Holds1 X env h x lv) (hs : lv.isSet = true) : ∃ v, Reads env h x v := by
  cases lv with
  | unset => cases hs
  | val a => obtain ⟨v, p, _⟩ := H; exact ⟨v, p⟩
  | own xs => obtain ⟨a, vs, p, _⟩ := H; exact ⟨_, p⟩
  | itr a xs => obtain ⟨p, _⟩ := H; exact ⟨_, p⟩

/-- what `compOk` says -/
structure CompOk (sc csc : Scope) (caps : List (Nat × Str)) (x : Str) : Prop where
  kind : csc.kind = .function
  names : ∀ p ∈ csc.names, p.2 = .local → csc.names.lookup p.1 = some .local
  free : ∀ n, (n, NameKind.free) ∈ csc.names → ∃ p ∈ caps, p.2 = n
  capFree : ∀ p ∈ caps, (p.2, NameKind.free) ∈ csc.names
  capCell : ∀ p ∈ caps, (p.2, NameKind.cell) ∉ csc.names
  capLoc : ∀ p ∈ caps, sc.names.lookup p.2 ≠ some .local
  capKind : ∀ p ∈ caps, (relS csc sc).names.lookup p.2 = some .cell ∨ (relS csc sc).names.lookup p.2 = some .free
  tgt : (relS csc sc).names.lookup x = some .local ∨ ((relS csc sc).names.lookup x = some .cell ∧ (x, NameKind.cell) ∈ csc.names)
theorem CompOk.of {sc csc caps x} (h : compOk sc csc caps x = true) : CompOk sc csc caps x := by
  unfold compOk at h
  simp only [Bool.and_eq_true, Bool.or_eq_true, List.all_eq_true, List.any_eq_true, beq_iff_eq, bne_iff_ne, ne_eq, Bool.not_eq_true', List.any_eq_false, not_and] at h
  obtain ⟨⟨⟨⟨h1, h2⟩, h3⟩, h4⟩, h5⟩ := h
  refine ⟨h1, fun p hp e => (h2 p hp).resolve_left fun q => q e, fun n hn => ?_, fun p hp => ?_, fun p hp q => ?_, fun p hp => (h4 p hp).1.2, fun p hp => (h4 p hp).2, h5.imp id fun ⟨a, q, hq, e1, e2⟩ => ⟨a, ?_⟩⟩
  · obtain ⟨p, hp, e⟩ := (h3 _ hn).resolve_left fun q => q rfl
    exact ⟨p, hp, e⟩
  · obtain ⟨q, hq, e1, e2⟩ := (h4 p hp).1.1.1
    obtain ⟨q1, q2⟩ := q
    simp only at e1 e2; subst e1 e2; exact hq
  · exact absurd rfl ((h4 p hp).1.1.2 _ q rfl)
  · obtain ⟨q1, q2⟩ := q
    simp only at e1 e2; subst e1 e2; exact hq

/-- a comprehension's loop: what lies where -/
inductive CInv (h0 : Heap) (X' : Addr → Prop) (C D c₀ : Addr) (h : Heap) (acc : List AV) : Prop
  | mk (i1 : Keep h0 h) (m : Str → Option Value) (i2 : h.Ns C m) (vs : Array Value) (n : Nat) (i3 : IsL h D vs n) (i4 : RepL X' h vs.toList acc) (i5 : c₀ = C ∨ ∃ v, h.IsCell c₀ v)
theorem CInv.keep {h0 : Heap} {X' : Addr → Prop} {C D c₀ : Addr} {h h' : Heap} {acc : List AV} (i : CInv h0 X' C D c₀ h acc) (k : Keep h h') : CInv h0 X' C D c₀ h' acc := by
  obtain ⟨i1, m, i2, vs, n, i3, i4, i5⟩ := i
  exact ⟨i1.trans k, m, i2.keeps k, vs, n, k _ _ i3, i4.keep k, i5.imp id fun ⟨v, q⟩ => ⟨v, q.keeps k⟩⟩
/-- a heap turned at the comprehension's own things alone -/
theorem CInv.same {h0 : Heap} {X' : Addr → Prop} {C D c₀ b : Addr} {h h' : Heap} {acc : List AV} (i : CInv h0 X' C D c₀ h acc) (sb : Heap.SameBut b h h') (xb : X' b) (nb : b ≠ D) (fb : h0.get? b = none) {m : Str → Option Value} (n' : h'.Ns C m) (c' : c₀ = C ∨ ∃ v, h'.IsCell c₀ v) : CInv h0 X' C D c₀ h' acc := by
  obtain ⟨i1, _, _, vs, n, i3, i4, _⟩ := i
  exact ⟨fun q o e => (sb.2 q fun e' => by rw [e', fb] at e; cases e).trans (i1 q o e), m, n', vs, n, (sb.2 D (Ne.symm nb)).trans i3, i4.keepX fun q o nq e => (sb.2 q fun e' => nq (e' ▸ xb)).trans e, c'⟩
inductive CLoop (s₂ : Shared) (V : Heap → List AV → Prop) (JJ : List AV → Heap → Prop) (P : List AV → List AV → Prop) (n : Nat) (s' : Shared) : Prop
  | mk (ys acc : List AV) (hn : ys.length = n) (hl : ys.length + acc.length ≤ 100000) (h : Heap) (tk : Nat) (e : s' = { s₂ with heap := h, toks := tk }) (v : V h acc) (j : JJ ys h) (p : P ys acc)
theorem comp_run {A : Around} {env : Env} {X : Addr → Prop} {σ : Sto} {s s₂ : Shared} {E : Value → Shared → Prop} {csc : Scope} {caps : List (Nat × Str)} {x : Str} {px : Pos} {elt iter : Expr} {ifs : List Expr} {pos : Pos} {Wf We}
    {it : Value} {xs : List AV} {I : Addr → Prop} {J : (Addr → Prop) → List AV → Heap → Prop} {P : List AV → Prop} {RR : Value → Addr → Result → Shared → Prop}
    (hf : SemC prog w mg mb pins l (relS csc sc) (caps.map (·.2) ++ [x]) ifs Wf) (he : SemE prog w mg mb pins l (relS csc sc) (caps.map (·.2) ++ [x]) elt We)
    (ok : CompOk sc csc caps x) (hnm : nmOk nm caps = true) (hset : capOk caps σ = true)
    (a : AOk pins l A) (eo : EnvOk sc env) (R : Rel mg mb pins nm X env σ s.heap) (g : Grow s s₂) (hJ : J (fun a => X a ∨ I a) xs s₂.heap) (hIt : IsIt prog w mg mb pins l I J it)
    (hI : ∀ a, I a → s.heap.get? a = none ∧ ∃ o, s₂.heap.get? a = some o) (hl : xs.length ≤ 100000) (hW : compL Wf We (capS caps σ) xs [] P)
    (hRR : ∀ D C h' tk m vs zs (X' : Addr → Prop), (∀ a, X a → X' a) → X' C → X' D → Keep s.heap h' → s.heap.get? D = none → s.heap.get? C = none → D ≠ C → h'.Ns C m → LstX h' D vs → RepL X' h' vs.toList zs → P zs → RR (.ref D) C (.ok .next) { s₂ with heap := h', toks := tk }) :
    wpAny (model prog w) A (newList []) (fun acc s₃ => wpAny (model prog w) A (newFunctionEnv csc env.globals (closL env.cells csc.names []) [] env.qual none .none (some env)) (fun cenv s₄ =>
      codeAny (model prog w) A (.compStart (.ListComp elt [⟨.Name x px, iter, ifs, 0⟩] csc pos) 0 it acc { cenv with scope := relabel csc env }) (RR acc cenv.locals) s₄) E s₃) E s₂ := by
  refine wpAny_newObj_type (newEnv_comp ?_)
  -- the addresses
  generalize hD : s₂.heap.objs.size = D
  generalize hH3 : s₂.heap.push { cls := .type "list", data := .seq ([] : List Value).toArray } = H3
  have hC1 : H3.objs.size = D + 1 := by rw [← hH3, Heap.size_push, hD]
  generalize hC : H3.objs.size = C
  rw [hC] at hC1
  generalize hH4 : pushCells (H3.push { cls := .type "dict", data := .dict #[] }) csc.names = H4
  generalize hcells : cellsFrom (C + 1) csc.names (closL env.cells csc.names []) = cells
  generalize hce : ({ (newEnv csc C env.globals cells env.qual none .none (some env) builtinsNs) with scope := relabel csc env } : Env) = ce
  show codeAny (model prog w) A (.compStart (.ListComp elt [⟨.Name x px, iter, ifs, 0⟩] csc pos) 0 it (.ref D) ce) (RR (.ref D) C) { s₂ with heap := H4 }
  have ceL : ce.locals = C := by rw [← hce]; rfl
  have ceC : ce.cells = cells := by rw [← hce]; rfl
  have ceo : EnvOk (relS csc sc) ce := by
    rw [← hce]
    exact ⟨relabel_eq eo.scope, ok.kind, eo.globals, eo.builtins⟩
  have k23 : Keep s₂.heap H3 := fun b o e => hH3 ▸ Heap.get?_push_of_some _ e
  have k34 : Keep H3 H4 := fun b o e => hH4 ▸ pushCells_keeps _ _ _ _ (Heap.get?_push_of_some _ e)
  have k24 : Keep s₂.heap H4 := k23.trans k34
  have nD2 : s₂.heap.get? D = none := hD ▸ fresh_none _
  have nC2 : s₂.heap.get? C = none := Heap.get?_none_of_le (by (first | lia | omega))
  have nD : s.heap.get? D = none := not_of_keep g.2 nD2
  have nC : s.heap.get? C = none := not_of_keep g.2 nC2
  have hDC : D ≠ C := by (first | lia | omega)
  have D4 : LstX H4 D #[] := ⟨0, k34 _ _ (by rw [← hH3, ← hD]; exact IsL.new _ _)⟩
  have C4 : H4.Ns C (fun _ => none) := by
    have := (Heap.Ns.new H3 (.type "dict")).keeps (pushCells_keeps csc.names _)
    rw [hH4, hC] at this; exact this
  -- the target's cell, if it has one
  obtain ⟨c₀, hc₀⟩ : ∃ c₀ : Addr, (c₀ = C ∧ (relS csc sc).names.lookup x = some .local) ∨ (C < c₀ ∧ (relS csc sc).names.lookup x = some .cell ∧ cells.lookup x = some c₀ ∧ H4.IsCell c₀ none) := by
    rcases ok.tgt with q | ⟨q1, q2⟩
    · exact ⟨C, .inl ⟨rfl, q⟩⟩
    · obtain ⟨c, h1, h2, h3⟩ := cellsFrom_new x csc.names (H3.push { cls := .type "dict", data := .dict #[] }) (closL env.cells csc.names []) q2
      rw [Heap.size_push, hC] at h1 h2
      rw [hH4] at h3; rw [hcells] at h2
      exact ⟨c, .inr ⟨by (first | lia | omega), q1, h2, h3⟩⟩
  have nc₀2 : s₂.heap.get? c₀ = none := by
    rcases hc₀ with ⟨q, _⟩ | ⟨q, _⟩
    · rw [q]; exact nC2
    · exact Heap.get?_none_of_le (by (first | lia | omega))
  have c₀D : c₀ ≠ D := by
    rcases hc₀ with ⟨q, _⟩ | ⟨q, _⟩
    · exact fun e => hDC (e.symm.trans q)
    · exact Nat.ne_of_gt (Nat.lt_trans (show D < C by (first | lia | omega)) q)
  have nc₀ : s.heap.get? c₀ = none := not_of_keep g.2 nc₀2
  -- the mutable ones
  let X' : Addr → Prop := fun a => X a ∨ I a ∨ a = D ∨ a = C ∨ a = c₀
  have re : ∀ a, X' a → X a ∨ s.heap.get? a = none := fun a q => by
    rcases q with q | q | q | q | q
    · exact .inl q
    · exact .inr (hI a q).1
    · exact .inr (q ▸ nD)
    · exact .inr (q ▸ nC)
    · exact .inr (q ▸ nc₀)
  have Iold : ∀ a, I a → a ≠ D ∧ a ≠ C ∧ a ≠ c₀ := fun a i => by
    obtain ⟨o, e⟩ := (hI a i).2
    have no : ∀ b, a = b → s₂.heap.get? b = none → False := fun b q n => by rw [q, n] at e; cases e
    exact ⟨fun q => no _ q nD2, fun q => no _ q nC2, fun q => no _ q nc₀2⟩
  have pinI : ∀ p ∈ pins, ¬ I p.1 := fun p hp i => by
    have := R.gl.pin p hp
    rw [(hI _ i).1] at this; cases this
  -- captured names
  have capV : ∀ p ∈ caps, nm[p.1]? = some p.2 := fun p hp => by
    have := List.all_eq_true.mp hnm p hp; simpa using this
  have capSt : ∀ p ∈ caps, (σ.getD p.1 .unset).isSet = true := fun p hp => List.all_eq_true.mp hset p hp
  have capR : ∀ p ∈ caps, ∀ (h : Heap), Keep s.heap h → ∀ v, Reads env s.heap p.2 v → Reads ce h p.2 v := fun p hp h k v r => by
    rcases r with ⟨q, _⟩ | ⟨_, c, hc, hi⟩
    · rw [eo.kindOf] at q; exact absurd q (ok.capLoc p hp)
    · refine .inr ⟨?_, c, ?_, hi.keeps k⟩
      · rw [ceo.kindOf]; exact ok.capKind p hp
      · rw [ceC, ← hcells]
        exact cellsFrom_old _ _ _ _ _ (ok.capCell p hp) (closL_lookup _ _ _ hc _ _ (.inl (ok.capFree p hp)))
  -- the state of the loop
  let Inv : Heap → List AV → Prop := CInv s.heap X' C D c₀
  have relOf : ∀ h acc r y v, Inv h acc → J X' r h → Rep X' h v y → Reads ce h x v → Rel mg mb pins (caps.map (·.2) ++ [x]) X' ce (capS caps σ ++ [.val y]) h := by
    intro h acc r y v ⟨i1, m, i2, vs, n, i3, i4, i5⟩ hJ' rv rd
    refine ⟨R.gl.keep i1, fun a q => ?_, fun k z hz => ?_⟩
    · rcases q with q | q | q | q | q
      · obtain ⟨o, e⟩ := R.dom a q; exact ⟨o, i1 _ _ e⟩
      · exact hIt.alive _ _ _ hJ' a q
      · exact ⟨_, q ▸ i3⟩
      · obtain ⟨o, _, _, e, _⟩ := ns_data i2; exact ⟨o, q ▸ e⟩
      · rcases i5 with i5 | ⟨_, o, e, _⟩
        · obtain ⟨o, _, _, e, _⟩ := ns_data i2; exact ⟨o, by rw [q, i5]; exact e⟩
        · exact ⟨o, q ▸ e⟩
    · rcases Nat.lt_or_ge k caps.length with hk | hk
      · rw [List.getElem?_append_left (by simpa using hk), List.getElem?_map] at hz
        obtain ⟨p, hp, rfl⟩ := Option.map_eq_some_iff.mp hz
        have hp' := List.mem_of_getElem? hp
        have e1 : (capS caps σ ++ [LV.val y]).getD k .unset = σ.getD p.1 .unset := by
          rw [List.getD_eq_getElem?_getD, List.getElem?_append_left (by simpa [capS] using hk), capS, List.getElem?_map, hp]; rfl
        rw [e1]
        exact (R.var p.1 p.2 (capV p hp')).into i1 (fun a q => .inl q) re (capR p hp' h i1)
      · have : k = caps.length := by
          have := (List.getElem?_eq_some_iff.mp hz).1
          simp at this; (first | lia | omega)
        subst this
        have e1 : (capS caps σ ++ [LV.val y]).getD caps.length .unset = .val y := by simp [capS]
        have e2 : z = x := by simpa using hz.symm
        rw [e1, e2]
        exact ⟨v, rd, rv⟩
  have storeX : ∀ (A' : Around) s' acc r y v (Q' : Unit → Shared → Prop) (E' : Value → Shared → Prop), Inv s'.heap acc → J X' r s'.heap → Rep X' s'.heap v y →
      (∀ h' tk, Inv h' acc → J X' r h' → Rep X' h' v y → Reads ce h' x v → Q' () { s' with heap := h', toks := tk }) → wpAny (model prog w) A' (storeName ce x v) Q' E' s' := by
    intro A' s' acc r y v Q' E' inv hJ' rv hQ
    have inv0 := inv
    obtain ⟨i1, m, i2, vs, n, i3, i4, i5⟩ := inv
    rcases hc₀ with ⟨q1, q2⟩ | ⟨q1, q2, q3, q4⟩
    · refine wpAny_storeName_local (m := m) (by rw [ceo.kindOf]; exact q2) (ceL ▸ i2) (fun h' n' sb => ?_) (by rw [ceo.scope]; simp [relS, ok.kind])
      rw [ceL] at n' sb
      have kx : KeepX X' s'.heap h' := fun b o nb e => (sb.2 b fun e' => nb (e' ▸ .inr (.inr (.inr (.inl rfl))))).trans e
      refine hQ h' _ (inv0.same sb (.inr (.inr (.inr (.inl rfl)))) (Ne.symm hDC) nC n' (.inl q1)) (hIt.stable _ I _ _ _ _ hJ' (fun _ i => i) ⟨fun b o hb e => (sb.2 b fun e' => ?_).trans e, fun _ q => .inl q⟩) (rv.keepX kx) (.inl ⟨by rw [ceo.kindOf]; exact q2, _, ceL ▸ n', by simp⟩)
      rcases hb with hb | hb
      · exact hb (e' ▸ .inr (.inr (.inr (.inl rfl))))
      · exact (Iold b hb).2.1 e'
    · have hcC : c₀ ≠ C := Nat.ne_of_gt q1
      obtain ⟨u, i5⟩ := i5.resolve_left hcC
      refine wpAny_storeName_cell (c := c₀) ceo.fn (by rw [ceo.kindOf]; exact q2) (ceC ▸ q3) i5 fun h' c' sb => ?_
      have kx : KeepX X' s'.heap h' := fun b o nb e => (sb.2 b fun e' => nb (e' ▸ .inr (.inr (.inr (.inr rfl))))).trans e
      refine hQ h' _ (inv0.same sb (.inr (.inr (.inr (.inr rfl)))) c₀D nc₀ (i2.sameBut sb (Ne.symm hcC)) (.inr ⟨_, c'⟩)) (hIt.stable _ I _ _ _ _ hJ' (fun _ i => i) ⟨fun b o hb e => (sb.2 b fun e' => ?_).trans e, fun _ q => .inl q⟩) (rv.keepX kx) (.inr ⟨.inl (by rw [ceo.kindOf]; exact q2), c₀, ceC ▸ q3, c'⟩)
      rcases hb with hb | hb
      · exact hb (e' ▸ .inr (.inr (.inr (.inr rfl))))
      · exact (Iold b hb).2.2 e'
  have IX : ∀ a, I a → X' a := fun a i => .inr (.inl i)
  obtain ⟨nD4, D4⟩ := D4
  have inv4 : Inv H4 [] := ⟨g.2.trans k24, _, C4, #[], nD4, D4, .nil, hc₀.imp (fun q => q.1) fun q => ⟨_, q.2.2.2⟩⟩
  have J4 : J X' xs H4 := hIt.stable _ I X' _ _ _ hJ (fun _ i => i) ⟨fun b o _ e => k24 b o e, fun b q => by
    rcases q with q | q | q | q | q
    · exact .inl (.inl q)
    · exact .inl (.inr q)
    · exact .inr (q ▸ nD2)
    · exact .inr (q ▸ nC2)
    · exact .inr (q ▸ nc₀2)⟩
  have loop : codeAny (model prog w) A (.compLoop (.ListComp elt [⟨.Name x px, iter, ifs, 0⟩] csc pos) 0 it (.ref D) ce) (RR (.ref D) C) { s₂ with heap := H4 } := by
    refine codeAny_compLoop_tests (CLoop s₂ Inv (J X') fun ys acc => compL Wf We (capS caps σ) ys acc P) ?_ xs.length ⟨xs, [], rfl, by simpa using hl, _, _, rfl, inv4, J4, hW⟩
    rintro n s' ⟨ys, acc, rfl, hlen, h₁, tk₁, rfl, inv, hJ', hC'⟩
    have G' : Gl mg mb pins h₁ := by obtain ⟨i1, _, _, _, _, _, _, _⟩ := inv; exact R.gl.keep i1
    cases ys with
    | nil =>
      refine wpAny_mono (hIt.fin A X' _ _ a G' IX pinI hJ') (fun o s₃ hpat => ?_) fun _ _ x => x
      obtain ⟨e, ⟨⟨h₂, tk₂, e2⟩, kI⟩⟩ := hpat
      subst e; subst e2
      obtain ⟨i1, m, i2, vs, n, i3, i4, i5⟩ := inv
      have nI : ∀ b, (b = D ∨ b = C) → ¬ I b := fun b q i => by
        have := Iold b i
        rcases q with q | q
        · exact this.1 q
        · exact this.2.1 q
      refine hRR D C h₂ tk₂ m vs acc X' (fun a q => .inl q) (.inr (.inr (.inr (.inl rfl)))) (.inr (.inr (.inl rfl))) (fun b o e => kI b o (fun i => by rw [(hI b i).1] at e; cases e) (i1 b o e)) nD nC hDC ?_ ⟨n, kI _ _ (nI D (.inl rfl)) i3⟩ (i4.keepX fun b o nb e => kI b o (fun i => nb (IX b i)) e) hC'
      obtain ⟨o, es, ep, e, r⟩ := i2
      exact ⟨o, es, ep, kI _ _ (nI C (.inr rfl)) e, r⟩
    | cons y r =>
      refine wpAny_mono (hIt.item A X' _ y r _ a G' IX hJ') (fun o s₃ hpat => ?_) fun _ _ x => x
      obtain ⟨v, e, ⟨⟨h₂, tk₂, e2⟩, kI⟩, rv, hJ3⟩ := hpat
      subst e; subst e2
      have inv3 : Inv h₂ acc := by
        obtain ⟨i1, m, i2, vs, n, i3, i4, i5⟩ := inv
        refine ⟨fun b o e => kI b o (fun i => by rw [(hI b i).1] at e; cases e) (i1 b o e), m, i2.at fun o e => kI _ _ (fun i => (Iold _ i).2.1 rfl) e, vs, n, kI _ _ (fun i => (Iold _ i).1 rfl) i3, i4.keepX fun b o nb e => kI b o (fun i => nb (IX b i)) e, i5.imp id fun ⟨v, o, e, d⟩ => ⟨v, o, kI _ _ (fun i => (Iold _ i).2.2 rfl) e, d⟩⟩
      refine assign_Name (storeX A _ acc r y v _ _ inv3 hJ3 rv fun h₃ tk₃ inv4 hJ4 rv4 rd4 => ?_)
      have R4 := relOf h₃ acc r y v inv4 hJ4 rv4 rd4
      refine wpAny_mono (hf.it A ce X' _ _ _ _ a ceo R4 hC') (fun b s₄ hpat => ?_) fun _ _ x => x
      obtain ⟨g4, hb⟩ := hpat
      obtain ⟨⟨h₄, tk₄, rfl⟩, k4⟩ := g4
      have inv5 := inv4.keep k4
      have hJ5 : J X' r h₄ := hIt.stable _ I _ _ _ _ hJ4 (fun _ i => i) ⟨fun b o _ e => k4 b o e, fun _ q => .inl q⟩
      cases b with
      | false =>
        simp only [if_false, Bool.false_eq_true] at hb ⊢
        exact ⟨r.length, by simp, r, acc, rfl, by simp at hlen; (first | lia | omega), _, _, rfl, inv5, hJ5, hb⟩
      | true =>
        simp only [if_true] at hb ⊢
        refine wpAny_mono (he.it A ce X' _ _ _ _ a ceo (R4.keep k4) hb) (fun z s₅ hpat => ?_) fun _ _ x => x
        obtain ⟨g5, zv, hz, rz⟩ := hpat
        obtain ⟨⟨h₅, tk₅, rfl⟩, k5⟩ := g5
        have inv6 := inv5.keep k5
        have hJ6 : J X' r h₅ := hIt.stable _ I _ _ _ _ hJ5 (fun _ i => i) ⟨fun b o _ e => k5 b o e, fun _ q => .inl q⟩
        obtain ⟨i1, m, i2, vs, n6, i3, i4, i5⟩ := inv6
        have hvl := i4.length
        refine wpAny_list_append_plain (l := D) (items := vs) ⟨n6, i3⟩ (fun h₆ hp sb => ?_) (by rw [sizeLine_eq, ← Array.length_toList]; simp at hlen; (first | lia | omega))
        obtain ⟨np, hp⟩ := hp
        have kx : KeepX X' h₅ h₆ := fun b o nb e => (sb.2 b fun e' => nb (e' ▸ .inr (.inr (.inl rfl)))).trans e
        refine ⟨r.length, by simp, r, acc ++ [zv], rfl, by simp at hlen ⊢; (first | lia | omega), _, _, rfl, ⟨fun b o e => (sb.2 b fun e' => by rw [e', nD] at e; cases e).trans (i1 b o e), m, i2.sameBut sb (Ne.symm hDC), vs.push z, np, hp, ?_, i5.imp id fun ⟨u, q⟩ => ⟨u, q.sameBut sb c₀D⟩⟩, hIt.stable _ I _ _ _ _ hJ6 (fun _ i => i) ⟨fun b o hb e => (sb.2 b fun e' => ?_).trans e, fun _ q => .inl q⟩, hz⟩
        · have := (i4.keepX kx).append (.cons (rz.keepX kx) .nil)
          simpa using this
        · rcases hb with hb | hb
          · exact hb (e' ▸ .inr (.inr (.inl rfl)))
          · exact (Iold b hb).1 e'
  exact codeAny_compStart_list loop (hIt.self A X' _ xs _ _ J4 loop)
end
end Mine
-- MP21
set_option maxRecDepth 100000
set_option linter.unusedVariables false
set_option linter.unusedSimpArgs false
namespace Mine
open PySem PySem.Calls PyProof.Rows PySem.SeqAt PySem.MeetsSeq

/-- are a comprehension's stores exchanged -/
def swB (sc csc : Scope) (t : Str) (tp p : Pos) : Bool :=
  (if sc.kind.isAnnotationScope then ScopeKind.function else sc.kind) == .function && sc.names.lookup t == some .local && tp.line == p.line && !(csc.names.any fun (n, k) => n == t && (k == .local || k == .cell))
theorem swapsWith_eq {sc csc : Scope} {t : Str} {tp p : Pos} {elt gens line} {env : Env} (e : env.scope = sc) : swapsWith (.ListComp elt gens csc p) (some (.Name t tp)) line env = pure (swB sc csc t tp p) := by
  unfold swapsWith swB Env.blockKind Env.kindOf
  rw [e]; rfl

section
variable {prog : Program} {w : World} {mg mb : Str → Option Value} {pins : List (Addr × Obj)} {l : Lim} {sc : Scope} {nm : List Str}

def compW (caps : List (Nat × Str)) (Wi : Sto → (List AV → Prop) → Prop) (Wf : Sto → (Bool → Prop) → Prop) (We : WE) (σ : Sto) (Q : List AV → Prop) : Prop :=
  capOk caps σ = true ∧ Wi σ fun xs => xs.length ≤ 100000 ∧ compL Wf We (capS caps σ) xs [] Q

theorem capReads {env : Env} {X : Addr → Prop} {σ : Sto} {h : Heap} {csc : Scope} {caps : List (Nat × Str)} {x : Str} (ok : CompOk sc csc caps x) (hnm : nmOk nm caps = true) (hset : capOk caps σ = true) (eo : EnvOk sc env) (R : Rel mg mb pins nm X env σ h) :
    ∀ n, (n, NameKind.free) ∈ csc.names → ∃ c, env.cells.lookup n = some c := fun n hn => by
  obtain ⟨p, hp, rfl⟩ := ok.free n hn
  have e1 : nm[p.1]? = some p.2 := by have := List.all_eq_true.mp hnm p hp; simpa using this
  obtain ⟨v, r⟩ := (R.var p.1 p.2 e1).reads (List.all_eq_true.mp hset p hp)
  rcases r with ⟨q, _⟩ | ⟨_, c, hc, _⟩
  · rw [eo.kindOf] at q; exact absurd q (ok.capLoc p hp)
  · exact ⟨c, hc⟩

theorem semF_comp {csc caps x px elt iter ifs pos Wi Wf We} (hi : SemI prog w mg mb pins l sc nm iter Wi) (hf : SemC prog w mg mb pins l (relS csc sc) (caps.map (·.2) ++ [x]) ifs Wf) (he : SemE prog w mg mb pins l (relS csc sc) (caps.map (·.2) ++ [x]) elt We)
    (ok : compOk sc csc caps x = true := by decide +kernel) (hnm : nmOk nm caps = true := by decide +kernel) (hs : ∀ env x, foldedSetIterable iter env x = pure x := by intros; rfl) :
    SemF prog w mg mb pins l sc nm (.ListComp elt [⟨.Name x px, iter, ifs, 0⟩] csc pos) (compW caps Wi Wf We) := by
  refine .mk ?_
  intro A env X σ s Q E a eo R ⟨hset, hq⟩
  have ok := CompOk.of ok
  rw [eval_ListComp]
  refine wpAny_comprehension_free (use := none) rfl (hs env) (closureFor_some (capReads ok hnm hset eo R)) ok.kind ok.names (wpAny_mono (hi.it A env X σ s _ E a eo R hq) (fun v s₁ h₁ => ?_) fun _ _ x => x)
  refine wpAny_mono h₁ (fun it s₂ hpat => ?_) fun _ _ x => x
  obtain ⟨g, xs, I, J, ⟨hlen, hxs⟩, hJ, hIt, hI⟩ := hpat
  refine comp_run (RR := fun acc C => compPost (model prog w) A E none _ acc C) hf he ok hnm hset a eo R g hJ hIt hI hlen hxs fun D C h' tk m vs zs X' hX xC xD k nD nC hDC n ⟨kk, lD⟩ r hP => ?_
  refine ⟨m, n, fun h'' sb => ?_⟩
  have kx : KeepX X' h' h'' := fun b o nb e => (sb.2 b fun e' => nb (e' ▸ xC)).trans e
  have k2 : Keep s.heap h'' := fun b o e => (sb.2 b fun e' => by rw [e', nC] at e; cases e).trans (k b o e)
  have lD' : LstX h'' D vs := ⟨kk, (sb.2 D hDC).trans lD⟩
  have g2 : Grow s { s₂ with heap := h'', toks := tk } := by
    obtain ⟨⟨h₂, tk₂, rfl⟩, _⟩ := g
    exact Grow.heap _ k2
  refine ⟨g2, D, vs, zs, rfl, nD, lD', hP, ?_⟩
  exact (r.keepX kx).reX fun a q => .inl (q.elim (hX a) fun e => e ▸ xD)

/-- where the stores are exchanged -/
theorem sem1_assignComp {y py spos ky csc caps x px elt iter ifs pos Wi Wf We} (hi : SemI prog w mg mb pins l sc nm iter Wi) (hf : SemC prog w mg mb pins l (relS csc sc) (caps.map (·.2) ++ [x]) ifs Wf) (he : SemE prog w mg mb pins l (relS csc sc) (caps.map (·.2) ++ [x]) elt We)
    (hy : Ix nm ky y) (hn : nm.Nodup := by decide +kernel) (hly : isLoc sc y = true := by decide +kernel) (hsw : swB sc csc y py pos = true := by decide +kernel)
    (ok : compOk sc csc caps x = true := by decide +kernel) (hnm : nmOk nm caps = true := by decide +kernel) (hs : ∀ env x, foldedSetIterable iter env x = pure x := by intros; rfl) :
    Sem1 prog w mg mb pins l sc nm (.Assign [.Name y py] (.ListComp elt [⟨.Name x px, iter, ifs, 0⟩] csc pos) spos) (fun σ Q => compW caps Wi Wf We σ fun zs => Q .next (σ.set ky (.val (.lst zs)))) := by
  refine .mk ?_
  intro A env X₀ s₀ σ s Z X m₀ cm₀ Q E a eo F ⟨hset, hq⟩
  have ok := CompOk.of ok
  have R := F.rel
  have eoE := eo.toEnvOk
  rw [exec_Assign_Name_used _ _ _ _ (by rw [swapsWith_eq eoE.scope, hsw])]
  refine wpAny_bind (wpAny_standAt (wpAny_bind ?_))
  show wpAny _ A (do let _ ← comprehension (.ListComp elt [⟨.Name x px, iter, ifs, 0⟩] csc pos) csc env _ (newList []) false (eval iter env) (some (assign (.Name y py) env))) _ _ s
  refine wpAny_bind (wpAny_mono (wpAny_comprehension_free (use := some (assign (.Name y py) env)) (Q := fun _ s' => SPost mg mb pins nm X₀ s₀ env s Z X Q .next s') rfl (hs env) (closureFor_some (capReads ok hnm hset eoE R)) ok.kind ok.names
    (wpAny_mono (hi.it A env X σ s _ E a eoE R hq) (fun v s₁ h₁ => ?_) fun _ _ x => x)) (fun _ s' hq => wpAny_pure (wpAny_pure hq)) fun _ _ e => e)
  refine wpAny_mono h₁ (fun it s₂ hpat => ?_) fun _ _ x => x
  obtain ⟨g, xs, I, J, ⟨hlen, hxs⟩, hJ, hIt, hI⟩ := hpat
  refine comp_run (RR := fun acc C => compPost (model prog w) A E (some (assign (.Name y py) env)) (fun _ s' => SPost mg mb pins nm X₀ s₀ env s Z X Q .next s') acc C) hf he ok hnm hset a eoE R g hJ hIt hI hlen hxs fun D C h' tk m vs zs X' hX xC xD k nD nC hDC n ⟨kk, lD⟩ r hP => ?_
  show wpAny _ A (assign (.Name y py) env (.ref D)) _ _ _
  have g2 : Grow s { s₂ with heap := h', toks := tk } := by
    obtain ⟨⟨h₂, tk₂, rfl⟩, _⟩ := g
    exact Grow.heap _ k
  obtain ⟨oC, _, _, eC, _⟩ := ns_data n
  have F1 := F.extend g2 (I := fun a => a = C) fun a e => ⟨e ▸ nC, oC, e ▸ eC⟩
  have nX : ∀ b, s.heap.get? b = none → ¬ X b := fun b e q => by obtain ⟨o, q⟩ := F.dom b q; rw [e] at q; cases q
  have rD : Rep (fun a => X a ∨ a = C) h' (.ref D) (.lst zs) := .lst (vs := vs.toList) (fun q => q.elim (nX D nD) hDC) ⟨kk, by simpa using lD⟩ (r.reX fun a q => .inl (q.elim (hX a) fun e => e ▸ xC))
  refine wpAny_assign_Name (F1.bindVal eo hy hn hly rD fun s₃ m3 cm3 F3 st3 => ?_)
  refine ⟨m, ?_, fun h'' sb => ?_⟩
  · obtain ⟨o, es, ep, e, q⟩ := n
    exact ⟨o, es, ep, st3.keep _ _ (.inr (.inr rfl)) e, q⟩
  · have gI : GrowI (fun a => a = C) s₃ { s₃ with heap := h'' } := ⟨⟨_, _, rfl⟩, fun b o nb e => (sb.2 b nb).trans e⟩
    have F4 := F3.dropI gI (Z' := Z) (fun a e => .inr e) (fun a e => .inr e) (fun a e => e ▸ not_of_keep F.keep₀ nC) fun a z => ⟨.inl z, fun e => nX C nC (e ▸ (F.prot a z).1)⟩
    refine ⟨.next, _, _, m3, cm3, hP, trivial, F4, ⟨fun b o hb e => ?_, fun b q => ?_⟩⟩
    · refine (sb.2 b fun e' => by rw [e', nC] at e; cases e).trans (st3.keep b o ?_ (g2.2 b o e))
      rcases hb with hb | hb
      · exact .inl fun q => q.elim hb fun e' => by rw [e', nC] at e; cases e
      · exact .inr (.inl hb)
    · exact .inl (q.1.resolve_right q.2)
end
end Mine
-- MP22
set_option maxRecDepth 100000
set_option linter.unusedVariables false
set_option linter.unusedSimpArgs false
namespace Mine
open PySem PySem.Calls PyProof.Rows PySem.SeqAt PySem.MeetsSeq

def stmtAt (p : Program) (k : Nat) : Stmt := (p.main.body)[k]?.getD (.Pass default)
def bodyOf : Stmt → List Stmt
  | .FunctionDef _ _ b .. => b
  | _ => []
def scopeOf : Stmt → Scope
  | .FunctionDef _ _ _ _ _ _ s .. => s
  | _ => default

section
variable {prog : Program} {w : World} {mg mb : Str → Option Value} {pins : List (Addr × Obj)} {l : Lim} {sc : Scope} {nm : List Str}
/-- a module's name with a plain value -/
def GV (mg : Str → Option Value) (x : Str) (a : AV) : Prop := ∃ v, mg x = some v ∧ FlatV v a
theorem semE_gv {x pos a} (h : GV mg x a) (hk : sc.names.lookup x = some .globalImplicit := by decide +kernel) (hd : (x == ("__debug__" : Str)) = false := by decide +kernel) :
    SemE prog w mg mb pins l sc nm (.Name x pos) (fun _ Q => Q a) := let ⟨_, h1, h2⟩ := h; semE_glob hk h1 h2 hd
/-- a built-in by its name -/
structure BI (mg mb : Str → Option Value) (x : Str) (v : Value) : Prop where
  m : mg x = none
  b : mb x = some v
theorem semE_bf {x p es pos id Wa M} (hB : BI mg mb x (.builtin id)) (ha : SemA prog w mg mb pins l sc nm es Wa) (hM : BnOk prog w mg mb pins l id M) (hk : sc.names.lookup x = some .globalImplicit := by decide +kernel)
    (hp : es.all plainE = true := by rfl) (hd : (x == ("__debug__" : Str)) = false := by decide +kernel) :
    SemE prog w mg mb pins l sc nm (.Call (.Name x p) es [] pos) (fun σ Q => Wa σ fun as => M as Q) := semE_bfn ha hM hk hB.m hB.b hp hd
end
end Mine
-- MP23
set_option maxRecDepth 100000
set_option linter.unusedVariables false
set_option linter.unusedSimpArgs false
namespace Mine
open PySem PySem.Calls PyProof.Rows PySem.SeqAt PySem.MeetsSeq

/-- what the text's defs lean on -/
structure Base (prog : Program) (w : World) (mg mb : Str → Option Value) (pins : List (Addr × Obj)) (flagT b3T : Int → Option (List Nat)) (b1S : Int → Bool) : Prop where
  max : GV mg "_MAX_STRING_SIZE" (.int 40)
  move : GV mg "_MOVE_COST" (.int 2)
  case : GV mg "_CASE_COST" (.int 1)
  len : BI mg mb "len" (.builtin "len")
  min : BI mg mb "min" (.builtin "min")
  hex : BI mg mb "hex" (.builtin "hex")
  sum : BI mg mb "sum" (.builtin "sum")
  ord : BI mg mb "ord" (.builtin "ord")
  chr : BI mg mb "chr" (.builtin "chr")
  bin : BI mg mb "bin" (.builtin "bin")
  iter : BI mg mb "iter" (.builtin "iter")
  next : BI mg mb "next" (.builtin "next")
  range : BI mg mb "range" (.type "range")
  list : BI mg mb "list" (.type "list")
  tuple : BI mg mb "tuple" (.type "tuple")
  flags : DictPin prog w mg pins "COMPILER_FLAG_NAMES" flagT
  b3 : DictPin prog w mg pins "b3_exceptions" b3T
  b1 : SetPin prog w mg pins "b1_set" b1S

/-- how a frame's run ends in a value -/
def retK (Q : AV → Prop) : Fl → Sto → Prop := fun fl _ => match fl with | .ret a => Q a | .next => Q .none | _ => False
/-- a def of the text lies pinned -/
inductive FnPin (mg : Str → Option Value) (pins : List (Addr × Obj)) (f : Str) (st : Stmt) (names : List Str) : Prop
  | mk (fa : Addr) (o : Obj) (fd : FuncData) (h1 : mg f = some (.ref fa)) (h2 : (fa, o) ∈ pins) (h3 : o.data = .func fd) (h4 : fd.body = .stmts (bodyOf st)) (h5 : fd.scope = scopeOf st) (h6 : fd.closure = []) (h7 : fd.globals = mainGlobals) (h8 : fd.builtins = builtinsNs)
    (h9 : ∀ h : Heap, (∀ p ∈ pins, h.get? p.1 = some p.2) → h.CodeRec fd.code fd.qualname) (h10 : ∀ vs : List Value, vs.length = names.length → bindArgs fd ⟨vs, []⟩ = pure (names.zip vs))

section
variable {prog : Program} {w : World} {mg mb : Str → Option Value} {pins : List (Addr × Obj)} {nm : List Str}
theorem FnOk.of_sem {n : Nat} {z : Bool} {f : Str} {st : Stmt} {names : List Str} {W : WS} {Wf} (P : FnPin mg pins f st names) (hW : SemS prog w mg mb pins ⟨n, z⟩ (scopeOf st) nm (bodyOf st) W)
    (h : ∀ as Q, Wf as Q → as.length = names.length ∧ W (sto0 nm as) (retK Q))
    (hpre : ∃ rest, nm = names ++ rest) (hnd : names.Nodup) (hloc : names.all (isLoc (scopeOf st)) = true)
    (hk : (scopeOf st).kind = .function) (hco : (scopeOf st).isCoroutine = false) (hgen : (scopeOf st).isGenerator = false) :
    FnOk prog w mg mb pins ⟨n + 1, z⟩ f Wf := by
  obtain ⟨fa, o, fd, h1, h2, h3, h4, h5, h6, h7, h8, h9, h10⟩ := P
  exact (FnOk.of_body h1 h2 h3 h4 h5 h6 h7 h8 h9 h10 hpre hnd hloc hk hco hgen hW).mono (by simp [Lim.le]) h

/-- loops, by an invariant -/
theorem forW_inv {k : Nat} {Wb Wo : WS} {Q : Fl → Sto → Prop} (Inv : List AV → Sto → Prop)
    (step : ∀ y r σ, Inv (y :: r) σ → ∀ K : Sto → Prop, (∀ σ', Inv r σ' → K σ') → Wb (σ.set k (.val y)) fun f σ' => match f with | .next => K σ' | .cont => K σ' | .brk => Q .next σ' | .ret a => Q (.ret a) σ')
    (fin : ∀ σ, Inv [] σ → Wo σ Q) : ∀ (xs : List AV) (σ : Sto), Inv xs σ → forW k Wb Wo xs σ Q
  | [], σ, h => fin σ h
  | y :: r, σ, h => step y r σ h _ fun σ' h' => forW_inv Inv step fin r σ' h'
theorem whW_inv {Wt : Sto → (Bool → Prop) → Prop} {Wb : WS} {Q : Fl → Sto → Prop} (Inv : Nat → Sto → Prop)
    (step : ∀ n σ, Inv n σ → ∀ K : Sto → Prop, (∀ m σ', m < n → Inv m σ' → K σ') → Wt σ fun c => if c = true then Wb σ (fun f σ' => match f with | .next => K σ' | .cont => K σ' | .brk => Q .next σ' | .ret a => Q (.ret a) σ') else Q .next σ) :
    ∀ (N n : Nat) (σ : Sto), n < N → Inv n σ → whW Wt Wb N σ Q
  | 0, n, σ, hn, _ => by (first | lia | omega)
  | N + 1, n, σ, hn, h => step n σ h _ fun m σ' hm h' => whW_inv Inv step N m σ' (by (first | lia | omega)) h'
end
end Mine
-- MP24
set_option maxRecDepth 100000
set_option linter.unusedVariables false
set_option linter.unusedSimpArgs false
namespace Mine
open PySem PySem.Calls PyProof.Rows PySem.SeqAt PySem.MeetsSeq

/-- constants, and tuples of such -/
def isCon : Expr → Bool
  | .Constant (.int i) _ _ => true
  | .Constant (.str x) _ _ => true
  | _ => false
def conV : Expr → AV
  | .Constant (.int i) _ _ => .int i
  | .Constant (.str x) _ _ => .str (strL x)
  | _ => .none
def isConT : Expr → Bool
  | .Tuple es _ _ => Nat.ble es.length 1000 && es.all isCon
  | e => isCon e
def conT : Expr → AV
  | .Tuple es _ _ => .tup (es.map conV)
  | e => conV e

section
variable {prog : Program} {w : World} {mg mb : Str → Option Value} {pins : List (Addr × Obj)} {l : Lim} {sc : Scope} {nm : List Str}
theorem conV_ok {e} (h : isCon e = true) : SemE prog w mg mb pins l sc nm e (fun _ Q => Q (conV e)) ∧ plainE e = true := by
  unfold isCon at h
  split at h
  · exact ⟨semE_int, rfl⟩
  · exact ⟨semE_str, rfl⟩
  · cases h
theorem conL_ok {f : Expr → AV} {g : Expr → Bool} (hf : ∀ e, g e = true → SemE prog w mg mb pins l sc nm e (fun _ Q => Q (f e)) ∧ plainE e = true) : ∀ {es}, es.all g = true → SemA prog w mg mb pins l sc nm es (fun _ Q => Q (es.map f))
  | [], h => semA_nil
  | e :: r, h => by
    simp only [List.all_cons, Bool.and_eq_true] at h
    exact semA_cons (hf e h.1).1 (conL_ok hf h.2) (hf e h.1).2
theorem conT_ok {e} (h : isConT e = true) : SemE prog w mg mb pins l sc nm e (fun _ Q => Q (conT e)) ∧ plainE e = true := by
  unfold isConT at h
  split at h
  · simp only [Bool.and_eq_true] at h
    exact ⟨semE_tuple (conL_ok (fun e => conV_ok) h.2) (Nat.le_of_ble_eq_true h.1), rfl⟩
  · rename_i hne
    have : conT e = conV e := by
      unfold conT
      split
      · rename_i es _ _; exact absurd rfl (hne es _ _)
      · rfl
    rw [this]
    exact conV_ok h
def conW (es : List Expr) : Sto → (List AV → Prop) → Prop := fun _ Q => Q (es.map conT)
theorem semA_const {es} (h : es.all isConT = true := by decide +kernel) : SemA prog w mg mb pins l sc nm es (conW es) := conL_ok (fun e => conT_ok) h
end
end Mine
-- MP25
set_option maxRecDepth 100000
set_option linter.unusedVariables false
namespace Mine
open PySem PySem.Calls PyProof.Rows

theorem forW_at {k : Nat} {Wb Wo : WS} {xs ys : List AV} {σ : Sto} {Q : Fl → Sto → Prop} (e : xs = ys) (h : forW k Wb Wo ys σ Q) : forW k Wb Wo xs σ Q := e ▸ h
theorem ff {P R : Prop} (h : R) : if false = true then P else R := by rw [if_neg Bool.false_ne_true]; exact h
theorem if_t {c : Bool} {P R : Prop} (h : c = true) (p : P) : if c = true then P else R := by rw [if_pos h]; exact p
theorem if_f {c : Bool} {P R : Prop} (h : c = false) (p : R) : if c = true then P else R := by rw [h, if_neg Bool.false_ne_true]; exact p

section
variable {prog : Program} {w : World} {mg mb : Str → Option Value} {pins : List (Addr × Obj)} {l : Lim} {sc : Scope} {nm : List Str}
theorem sem1_weak {st : Stmt} {W W' : WS} (h : Sem1 prog w mg mb pins l sc nm st W) (hw : ∀ σ Q, W' σ Q → W σ Q) : Sem1 prog w mg mb pins l sc nm st W' :=
  .mk fun A env X₀ s₀ σ s Z X m cm Q E a eo F hq => h.it A env X₀ s₀ σ s Z X m cm Q E a eo F (hw σ Q hq)
theorem semS_weak {st : List Stmt} {W W' : WS} (h : SemS prog w mg mb pins l sc nm st W) (hw : ∀ σ Q, W' σ Q → W σ Q) : SemS prog w mg mb pins l sc nm st W' :=
  .mk fun A env X₀ s₀ σ s Z X m cm Q E a eo F hq => h.it A env X₀ s₀ σ s Z X m cm Q E a eo F (hw σ Q hq)
end
end Mine
-- ZC1
set_option maxRecDepth 100000
set_option maxHeartbeats 1000000
set_option linter.unusedVariables false
namespace Mine
open PySem PySem.Calls PyProof.Rows PySem.SeqAt PySem.MeetsSeq
section
variable {prog : Program} {w : World} {mg mb : Str → Option Value} {pins : List (Addr × Obj)} {flagT b3T : Int → Option (List Nat)} {b1S : Int → Bool}
abbrev PW := PySem.Challenge.pw_rl0114_02
def subCost (x y : List Nat) : Int := if x == y then 0 else if lowerL x == lowerL y then 1 else 2
def subCostW (as : List AV) (Q : AV → Prop) : Prop := ∃ x y, as = [.str x, .str y] ∧ (lowerL x).length ≤ 1000000 ∧ (lowerL y).length ≤ 1000000 ∧ Q (.int (subCost x y))
theorem subCost_ok (B : Base prog w mg mb pins flagT b3T b1S) (P : FnPin mg pins "_substitution_cost" (stmtAt PW 13) ["ch_a", "ch_b"]) : FnOk prog w mg mb pins ⟨1, true⟩ "_substitution_cost" subCostW := by
  refine FnOk.of_sem (nm := ["ch_a", "ch_b"]) P (semS_cons (sem1_if (semT_cmp (semE_var .head) (semE_var (.tail .head)) eq_ok)
 (semS_cons (sem1_return semE_int)
 semS_nil)
 semS_nil)
 (semS_cons (sem1_if (semT_cmp (semE_meth (semE_var .head) semA_nil tyStr F.plainAttrs_str F.slot_str_lower F.type_str_lower lower_ok) (semE_meth (semE_var (.tail .head)) semA_nil tyStr F.plainAttrs_str F.slot_str_lower F.type_str_lower lower_ok) eq_ok)
 (semS_cons (sem1_return (semE_gv B.case))
 semS_nil)
 semS_nil)
 (semS_cons (sem1_return (semE_gv B.move))
 semS_nil))) ?_ ⟨[], rfl⟩ (by decide +kernel) (by decide +kernel) rfl rfl rfl
  rintro as Q ⟨x, y, rfl, h1, h2, h3⟩
  refine ⟨rfl, ?_⟩
  unfold subCost at h3
  cases e1 : x == y with
  | true =>
    rw [e1] at h3
    exact if_t e1 h3
  | false =>
    rw [e1] at h3
    refine if_f e1 ⟨trivial, h1, trivial, h2, ?_⟩
    cases e2 : lowerL x == lowerL y with
    | true => rw [e2] at h3; exact if_t e2 h3
    | false => rw [e2] at h3; exact if_f e2 h3
end
end Mine
-- ZC2
set_option maxRecDepth 100000
set_option maxHeartbeats 1000000
set_option linter.unusedVariables false
namespace Mine
open PySem PySem.Calls PyProof.Rows PySem.SeqAt PySem.MeetsSeq
section
variable {prog : Program} {w : World} {mg mb : Str → Option Value} {pins : List (Addr × Obj)} {flagT b3T : Int → Option (List Nat)} {b1S : Int → Bool}
def inB1W (b1S : Int → Bool) (as : List AV) (Q : AV → Prop) : Prop := ∃ c : Nat, as = [.str [c]] ∧ Q (.bool (b1S c))
theorem inB1_ok (B : Base prog w mg mb pins flagT b3T b1S) (P : FnPin mg pins "in_table_b1" (stmtAt PW 2) ["code"]) : FnOk prog w mg mb pins ⟨1, true⟩ "in_table_b1" (inB1W b1S) := by
  refine FnOk.of_sem (nm := ["code"]) P (semS_cons (sem1_return (semE_inSet B.b1 (semE_bf B.ord (semA_cons (semE_var .head) semA_nil) ord_ok) (by decide +kernel)))
 semS_nil) ?_ ⟨[], rfl⟩ (by decide +kernel) (by decide +kernel) rfl rfl rfl
  rintro as Q ⟨c, rfl, h⟩
  exact ⟨rfl, h⟩
def mapB3 (b3T : Int → Option (List Nat)) (c : Nat) : List Nat := match b3T c with | some x => x | none => lowerL [c]
def mapB3W (b3T : Int → Option (List Nat)) (as : List AV) (Q : AV → Prop) : Prop := ∃ c : Nat, as = [.str [c]] ∧ (lowerL [c]).length ≤ 1000000 ∧ Q (.str (mapB3 b3T c))
theorem mapB3_ok (B : Base prog w mg mb pins flagT b3T b1S) (P : FnPin mg pins "map_table_b3" (stmtAt PW 4) ["code"]) : FnOk prog w mg mb pins ⟨1, true⟩ "map_table_b3" (mapB3W b3T) := by
  refine FnOk.of_sem (nm := ["code", "r"]) P (semS_cons (sem1_assign (semE_dget1 B.b3 (semA_cons (semE_bf B.ord (semA_cons (semE_var .head) semA_nil) ord_ok) semA_nil) (by decide +kernel)) (.tail .head))
 (semS_cons (sem1_if (semT_cmp (semE_var (.tail .head)) semE_none isNot_ok)
 (semS_cons (sem1_return (semE_var (.tail .head)))
 semS_nil)
 semS_nil)
 (semS_cons (sem1_return (semE_meth (semE_var .head) semA_nil tyStr F.plainAttrs_str F.slot_str_lower F.type_str_lower lower_ok))
 semS_nil))) ?_ ⟨["r"], rfl⟩ (by decide +kernel) (by decide +kernel) rfl rfl rfl
  rintro as Q ⟨c, rfl, h1, h2⟩
  refine ⟨rfl, ?_⟩
  unfold mapB3 at h2
  refine seqW_of (σ1 := [.val (.str [c]), .val (match b3T c with | some x => .str x | none => .none)]) (fun K hK => hK) ?_
  cases e : b3T c with
  | none => rw [e] at h2; exact ⟨trivial, h1, h2⟩
  | some x => rw [e] at h2; exact h2
end
end Mine
-- ZC3
set_option maxRecDepth 100000
set_option maxHeartbeats 1000000
set_option linter.unusedVariables false
namespace Mine
open PySem PySem.Calls PyProof.Rows PySem.SeqAt PySem.MeetsSeq
def hexL (n : Int) : List Nat := strL (baseText "0x" 16 n)
def flName (flagT : Int → Option (List Nat)) (f : Int) : List Nat := match flagT f with | some x => x | none => hexL f
def pfGo (flagT : Int → Option (List Nat)) : List Nat → Int → List (List Nat) → List (List Nat)
  | [], n, acc => acc ++ [hexL n]
  | i :: r, n, acc => if Builtin.bitAnd n (2 ^ i) = 0 then pfGo flagT r n acc else
      if Builtin.bitXor n (2 ^ i) = 0 then acc ++ [flName flagT (2 ^ i)] else pfGo flagT r (Builtin.bitXor n (2 ^ i)) (acc ++ [flName flagT (2 ^ i)])
def pfHex : List Nat → Int → Prop
  | [], n => (hexL n).length ≤ 1000
  | i :: r, n => if Builtin.bitAnd n (2 ^ i) = 0 then pfHex r n else if Builtin.bitXor n (2 ^ i) = 0 then True else pfHex r (Builtin.bitXor n (2 ^ i))
inductive prettyW (flagT : Int → Option (List Nat)) (as : List AV) (Q : AV → Prop) : Prop
  | mk (n : Int) (e : as = [.int n]) (h1 : ∀ i < 32, (flName flagT (2 ^ i)).length ≤ 1000) (h2 : pfHex (List.range 32) n) (h3 : Q (.str (joinL (strL ", ") (pfGo flagT (List.range 32) n []))))
theorem strsA_map : ∀ ys : List (List Nat), strsA (ys.map .str) = some ys
  | [] => rfl
  | y :: r => by simp [strsA, strsA_map r]
theorem hex_small : ∀ i < 32, (baseText "0x" 16 (2 ^ i)).length ≤ 1000000 := by decide +kernel
theorem sum_le : ∀ (ys : List (List Nat)), (∀ y ∈ ys, y.length ≤ 1000) → (ys.map (·.length)).sum ≤ 1000 * ys.length
  | [], _ => by simp
  | y :: r, h => by
    have h1 := h y (.head _)
    have h2 := sum_le r fun z hz => h z (.tail _ hz)
    simp only [List.map_cons, List.sum_cons, List.length_cons]; (first | lia | omega)
/-- the words as they stand so far -/
def Wds (acc : List (List Nat)) (j : Nat) : Prop := acc.length + j ≤ 32 ∧ ∀ y ∈ acc, y.length ≤ 1000
theorem Wds.add {acc : List (List Nat)} {j : Nat} {y : List Nat} (h : Wds acc (j + 1)) (hy : y.length ≤ 1000) : Wds (acc ++ [y]) j :=
  ⟨by have := h.1; rw [List.length_append, List.length_singleton]; (first | lia | omega), fun z hz => (List.mem_append.mp hz).elim (h.2 z) fun q => by rw [List.mem_singleton.mp q]; exact hy⟩
theorem Wds.join {acc : List (List Nat)} {Q : AV → Prop} (h : acc.length ≤ 40 ∧ ∀ y ∈ acc, y.length ≤ 1000) (hq : Q (.str (joinL (strL ", ") acc))) : joinW [.str (strL ", "), .lst (acc.map .str)] Q :=
  ⟨acc, strsA_map acc, by have := sum_le acc h.2; have := h.1; have e : (strL ", ").length = 2 := by decide +kernel
                          rw [e]; (first | lia | omega), hq⟩
section
variable {prog : Program} {w : World} {mg mb : Str → Option Value} {pins : List (Addr × Obj)} {flagT b3T : Int → Option (List Nat)} {b1S : Int → Bool}
theorem app_str (acc : List (List Nat)) (y : List Nat) : acc.map AV.str ++ [.str y] = (acc ++ [y]).map AV.str := by rw [List.map_append]; rfl
inductive PfInv (flagT : Int → Option (List Nat)) (Q : AV → Prop) (xs : List AV) (σ : Sto) : Prop
  | mk (is : List Nat) (n : Int) (acc : List (List Nat)) (i₀ f₀ : LV) (g1 : ∀ i ∈ is, i < 32) (g2 : xs = is.map (fun i => AV.int (i : Nat))) (g3 : σ = [LV.val (.int n), .own (acc.map .str), i₀, f₀]) (g4 : Wds acc is.length) (g6 : pfHex is n) (g7 : Q (.str (joinL (strL ", ") (pfGo flagT is n acc))))
theorem pretty_ok (B : Base prog w mg mb pins flagT b3T b1S) (P : FnPin mg pins "pretty_flags" (stmtAt PW 7) ["flags"]) : FnOk prog w mg mb pins ⟨1, true⟩ "pretty_flags" (prettyW flagT) := by
  refine FnOk.of_sem (nm := ["flags", "names", "i", "flag"]) P (semS_cons (sem1_assignOwn (semF_list semA_nil) (.tail .head))
 (semS_cons (sem1_for (semI_rng (semA_cons semE_int semA_nil) (by decide +kernel) B.range.m B.range.b)
 (semS_cons (sem1_assign (semE_bin semE_int (semE_var (.tail (.tail .head))) shl_ok) (.tail (.tail (.tail .head))))
 (semS_cons (sem1_if (semT_of (semE_bin (semE_var .head) (semE_var (.tail (.tail (.tail .head)))) and_ok))
 (semS_cons (sem1_append (semE_dget2 B.flags (semA_cons (semE_var (.tail (.tail (.tail .head)))) (semA_cons (semE_bf B.hex (semA_cons (semE_var (.tail (.tail (.tail .head)))) semA_nil) hex_ok) semA_nil)) (by decide +kernel)) (.tail .head))
 (semS_cons (sem1_aug (semE_var (.tail (.tail (.tail .head)))) ixor_ok .head)
 (semS_cons (sem1_if (semT_not (semT_of (semE_var .head)))
 (semS_cons sem1_break
 semS_nil)
 semS_nil)
 semS_nil)))
 semS_nil)
 semS_nil))
 (semS_cons (sem1_append (semE_bf B.hex (semA_cons (semE_var .head) semA_nil) hex_ok) (.tail .head))
 semS_nil) (.tail (.tail .head)))
 (semS_freeze 1 (semS_cons (sem1_return (semE_meth semE_str (semA_cons (semE_var (.tail .head)) semA_nil) tyStr F.plainAttrs_str F.slot_str_join F.type_str_join join_ok))
 semS_nil)))) ?_ ⟨["names", "i", "flag"], rfl⟩ (by decide +kernel) (by decide +kernel) rfl rfl rfl
  rintro as Q ⟨n, rfl, h1, h2, h3⟩
  refine ⟨rfl, ?_⟩
  refine seqW_of (σ1 := [.val (.int n), .own [], .unset, .unset]) (fun K hK => hK) ?_
  have e32 : rangeL 0 1 (cntR 0 32 1) = (List.range 32).map (fun (i : Nat) => AV.int (i : Nat)) := by simp [rangeL, cntR, Builtin.Range.rangeSize]
  refine ⟨by decide, by decide, forW_at e32 ?_⟩
  refine forW_inv (PfInv flagT Q) ?_ ?_ _ _
    ⟨List.range 32, n, [], .unset, .unset, fun i hi => List.mem_range.mp hi, rfl, rfl, ⟨by decide, fun _ h => nomatch h⟩, h2, h3⟩
  · rintro y r σ ⟨is, n, acc, i₀, f₀, g1, g2, rfl, g4, g6, g7⟩ K hK
    cases is with
    | nil => exact nomatch g2
    | cons i is =>
      obtain ⟨rfl, rfl⟩ := List.cons.inj g2
      have hi : i < 32 := g1 i (.head _)
      refine seqW_of (σ1 := [.val (.int n), .own (acc.map .str), .val (.int (i : Nat)), .val (.int (2 ^ i))]) (fun K hK => ⟨Int.natCast_nonneg i, by (first | lia | omega), by unfold Small; decide, ?_⟩) ?_
      · rw [Int.one_mul]; exact hK
      unfold pfHex at g6
      unfold pfGo at g7
      by_cases hb : Builtin.bitAnd n (2 ^ i) = 0
      · rw [if_pos hb] at g6 g7
        exact if_f (by simpa using hb) (hK _ ⟨is, n, acc, _, _, fun j hj => g1 j (.tail _ hj), rfl, rfl, ⟨by have := g4.1; rw [List.length_cons] at this; (first | lia | omega), g4.2⟩, g6, g7⟩)
      · rw [if_neg hb] at g6 g7
        refine if_t (by simpa using hb) ?_
        refine seqW_of (σ1 := [.val (.int n), .own ((acc ++ [flName flagT (2 ^ i)]).map .str), .val (.int (i : Nat)), .val (.int (2 ^ i))]) (fun K hK => ⟨_, rfl, by have := g4.1; rw [List.length_map]; (first | lia | omega), hex_small i hi, ?_⟩) ?_
        · rw [← app_str] at hK
          unfold flName hexL at hK
          show K .next [.val (.int n), .own (acc.map .str ++ [match flagT (2 ^ i) with | some x => .str x | none => .str (strL (baseText "0x" 16 (2 ^ i)))]), .val (.int (i : Nat)), .val (.int (2 ^ i))]
          cases e : flagT (2 ^ i) <;> (rw [e] at hK; exact hK)
        refine seqW_of (σ1 := [.val (.int (Builtin.bitXor n (2 ^ i))), .own ((acc ++ [flName flagT (2 ^ i)]).map .str), .val (.int (i : Nat)), .val (.int (2 ^ i))]) (fun K hK => hK) ?_
        have g5 := Wds.add g4 (h1 i hi)
        by_cases hx : Builtin.bitXor n (2 ^ i) = 0
        · rw [if_pos hx] at g7
          exact if_t (by simpa using hx) ⟨trivial, Wds.join ⟨by have := g5.1; (first | lia | omega), g5.2⟩ g7⟩
        · rw [if_neg hx] at g6 g7
          exact if_f (by simpa using hx) (hK _ ⟨is, _, acc ++ [_], _, _, fun j hj => g1 j (.tail _ hj), rfl, rfl, g5, g6, g7⟩)
  · rintro σ ⟨is, n, acc, i₀, f₀, g1, g2, rfl, g4, g6, g7⟩
    cases is with
    | cons => exact nomatch g2
    | nil =>
      have g6 : (hexL n).length ≤ 1000 := g6
      refine seqW_of (σ1 := [.val (.int n), .own ((acc ++ [hexL n]).map .str), i₀, f₀]) (fun K hK => ⟨_, rfl, by have := g4.1; rw [List.length_map]; (first | lia | omega), ?_, ?_⟩) ?_
      · unfold hexL strL at g6
        rw [Array.length_toList] at g6
        show (baseText "0x" 16 n).cps.size ≤ _
        (first | lia | omega)
      · rw [← app_str] at hK; exact hK
      · exact ⟨trivial, Wds.join ⟨by have := g4.1; simp at this ⊢; (first | lia | omega), fun y hy => (List.mem_append.mp hy).elim (g4.2 y) fun q => by rw [List.mem_singleton.mp q]; exact g6⟩ g7⟩
end
end Mine
-- ZC4
set_option maxRecDepth 100000
set_option maxHeartbeats 1000000
set_option linter.unusedVariables false
namespace Mine
open PySem PySem.Calls PyProof.Rows PySem.SeqAt PySem.MeetsSeq

/-- the distance, as the text computes it -/
def preN : List Nat → List Nat → Nat
  | x :: a, y :: b => if x = y then preN a b + 1 else 0
  | _, _ => 0
def sufN (a b : List Nat) : Nat := preN a.reverse b.reverse
def minI (x y : Int) : Int := if y < x then y else x
def inner (c : Nat) : List Nat → List Int → Int → Int → Int → List Int × Int × Int
  | x :: a, r :: row, d, res, mn =>
    let res' := minI (minI res r + 2) (d + subCost [c] [x])
    let t := inner c a row r res' (if res' < mn then res' else mn)
    (res' :: t.1, t.2)
  | _, row, _, res, mn => (row, res, mn)
def outer (a : List Nat) (mx : Int) : List Nat → Nat → List Int → Int → Int
  | [], _, _, res => res
  | c :: b, j, row, _ =>
    let t := inner c a row (j * 2) (j * 2) 9223372036854775807
    if t.2.2 > mx then mx + 1 else outer a mx b (j + 1) t.1 t.2.1
def row0 (n : Nat) : List Int := (List.range n).map fun (i : Nat) => 2 + (i : Int) * 2
/-- after the trimming and the exchange: a is not longer than b -/
def levRow (a b : List Nat) (mx : Int) : Int := if ((b.length : Int) - a.length) * 2 > mx then mx + 1 else outer a mx b 0 (row0 a.length) 0
def levCore (a b : List Nat) (mx : Int) : Int :=
  if a = [] ∨ b = [] then 2 * ((a.length : Int) + b.length) else if a.length > 40 ∨ b.length > 40 then mx + 1 else if b.length < a.length then levRow b a mx else levRow a b mx
def trim (a b : List Nat) : List Nat × List Nat :=
  let p := preN a b
  let a := a.drop p
  let b := b.drop p
  let q := sufN a b
  (a.take (a.length - q), b.take (b.length - q))
def levD (a b : List Nat) (mx : Int) : Int := if a == b then 0 else levCore (trim a b).1 (trim a b).2 mx
inductive levW (as : List AV) (Q : AV → Prop) : Prop
  | mk (a b : List Nat) (mx : Int) (e : as = [.str a, .str b, .int mx]) (h1 : a.length ≤ 1000) (h2 : b.length ≤ 1000) (h3 : ∀ c ∈ a, (lowerL [c]).length ≤ 1000000) (h4 : ∀ c ∈ b, (lowerL [c]).length ≤ 1000000) (h5 : Q (.int (levD a b mx)))

theorem preN_le : ∀ (a b : List Nat), preN a b ≤ a.length ∧ preN a b ≤ b.length
  | x :: a, y :: b => by
    unfold preN
    have := preN_le a b
    split <;> simp <;> (first | lia | omega)
  | [], _ => by simp [preN]
  | _ :: _, [] => by simp [preN]
/-- the prefix goes on just where the loop goes on -/
theorem preN_step : ∀ (a b : List Nat) (k : Nat), k ≤ preN a b → (k < preN a b ↔ k < a.length ∧ k < b.length ∧ a[k]? = b[k]?)
  | x :: a, y :: b, k, h => by
    unfold preN at h ⊢
    split at h
    · rename_i e
      subst e
      cases k with
      | zero => simp
      | succ k =>
        have := preN_step a b k (by (first | lia | omega))
        simp only [if_true, List.length_cons, List.getElem?_cons_succ, Nat.add_lt_add_iff_right]
        exact this
    · rename_i e
      have : k = 0 := by (first | lia | omega)
      subst this
      simp [e]
  | [], _, k, h => by simp [preN] at h ⊢
  | _ :: _, [], k, h => by simp [preN] at h ⊢
end Mine
-- Q1
set_option maxRecDepth 100000
set_option maxHeartbeats 1000000
set_option linter.unusedVariables false
namespace Mine
/-- a sign for a sign, signs left out, signs put in, and what that costs -/
inductive Al : List Nat → List Nat → Int → Prop
  | nil : Al [] [] 0
  | del (x : Nat) {a b : List Nat} {c : Int} : Al a b c → Al (x :: a) b (c + 2)
  | ins (y : Nat) {a b : List Nat} {c : Int} : Al a b c → Al a (y :: b) (c + 2)
  | sub (x y : Nat) {a b : List Nat} {c : Int} : Al a b c → Al (x :: a) (y :: b) (c + subCost [x] [y])
theorem subCost_self (x : Nat) : subCost [x] [x] = 0 := by unfold subCost; rw [if_pos (beq_self_eq_true _)]
theorem subCost_le (x y : Nat) : 0 ≤ subCost [x] [y] ∧ subCost [x] [y] ≤ 2 := by
  unfold subCost
  split
  · decide
  · split <;> decide
theorem subCost_symm (x y : Nat) : subCost [x] [y] = subCost [y] [x] := by
  unfold subCost
  rw [Bool.beq_comm (a := [x]), Bool.beq_comm (a := lowerL [x])]
theorem Al.nonneg {a b : List Nat} {c : Int} (h : Al a b c) : 0 ≤ c := by
  induction h with
  | nil => decide
  | del x h ih => (first | lia | omega)
  | ins y h ih => (first | lia | omega)
  | sub x y h ih => have := subCost_le x y; (first | lia | omega)
theorem Al.symm {a b : List Nat} {c : Int} (h : Al a b c) : Al b a c := by
  induction h with
  | nil => exact .nil
  | del x h ih => exact .ins x ih
  | ins y h ih => exact .del y ih
  | sub x y h ih => rw [subCost_symm]; exact .sub y x ih
theorem Al.append {a b : List Nat} {c : Int} (h : Al a b c) {a' b' : List Nat} {c' : Int} (h' : Al a' b' c') : Al (a ++ a') (b ++ b') (c + c') := by
  induction h with
  | nil => rw [Int.zero_add]; exact h'
  | @del x a b c h ih => rw [show c + 2 + c' = c + c' + 2 by (first | lia | omega)]; exact .del x ih
  | @ins y a b c h ih => rw [show c + 2 + c' = c + c' + 2 by (first | lia | omega)]; exact .ins y ih
  | @sub x y a b c h ih => rw [show c + subCost [x] [y] + c' = c + c' + subCost [x] [y] by (first | lia | omega)]; exact .sub x y ih
theorem Al.one_del (x : Nat) : Al [x] [] 2 := .del x .nil
theorem Al.one_ins (x : Nat) : Al [] [x] 2 := .ins x .nil
theorem Al.one_sub (x y : Nat) : Al [x] [y] (subCost [x] [y]) := by have := Al.sub x y .nil; rwa [Int.zero_add] at this
theorem Al.dels (a : List Nat) : Al a [] (2 * (a.length : Int)) := by
  induction a with
  | nil => exact .nil
  | cons x a ih => rw [show 2 * ((x :: a).length : Int) = 2 * (a.length : Int) + 2 by rw [List.length_cons]; (first | lia | omega)]; exact .del x ih
/-- the right text may be cut in two -/
theorem Al.split {a b : List Nat} {c : Int} (h : Al a b c) : ∀ {b1 b2 : List Nat}, b = b1 ++ b2 → ∃ a1 a2 c1 c2, a = a1 ++ a2 ∧ Al a1 b1 c1 ∧ Al a2 b2 c2 ∧ c = c1 + c2 := by
  induction h with
  | nil =>
    intro b1 b2 e
    obtain ⟨rfl, rfl⟩ := List.append_eq_nil_iff.mp e.symm
    exact ⟨[], [], 0, 0, rfl, .nil, .nil, rfl⟩
  | @del x a b c h ih =>
    intro b1 b2 e
    obtain ⟨a1, a2, c1, c2, rfl, h1, h2, rfl⟩ := ih e
    exact ⟨x :: a1, a2, c1 + 2, c2, rfl, .del x h1, h2, by (first | lia | omega)⟩
  | @ins y a b c h ih =>
    intro b1 b2 e
    cases b1 with
    | nil =>
      obtain rfl : y :: b = b2 := e
      exact ⟨[], a, 0, c + 2, rfl, .nil, .ins y h, by (first | lia | omega)⟩
    | cons z b1 =>
      obtain ⟨rfl, e2⟩ := List.cons.inj e
      obtain ⟨a1, a2, c1, c2, rfl, h1, h2, rfl⟩ := ih e2
      exact ⟨a1, a2, c1 + 2, c2, rfl, .ins y h1, h2, by (first | lia | omega)⟩
  | @sub x y a b c h ih =>
    intro b1 b2 e
    cases b1 with
    | nil =>
      obtain rfl : y :: b = b2 := e
      exact ⟨[], x :: a, 0, _, rfl, .nil, .sub x y h, (Int.zero_add _).symm⟩
    | cons z b1 =>
      obtain ⟨rfl, e2⟩ := List.cons.inj e
      obtain ⟨a1, a2, c1, c2, rfl, h1, h2, rfl⟩ := ih e2
      exact ⟨x :: a1, a2, _, c2, rfl, .sub x y h1, h2, by (first | lia | omega)⟩
/-- a sign fewer costs 2 at most -/
theorem Al.drop_right {a b' : List Nat} {c : Int} (h : Al a b' c) : ∀ {y : Nat} {b : List Nat}, b' = y :: b → ∃ c', Al a b c' ∧ c' ≤ c + 2 := by
  induction h with
  | nil => intro y b e; exact nomatch e
  | @del x a b c h ih =>
    intro y b e
    obtain ⟨c', h', l⟩ := ih e
    exact ⟨c' + 2, .del x h', by (first | lia | omega)⟩
  | @ins z a b c h ih =>
    intro y b e
    obtain ⟨rfl, rfl⟩ := List.cons.inj e
    exact ⟨c, h, by (first | lia | omega)⟩
  | @sub x z a b c h ih =>
    intro y b e
    obtain ⟨rfl, rfl⟩ := List.cons.inj e
    exact ⟨c + 2, .del x h, by have := subCost_le x z; (first | lia | omega)⟩
theorem Al.drop_left {a b : List Nat} {x : Nat} {c : Int} (h : Al (x :: a) b c) : ∃ c', Al a b c' ∧ c' ≤ c + 2 := by
  obtain ⟨c', h', l⟩ := h.symm.drop_right rfl
  exact ⟨c', h'.symm, l⟩
/-- a common first sign costs nothing -/
theorem Al.strip {a b : List Nat} {x : Nat} {c : Int} (h : Al (x :: a) (x :: b) c) : ∃ c', Al a b c' ∧ c' ≤ c := by
  cases h with
  | del _ h => exact h.drop_right rfl
  | ins _ h => exact h.drop_left
  | sub _ _ h => exact ⟨_, h, by have := subCost_le x x; (first | lia | omega)⟩
structure Least (a b : List Nat) (d : Int) : Prop where
  is : Al a b d
  le : ∀ c, Al a b c → d ≤ c
theorem Least.uniq {a b : List Nat} {d d' : Int} (h : Least a b d) (h' : Least a b d') : d = d' := Int.le_antisymm (h.le _ h'.is) (h'.le _ h.is)
theorem Least.symm {a b : List Nat} {d : Int} (h : Least a b d) : Least b a d := ⟨h.is.symm, fun c q => h.le c q.symm⟩
theorem Al.rev {a b : List Nat} {c : Int} (h : Al a b c) : Al a.reverse b.reverse c := by
  induction h with
  | nil => exact .nil
  | del x h ih => rw [List.reverse_cons]; have := ih.append (.one_del x); rwa [List.append_nil] at this
  | ins y h ih => rw [List.reverse_cons]; have := ih.append (.one_ins y); rwa [List.append_nil] at this
  | sub x y h ih => rw [List.reverse_cons, List.reverse_cons]; exact ih.append (.one_sub x y)
theorem Least.rev {a b : List Nat} {d : Int} (h : Least a b d) : Least a.reverse b.reverse d :=
  ⟨h.is.rev, fun c q => h.le c (by have := q.rev; rwa [List.reverse_reverse, List.reverse_reverse] at this)⟩
theorem Least.strip {a b : List Nat} {x : Nat} {d : Int} (h : Least (x :: a) (x :: b) d) : Least a b d := by
  obtain ⟨c', h', l⟩ := h.is.strip
  have up : ∀ c, Al a b c → d ≤ c := fun c q => by have := h.le _ (Al.sub x x q); rwa [subCost_self, Int.add_zero] at this
  have := up _ h'
  exact ⟨(Int.le_antisymm l this) ▸ h', up⟩
theorem Least.nil_left (b : List Nat) : Least [] b (2 * (b.length : Int)) := by
  refine ⟨(Al.dels b).symm, fun c h => ?_⟩
  generalize e : ([] : List Nat) = a at h
  induction h with
  | nil => exact Int.le_refl _
  | del x h ih => exact nomatch e
  | ins y h ih => have := ih e; rw [List.length_cons]; (first | lia | omega)
  | sub x y h ih => exact nomatch e
theorem Least.step {a b : List Nat} {x y : Nat} {p q r : Int} (hp : Least a (y :: b) p) (hq : Least (x :: a) b q) (hr : Least a b r) : Least (x :: a) (y :: b) (minI (minI q p + 2) (r + subCost [x] [y])) := by
  have m : ∀ u v : Int, (minI u v = u ∨ minI u v = v) ∧ minI u v ≤ u ∧ minI u v ≤ v := fun u v => by unfold minI; split <;> (first | lia | omega)
  refine ⟨?_, fun c h => ?_⟩
  · rcases (m (minI q p + 2) (r + subCost [x] [y])).1 with e | e <;> rw [e]
    · rcases (m q p).1 with e | e <;> rw [e]
      · exact .ins y hq.is
      · exact .del x hp.is
    · exact .sub x y hr.is
  · have m1 := (m (minI q p + 2) (r + subCost [x] [y])).2
    have m2 := (m q p).2
    cases h with
    | del _ h => have := hp.le _ h; (first | lia | omega)
    | ins _ h => have := hq.le _ h; (first | lia | omega)
    | sub _ _ h => have := hr.le _ h; (first | lia | omega)
/-- the same at the end -/
theorem Least.snoc {a b : List Nat} {x y : Nat} {p q r : Int} (hp : Least a (b ++ [y]) p) (hq : Least (a ++ [x]) b q) (hr : Least a b r) : Least (a ++ [x]) (b ++ [y]) (minI (minI p q + 2) (r + subCost [y] [x])) := by
  have hp' := hp.rev
  have hq' := hq.rev
  rw [List.reverse_append] at hp' hq'
  have := (Least.step (x := y) (y := x) (a := b.reverse) (b := a.reverse) hq'.symm hp'.symm hr.rev.symm).symm.rev
  rwa [List.reverse_cons, List.reverse_cons, List.reverse_reverse, List.reverse_reverse] at this
end Mine
-- Q2
set_option maxRecDepth 100000
set_option maxHeartbeats 1000000
set_option linter.unusedVariables false
namespace Mine
inductive RowIs : List Nat → List Nat → List Nat → List Int → Prop
  | nil {pa pb : List Nat} : RowIs pa [] pb []
  | cons {pa : List Nat} {x : Nat} {a pb : List Nat} {r : Int} {row : List Int} : Least (pa ++ [x]) pb r → RowIs (pa ++ [x]) a pb row → RowIs pa (x :: a) pb (r :: row)
structure InnerOk (c : Nat) (pa a pb : List Nat) (mn : Int) (t : List Int × Int × Int) : Prop where
  row : RowIs pa a (pb ++ [c]) t.1
  res : Least (pa ++ a) (pb ++ [c]) t.2.1
  top : t.2.2 ≤ mn
  le : ∀ u v, a = u ++ v → u ≠ [] → ∀ z, Al (pa ++ u) (pb ++ [c]) z → t.2.2 ≤ z
  ge : ∀ y ≤ mn, (∀ u v, a = u ++ v → u ≠ [] → ∀ z, Al (pa ++ u) (pb ++ [c]) z → y ≤ z) → y ≤ t.2.2
theorem min_le (r m : Int) : (if r < m then r else m) ≤ r ∧ (if r < m then r else m) ≤ m := by split <;> (first | lia | omega)
theorem le_min {y r m : Int} (h : y ≤ r) (h' : y ≤ m) : y ≤ if r < m then r else m := by split <;> assumption
theorem inner_ok (c : Nat) (pb a : List Nat) : ∀ (pa : List Nat) (row : List Int) (d res mn : Int), RowIs pa a pb row → Least pa pb d → Least pa (pb ++ [c]) res → InnerOk c pa a pb mn (inner c a row d res mn) := by
  induction a with
  | nil =>
    intro pa row d res mn hr hd hres
    cases hr
    exact ⟨.nil, by rw [List.append_nil]; exact hres, Int.le_refl _, fun u v e hu => absurd (List.append_eq_nil_iff.mp e.symm).1 hu, fun y hy _ => hy⟩
  | cons x a ih =>
    intro pa row d res mn hr hd hres
    cases hr with
    | @cons _ _ _ _ r row hr hrow =>
      have hs := Least.snoc (x := x) (y := c) hres hr hd
      show InnerOk c pa (x :: a) pb mn (minI (minI res r + 2) (d + subCost [c] [x]) :: (inner c a row r (minI (minI res r + 2) (d + subCost [c] [x])) (if minI (minI res r + 2) (d + subCost [c] [x]) < mn then minI (minI res r + 2) (d + subCost [c] [x]) else mn)).1, _)
      generalize minI (minI res r + 2) (d + subCost [c] [x]) = res' at hs
      have I := ih (pa ++ [x]) row r res' (if res' < mn then res' else mn) hrow hr hs
      have m := min_le res' mn
      have ap : ∀ u, pa ++ x :: u = pa ++ [x] ++ u := fun u => by rw [List.append_assoc]; rfl
      refine ⟨.cons hs I.row, ?_, Int.le_trans I.top m.2, fun u v e hu z hz => ?_, fun y hy h => ?_⟩
      · rw [ap]; exact I.res
      · cases u with
        | nil => exact absurd rfl hu
        | cons w u =>
          obtain ⟨rfl, e2⟩ := List.cons.inj e
          cases u with
          | nil => exact Int.le_trans I.top (Int.le_trans m.1 (hs.le _ hz))
          | cons w u => exact I.le (w :: u) v e2 (List.cons_ne_nil _ _) z (by rw [← ap]; exact hz)
      · refine I.ge y (le_min (h [x] a rfl (List.cons_ne_nil _ _) _ hs.is) hy) fun u v e hu z hz => ?_
        exact h (x :: u) v (by rw [e]; rfl) (List.cons_ne_nil _ _) z (by rw [ap]; exact hz)
theorem inner_first {c x : Nat} {a : List Nat} {r : Int} {row : List Int} {d mn : Int} : inner c (x :: a) (r :: row) d d mn = inner c (x :: a) (r :: row) d (d + 2) mn := by
  have e : minI (minI d r + 2) (d + subCost [c] [x]) = minI (minI (d + 2) r + 2) (d + subCost [c] [x]) := by
    have := subCost_le c x
    generalize subCost [c] [x] = s at *
    unfold minI
    repeat' split
    all_goals (first | lia | omega)
  unfold inner
  rw [e]
/-- what the rows tell -/
def Tells (mx d R : Int) : Prop := (R = d ∨ R = mx + 1) ∧ (d ≤ mx → R = d)
theorem Tells.of_eq {mx d : Int} : Tells mx d d := ⟨.inl rfl, fun _ => rfl⟩
theorem Tells.over {mx d : Int} (h : mx < d) : Tells mx d (mx + 1) := ⟨.inr rfl, fun q => absurd q (Int.not_le.mpr h)⟩
theorem first_ok {c : Nat} {a pb : List Nat} {row : List Int} {mn : Int} (ha : a ≠ []) (hr : RowIs [] a pb row) : InnerOk c [] a pb mn (inner c a row (pb.length * 2) (pb.length * 2) mn) := by
  have l0 : Least [] pb ((pb.length : Int) * 2) := by have := Least.nil_left pb; rwa [Int.mul_comm] at this
  have l1 : Least [] (pb ++ [c]) ((pb.length : Int) * 2 + 2) := by
    have := Least.nil_left (pb ++ [c])
    rwa [show 2 * ((pb ++ [c]).length : Int) = (pb.length : Int) * 2 + 2 by rw [List.length_append, List.length_singleton]; (first | lia | omega)] at this
  cases hr with
  | nil => exact absurd rfl ha
  | cons h1 h2 => rw [inner_first]; exact inner_ok c pb _ [] _ _ _ mn (.cons h1 h2) l0 l1
theorem outer_ok {a : List Nat} (ha : a ≠ []) (mx : Int) (b : List Nat) : ∀ (pb : List Nat) (row : List Int) (res d : Int), RowIs [] a pb row → (b = [] → Least a pb res) → Least a (pb ++ b) d → Tells mx d (outer a mx b pb.length row res) := by
  induction b with
  | nil =>
    intro pb row res d hr h0 hd
    rw [List.append_nil] at hd
    rw [hd.uniq (h0 rfl)]; exact .of_eq
  | cons c b ih =>
    intro pb row res d hr h0 hd
    have I := first_ok (c := c) (mn := 9223372036854775807) ha hr
    have ap : pb ++ c :: b = pb ++ [c] ++ b := by rw [List.append_assoc]; rfl
    show Tells mx d (if (inner c a row (pb.length * 2) (pb.length * 2) 9223372036854775807).2.2 > mx then mx + 1 else outer a mx b (pb.length + 1) _ _)
    generalize inner c a row (pb.length * 2) (pb.length * 2) 9223372036854775807 = t at I
    by_cases q : t.2.2 > mx
    · rw [if_pos q]
      refine .over (Int.lt_of_lt_of_le q ?_)
      obtain ⟨a1, a2, c1, c2, e, h1, h2, rfl⟩ := hd.is.split ap
      have n2 := h2.nonneg
      refine Int.le_trans ?_ (show c1 ≤ c1 + c2 by (first | lia | omega))
      cases a1 with
      | cons x a1 => exact I.le (x :: a1) a2 e (List.cons_ne_nil _ _) _ h1
      | nil =>
        have l1 := (Least.nil_left (pb ++ [c])).le _ h1
        rw [List.length_append, List.length_singleton] at l1
        cases a with
        | nil => exact absurd rfl ha
        | cons x a =>
          have := I.le [x] a rfl (List.cons_ne_nil _ _) _ ((Al.dels pb).symm.append (Al.one_sub x c))
          have := subCost_le x c
          (first | lia | omega)
    · rw [if_neg q]
      have := ih (pb ++ [c]) t.1 t.2.1 d I.row (fun _ => I.res) (by rw [← ap]; exact hd)
      rwa [List.length_append, List.length_singleton] at this
theorem row0_ok (a : List Nat) : ∀ (pa : List Nat) (n : Nat), n = pa.length → RowIs pa a [] ((List.range' n a.length).map fun (i : Nat) => 2 + (i : Int) * 2) := by
  induction a with
  | nil => intro pa n _; exact .nil
  | cons x a ih =>
    intro pa n e
    rw [List.length_cons, List.range'_succ, List.map_cons]
    refine .cons ?_ (ih (pa ++ [x]) (n + 1) (by rw [List.length_append, List.length_singleton, e]))
    have := (Least.nil_left (pa ++ [x])).symm
    rwa [show 2 * ((pa ++ [x]).length : Int) = 2 + (n : Int) * 2 by rw [List.length_append, List.length_singleton, e]; (first | lia | omega)] at this
theorem len_le {a b : List Nat} {c : Int} (h : Al a b c) : 2 * ((b.length : Int) - a.length) ≤ c := by
  induction h with
  | nil => decide
  | del x h ih => rw [List.length_cons]; (first | lia | omega)
  | ins y h ih => rw [List.length_cons]; (first | lia | omega)
  | sub x y h ih => have := subCost_le x y; rw [List.length_cons, List.length_cons]; (first | lia | omega)
theorem levRow_ok {a b : List Nat} {mx d : Int} (ha : a ≠ []) (hl : a.length ≤ b.length) (h : Least a b d) : Tells mx d (levRow a b mx) := by
  unfold levRow
  split
  · rename_i q
    refine .over ?_
    have := len_le h.is
    (first | lia | omega)
  · refine outer_ok ha mx b [] (row0 a.length) 0 d ?_ (fun e => ?_) h
    · have := row0_ok a [] 0 rfl
      rwa [← List.range_eq_range'] at this
    · rw [e] at hl
      exact absurd (List.length_eq_zero_iff.mp (Nat.le_zero.mp hl)) ha
theorem levCore_ok {a b : List Nat} {mx d : Int} (h1 : a.length ≤ 40) (h2 : b.length ≤ 40) (h : Least a b d) : Tells mx d (levCore a b mx) := by
  unfold levCore
  by_cases q : a = [] ∨ b = []
  · rw [if_pos q]
    rcases q with rfl | rfl
    · rw [h.uniq (.nil_left b), List.length_nil, show 2 * (((0 : Nat) : Int) + (b.length : Int)) = 2 * (b.length : Int) by (first | lia | omega)]; exact .of_eq
    · rw [h.uniq (Least.nil_left a).symm, List.length_nil, show 2 * ((a.length : Int) + ((0 : Nat) : Int)) = 2 * (a.length : Int) by (first | lia | omega)]; exact .of_eq
  · rw [if_neg q, if_neg (by (first | lia | omega))]
    by_cases l : b.length < a.length
    · rw [if_pos l]; exact levRow_ok (fun e => q (.inr e)) (Nat.le_of_lt l) h.symm
    · rw [if_neg l]; exact levRow_ok (fun e => q (.inl e)) (Nat.not_lt.mp l) h
theorem strip_pre (a : List Nat) : ∀ (b : List Nat) {d : Int}, Least a b d → Least (a.drop (preN a b)) (b.drop (preN a b)) d := by
  induction a with
  | nil => intro b d h; exact h
  | cons x a ih =>
    intro b d h
    cases b with
    | nil => exact h
    | cons y b =>
      unfold preN
      by_cases e : x = y
      · subst e; rw [if_pos rfl]; exact ih b h.strip
      · rw [if_neg e]; exact h
theorem strip_suf {a b : List Nat} {d : Int} (h : Least a b d) : Least (a.take (a.length - sufN a b)) (b.take (b.length - sufN a b)) d := by
  have := (strip_pre a.reverse b.reverse h.rev).rev
  rwa [List.reverse_drop, List.reverse_drop, List.reverse_reverse, List.reverse_reverse, List.length_reverse, List.length_reverse] at this
theorem Al.same (a : List Nat) : Al a a 0 := by
  induction a with
  | nil => exact .nil
  | cons x a ih => have := Al.sub x x ih; rwa [subCost_self] at this
theorem levD_ok {a b : List Nat} {mx d : Int} (h1 : a.length ≤ 40) (h2 : b.length ≤ 40) (h : Least a b d) : Tells mx d (levD a b mx) := by
  unfold levD
  by_cases e : (a == b) = true
  · rw [if_pos e]
    obtain rfl := beq_iff_eq.mp e
    have : d = 0 := Int.le_antisymm (h.le _ (.same a)) h.is.nonneg
    rw [this]; exact .of_eq
  · rw [if_neg e]
    have := strip_suf (strip_pre a b h)
    refine levCore_ok ?_ ?_ this
    · show (List.take _ _).length ≤ 40
      rw [List.length_take, List.length_drop]; (first | lia | omega)
    · show (List.take _ _).length ≤ 40
      rw [List.length_take, List.length_drop]; (first | lia | omega)
theorem levD_exact {a b : List Nat} {mx d : Int} (h1 : a.length ≤ 40) (h2 : b.length ≤ 40) (h : Least a b d) (hm : mx = d ∨ mx = d - 1) : levD a b mx = d := by
  obtain ⟨t1, t2⟩ := levD_ok (mx := mx) h1 h2 h
  rcases hm with rfl | rfl
  · exact t2 (Int.le_refl _)
  · rcases t1 with t | t
    · exact t
    · rw [t]; (first | lia | omega)
end Mine
-- Q3
set_option maxRecDepth 100000
set_option maxHeartbeats 1000000
set_option linter.unusedVariables false
namespace Mine
theorem subCost_ne {x y : Nat} (h : x ≠ y) : 1 ≤ subCost [x] [y] := by
  unfold subCost
  rw [if_neg (fun e => h (List.singleton_inj.mp (beq_iff_eq.mp e)))]
  split <;> decide
theorem levRow_zero {x y : Nat} {a b : List Nat} (h : x ≠ y) : levRow (x :: a) (y :: b) 0 = 1 := by
  unfold levRow
  split
  · rfl
  · have hr := row0_ok (x :: a) [] 0 rfl
    rw [← List.range_eq_range'] at hr
    have I := first_ok (c := y) (mn := 9223372036854775807) (List.cons_ne_nil x a) hr
    have hz : 1 ≤ (inner y (x :: a) (row0 (x :: a).length) (([] : List Nat).length * 2) (([] : List Nat).length * 2) 9223372036854775807).2.2 := by
      refine I.ge 1 (by decide) fun u v e hu z hz => ?_
      cases u with
      | nil => exact absurd rfl hu
      | cons w u =>
        obtain ⟨rfl, e2⟩ := List.cons.inj e
        have hz' : Al (x :: u) [y] z := hz
        cases hz' with
        | del _ q => have := q.nonneg; (first | lia | omega)
        | ins _ q => have := q.nonneg; (first | lia | omega)
        | sub _ _ q => have := q.nonneg; have := subCost_ne h; (first | lia | omega)
    show (if (inner y (x :: a) (row0 (x :: a).length) (([] : List Nat).length * 2) (([] : List Nat).length * 2) 9223372036854775807).2.2 > 0 then (0 : Int) + 1 else _) = 1
    rw [if_pos (Int.lt_of_lt_of_le (by decide) hz)]; rfl
theorem levD_zero {x y : Nat} {a b : List Nat} (h : x ≠ y) (hs : sufN (x :: a) (y :: b) = 0) (h1 : (x :: a).length ≤ 40) (h2 : (y :: b).length ≤ 40) : levD (x :: a) (y :: b) 0 = 1 := by
  have e : ((x :: a) == (y :: b)) = false := beq_eq_false_iff_ne.mpr fun e => h (List.cons.inj e).1
  have p : preN (x :: a) (y :: b) = 0 := by unfold preN; rw [if_neg h]
  have t : trim (x :: a) (y :: b) = (x :: a, y :: b) := by
    show (((x :: a).drop (preN (x :: a) (y :: b))).take _, ((y :: b).drop (preN (x :: a) (y :: b))).take _) = _
    rw [p, List.drop_zero, List.drop_zero, hs, Nat.sub_zero, Nat.sub_zero, List.take_length, List.take_length]
  unfold levD
  rw [e, t, if_neg Bool.false_ne_true]
  show levCore (x :: a) (y :: b) 0 = 1
  unfold levCore
  rw [if_neg (fun q => q.elim (List.cons_ne_nil _ _) (List.cons_ne_nil _ _)), if_neg (fun q => q.elim (fun q => absurd h1 (Nat.not_le.mpr q)) (fun q => absurd h2 (Nat.not_le.mpr q)))]
  split
  · exact levRow_zero h.symm
  · exact levRow_zero h
def sumI (f : Nat → Int) (l : List Nat) : Int := (l.map f).sum
theorem sumI_cons {f : Nat → Int} {x : Nat} {l : List Nat} : sumI f (x :: l) = f x + sumI f l := by unfold sumI; rw [List.map_cons, List.sum_cons]
theorem sumI_append {f : Nat → Int} {l m : List Nat} : sumI f (l ++ m) = sumI f l + sumI f m := by unfold sumI; rw [List.map_append, List.sum_append]
/-- a price from below -/
theorem Al.above {wa wb : Nat → Int} {a b : List Nat} {c : Int} (h : Al a b c) : (∀ x ∈ a, wa x ≤ 2) → (∀ y ∈ b, wb y ≤ 2) → (∀ x ∈ a, ∀ y ∈ b, wa x + wb y ≤ subCost [x] [y]) → sumI wa a + sumI wb b ≤ c := by
  induction h with
  | nil => intro _ _ _; exact Int.le_refl _
  | del x h ih =>
    intro ha hb hc
    have := ih (fun z hz => ha z (.tail _ hz)) hb fun z hz => hc z (.tail _ hz)
    have := ha x (.head _)
    rw [sumI_cons]; (first | lia | omega)
  | ins y h ih =>
    intro ha hb hc
    have := ih ha (fun z hz => hb z (.tail _ hz)) fun z hz u hu => hc z hz u (.tail _ hu)
    have := hb y (.head _)
    rw [sumI_cons]; (first | lia | omega)
  | sub x y h ih =>
    intro ha hb hc
    have := ih (fun z hz => ha z (.tail _ hz)) (fun z hz => hb z (.tail _ hz)) fun z hz u hu => hc z (.tail _ hz) u (.tail _ hu)
    have := hc x (.head _) y (.head _)
    rw [sumI_cons, sumI_cons]; (first | lia | omega)
theorem sumI_zero (l : List Nat) : sumI (fun _ => 0) l = 0 := by
  induction l with
  | nil => rfl
  | cons x l ih => rw [sumI_cons, ih]; rfl
theorem sumI_two (l : List Nat) : sumI (fun _ => 2) l = 2 * (l.length : Int) := by
  induction l with
  | nil => rfl
  | cons x l ih => rw [sumI_cons, ih, List.length_cons]; (first | lia | omega)
theorem sumI_sub (f : Nat → Int) (l : List Nat) : sumI (fun y => f y - 2) l = sumI f l - 2 * (l.length : Int) := by
  induction l with
  | nil => rfl
  | cons x l ih => rw [sumI_cons, sumI_cons, ih, List.length_cons]; (first | lia | omega)
theorem sumI_le {f : Nat → Int} {l : List Nat} (h : ∀ x ∈ l, f x ≤ 2) : sumI f l ≤ 2 * (l.length : Int) := by
  induction l with
  | nil => exact Int.le_refl _
  | cons x l ih =>
    have := ih fun z hz => h z (.tail _ hz)
    have := h x (.head _)
    rw [sumI_cons, List.length_cons]; (first | lia | omega)
/-- what is left out costs 2 a sign -/
theorem least_lost (p : Nat → Bool) (l : List Nat) : Least l (l.filter p) (2 * ((l.length : Int) - (l.filter p).length)) := by
  refine ⟨?_, fun c h => len_le h.symm⟩
  induction l with
  | nil => exact .nil
  | cons x l ih =>
    cases e : p x with
    | true =>
      rw [List.filter_cons_of_pos e]
      have := Al.sub x x ih
      rwa [subCost_self, Int.add_zero, show (l.length : Int) - ((l.filter p).length : Int) = ((x :: l).length : Int) - ((x :: l.filter p).length : Int) by rw [List.length_cons, List.length_cons]; (first | lia | omega)] at this
    | false =>
      rw [List.filter_cons_of_neg (by rw [e]; decide)]
      have := Al.del x ih
      rwa [show 2 * ((l.length : Int) - ((l.filter p).length : Int)) + 2 = 2 * (((x :: l).length : Int) - ((l.filter p).length : Int)) by rw [List.length_cons]; (first | lia | omega)] at this
/-- the flags that a sign turns -/
def turnC (fold : Nat → Nat) (y : Nat) : Int := subCost [fold y] [y]
theorem least_folded {fold : Nat → Nat} (l : List Nat) (h : ∀ y ∈ l, ∀ z ∈ l, turnC fold y ≤ subCost [fold z] [y]) : Least (l.map fold) l (sumI (turnC fold) l) := by
  refine ⟨?_, fun c q => ?_⟩
  · clear h
    induction l with
    | nil => exact .nil
    | cons y l ih => rw [List.map_cons, sumI_cons, Int.add_comm]; exact .sub _ _ ih
  · have := q.above (wa := fun _ => 2) (wb := fun y => turnC fold y - 2) (fun _ _ => Int.le_refl _) (fun y _ => by have := subCost_le (fold y) y; unfold turnC; (first | lia | omega)) (fun x hx y hy => by
      obtain ⟨z, hz, rfl⟩ := List.mem_map.mp hx
      have := h y hy z hz
      (first | lia | omega))
    rw [sumI_two, sumI_sub, List.length_map] at this
    (first | lia | omega)
end Mine
-- Q4
set_option maxRecDepth 100000
set_option maxHeartbeats 1000000
set_option linter.unusedVariables false
namespace Mine
def waA (fold : Nat → Nat) (p : Nat → Bool) (e1 x : Nat) : Int := if x = e1 then 2 else if p x = true then turnC fold x else 2
theorem turnC_le (fold : Nat → Nat) (y : Nat) : 0 ≤ turnC fold y ∧ turnC fold y ≤ 2 := subCost_le _ _
theorem waA_le (fold : Nat → Nat) (p : Nat → Bool) (e1 x : Nat) : waA fold p e1 x ≤ 2 := by
  unfold waA
  have := (turnC_le fold x).2
  split
  · exact Int.le_refl _
  · split
    · exact this
    · exact Int.le_refl _
def dueA (fold : Nat → Nat) (p : Nat → Bool) (l : List Nat) : Int := 2 * ((l.length : Int) - (l.filter p).length) + sumI (turnC fold) (l.filter p)
theorem dueA_kept {fold : Nat → Nat} {p : Nat → Bool} {x : Nat} {l : List Nat} (h : p x = true) : dueA fold p (x :: l) = turnC fold x + dueA fold p l := by
  unfold dueA
  rw [List.filter_cons_of_pos h, sumI_cons, List.length_cons, List.length_cons]; (first | lia | omega)
theorem dueA_lost {fold : Nat → Nat} {p : Nat → Bool} {x : Nat} {l : List Nat} (h : p x = false) : dueA fold p (x :: l) = 2 + dueA fold p l := by
  unfold dueA
  rw [List.filter_cons_of_neg (by rw [h]; decide), List.length_cons]; (first | lia | omega)
theorem sum_waA {fold : Nat → Nat} {p : Nat → Bool} {e1 : Nat} (l : List Nat) : e1 ∉ l → sumI (waA fold p e1) l = dueA fold p l := by
  induction l with
  | nil => intro _; rfl
  | cons x l ih =>
    intro h
    have hx : x ≠ e1 := fun q => h (q ▸ .head _)
    rw [sumI_cons, ih fun q => h (.tail _ q)]
    unfold waA
    rw [if_neg hx]
    cases e : p x with
    | true => rw [if_pos rfl, dueA_kept e]
    | false => rw [if_neg Bool.false_ne_true, dueA_lost e]
theorem al_folded (fold : Nat → Nat) (p : Nat → Bool) (l : List Nat) : Al l ((l.filter p).map fold) (dueA fold p l) := by
  induction l with
  | nil => exact .nil
  | cons x l ih =>
    cases e : p x with
    | true =>
      rw [dueA_kept e, List.filter_cons_of_pos e, List.map_cons, Int.add_comm]
      unfold turnC
      rw [subCost_symm]
      exact .sub x (fold x) ih
    | false =>
      rw [dueA_lost e, List.filter_cons_of_neg (by rw [e]; decide), Int.add_comm]
      exact .del x ih
theorem least_both {fold : Nat → Nat} {p : Nat → Bool} {e1 e2 t : Nat} {l l' : List Nat} (h1 : ∀ y ∈ l, p y = true → ∀ z ∈ l, p z = true → turnC fold y ≤ subCost [fold z] [y]) (h2 : ∀ y ∈ l, p y = false → ∀ z ∈ l, p z = true → 2 ≤ subCost [y] [fold z])
    (h3 : ∀ z ∈ l, p z = true → 2 ≤ subCost [e1] [fold z]) (h4 : ∀ x ∈ e1 :: l, 2 ≤ subCost [x] [e2]) (h5 : e1 ∉ l) (hl : l = l' ++ [t]) (h6 : p t = true) (h7 : turnC fold t = 0) :
    Least (e1 :: l) ((l.filter p).map fold ++ [e2]) (dueA fold p l + 4) := by
  refine ⟨?_, fun c q => ?_⟩
  · have := Al.del e1 ((al_folded fold p l).append (Al.one_ins e2))
    rw [List.append_nil] at this
    rwa [show dueA fold p l + 2 + 2 = dueA fold p l + 4 by (first | lia | omega)] at this
  · obtain ⟨a1, a2, c1, c2, e, q1, q2, rfl⟩ := q.split rfl
    have m1 : ∀ x ∈ a1, x ∈ e1 :: l := fun x hx => e ▸ List.mem_append_left _ hx
    have m2 : ∀ x ∈ a2, x ∈ e1 :: l := fun x hx => e ▸ List.mem_append_right _ hx
    have b1 := q1.above (wa := waA fold p e1) (wb := fun _ => 0) (fun x _ => waA_le ..) (fun _ _ => by decide) (fun x hx y hy => by
      obtain ⟨z, hz, rfl⟩ := List.mem_map.mp hy
      obtain ⟨hz1, hz2⟩ := List.mem_filter.mp hz
      rw [Int.add_zero]
      unfold waA
      by_cases hx1 : x = e1
      · rw [if_pos hx1, hx1]; exact h3 z hz1 hz2
      · rw [if_neg hx1]
        have hx2 : x ∈ l := (List.mem_cons.mp (m1 x hx)).resolve_left hx1
        cases hp : p x with
        | true => rw [if_pos rfl, subCost_symm]; exact h1 x hx2 hp z hz1 hz2
        | false => rw [if_neg Bool.false_ne_true]; exact h2 x hx2 hp z hz1 hz2)
    have b2 := q2.above (wa := fun _ => 2) (wb := fun _ => 0) (fun _ _ => Int.le_refl _) (fun _ _ => by decide) (fun x hx y hy => by
      rw [List.mem_singleton.mp hy]; exact h4 x (m2 x hx))
    rw [sumI_zero, Int.add_zero] at b1 b2
    rw [sumI_two] at b2
    have l2 := len_le q2
    have tot : sumI (waA fold p e1) a1 + sumI (waA fold p e1) a2 = 2 + dueA fold p l := by
      rw [← sumI_append, ← e, sumI_cons, sum_waA l h5]
      unfold waA
      rw [if_pos rfl]
    have fin : sumI (waA fold p e1) a2 + 2 ≤ c2 := by
      rcases List.eq_nil_or_concat a2 with rfl | ⟨a3, t', rfl⟩
      · have : (2 : Int) ≤ c2 := l2
        exact this
      · rw [List.concat_eq_append] at *
        have e' : (e1 :: l') ++ [t] = (a1 ++ a3) ++ [t'] := by rw [List.append_assoc, ← e, hl]; rfl
        have et := List.singleton_inj.mp (List.append_inj' e' rfl).2
        have ht : t ≠ e1 := fun q => h5 (by rw [hl, q]; exact List.mem_append_right _ (.head _))
        have w0 : waA fold p e1 t' = 0 := by rw [← et]; unfold waA; rw [if_neg ht, if_pos h6, h7]
        have := sumI_le (f := waA fold p e1) (l := a3) fun x _ => waA_le ..
        rw [List.length_append, List.length_singleton] at b2
        rw [sumI_append, sumI_cons, w0]
        show sumI (waA fold p e1) a3 + (0 + 0) + 2 ≤ c2
        (first | lia | omega)
    (first | lia | omega)
end Mine
-- H1
set_option maxRecDepth 100000
set_option linter.unusedVariables false
set_option linter.unusedSimpArgs false
namespace Mine
open PySem PySem.Calls PyProof.Rows

/-- a pair of constants -/
def CPair (i : Int) (x : Str) (p : Sem Value × Sem Value) : Prop :=
  (∀ (M : Model) (A : Around) (E : Value → Shared → Prop) (s : Shared) (Q : Value → Shared → Prop), (∀ u tk, Q (.int i u) { s with toks := tk }) → wpAny M A p.1 Q E s) ∧
  (∀ (M : Model) (A : Around) (E : Value → Shared → Prop) (s : Shared) (Q : Value → Shared → Prop), (∀ u tk, Q (.str x u) { s with toks := tk }) → wpAny M A p.2 Q E s)
inductive CPs : List (Int × Str) → List (Sem Value × Sem Value) → Prop
  | nil : CPs [] []
  | cons {i x p L ps} : CPair i x p → CPs L ps → CPs ((i, x) :: L) (p :: ps)
/-- the strings that a table carries -/
def TabIs : List (Int × Value) → List (Int × Str) → Prop
  | [], [] => True
  | (i, v) :: r, (j, x) :: L => i = j ∧ (∃ u, v = .str x u) ∧ TabIs r L
  | _, _ => False
theorem TabIs.keys : ∀ {kvs L}, TabIs kvs L → kvs.map (·.1) = L.map (·.1)
  | [], [], _ => rfl
  | (_, _) :: _, (_, _) :: _, h => by simp [h.1, TabIs.keys h.2.2]
  | [], _ :: _, h => h.elim
  | _ :: _, [], h => h.elim
theorem TabIs.append : ∀ {a b L K}, TabIs a L → TabIs b K → TabIs (a ++ b) (L ++ K)
  | [], _, [], _, _, h => h
  | (_, _) :: _, _, (_, _) :: _, _, h, k => ⟨h.1, h.2.1, TabIs.append h.2.2 k⟩
  | [], _, _ :: _, _, h, _ => h.elim
  | _ :: _, _, [], _, h, _ => h.elim
theorem TabIs.length {kvs L} (h : TabIs kvs L) : kvs.length = L.length := by have := congrArg List.length h.keys; simpa using this
theorem CPs.length : ∀ {L ps}, CPs L ps → L.length = ps.length
  | _, _, .nil => rfl
  | _, _, .cons _ h => by simp [h.length]
theorem CPs.append : ∀ {L ps K qs}, CPs L ps → CPs K qs → CPs (L ++ K) (ps ++ qs)
  | _, _, _, _, .nil, k => k
  | _, _, _, _, .cons c h, k => .cons c (h.append k)

section
variable {prog : Program} {w : World} {A : Around} {E : Value → Shared → Prop}

theorem evalPairs_c : ∀ {L ps} (h : CPs L ps) {s : Shared} {Q : List (Value × Value) → Shared → Prop},
    (∀ vs kvs tk, Carries (intKind prog w) vs kvs → TabIs kvs L → Q vs { s with toks := tk }) → wpAny (model prog w) A (evalPairs ps) Q E s
  | _, _, .nil, s, Q, hq => evalPairs_nil (hq [] [] s.toks trivial trivial)
  | _, _, .cons c h, s, Q, hq => by
    refine evalPairs_cons (c.1 _ _ _ _ _ fun u tk => c.2 _ _ _ _ _ fun u' tk' => evalPairs_c h fun vs kvs tk2 hc ht => ?_)
    exact hq _ ((_, _) :: kvs) tk2 ⟨by simp [intKind, Value.isInt], rfl, hc⟩ ⟨rfl, ⟨_, rfl⟩, ht⟩

abbrev KeepH (h h' : Heap) : Prop := ∀ b o, h.get? b = some o → h'.get? b = some o
theorem keep_pushBut {h h1 h2 : Heap} {o : Obj} {d : Addr} (hd : h.objs.size ≤ d) (hs : Heap.SameBut d (h.push o) h2) : KeepH h h2 := fun b o' e =>
  (hs.2 b (Nat.ne_of_lt (Nat.lt_of_lt_of_le (Heap.lt_size e) hd))).trans (Heap.get?_push_of_some _ e)

theorem storeRun_c {d : Addr} : ∀ {L ps} (h : CPs L ps) {acc : List (Int × Str)} {kvs : List (Int × Value)} {s : Shared} {Q : PUnit → Shared → Prop}, s.heap.DictOf (intKind prog w) d kvs → TabIs kvs acc → ((acc ++ L).map (·.1)).Nodup → (acc ++ L).length ≤ 1000 →
    (∀ h' tk kvs', h'.DictOf (intKind prog w) d kvs' → TabIs kvs' (acc ++ L) → Heap.SameBut d s.heap h' → Q ⟨⟩ { s with heap := h', toks := tk }) →
    wpAny (model prog w) A (forIn ps PUnit.unit fun (x : Sem Value × Sem Value) (_ : PUnit) => (do
        let kv ← x.1
        let vv ← holding [kv] x.2
        holding [kv, vv] (dictSet d kv vv)
        pure (ForInStep.yield PUnit.unit) : Sem (ForInStep PUnit))) Q E s
  | _, _, .nil, acc, kvs, s, Q, hm, ht, hn, hl, hq => by
    rw [List.forIn_nil]
    exact wpAny_pure (hq s.heap s.toks kvs hm (by simpa using ht) (Heap.SameBut.refl _ _))
  | _, _, .cons (i := i) (x := x) (L := L) c h, acc, kvs, s, Q, hm, ht, hn, hl, hq => by
    rw [List.forIn_cons]
    refine wpAny_bind (wpAny_bind (c.1 _ _ _ _ _ fun u tk => ?_))
    refine wpAny_bind (wpAny_holding (c.2 _ _ _ _ _ fun u' tk' => ?_))
    have hlen := ht.length
    refine wpAny_bind (wpAny_holding (wpAny_dictSet_pairs (knd := intKind prog w) (k := i) (hsz := by rw [sizeLine_eq]; simp at hl; (first | lia | omega)) (by simp [intKind, Value.isInt]) hm fun h₁ hm₁ hs₁ => wpAny_pure ?_))
    have hfresh : stored kvs i (.str x u') = kvs ++ [(i, .str x u')] := by
      unfold stored
      rw [if_neg]
      rw [List.any_eq_true]
      rintro ⟨y, hy, he⟩
      have hy' : i ∈ acc.map (·.1) := by
        rw [← ht.keys]; exact List.mem_map.mpr ⟨y, hy, of_decide_eq_true he⟩
      rw [List.map_append, List.nodup_append] at hn
      exact hn.2.2 i hy' i (by simp) rfl
    rw [hfresh] at hm₁
    refine storeRun_c h (acc := acc ++ [(i, x)]) (kvs := kvs ++ [(i, .str x u')]) hm₁ (ht.append ⟨rfl, ⟨_, rfl⟩, trivial⟩) (by simpa using hn) (by simpa using hl) fun h' tk2 kvs' hm' ht' hs' => ?_
    exact hq h' tk2 kvs' hm' (by simpa using ht') (hs₁.trans hs')

theorem subDict_c {L ps} (h : CPs L ps) (hn : (L.map (·.1)).Nodup) (hl : L.length ≤ 1000) {s : Shared} {Q : Addr → Shared → Prop}
    (hq : ∀ h' tk kvs, h'.DictOf (intKind prog w) s.heap.objs.size kvs → TabIs kvs L → KeepH s.heap h' → Q s.heap.objs.size { s with heap := h', toks := tk }) : wpAny (model prog w) A (subDict ps) Q E s := by
  by_cases hp : ps.length ≤ 15
  · refine wpAny_subDict (knd := intKind prog w) hp (evalPairs_c h fun vs kvs tk hc ht => ⟨kvs, hc, Heap.DictOf.new _, fun h' hd hs => ?_⟩)
    rw [merged_nil_of_nodup _ (by rw [ht.keys]; exact hn)] at hd
    exact hq h' _ kvs hd ht (keep_pushBut (h1 := h') (Nat.le_refl _) hs)
  · unfold subDict
    refine wpAny_bind (wpAny_alloc ?_)
    refine wpAny_bind (wpAny_holding ?_)
    rw [if_neg hp]
    refine wpAny_bind (wpAny_rule ?_)
    refine wpAny_bind (storeRun_c (acc := []) (kvs := []) h (Heap.DictOf.new _) trivial (by simpa using hn) (by simpa using hl) fun h' tk kvs' hm ht hs => ?_)
    exact wpAny_pure (wpAny_pure (hq h' tk kvs' hm ht (keep_pushBut (h1 := h') (Nat.le_refl _) hs)))
end
end Mine
-- H2
set_option maxRecDepth 100000
set_option linter.unusedVariables false
set_option linter.unusedSimpArgs false
namespace Mine
open PySem PySem.Calls PyProof.Rows
section
variable {prog : Program} {w : World} {A : Around} {E : Value → Shared → Prop}

theorem wpAny_dictPut_c {s : Shared} {d : Addr} {acc : List (Int × Value)} {i : Int} {key v : Value} {Q : Unit → Shared → Prop} (hkey : (intKind prog w).is i key = true) (hm : s.heap.DictOf (intKind prog w) d acc)
    (hi : i ∉ acc.map (·.1)) (hQ : ∀ h', h'.DictOf (intKind prog w) d (acc ++ [(i, v)]) → Heap.SameBut d s.heap h' → Q () { s with heap := h' }) (hsz : acc.length ≤ 1000) :
    wpAny (model prog w) A (dictPut d ((intKind prog w).hash i) key v) Q E s := by
  obtain ⟨o, es, ep, ho, hc, hd, hk, hp, hn⟩ := hm
  have hlen : es.size = acc.length := by rw [← hp.length]; simp
  have hidx : (es.findIdx? fun e => (intKind prog w).is i e.key) = none := by
    have e1 : (es.findIdx? fun e => (intKind prog w).is i e.key) = acc.findIdx? fun kv => decide (kv.1 = i) := by
      rw [← hp.findIdx i]; obtain ⟨l⟩ := es; simp
    rw [e1, List.findIdx?_eq_none_iff]
    intro x hx
    exact decide_eq_false fun e => hi (e ▸ List.mem_map_of_mem hx)
  unfold dictPut
  refine wpAny_bind (wpAny_dictFind_of hkey ho hd hk ?_)
  rw [hidx]
  refine wpAny_updateDictKeys (hz := by rw [sizeLine_eq]; (first | lia | omega)) ho hd (hQ _ ⟨_, _, ep + 1, Heap.get?_update_self _ ho (Obj.isFreed_of_dict (Obj.data_mapDictKeys hd _)),
      hc.mapDictKeys _, Obj.data_mapDictKeys hd _, hk.push hkey _, ?_, ?_⟩ (Heap.SameBut.update ..))
  · have := hp.append hkey ((intKind prog w).hash i) v
    obtain ⟨l⟩ := es
    simpa using this
  · rw [List.map_append, List.nodup_append]
    refine ⟨hn, by simp, ?_⟩
    intro a ha b hb
    simp only [List.map_cons, List.map_nil, List.mem_singleton] at hb
    subst hb
    exact fun e => hi (e ▸ ha)

theorem range_step {x i n : Nat} {rest : List Nat} (h : x :: rest = List.range' i (n - i)) : x = i ∧ i < n ∧ rest = List.range' (i + 1) (n - (i + 1)) := by
  rcases Nat.lt_or_ge i n with q | q
  · have e : n - i = (n - (i + 1)) + 1 := by (first | lia | omega)
    rw [e, List.range'_succ] at h
    injection h with h1 h2
    exact ⟨h1, q, h2⟩
  · rw [Nat.sub_eq_zero_of_le q] at h; exact nomatch h
theorem range_end {i n : Nat} (h : [] = List.range' i (n - i)) (hi : i ≤ n) : i = n := by
  rcases Nat.lt_or_ge i n with q | q
  · have e : n - i = (n - (i + 1)) + 1 := by (first | lia | omega)
    rw [e, List.range'_succ] at h
    exact nomatch h
  · exact Nat.le_antisymm hi q
inductive MergeI (prog : Program) (w : World) (s : Shared) (d o : Addr) (acc more : List (Int × Value)) (oo : Obj) (n : Nat) (rest : List Nat) (s' : Shared) : Prop
  | mk (h' : Heap) (i : Nat) (e : s' = { s with heap := h' }) (hr : rest = List.range' i (n - i)) (hi : i ≤ n) (hd : h'.DictOf (intKind prog w) d (acc ++ more.take i)) (hoo : h'.get? o = some oo) (hs : Heap.SameBut d s.heap h')
theorem merge_c {s : Shared} {d o : Addr} {acc more : List (Int × Value)} {Q : Unit → Shared → Prop} (hdo : d ≠ o) (hoS : (o == sysModules) = false)
    (hd : s.heap.DictOf (intKind prog w) d acc) (ho : s.heap.DictOf (intKind prog w) o more) (hn : ((acc ++ more).map (·.1)).Nodup) (hl : (acc ++ more).length ≤ 1000) (hne : acc ≠ [])
    (hQ : ∀ h', h'.DictOf (intKind prog w) d (acc ++ more) → Heap.SameBut d s.heap h' → Q () { s with heap := h' }) :
    wpAny (model prog w) A (mergeMapping d (.ref o) false) Q E s := by
  unfold mergeMapping
  refine wpAny_bind (wpAny_isInstance ho.typeIs isSubtype_dict_dict ?_)
  simp only [if_true]
  refine wpAny_bind (wpAny_specialOf ho.typeIs F.slot_dict_iter.lookup ?_)
  refine wpAny_bind (wpAny_pure ?_)
  simp only [beq_self_eq_true]
  obtain ⟨od, esd, epd, hod, hcd, hdd, hkd, hpd, hnd⟩ := id hd
  obtain ⟨oo, es, ep, hoo, hco, hdo', hko, hpo, hno⟩ := id ho
  have hsd : esd.size = acc.length := by rw [← hpd.length]; simp
  have hlen : more.length = es.size := by rw [← hpo.length]; simp
  rw [if_neg (by rw [hoS]; exact Bool.false_ne_true)]
  refine wpAny_bind (wpAny_dictEntries hod hdd ?_)
  have hne' : esd.isEmpty = false := by
    rw [Array.isEmpty_eq_false_iff]
    intro e
    rw [e] at hsd
    exact hne (List.length_eq_zero_iff.mp (by simpa using hsd.symm))
  rw [hne']
  simp only [Bool.false_eq_true, if_false]
  refine wpAny_bind (wpAny_dictEntries hoo hdo' ?_)
  refine wpAny_bind (wpAny_dictEpoch hoo hdo' ?_)
  refine wpAny_bind ?_
  refine wpAny_forIn_list _
    (fun rest _ s' => MergeI prog w s d o acc more oo es.size rest s')
    _ ?_ ?_ _ _ ⟨s.heap, 0, rfl, by simp [List.range_eq_range'], Nat.zero_le _, by simpa using hd, hoo, Heap.SameBut.refl _ _⟩
  · rintro x rest b s' ⟨h', i, rfl, hr, hi, hd', hoo', hs'⟩
    obtain ⟨rfl, hlt, hrest⟩ := range_step hr
    refine wpAny_bind (wpAny_dictEntries hoo' hdo' ?_)
    rw [Array.getElem?_eq_getElem hlt]
    obtain ⟨kv, hkv⟩ : ∃ kv, more[x]? = some kv := ⟨more[x]'(by rw [hlen]; exact hlt), List.getElem?_eq_getElem _⟩
    obtain ⟨k, v⟩ := kv
    obtain ⟨hkey, hval⟩ := hpo.get? (e := es[x]) (by simp [hlt]) hkv
    obtain ⟨k', hkey', hhash⟩ := hko es[x] (Array.getElem_mem hlt)
    obtain rfl : k' = k := (intKind prog w).inj _ _ _ hkey' hkey
    have hsucc : more.take (x + 1) = more.take x ++ [(k', v)] := by rw [List.take_add_one, hkv]; rfl
    have hsplit : more = more.take x ++ (k', v) :: more.drop (x + 1) := by
      rw [List.getElem?_eq_some_iff] at hkv
      obtain ⟨h1, h2⟩ := hkv
      rw [← h2]
      simp
    have hfresh : k' ∉ (acc ++ more.take x).map (·.1) := by
      rw [hsplit, ← List.append_assoc, List.map_append, List.nodup_append] at hn
      intro q
      exact hn.2.2 k' q k' (by simp) rfl
    have hsz : (acc ++ more.take x).length ≤ 1000 := by simp at hl ⊢; (first | lia | omega)
    simp only [hhash, hval]
    refine wpAny_bind (wpAny_holding (wpAny_dictPut_c hkey hd' hfresh (fun h'' hd'' hs'' => ?_) hsz))
    have hoo'' : h''.get? o = some oo := (hs''.2 o (Ne.symm hdo)).trans hoo'
    refine wpAny_bind (wpAny_dictEpoch hoo'' hdo' ?_)
    rw [if_neg (by simp)]
    exact wpAny_pure ⟨h'', x + 1, rfl, hrest, hlt, by rw [hsucc, ← List.append_assoc]; exact hd'', hoo'', hs'.trans hs''⟩
  · rintro b s' ⟨h', i, rfl, hr, hi, hd', hoo', hs'⟩
    have hin : i = es.size := range_end hr hi
    subst hin
    refine wpAny_pure (hQ h' ?_ hs')
    rw [List.take_of_length_le (by (first | lia | omega))] at hd'
    exact hd'
end
end Mine
-- H3
set_option maxRecDepth 100000
set_option linter.unusedVariables false
set_option linter.unusedSimpArgs false
namespace Mine
open PySem PySem.Calls PyProof.Rows

def flushD (run : List (Sem Value × Sem Value)) (main : Option Addr) : Sem (Option Addr) := do
    if run.isEmpty then return main
    match main with
    | none => return some (← subDict run)
    | some d =>
      let sub ← holding [.ref d] (subDict run)
      (holding [.ref d, .ref sub] (mergeMapping d (.ref sub) false)).onRaise fun x => do let _ ← holding [.ref d, x] (runValue (.builtin "proto.let_go" {}))
      return some d

section
variable {prog : Program} {w : World} {A : Around} {E : Value → Shared → Prop}

structure DInv (prog : Program) (w : World) (base : Heap) (acc : List (Int × Str)) (main : Option Addr) (h : Heap) : Prop where
  keep : KeepH base h
  size : base.objs.size ≤ h.objs.size
  cur : (main = none ∧ acc = []) ∨ ∃ d kvs, main = some d ∧ acc ≠ [] ∧ base.objs.size ≤ d ∧ h.DictOf (intKind prog w) d kvs ∧ TabIs kvs acc

theorem DictOf.lt {h : Heap} {d : Addr} {kvs : List (Int × Value)} (x : h.DictOf (intKind prog w) d kvs) : d < h.objs.size := by
  obtain ⟨o, _, _, e, _⟩ := x; exact Heap.lt_size e

theorem flush_c {base : Heap} {acc L : List (Int × Str)} {main : Option Addr} {run : List (Sem Value × Sem Value)} {s : Shared} {Q : Option Addr → Shared → Prop} (hb : sysModules < base.objs.size)
    (I : DInv prog w base acc main s.heap) (h : CPs L run) (hne : run ≠ []) (hn : ((acc ++ L).map (·.1)).Nodup) (hl : (acc ++ L).length ≤ 1000)
    (hq : ∀ m h' tk, DInv prog w base (acc ++ L) m h' → Q m { s with heap := h', toks := tk }) : wpAny (model prog w) A (flushD run main) Q E s := by
  have hLne : L ≠ [] := fun e => by subst e; cases h; exact hne rfl
  have hnL : (L.map (·.1)).Nodup := by rw [List.map_append, List.nodup_append] at hn; exact hn.2.1
  have hlL : L.length ≤ 1000 := by simp at hl; (first | lia | omega)
  have he : run.isEmpty = false := by cases run with | nil => exact absurd rfl hne | cons _ _ => rfl
  unfold flushD
  rw [he]
  simp only [Bool.false_eq_true, if_false]
  rcases I.cur with ⟨rfl, rfl⟩ | ⟨d, kvs, rfl, ha, hbd, hd, ht⟩
  · refine wpAny_bind (subDict_c h hnL hlL fun h' tk kvs hd ht hk => wpAny_pure (hq _ _ _ ⟨fun b o e => hk b o (I.keep b o e), ?_, .inr ⟨_, kvs, rfl, by simpa using hLne, I.size, hd, by simpa using ht⟩⟩))
    exact Nat.le_trans I.size (Nat.le_of_lt (DictOf.lt hd))
  · refine wpAny_bind (wpAny_holding (subDict_c h hnL hlL fun h' tk kvs2 hd2 ht2 hk => ?_))
    have hlt := DictOf.lt hd
    have hlt2 := DictOf.lt hd2
    have ne : d ≠ s.heap.objs.size := Nat.ne_of_lt hlt
    have hnk : ((kvs ++ kvs2).map (·.1)).Nodup := by rw [List.map_append, ht.keys, ht2.keys, ← List.map_append]; exact hn
    refine wpAny_bind (wpAny_onRaise (wpAny_holding (merge_c (more := kvs2) ne ?_ (hd.keep hk) hd2 hnk ?_ ?_ fun h'' hd'' hs'' => ?_)))
    · exact beq_eq_false_iff_ne.mpr (Nat.ne_of_gt (Nat.lt_of_lt_of_le hb I.size))
    · simp only [List.length_append, ht.length, ht2.length] at hl ⊢; exact hl
    · intro e; subst e; cases acc with | nil => exact ha rfl | cons _ _ => exact ht.elim
    · refine wpAny_pure (hq _ _ _ ⟨fun b o e => ?_, ?_, .inr ⟨d, _, rfl, ?_, hbd, hd'', ht.append ht2⟩⟩)
      · exact (hs''.2 b (Nat.ne_of_lt (Nat.lt_of_lt_of_le (Heap.lt_size e) hbd))).trans (hk _ _ (I.keep b o e))
      · exact Nat.le_trans hbd (Nat.le_of_lt (DictOf.lt hd''))
      · intro e; exact ha (List.append_eq_nil_iff.mp e).1

theorem loop_c {base : Heap} (hb : sysModules < base.objs.size) (f : (Option (Sem Value) × Sem Value) → (Option Addr × List (Sem Value × Sem Value)) → Sem (ForInStep (Option Addr × List (Sem Value × Sem Value))))
    (hf : ∀ (p : Sem Value × Sem Value) (main : Option Addr) (run : List (Sem Value × Sem Value)), f (some p.1, p.2) (main, run) =
      if ((run ++ [p]).length == 17) = true then (flushD (run ++ [p]) main >>= fun m => pure (.yield (m, []))) else pure (.yield (main, run ++ [p]))) :
    ∀ {L ps} (h : CPs L ps) {acc R : List (Int × Str)} {main : Option Addr} {run : List (Sem Value × Sem Value)} {s : Shared} {Q : (Option Addr × List (Sem Value × Sem Value)) → Shared → Prop},
      DInv prog w base acc main s.heap → CPs R run → ((acc ++ (R ++ L)).map (·.1)).Nodup → (acc ++ (R ++ L)).length ≤ 1000 →
      (∀ acc' R' m' run' h' tk, DInv prog w base acc' m' h' → CPs R' run' → acc' ++ R' = acc ++ (R ++ L) → Q (m', run') { s with heap := h', toks := tk }) →
      wpAny (model prog w) A (forIn (ps.map fun p => (some p.1, p.2)) (main, run) f) Q E s
  | _, _, .nil, acc, R, main, run, s, Q, I, hr, hn, hl, hq => by
    simp only [List.map_nil, List.forIn_nil]
    exact wpAny_pure (hq acc R main run s.heap s.toks I hr (by simp))
  | _, _, .cons (i := i) (x := x) (p := p) (L := L) c h, acc, R, main, run, s, Q, I, hr, hn, hl, hq => by
    rw [List.map_cons, List.forIn_cons, hf]
    have hr' : CPs (R ++ [(i, x)]) (run ++ [p]) := hr.append (.cons c .nil)
    by_cases h17 : ((run ++ [p]).length == 17) = true
    · rw [if_pos h17]
      have e : acc ++ (R ++ (i, x) :: L) = (acc ++ (R ++ [(i, x)])) ++ L := by simp
      rw [e] at hn hl
      refine wpAny_bind (wpAny_bind (flush_c hb I hr' (by simp) ?_ ?_ fun m h' tk I' => wpAny_pure ?_))
      · rw [List.map_append, List.nodup_append] at hn; exact hn.1
      · rw [List.length_append] at hl; (first | lia | omega)
      · refine loop_c hb f hf h (R := []) I' .nil (by simpa using hn) (by simpa using hl) fun acc' R' m' run' h'' tk' I'' hR'' e' => ?_
        exact hq acc' R' m' run' h'' tk' I'' hR'' (by rw [e']; simp)
    · rw [if_neg h17]
      refine wpAny_bind (wpAny_pure ?_)
      refine loop_c hb f hf h (R := R ++ [(i, x)]) I hr' (by simpa using hn) (by simpa using hl) fun acc' R' m' run' h'' tk' I'' hR'' e' => ?_
      exact hq acc' R' m' run' h'' tk' I'' hR'' (by rw [e']; simp)

theorem display_c {L ps} (h : CPs L ps) (hne : ps ≠ []) (hn : (L.map (·.1)).Nodup) (hl : L.length ≤ 1000) {s : Shared} {Q : Value → Shared → Prop} (hb : sysModules < s.heap.objs.size)
    (hq : ∀ d kvs h' tk, s.heap.objs.size ≤ d → h'.DictOf (intKind prog w) d kvs → TabIs kvs L → KeepH s.heap h' → Q (.ref d) { s with heap := h', toks := tk }) :
    wpAny (model prog w) A (dictDisplay (ps.map fun p => (some p.1, p.2))) Q E s := by
  have hLne : L ≠ [] := fun e => by subst e; cases h; exact hne rfl
  unfold dictDisplay
  dsimp only
  refine wpAny_bind (loop_c hb _ (fun p main run => ?_) h (acc := []) (R := []) ⟨fun _ _ e => e, Nat.le_refl _, .inl ⟨rfl, rfl⟩⟩ .nil (by simpa using hn) (by simpa using hl) fun acc' R' m' run' h' tk I hR e => ?_)
  · rfl
  · have e : acc' ++ R' = L := by simpa using e
    show wpAny _ _ (flushD run' m' >>= fun r => match r with | some d => pure (Value.ref d) | none => newDict) _ _ _
    by_cases hr : run' = []
    · subst hr
      have hR' : R' = [] := by cases hR; rfl
      subst hR'
      rw [List.append_nil] at e
      subst e
      rcases I.cur with ⟨rfl, rfl⟩ | ⟨d, kvs, rfl, ha, hbd, hd, ht⟩
      · exact absurd rfl hLne
      · exact wpAny_bind (wpAny_pure (wpAny_pure (hq d kvs h' tk hbd hd ht I.keep)))
    · refine wpAny_bind (flush_c hb I hR hr (by rw [e]; exact hn) (by rw [e]; exact hl) fun m h'' tk' I' => ?_)
      rw [e] at I'
      rcases I'.cur with ⟨rfl, e0⟩ | ⟨d, kvs, rfl, ha, hbd, hd, ht⟩
      · exact absurd e0 hLne
      · exact wpAny_pure (hq d kvs h'' tk' hbd hd ht I'.keep)

/-- constants of the display -/
def intKey : Option Expr → Option Int
  | some (.Constant (.int i) _ _) => some i
  | _ => none
def strVal : Expr → Option Str
  | .Constant (.str x) _ _ => some x
  | _ => none
/-- what a display of constants says -/
def tabOf : List (Option Expr) → List Expr → Option (List (Int × Str))
  | [], [] => some []
  | k :: ks, v :: vs => match intKey k, strVal v, tabOf ks vs with
    | some i, some x, some L => some ((i, x) :: L)
    | _, _, _ => none
  | _, _ => none
theorem tabOf_pairs {env : Env} {pos : Pos} : ∀ {ks vs L}, tabOf ks vs = some L → ∃ ps, CPs L ps ∧ ((evalEachOpt ks env).zip ((evalEach vs env).map fun v => do let x ← v; standAt pos; pure x)) = ps.map fun p => (some p.1, p.2)
  | [], [], L, h => by cases h; exact ⟨[], .nil, rfl⟩
  | [], _ :: _, L, h => by cases h
  | _ :: _, [], L, h => by cases h
  | k :: ks, v :: vs, L, h => by
    unfold tabOf at h
    split at h
    · rename_i i x L' hk hv hL
      cases h
      obtain ⟨ps, h1, h2⟩ := tabOf_pairs (env := env) (pos := pos) hL
      unfold intKey at hk
      split at hk <;> cases hk
      rename_i k1 p1
      unfold strVal at hv
      split at hv <;> cases hv
      rename_i k2 p2
      refine ⟨(eval (.Constant (.int i) k1 p1) env, do let x ← eval (.Constant (.str x) k2 p2) env; standAt pos; pure x) :: ps, .cons ⟨fun M A E s Q hq => wpAny_Constant_int (k := k1) (pos := p1) (env := env) (hq _ _), fun M A E s Q hq => wpAny_bind (wpAny_Constant_str (k := k2) (pos := p2) (env := env) (wpAny_bind (wpAny_standAt (wpAny_pure (hq _ _)))))⟩ h1, ?_⟩
      rw [List.map_cons, ← h2]
      rfl
    · cases h
theorem Dict_c {env : Env} {ks : List (Option Expr)} {vs : List Expr} {pos : Pos} {L : List (Int × Str)} (hL : tabOf ks vs = some L) (hne : L ≠ []) (hn : (L.map (·.1)).Nodup) (hl : L.length ≤ 1000) {s : Shared} {Q : Value → Shared → Prop} (hb : sysModules < s.heap.objs.size)
    (hq : ∀ d kvs h' tk, s.heap.objs.size ≤ d → h'.DictOf (intKind prog w) d kvs → TabIs kvs L → KeepH s.heap h' → Q (.ref d) { s with heap := h', toks := tk }) :
    wpAny (model prog w) A (eval (.Dict ks vs pos) env) Q E s := by
  obtain ⟨ps, h1, h2⟩ := tabOf_pairs (env := env) (pos := pos) hL
  rw [arm_eval_Dict, h2]
  exact wpAny_bind (wpAny_standAt (display_c h1 (fun e => by subst e; cases h1; exact hne rfl) hn hl hb hq))
end
/-- a table's function -/
def tabFn (L : List (Int × Str)) (k : Int) : Option (List Nat) := (L.find? fun p => p.1 == k).map fun p => p.2.cps.toList
theorem TabIs.value : ∀ {kvs L}, TabIs kvs L → ∀ k, (valueAt kvs k = none ∧ tabFn L k = none) ∨ ∃ x u, valueAt kvs k = some (.str x u) ∧ tabFn L k = some x.cps.toList
  | [], [], _, k => .inl ⟨rfl, rfl⟩
  | (i, v) :: r, (j, x) :: L, h, k => by
    obtain ⟨rfl, ⟨u, rfl⟩, h3⟩ := h
    by_cases e : i = k
    · subst e
      exact .inr ⟨x, u, by simp [valueAt], by simp [tabFn]⟩
    · have := TabIs.value h3 k
      unfold valueAt tabFn at *
      simpa [List.find?_cons, e] using this
  | [], _ :: _, h, _ => h.elim
  | _ :: _, [], h, _ => h.elim
end Mine
-- H4
set_option maxRecDepth 100000
set_option linter.unusedVariables false
set_option linter.unusedSimpArgs false
namespace Mine
open PySem PySem.Calls PyProof.Rows

/-- the names bound so far, ahead of those of the start -/
def look (L : List (Str × Value)) (m : Str → Option Value) (x : Str) : Option Value := (L.lookup x).or (m x)
theorem look_cons (L : List (Str × Value)) (m : Str → Option Value) (x : Str) (v : Value) : (fun y => if y = x then some v else look L m y) = look ((x, v) :: L) m := by
  funext y
  unfold look
  rw [List.lookup_cons]
  by_cases h : y = x
  · subst h; simp
  · have : (y == x) = false := beq_eq_false_iff_ne.mpr h
    simp [h, this]

/-- the text's own body, on the way -/
structure TI (h₀ : Heap) (mg₀ : Str → Option Value) (c Pl : Addr) (pins : List (Addr × Obj)) (L : List (Str × Value)) (ps : Array Value) (h : Heap) : Prop where
  main : h.Main (look L mg₀) c Pl ps
  keep : ∀ b o, b ≠ Pl → b ≠ mainGlobals → h₀.get? b = some o → h.get? b = some o
  pin : ∀ p ∈ pins, Pl < p.1 ∧ h.get? p.1 = some p.2

section
variable {M : Model} {A : Around} {E : Value → Shared → Prop} {s : Shared} {prog : Program} {c Pl F : Addr} {h₀ : Heap} {mg₀ : Str → Option Value} {ps : Array Value} {pins : List (Addr × Obj)} {L : List (Str × Value)} {Q : Flow → Shared → Prop}

theorem TI.grown {h h₁ : Heap} (T : TI h₀ mg₀ c Pl pins L ps h) (hk : KeepH h h₁) {np : List (Addr × Obj)} (hp : ∀ p ∈ np, Pl < p.1 ∧ h₁.get? p.1 = some p.2) : TI h₀ mg₀ c Pl (np ++ pins) L ps h₁ := by
  obtain ⟨bm, o, hbm, hne0, hneG, hneP, hbo, hrest⟩ := T.main.bmod
  refine ⟨⟨T.main.g.keeps hk, T.main.code.keeps hk, T.main.low, ⟨bm, o, hbm, hne0, hneG, hneP, hk _ _ hbo, hrest⟩⟩, fun b o hP hG e => hk b o (T.keep b o hP hG e), fun p hp' => ?_⟩
  rcases List.mem_append.mp hp' with q | q
  · exact hp p q
  · exact ⟨(T.pin p q).1, hk _ _ (T.pin p q).2⟩

theorem TI.assign {x : Str} {pos' pos : Pos} {value : Expr} (T : TI h₀ mg₀ c Pl pins L ps s.heap) (hloc : prog.main.scope.names.lookup x = some .local) (hnb : x ≠ "__builtins__") (hmod : prog.main.scope.kind = .module)
    (hs : swapsWith value (some (.Name x pos')) pos.line (mainEnv prog c F) = pure false)
    (hval : wpAny M A (eval value (mainEnv prog c F)) (fun v s₁ => ∃ h₁ tk np, s₁ = { s with heap := h₁, toks := tk } ∧ KeepH s.heap h₁ ∧ (∀ p ∈ np, Pl < p.1 ∧ h₁.get? p.1 = some p.2) ∧
      ∀ h' tk', TI h₀ mg₀ c Pl (np ++ pins) ((x, v) :: L) ps h' → Q .next { s with heap := h', toks := tk' }) E s) :
    wpAny M A (exec (.Assign [.Name x pos'] value pos) (mainEnv prog c F)) Q E s := by
  refine wpAny_Assign_Name (wpAny_mono hval (fun v s₁ hpat => ?_) fun _ _ e => e) hs
  obtain ⟨h₁, tk, np, e, hk, hp, hq⟩ := hpat
  subst e
  have T1 := T.grown hk hp
  refine wpAny_storeName_local (env := mainEnv prog c F) hloc T1.main.g (fun h' hg' hs' => ?_)
    (by show (prog.main.scope.kind == .class || (prog.main.scope.kind == .module && mainGlobals != mainGlobals)) = false; rw [hmod]; rfl)
  obtain ⟨bm, o, hbm, hne0, hneG, hneP, hbo, hrest⟩ := T1.main.bmod
  refine hq h' _ ⟨⟨by rw [← look_cons]; exact hg', T1.main.code.sameBut hs' (Nat.ne_of_gt T1.main.low.1) (Nat.ne_of_gt T1.main.low.2), T1.main.low,
      ⟨bm, o, by rw [← look_cons]; simp only [Ne.symm hnb, if_false]; exact hbm, hne0, hneG, hneP, (hs'.2 _ hneG).trans hbo, hrest⟩⟩, fun b o hP hG e => (hs'.2 _ hG).trans (T1.keep b o hP hG e), fun p hp' => ?_⟩
  exact ⟨(T1.pin p hp').1, (hs'.2 _ (Nat.ne_of_gt (Nat.lt_trans T1.main.low.2 (T1.pin p hp').1))).trans (T1.pin p hp').2⟩

theorem TI.def_ {name : Str} {params : Arguments} {body : List Stmt} {scope : Scope} {pos : Pos} (T : TI h₀ mg₀ c Pl pins L ps s.heap)
    (hexec : PlainDefTree name params body scope pos) (hfree : ∀ x ∈ scope.names, x.2 ≠ .free) (hdoc : docOf body = none) (hloc : prog.main.scope.names.lookup name = some .local)
    (hq : qualnameIn { scope := prog.main.scope, locals := mainGlobals, globals := mainGlobals, cells := [] } name name = name) (hnb : name ≠ "__builtins__") (hmod : prog.main.scope.kind = .module) (hnf : codeAmong pos ps.toList = none)
    (k : ∀ h' tk a c' oc pm, TI h₀ mg₀ c Pl ((a, { cls := .type "function", data := .func (plainDef name params body scope pm (.ref c')) }) :: (c', oc) :: pins) ((name, .ref a) :: L) (ps ++ #[rawInt pos.line, rawInt pos.col, .ref c']) h' →
      (∀ h'' : Heap, h''.get? c' = some oc → h''.CodeRec (.ref c') name) → Q .next { s with heap := h', toks := tk }) :
    wpAny M A (exec (.FunctionDef name params body [] none [] scope none name pos) (mainEnv prog c F)) Q E s := by
  have hPl : Pl < s.heap.objs.size := T.main.code.lt.2
  refine wpAny_plainDef hexec hfree hdoc hloc hq T.main (fun a c' h' tk ha hm hf hcr keep => ?_) hnb hmod hnf
  obtain ⟨hge, hcr⟩ := hcr
  obtain ⟨c₂, oc, vs, t, e, hoc, r⟩ := hcr
  cases e
  refine k h' tk a c' oc ((look L mg₀ "__name__").getD .none) ⟨by rw [← look_cons]; exact hm, fun b o hP hG e => keep b o hP hG (T.keep b o hP hG e), fun p hp => ?_⟩ fun h'' e => ⟨c', oc, vs, t, rfl, e, r⟩
  rcases List.mem_cons.mp hp with rfl | hp
  · exact ⟨Nat.lt_of_lt_of_le hPl ha, hf⟩
  rcases List.mem_cons.mp hp with rfl | hp
  · exact ⟨Nat.lt_of_lt_of_le hPl hge, hoc⟩
  · have hP := (T.pin p hp).1
    exact ⟨hP, keep _ _ (Nat.ne_of_gt hP) (Nat.ne_of_gt (Nat.lt_trans T.main.low.2 hP)) (T.pin p hp).2⟩
end
end Mine
-- H5
set_option maxRecDepth 100000
set_option linter.unusedVariables false
set_option linter.unusedSimpArgs false
namespace Mine
open PySem PySem.Calls PyProof.Rows

section
variable {w : World} {A : Around} {E : Value → Shared → Prop} {s : Shared} {prog : Program} {c Pl F : Addr} {h₀ : Heap} {mg₀ : Str → Option Value} {ps : Array Value} {pins : List (Addr × Obj)} {L : List (Str × Value)} {Q : Flow → Shared → Prop}

theorem TI.assign_int {x : Str} {pos' pos pos2 : Pos} {i : Int} {k2 : Nat} (T : TI h₀ mg₀ c Pl pins L ps s.heap) (hloc : prog.main.scope.names.lookup x = some .local) (hnb : x ≠ "__builtins__") (hmod : prog.main.scope.kind = .module)
    (k : ∀ h' tk u, TI h₀ mg₀ c Pl pins ((x, .int i u) :: L) ps h' → Q .next { s with heap := h', toks := tk }) :
    wpAny (model prog w) A (exec (.Assign [.Name x pos'] (.Constant (.int i) k2 pos2) pos) (mainEnv prog c F)) Q E s :=
  T.assign hloc hnb hmod rfl (wpAny_Constant_int ⟨s.heap, _, [], rfl, fun _ _ e => e, (fun _ h => nomatch h), fun h' tk' T' => k h' tk' _ T'⟩)
theorem TI.assign_str {x : Str} {pos' pos pos2 : Pos} {i : Str} {k2 : Nat} (T : TI h₀ mg₀ c Pl pins L ps s.heap) (hloc : prog.main.scope.names.lookup x = some .local) (hnb : x ≠ "__builtins__") (hmod : prog.main.scope.kind = .module)
    (k : ∀ h' tk u, TI h₀ mg₀ c Pl pins ((x, .str i u) :: L) ps h' → Q .next { s with heap := h', toks := tk }) :
    wpAny (model prog w) A (exec (.Assign [.Name x pos'] (.Constant (.str i) k2 pos2) pos) (mainEnv prog c F)) Q E s :=
  T.assign hloc hnb hmod rfl (wpAny_Constant_str ⟨s.heap, _, [], rfl, fun _ _ e => e, (fun _ h => nomatch h), fun h' tk' T' => k h' tk' _ T'⟩)
theorem TI.assign_dict {x : Str} {pos' pos pos2 : Pos} {keys : List (Option Expr)} {vals : List Expr} {tab : List (Int × Str)} (T : TI h₀ mg₀ c Pl pins L ps s.heap) (hloc : prog.main.scope.names.lookup x = some .local) (hnb : x ≠ "__builtins__") (hmod : prog.main.scope.kind = .module)
    (htab : tabOf keys vals = some tab) (hne : tab ≠ []) (hn : (tab.map (·.1)).Nodup) (hl : tab.length ≤ 1000)
    (k : ∀ h' tk d o kvs, TI h₀ mg₀ c Pl ((d, o) :: pins) ((x, .ref d) :: L) ps h' → (∀ h'' : Heap, h''.get? d = some o → h''.MapOf (intKind prog w) d (valueAt kvs)) → TabIs kvs tab → (d == sysModules) = false → Q .next { s with heap := h', toks := tk }) :
    wpAny (model prog w) A (exec (.Assign [.Name x pos'] (.Dict keys vals pos2) pos) (mainEnv prog c F)) Q E s := by
  have hPl : Pl < s.heap.objs.size := T.main.code.lt.2
  have hsm : sysModules < s.heap.objs.size := Nat.lt_trans (by decide) (Nat.lt_trans T.main.low.2 hPl)
  refine T.assign hloc hnb hmod rfl (Dict_c htab hne hn hl hsm fun d kvs h' tk hd hD ht hk => ?_)
  obtain ⟨o, es, ep, ho, r⟩ := hD
  refine ⟨h', tk, [(d, o)], rfl, hk, fun p hp => ?_, fun h2 tk2 T2 => k h2 tk2 d o kvs T2 (fun h'' e => Heap.DictOf.mapOf ⟨o, es, ep, e, r⟩) ht (beq_eq_false_iff_ne.mpr (Nat.ne_of_gt (Nat.lt_of_lt_of_le hsm hd)))⟩
  rw [List.mem_singleton.mp hp]
  exact ⟨Nat.lt_of_lt_of_le hPl hd, ho⟩

theorem Name_module {x : Str} {pos : Pos} {Q : Value → Shared → Prop} {M : Model} (hmod : prog.main.scope.kind = .module) (hd : (x == ("__debug__" : Str)) = false)
    (h : wpAny M A (loadGlobal (mainEnv prog c F) x) Q E s) : wpAny M A (eval (.Name x pos) (mainEnv prog c F)) Q E s := by
  refine wpAny_Name ?_ hd
  have e : (mainEnv prog c F).scope.kind = .module := hmod
  unfold loadName
  simp only [Env.blockKind, e, ScopeKind.isAnnotationScope, Bool.false_and, Bool.false_eq_true, if_false]
  have e2 : ((mainEnv prog c F).locals != (mainEnv prog c F).globals) = false := rfl
  simp only [e2, Bool.false_and, Bool.false_eq_true, if_false]
  exact h

/-- constants that are ints -/
def intC : Expr → Option Int
  | .Constant (.int i) _ _ => some i
  | _ => none
def intsOf : List Expr → Option (List Int)
  | [] => some []
  | e :: r => match intC e, intsOf r with
    | some i, some L => some (i :: L)
    | _, _ => none
theorem intC_inv {e : Expr} {i : Int} (h : intC e = some i) : ∃ k p, e = .Constant (.int i) k p := by
  cases e with
  | Constant c k p =>
    cases c with
    | int j => obtain rfl := Option.some.inj h; exact ⟨_, _, rfl⟩
    | _ => exact nomatch h
  | _ => exact nomatch h
theorem intsOf_cons {e : Expr} {r : List Expr} {is : List Int} (h : intsOf (e :: r) = some is) : ∃ i L, intC e = some i ∧ intsOf r = some L ∧ is = i :: L := by
  unfold intsOf at h
  cases h1 : intC e with
  | none => rw [h1] at h; exact nomatch h
  | some i =>
    cases h2 : intsOf r with
    | none => rw [h1, h2] at h; exact nomatch h
    | some L => rw [h1, h2] at h; exact ⟨i, L, rfl, rfl, (Option.some.inj h).symm⟩
theorem args_ints {env : Env} {M : Model} {es : List Expr} : ∀ {is} (h : intsOf es = some is) {s : Shared} {pos : Pos} {Q : List Value → Shared → Prop}, (∀ vs tk, IntsAre vs is → Q vs { s with toks := tk }) → wpAny M A (spliced (backTo pos (starEach es env))) Q E s := by
  induction es with
  | nil => intro is h s pos Q hq; obtain rfl := Option.some.inj h; exact args_nil (hq [] s.toks .nil)
  | cons e r ih =>
    intro is h s pos Q hq
    obtain ⟨i, L, h1, h2, rfl⟩ := intsOf_cons h
    obtain ⟨k1, p1, rfl⟩ := intC_inv h1
    exact args_cons (wpAny_Constant_int (k := k1) (pos := p1) (env := env) (ih h2 fun vs tk hv => hq _ _ (.cons _ _ hv))) rfl
theorem TI.gl {mb} {h : Heap} (T : TI h₀ mg₀ c Pl pins L ps h) (hb : h₀.Ns builtinsNs mb) (hl : h₀.NoLimit) : Gl (look L mg₀) mb [] h := by
  have hm := T.main.low.2
  have keep : ∀ b, b < mainGlobals → ∀ o, h₀.get? b = some o → h.get? b = some o := fun b hb o e => T.keep b o (Nat.ne_of_lt (Nat.lt_trans hb hm)) (Nat.ne_of_lt hb) e
  exact ⟨T.main.g, hb.at (keep _ (by decide)), hl.at (keep _ (by decide)), fun p hp => nomatch hp⟩
theorem intsOf_plain {es : List Expr} : ∀ {is}, intsOf es = some is → es.all plainE = true := by
  induction es with
  | nil => intro is h; rfl
  | cons e r ih =>
    intro is h
    obtain ⟨i, L, h1, h2, rfl⟩ := intsOf_cons h
    obtain ⟨k1, p1, rfl⟩ := intC_inv h1
    exact ih h2
theorem repL_ints {X : Addr → Prop} {h : Heap} {vs : List Value} {is : List Int} (r : IntsAre vs is) : RepL X h vs (is.map AV.int) := by
  induction r with
  | nil => exact .nil
  | cons n t r ih => exact .cons (.int _ _) ih
theorem ints_repL {X : Addr → Prop} {h : Heap} {is : List Int} : ∀ {vs : List Value}, RepL X h vs (is.map AV.int) → IntsAre vs is := by
  induction is with
  | nil => intro vs r; rw [RepL.toNil r]; exact .nil
  | cons i is ih =>
    intro vs r
    obtain ⟨v, ws, rfl, a, b⟩ := RepL.toCons r
    obtain ⟨t, rfl⟩ := a.toInt
    exact .cons _ _ (ih b)
theorem rep_lst_inv {X : Addr → Prop} {h : Heap} {v : Value} {xs : List AV} (r : Rep X h v (.lst xs)) : ∃ a vs, v = .ref a ∧ LstX h a vs.toArray ∧ RepL X h vs xs := by
  cases r with
  | lst _ l q => exact ⟨_, _, rfl, l, q⟩
theorem TI.assign_set {x : Str} {pos' pos p1 p2 p3 p4 p5 p6 p7 p8 : Pos} {es rs : List Expr} {is : List Int} {lo hi : Int} {mb} (T : TI h₀ mg₀ c Pl pins L ps s.heap) (hb : h₀.Ns builtinsNs mb) (hlim : h₀.NoLimit) (hA : AOk [] ⟨0, true⟩ A)
    (hloc : prog.main.scope.names.lookup x = some .local) (hnb : x ≠ "__builtins__") (hmod : prog.main.scope.kind = .module)
    (hset : look L mg₀ "set" = none) (hlist : look L mg₀ "list" = none) (hrange : look L mg₀ "range" = none) (bset : mb "set" = some (.type "set")) (blist : mb "list" = some (.type "list")) (brange : mb "range" = some (.type "range"))
    (hes : intsOf es = some is) (hrs : intsOf rs = some [lo, hi]) (h0 : 0 ≤ lo) (h1 : lo ≤ hi) (h2 : hi < 1000000) (hn : is.length + (hi - lo).toNat ≤ 1000)
    (k : ∀ h' tk d o, TI h₀ mg₀ c Pl ((d, o) :: pins) ((x, .ref d) :: L) ps h' →
      (∃ n, ∀ h'' : Heap, h''.get? d = some o → h''.SetOf (intKind prog w) d (fun i => (is ++ (List.range (hi - lo).toNat).map fun (j : Nat) => lo + (j : Int)).any (· == i)) n) → Q .next { s with heap := h', toks := tk }) :
    wpAny (model prog w) A (exec (.Assign [.Name x pos'] (.Call (.Name "set" p1) [.BinOp (.List es p2) .Add (.Call (.Name "list" p3) [.Call (.Name "range" p4) rs [] p5] [] p6) p7] [] p8) pos) (mainEnv prog c F)) Q E s := by
  have hPl : Pl < s.heap.objs.size := T.main.code.lt.2
  have hh : A.handled = none := hA.none rfl
  refine T.assign hloc hnb hmod rfl ?_
  have G0 := T.gl hb hlim
  refine wpAny_Call_NameR (Name_module hmod (by decide +kernel) (loadGlobal_builtin (env := mainEnv prog c F) G0.g hset G0.b bset ?_))
  refine callWith_type1 (args_cons (wpAny_BinOp (wpAny_List (args_ints hes fun vs tk hv => ⟨?_, ?_⟩))) rfl) rfl rfl
  · have := hv.length; rw [sizeLine_eq]; (first | lia | omega)
  have k1 : Keep s.heap (s.heap.push { cls := .type "list", data := .seq vs.toArray }) := (Grow.push s _).2
  have G1 := G0.keep k1
  refine wpAny_Call_NameR (Name_module hmod (by decide +kernel) (loadGlobal_builtin (env := mainEnv prog c F) G1.g hlist G1.b blist ?_))
  refine callWith_type1 (args_cons (wpAny_Call_NameR (Name_module hmod (by decide +kernel) (loadGlobal_builtin (env := mainEnv prog c F) G1.g hrange G1.b brange ?_))) rfl) rfl rfl
  obtain ⟨e, rest, rfl⟩ : ∃ e rest, rs = e :: rest := by
    cases rs with
    | nil => cases hrs
    | cons e rest => exact ⟨e, rest, rfl⟩
  have hpl := intsOf_plain hrs
  refine callWith_type1 ?_ (starEach_plain (List.all_eq_true.mp hpl e (.head _))) (noStar p5 rest (List.all_eq_true.mpr fun z hz => List.all_eq_true.mp hpl z (.tail _ hz)))
  refine args_ints hrs fun vs2 tk2 hv2 => ?_
  obtain ⟨t1, t2, rfl⟩ : ∃ t1 t2, vs2 = [.int lo t1, .int hi t2] := by
    cases hv2 with
    | cons _ t h => cases h with
      | cons _ u h => cases h; exact ⟨t, u, rfl⟩
  refine call_range_2 (args_nil ?_)
  have hsm : Builtin.Range.small lo hi 1 = true := small_one (by (first | lia | omega)) (by (first | lia | omega)) (by (first | lia | omega)) (by (first | lia | omega))
  have hsz : Builtin.Range.rangeSize lo hi 1 = ((hi - lo).toNat : Nat) := by rw [rangeSize_one]; split <;> (first | lia | omega)
  refine call_list_range hh (IsRange.new _ _ _ _ _ _ _) hsm hsz (by (first | lia | omega)) fun h2 tk3 acc c' hk2 hl2 hi2 => ?_
  have k2 : Keep (s.heap.push { cls := .type "list", data := .seq vs.toArray }) h2 := fun b o e => hk2 b o ((Grow.push _ _).2 b o e)
  have G2 := G1.keep k2
  have r1 : Rep (fun _ => False) h2 (.ref s.heap.objs.size) (.lst (is.map AV.int)) := by
    refine .lst (vs := vs) (fun h => h) ⟨0, k2 _ _ (IsL.new _ _)⟩ (repL_ints hv)
  have r2 : Rep (fun _ => False) h2 (.ref ((s.heap.push { cls := .type "list", data := .seq vs.toArray }).push { cls := .type "range", data := .fields #[.int lo t1, .int hi t2, .int 1 tk2] }).objs.size) (.lst (rangeL lo 1 (hi - lo).toNat)) := by
    refine .lst (vs := acc.toList) (fun h => h) ⟨c', by simpa using hl2⟩ (repL_range hi2)
  have hA' : AOk [] ⟨0, true⟩ A := hA
  have hadd := (add_ok (prog := prog) (w := w) (mg := look L mg₀) (mb := mb) (pins := []) (l := ⟨0, true⟩)).it A (fun _ => False) { s with heap := h2, toks := tk3 } _ _ _ _
    (fun a => a = .lst (is.map AV.int ++ rangeL lo 1 (hi - lo).toNat)) E hA' G2 (fun _ h => h.elim) r1 r2 (by
      refine ⟨?_, rfl⟩
      simp [rangeL]; (first | lia | omega))
  refine wpAny_mono hadd (fun v s4 ⟨g4, a, ha, ra⟩ => args_nil ?_) fun _ _ x => x
  subst ha
  have er : is.map AV.int ++ rangeL lo 1 (hi - lo).toNat = (is ++ (List.range (hi - lo).toNat).map fun (j : Nat) => lo + (j : Int)).map AV.int := by
    rw [List.map_append, List.map_map]
    congr 1
    unfold rangeL
    refine List.map_congr_left fun j _ => ?_
    simp
  rw [er] at ra
  generalize ens : (is ++ (List.range (hi - lo).toNat).map fun (j : Nat) => lo + (j : Int)) = ns at ra k
  have hnl : ns.length ≤ 1000 := by rw [← ens]; simp; (first | lia | omega)
  obtain ⟨a4, vs4, rfl, hl4, rl4⟩ := rep_lst_inv ra
  · have hv4 := ints_repL rl4
    have hlen := hv4.length
    obtain ⟨⟨h4, tk4, rfl⟩, kk⟩ := g4
    refine call_set_list (items := vs4.toArray) (ns := ns) hh hl4.isList (by simpa using hv4) (by simp only [List.size_toArray, scanBound]; (first | lia | omega)) fun h5 tk5 hS hk5 => ?_
    have kAll : KeepH s.heap h5 := fun b o e => by
      have e4 := kk _ _ (k2 _ _ (k1 _ _ e))
      exact hk5 b o (Heap.lt_size e4) e4
    obtain ⟨o, ho, hso⟩ := hS.objOf
    obtain ⟨oo, es', ep', tt, eo, rest'⟩ := id hS
    have eoo : oo = o := by rw [eo] at ho; exact Option.some.inj ho
    subst eoo
    refine ⟨h5, tk5, [(_, oo)], rfl, kAll, fun p hp => ?_, fun h6 tk6 T6 => k h6 tk6 _ oo T6 ⟨_, fun h'' e => SetOf_congr (S := fun k' => (firstMet (fun i => ns.getD i 0) vs4.toArray.size).any (· == k')) ⟨oo, es', ep', tt, e, rest'⟩ (fun i => ?_) rfl⟩⟩
    · rw [List.mem_singleton.mp hp]
      refine ⟨?_, ho⟩
      exact Nat.lt_trans hPl (Heap.lt_size (kk _ _ (k2 _ _ (IsL.new s.heap vs.toArray))))
    · rw [firstMet_any]
      congr 1
      rw [List.size_toArray, hlen]
      apply List.ext_getElem
      · simp
      · intro j h1 h2; simp [List.getD_eq_getElem?_getD, List.getElem?_eq_getElem h2]
end
end Mine
-- H6
set_option maxRecDepth 100000
set_option linter.unusedVariables false
set_option linter.unusedSimpArgs false
namespace Mine
open PySem PySem.Calls PyProof.Rows PySem.W

theorem no_go {a : Shared} {b : Thread} {o : Outcome} {s : Shared} {R : Prop} (h : Step.go a b = .halt o s) : R := nomatch h
theorem no_uns {x : String} {s s' : Shared} {f : Flow} {R : Prop} (h : Step.halt (.unsupported x) s = .halt (.done f) s') : R := nomatch h
theorem no_stuck {x : String} {s s' : Shared} {f : Flow} {R : Prop} (h : Step.halt (.stuck x) s = .halt (.done f) s') : R := nomatch h
theorem no_end {x : Ending} {s s' : Shared} {f : Flow} {R : Prop} (h : Step.halt (.ended x) s = .halt (.done f) s') : R := nomatch h
theorem finish_done {o : Outcome} {s s' : Shared} {f : Flow} (h : finish o s = .halt (.done f) s') : s' = s ∧ o = .done f := by
  unfold finish at h
  by_cases q : leftWithCleanup s.gens = true
  · rw [if_pos q] at h; exact no_uns h
  · rw [if_neg q] at h
    injection h with h1 h2
    exact ⟨h2.symm, h1⟩
theorem step_done {den : Code → Sem Fin} {p : Program} {w : World} {s s' : Shared} {t : Thread} {f : Flow} (h : step den p w s t = .halt (.done f) s') : through t = true ∧ s' = s := by
  obtain ⟨heap, gens, drawn, toks, os⟩ := s
  obtain ⟨cur, code, pos, stack⟩ := t
  cases cur with
  | pure x =>
    cases x with
    | again c => exact no_go h
    | done g =>
      cases stack with
      | nil => exact ⟨rfl, (finish_done h).1⟩
      | cons fr r => cases fr <;> exact no_go h
  | raise e =>
    cases stack with
    | nil => exact nomatch (finish_done h).2
    | cons fr r => cases fr <;> exact no_go h
  | unsupported x => exact no_uns h
  | finish e =>
    by_cases q : leftWithCleanup gens = true
    · dsimp only [step] at h; rw [if_pos q] at h; exact no_uns h
    · dsimp only [step] at h; rw [if_neg q] at h; exact no_end h
  | load a x k =>
    dsimp only [step] at h
    generalize heap.get? a = y at h
    cases y with
    | some y => exact no_go h
    | none => exact no_stuck h
  | update a x f k =>
    dsimp only [step] at h
    by_cases q : (heap.get? a).isSome = true
    · rw [if_pos q] at h; exact no_go h
    · rw [if_neg q] at h; exact no_stuck h
  | choose a n k =>
    dsimp only [step] at h
    by_cases q : n = 0
    · rw [if_pos q] at h; exact no_stuck h
    · rw [if_neg q] at h; exact no_go h
  | register a b => exact no_uns h
  | fork a b => exact no_uns h
  | await => exact no_uns h
  | genState g k =>
    dsimp only [step] at h
    generalize gens[g]? = y at h
    cases y with
    | some y => exact no_go h
    | none => exact no_stuck h
  | resume g r l k =>
    dsimp only [step] at h
    generalize gens[g]? = y at h
    cases y with
    | none => exact no_stuck h
    | some y =>
      cases y with
      | fresh c =>
        cases r with
        | send v => cases v <;> exact no_go h
        | throw e => exact no_go h
      | suspended => exact no_go h
      | running => exact no_go h
      | finished => exact no_go h
  | «yield» v g l k =>
    dsimp only [step] at h
    generalize splitAtGen stack = y at h
    cases y with
    | none => exact no_stuck h
    | some y => exact no_go h
  | _ => exact no_go h
theorem run_done {p : Program} {w : World} {f : Flow} {s'' : Shared} : ∀ (n : Nat) (s : Shared) (t : Thread), s.asleep → runN (denote table) p w n s t = .halted (.done f) s'' →
    (∀ k s₁ t₁, runN (denote table) p w k s t = .running s₁ t₁ → t₁.calm = true) →
    (∃ m t₁, schedN (denote table) p w m (.single s t) = .running (.single s'' t₁) ∧ through t₁ = true) ∧ s''.heap.life = s.heap.life
  | 0, s, t, _, h, _ => by simp [runN] at h
  | n + 1, s, t, hr, h, hc => by
    have ht := hc 0 s t rfl
    unfold runN at h
    cases hs : step (denote table) p w s t with
    | halt o s' =>
      rw [hs] at h
      simp only [Run.halted.injEq] at h
      obtain ⟨rfl, rfl⟩ := h
      obtain ⟨h1, h2⟩ := step_done hs
      subst h2
      exact ⟨⟨0, t, rfl, h1⟩, rfl⟩
    | go s' t' =>
      rw [hs] at h
      have hl := step_life (denote table) p w s s' t t' hs
      obtain ⟨⟨m, t₁, hm, ht₁⟩, l⟩ := run_done n s' t' (Shared.asleep_of_life hl hr) h fun k s₁ t₁ hk => hc (k + 1) s₁ t₁ (by unfold runN; rw [hs]; exact hk)
      refine ⟨⟨m + 1, t₁, ?_, ht₁⟩, l.trans hl⟩
      have e : sstep (denote table) p w (.single s t) = .go (.single s' t') := by
        rcases sstep_single (denote table) p w s t ht hr with e | e
        · rw [e, hs]; rfl
        · rw [hs] at e; cases e
      simp only [schedN, e]; exact hm

theorem topRan_wp {p : Program} {w : World} {t : Sem Fin} {s₀ : Shared} {R : Shared → Prop} (hz : s₀.asleep)
    (h : wpAny (model p w) callerA t (fun fin s' => ∃ f, fin = .done f ∧ s'.gens = #[] ∧ R s') (fun _ _ => False) s₀) :
    ∃ s₁, (∃ n t₁, schedN (denote table) p w n (.single s₀ ⟨t, .builtin "claim.caller" {}, default, []⟩) = .running (.single s₁ t₁) ∧ through t₁ = true) ∧ s₁.heap.life = s₀.heap.life ∧ s₁.gens = #[] ∧ R s₁ := by
  have hw := wp_of_wpAny_done (R := fun r s' => (∃ f, r = .ok f ∧ s'.gens = #[] ∧ R s') ∧ leftWithCleanup s'.gens = false) caller_in
    (wpAny_mono h (fun fin s' ⟨f, e, g, r⟩ => ⟨f, e, ⟨f, rfl, g, r⟩, by rw [g]; simp [leftWithCleanup]⟩) fun _ _ x => x.elim) default
  obtain ⟨n, r, s', hn, hR⟩ := (wp_iff_halts (M := model p w) t (fun r s' => ∃ f, r = .ok f ∧ s'.gens = #[] ∧ R s') default s₀).mp hw
  obtain ⟨f, rfl, hg, hR⟩ := hR
  obtain ⟨s'', hr, hf, hc⟩ := runNI_real _ _ _ hn (outcomeOf_ends _)
  have e := Shared.eq_of_forget_eq hf hg
  subst e
  obtain ⟨h1, h2⟩ := run_done n s₀ _ hz hr hc
  exact ⟨_, h1, h2, hg, hR⟩
end Mine
-- H7
set_option maxRecDepth 100000
set_option linter.unusedVariables false
set_option linter.unusedSimpArgs false
namespace Mine
open PySem PySem.Calls PyProof.Rows PySem.W
open PySem.Claim2Try (globalOf_of_ns)
open PySem.Pin (keysAreStrs_of_ns builtinOf_of_ns staticOf_of_ns)

/-- what the opening leaves -/
structure Boo (h : Heap) (mb mg : Str → Option Value) : Prop where
  b : h.Ns builtinsNs mb
  builtins : ∀ x : Str, x ≠ "__name__" → mb x = bootBuiltins x
  statics : h.Ns cStatics (fun _ => none)
  g : h.Ns mainGlobals mg
  others : ∀ x, x ∉ bootMainNames → mg x = none
  bm : ∃ bm o, mg "__builtins__" = some (.ref bm) ∧ bm ≠ builtinsNs ∧ bm ≠ mainGlobals ∧ h.get? bm = some o ∧ o.cls = .type "module" ∧ o.dict = some builtinsNs ∧ o.data = .plain
  anns : ∃ a, mg "__annotations__" = some (.ref a)
theorem Boo.noLimit {h : Heap} {mb mg} (x : Boo h mb mg) : h.NoLimit := ⟨_, x.statics, rfl⟩

theorem opened {q : Program} {w : World} (hbody : q.main.body = []) (hmore : q.main.more = []) :
    (∃ s, AfterImport q w s) ∧ ∀ s, AfterImport q w s → s.gens = #[] ∧ ∃ mb mg, Boo s.heap mb mg := by
  refine AfterImport.of_body9 (out := #[]) (P := fun s => s.gens = #[] ∧ ∃ mb mg, Boo s.heap mb mg) ?_ hmore
  intro h tk mb mg c Pl F hB
  rw [hbody]
  refine codeAny_body rfl rfl (wpAny_execs_nil ?_)
  refine ⟨⟨_, rfl⟩, .of hB.toBootLeft (fun _ _ _ _ e => e) hB.g, ⟨rfl, mb, mg, hB.b, hB.builtins, hB.statics, hB.g, hB.others, ?_, ?_⟩, rfl⟩
  · obtain ⟨bm, o, h1, h2, h3, h4, r⟩ := hB.bmod
    exact ⟨bm, o, h1, h2, h3, r⟩
  · obtain ⟨a, h1, _⟩ := hB.anns
    exact ⟨a, h1⟩

/-- the walk of a text's top -/
def TopWalk (p : Program) (w : World) (Fi : (Str → Option Value) → (Str → Option Value) → List (Addr × Obj) → Prop) : Prop :=
  ∀ (A : Around) (s : Shared) (mb mg₀ : Str → Option Value) (h₀ : Heap) (c Pl F : Addr) (Q : Flow → Shared → Prop), AOk [] ⟨0, true⟩ A → Boo h₀ mb mg₀ → TI h₀ mg₀ c Pl [] [] #[] s.heap →
    (∀ h' tk pins L ps, TI h₀ mg₀ c Pl pins L ps h' → (∀ x ∈ L.map (·.1), (x ∈ p.boundNames ∨ x ∈ startupNames) ∧ x ∉ laidNames) → Fi mb (look L mg₀) pins → Q .next { s with heap := h', toks := tk }) →
    wpAny (model p w) A (execs (behindTheImports p) (mainEnv p c F)) Q (fun _ _ => False) s

theorem look_of_mem {L : List (Str × Value)} {m : Str → Option Value} {x : Str} {v : Value} (h : look L m x = some v) : x ∈ L.map (·.1) ∨ m x = some v := by
  unfold look at h
  cases e : L.lookup x with
  | none => rw [e] at h; exact .inr h
  | some u =>
    left
    have := mem_of_lookup e
    exact List.mem_map.mpr ⟨_, this, rfl⟩
theorem look_not {L : List (Str × Value)} {m : Str → Option Value} {x : Str} (h : x ∉ L.map (·.1)) : look L m x = m x := by
  unfold look
  cases e : L.lookup x with
  | none => rfl
  | some u => exact absurd (List.mem_map.mpr ⟨_, mem_of_lookup e, rfl⟩) h

theorem head_ran {p : Program} {w : World} {Fi : (Str → Option Value) → (Str → Option Value) → List (Addr × Obj) → Prop} (hann : hasAnns (behindTheImports p) = false) (hdoc : docOf (behindTheImports p) = none) 
    (walk : TopWalk p w Fi) {s₀ : Shared} {mb mg₀} (hz : s₀.asleep) (hg0 : s₀.gens = #[]) (B : Boo s₀.heap mb mg₀) :
    ∃ s₁, TopRan p w s₀ s₁ ∧ s₁.asleep ∧ s₁.gens = #[] ∧ sysModules < s₁.heap.objs.size ∧ ∃ mg, s₁.heap.Ns mainGlobals mg ∧ s₁.heap.Ns builtinsNs mb ∧ s₁.heap.NoLimit ∧ (∃ pins, (∀ p ∈ pins, s₁.heap.get? p.1 = some p.2) ∧ Fi mb mg pins) ∧ (∀ x, mg x = mg₀ x ∨ x ∈ p.boundNames ∨ x ∈ startupNames) := by
  have key := topRan_wp (p := p) (w := w) (t := (topStub p).cur) (s₀ := s₀) (R := fun s' => ∃ h' tk, s' = { s₀ with heap := h', toks := tk } ∧ ∃ c Pl pins L ps, s₀.heap.objs.size ≤ Pl ∧ TI s₀.heap mg₀ c Pl pins L ps h' ∧
      (∀ x ∈ L.map (·.1), (x ∈ p.boundNames ∨ x ∈ startupNames) ∧ x ∉ laidNames) ∧ Fi mb (look L mg₀) pins) hz ?_
  · obtain ⟨s₁, hrun, hlife, hgens, h', tk, rfl, c, Pl, pins, L, ps, hPl, T, hL, hFi⟩ := key
    have k0 : ∀ b o, s₀.heap.get? b = some o → b ≠ mainGlobals → h'.get? b = some o := fun b o e hb => T.keep b o (Nat.ne_of_lt (Nat.lt_of_lt_of_le (Heap.lt_size e) hPl)) hb e
    have hg := T.main.g
    have hst : h'.Ns cStatics (fun _ => none) := B.statics.at fun o e => k0 _ _ e (by decide)
    have hbn : h'.Ns builtinsNs mb := B.b.at fun o e => k0 _ _ e (by decide)
    obtain ⟨bm, o, hbm, _, _, _, hbo, hcls, hdict, _⟩ := T.main.bmod
    refine ⟨_, ⟨hrun, hlife, Shared.rest_eq rfl, fun b o hb hn => k0 b o hb fun e => hn (.inl e), ?_, fun key => .inl ?_, keysAreStrs_of_ns hg, fun x hx => (builtinOf_of_ns hbn x).trans (B.builtins x hx),
      ⟨bm, o, (globalOf_of_ns hg _).trans hbm, hbo, hcls, hdict⟩, ?_, fun x v hv => ?_, fun x hx => ?_⟩, Shared.asleep_of_life hlife hz, hgens, ?_, look L mg₀, hg, hbn, ⟨_, hst, rfl⟩, ⟨pins, fun p hp => (T.pin p hp).2, hFi⟩, fun x => ?_⟩
    · intro key v hv
      rw [staticOf_of_ns hst key] at hv; cases hv
    · rw [staticOf_of_ns hst key, staticOf_of_ns B.statics key]
    · intro g hg'
      rw [hgens] at hg'
      simp at hg'
    · rw [globalOf_of_ns hg] at hv
      rcases look_of_mem hv with q | q
      · exact (hL x q).1.symm
      · by_cases hx : x ∈ bootMainNames
        · exact .inl hx
        · rw [B.others x hx] at q; cases q
    · rw [globalOf_of_ns hg, globalOf_of_ns B.g, look_not]
      exact fun q => (hL x q).2 hx
    · exact Nat.lt_trans (by decide) hg.lt
    · by_cases q : x ∈ L.map (·.1)
      · exact .inr (hL x q).1
      · exact .inl (look_not q)
  · show wpAny _ _ (do
      let code ← moduleCode p.main
      let frame ← newBodyFrame code mainNs mainNs
      let _ ← run (.body (behindTheImports p) { scope := p.main.scope, locals := mainNs, globals := mainNs, cells := [], code, frame := some frame })
      ret .none) _ _ _
    refine wpAny_bind (wpAny_moduleCode fun c Pl h₁ tk₁ hk₁ hc hPl hcode => ?_)
    unfold newBodyFrame
    refine wpAny_bind (wpAny_bind (wpAny_nsGet (B.g.keeps hk₁) (wpAny_alloc ?_)))
    refine wpAny_bind (wpAny_run (codeAny_body hann hdoc ?_))
    have hGlt := B.g.lt
    obtain ⟨bm, o, h1, h2, h3, h4, r⟩ := B.bm
    have hbmlt := Heap.lt_size h4
    refine wpAny_mono (E := fun _ _ => False) (walk _ _ mb mg₀ s₀.heap c Pl h₁.objs.size _ ?_ B ⟨⟨(B.g.keeps hk₁).push _, hcode.push _, ⟨Nat.lt_of_lt_of_le hGlt hc, Nat.lt_of_lt_of_le hGlt hPl⟩, ⟨bm, o, h1, h2, h3, Nat.ne_of_lt (Nat.lt_of_lt_of_le hbmlt hPl), Heap.get?_push_of_some _ (hk₁ _ _ h4), r⟩⟩,
      fun b o _ _ e => Heap.get?_push_of_some _ (hk₁ _ _ e), fun _ hp => nomatch hp⟩ fun h' tk pins L ps T hL hFi => ?_) (fun _ _ x => x) fun _ _ x => x.elim
    · exact ⟨show 1 + claimMargin + 1 + 0 < recursionLimit by decide, by simp only [Around.deeper_units]; decide, .inl rfl⟩
    · refine wpAny_pure ⟨_, rfl, hg0, h', tk, rfl, c, Pl, pins, L, ps, hPl, T, hL, hFi⟩
end Mine
-- H7b
set_option maxRecDepth 100000
set_option linter.unusedVariables false
set_option linter.unusedSimpArgs false
namespace Mine
open PySem PySem.Calls PyProof.Rows PySem.W

/-- a block's run at the module's level, closed to the elaborator -/
structure RunS (prog : Program) (w : World) (A : Around) (env : Env) (l : List Stmt) (Q : Flow → Shared → Prop) (s : Shared) : Prop where
  it : wpAny (model prog w) A (execs l env) Q (fun _ _ => False) s

section
variable {w : World} {A : Around} {s : Shared} {prog : Program} {c Pl F : Addr} {h₀ : Heap} {mg₀ : Str → Option Value} {ps : Array Value} {pins : List (Addr × Obj)} {L : List (Str × Value)} {Q : Flow → Shared → Prop} {st : Stmt} {rest : List Stmt}
theorem RunS.nil {env : Env} (h : Q .next s) : RunS prog w A env [] Q s := ⟨wpAny_execs_nil h⟩
theorem RunS.int {x : Str} {pos' pos pos2 : Pos} {i : Int} {k2 : Nat} (q : st = .Assign [.Name x pos'] (.Constant (.int i) k2 pos2) pos) (T : TI h₀ mg₀ c Pl pins L ps s.heap) (hloc : prog.main.scope.names.lookup x = some .local) (hnb : x ≠ "__builtins__") (hmod : prog.main.scope.kind = .module)
    (k : ∀ h' tk u, TI h₀ mg₀ c Pl pins ((x, .int i u) :: L) ps h' → RunS prog w A (mainEnv prog c F) rest Q { s with heap := h', toks := tk }) : RunS prog w A (mainEnv prog c F) (st :: rest) Q s := by
  subst q
  exact ⟨wpAny_execs_cons (T.assign_int hloc hnb hmod fun h' tk u T' => (k h' tk u T').it)⟩
theorem RunS.str {x : Str} {pos' pos pos2 : Pos} {i : Str} {k2 : Nat} (q : st = .Assign [.Name x pos'] (.Constant (.str i) k2 pos2) pos) (T : TI h₀ mg₀ c Pl pins L ps s.heap) (hloc : prog.main.scope.names.lookup x = some .local) (hnb : x ≠ "__builtins__") (hmod : prog.main.scope.kind = .module)
    (k : ∀ h' tk u, TI h₀ mg₀ c Pl pins ((x, .str i u) :: L) ps h' → RunS prog w A (mainEnv prog c F) rest Q { s with heap := h', toks := tk }) : RunS prog w A (mainEnv prog c F) (st :: rest) Q s := by
  subst q
  exact ⟨wpAny_execs_cons (T.assign_str hloc hnb hmod fun h' tk u T' => (k h' tk u T').it)⟩
theorem RunS.dict {x : Str} {pos' pos pos2 : Pos} {keys : List (Option Expr)} {vals : List Expr} {tab : List (Int × Str)} (q : st = .Assign [.Name x pos'] (.Dict keys vals pos2) pos) (T : TI h₀ mg₀ c Pl pins L ps s.heap) (hloc : prog.main.scope.names.lookup x = some .local) (hnb : x ≠ "__builtins__") (hmod : prog.main.scope.kind = .module)
    (htab : tabOf keys vals = some tab) (hne : tab ≠ []) (hn : (tab.map (·.1)).Nodup) (hl : tab.length ≤ 1000)
    (k : ∀ h' tk d o kvs, TI h₀ mg₀ c Pl ((d, o) :: pins) ((x, .ref d) :: L) ps h' → (∀ h'' : Heap, h''.get? d = some o → h''.MapOf (intKind prog w) d (valueAt kvs)) → TabIs kvs tab → (d == sysModules) = false → RunS prog w A (mainEnv prog c F) rest Q { s with heap := h', toks := tk }) :
    RunS prog w A (mainEnv prog c F) (st :: rest) Q s := by
  subst q
  exact ⟨wpAny_execs_cons (T.assign_dict hloc hnb hmod htab hne hn hl fun h' tk d o kvs T' a b c => (k h' tk d o kvs T' a b c).it)⟩
theorem RunS.set {x : Str} {pos' pos p1 p2 p3 p4 p5 p6 p7 p8 : Pos} {es rs : List Expr} {is : List Int} {lo hi : Int} {mb}
    (q : st = .Assign [.Name x pos'] (.Call (.Name "set" p1) [.BinOp (.List es p2) .Add (.Call (.Name "list" p3) [.Call (.Name "range" p4) rs [] p5] [] p6) p7] [] p8) pos) (T : TI h₀ mg₀ c Pl pins L ps s.heap) (hb : h₀.Ns builtinsNs mb) (hlim : h₀.NoLimit) (hA : AOk [] ⟨0, true⟩ A)
    (hloc : prog.main.scope.names.lookup x = some .local) (hnb : x ≠ "__builtins__") (hmod : prog.main.scope.kind = .module)
    (hset : look L mg₀ "set" = none) (hlist : look L mg₀ "list" = none) (hrange : look L mg₀ "range" = none) (bset : mb "set" = some (.type "set")) (blist : mb "list" = some (.type "list")) (brange : mb "range" = some (.type "range"))
    (hes : intsOf es = some is) (hrs : intsOf rs = some [lo, hi]) (h0 : 0 ≤ lo) (h1 : lo ≤ hi) (h2 : hi < 1000000) (hn : is.length + (hi - lo).toNat ≤ 1000)
    (k : ∀ h' tk d o, TI h₀ mg₀ c Pl ((d, o) :: pins) ((x, .ref d) :: L) ps h' →
      (∃ n, ∀ h'' : Heap, h''.get? d = some o → h''.SetOf (intKind prog w) d (fun i => (is ++ (List.range (hi - lo).toNat).map fun (j : Nat) => lo + (j : Int)).any (· == i)) n) → RunS prog w A (mainEnv prog c F) rest Q { s with heap := h', toks := tk }) :
    RunS prog w A (mainEnv prog c F) (st :: rest) Q s := by
  subst q
  exact ⟨wpAny_execs_cons (T.assign_set hb hlim hA hloc hnb hmod hset hlist hrange bset blist brange hes hrs h0 h1 h2 hn fun h' tk d o T' a => (k h' tk d o T' a).it)⟩
theorem RunS.def_ {name : Str} {params : Arguments} {body : List Stmt} {scope : Scope} {pos : Pos} (q : st = .FunctionDef name params body [] none [] scope none name pos) (T : TI h₀ mg₀ c Pl pins L ps s.heap)
    (hexec : PlainDefTree name params body scope pos) (hfree : ∀ x ∈ scope.names, x.2 ≠ .free) (hdoc : docOf body = none) (hloc : prog.main.scope.names.lookup name = some .local)
    (hq : qualnameIn { scope := prog.main.scope, locals := mainGlobals, globals := mainGlobals, cells := [] } name name = name) (hnb : name ≠ "__builtins__") (hmod : prog.main.scope.kind = .module) (hnf : codeAmong pos ps.toList = none)
    (k : ∀ h' tk a c' oc pm, TI h₀ mg₀ c Pl ((a, { cls := .type "function", data := .func (plainDef name params body scope pm (.ref c')) }) :: (c', oc) :: pins) ((name, .ref a) :: L) (ps ++ #[rawInt pos.line, rawInt pos.col, .ref c']) h' →
      (∀ h'' : Heap, h''.get? c' = some oc → h''.CodeRec (.ref c') name) → RunS prog w A (mainEnv prog c F) rest Q { s with heap := h', toks := tk }) :
    RunS prog w A (mainEnv prog c F) (st :: rest) Q s := by
  subst q
  exact ⟨wpAny_execs_cons (T.def_ hexec hfree hdoc hloc hq hnb hmod hnf fun h' tk a c' oc pm T' r => (k h' tk a c' oc pm T' r).it)⟩
end
end Mine
-- H9
set_option maxRecDepth 100000
set_option linter.unusedVariables false
set_option linter.unusedSimpArgs false
namespace Mine
open PySem PySem.Calls PyProof.Rows PySem.W
open PySem.Claim2Try (globalOf_of_ns)

theorem ofPys_ints : ∀ ns : List Int, ofPys (ns.map PyData.int) = ns.map WData.int
  | [] => rfl
  | n :: r => by simp [ofPys, ofPy, ofPys_ints r]
theorem items_ints {R : WRecords} : ∀ {ds : List WData}, WShape.hasItems R ds .int = true → ∃ ns : List Int, ds = ns.map WData.int
  | [], _ => ⟨[], rfl⟩
  | d :: ds, h => by
    simp only [WShape.hasItems, Bool.and_eq_true] at h
    obtain ⟨ns, rfl⟩ := items_ints h.2
    cases d with
    | int i => exact ⟨i :: ns, rfl⟩
    | _ => simp [WShape.has, WShape.arms] at h
theorem script_shape {R : WRecords} {args : List WData} (h : WShape.hasAll R args [.list .int] = true) : ∃ ns : List Int, args = [.list (ns.map WData.int)] := by
  cases args with
  | nil => simp [WShape.hasAll] at h
  | cons d r =>
    simp only [WShape.hasAll, Bool.and_eq_true] at h
    cases r with
    | cons _ _ => simp [WShape.hasAll] at h
    | nil =>
      cases d with
      | list ds =>
        have := h.1
        simp only [WShape.has, WShape.arms, List.any_cons, List.any_nil, Bool.or_false] at this
        obtain ⟨ns, rfl⟩ := items_ints this
        exact ⟨ns, rfl⟩
      | _ => simp [WShape.has, WShape.arms] at h
theorem reads_ints {R cl h} {ns : List Int} : ∀ {vs : List Value} {as}, ReadsAllW R cl h vs (ns.map WData.int) as → IntsAre vs ns := by
  induction ns with
  | nil => intro vs as r; cases r; exact .nil
  | cons n ns ih =>
    intro vs as r
    cases r with
    | cons a b => cases a with
      | int _ t => exact .cons _ _ (ih b)
theorem reads_list {R cl} {h : Heap} {ns : List Int} {vs : List Value} {as} (r : ReadsAllW R cl h vs [.list (ns.map WData.int)] as) : ∃ b vb, vs = [.ref b] ∧ h.IsList b vb ∧ IntsAre vb.toList ns := by
  cases r with
  | cons r1 r2 =>
    cases r2
    cases r1 with
    | list ho hc hd hr => exact ⟨_, _, rfl, ⟨_, ho, hc, _, hd⟩, reads_ints hr⟩
theorem less63 {n : Nat} (h : decide (((63 : Nat) : Int) < (n : Int)) = false) : n ≤ 63 := by
  have := of_decide_eq_false h
  omega
inductive LawPinned (l : OpenLaw) (mg : Str → Option Value) (pins : List (Addr × Obj)) : Prop
  | mk (a : Addr) (o : Obj) (fd : FuncData) (args : Arguments) (body : List Stmt) (scope : Scope) (h1 : mg l.name = some (.ref a)) (h2 : (a, o) ∈ pins) (h3 : o.data = .func fd) (h4 : l.prog.theDef l.name = some (args, body, scope)) (h5 : fd.name = l.name) (h6 : fd.qualname = l.name) (h7 : fd.params = args) (h8 : fd.body = .stmts body) (h9 : fd.scope = scope)
      (h10 : fd.globals = mainNs) (h11 : fd.closure = []) (h12 : fd.builtins = builtinsNs) (h13 : args.defaults = []) (h14 : fd.defaults = .none) (h15 : kwWritten? args.kwonlyargs args.kw_defaults = some []) (h16 : fd.kwdefaults = .none)

theorem law_open {l : OpenLaw} {Fi : World → (Str → Option Value) → (Str → Option Value) → List (Addr × Obj) → Prop} (hwr : l.writes = false) (hmost : l.most = some 63) (hbound : l.bound = none) (hb : l.prog.bare) (ho : opensWell l.prog = true) (hw : l.row.toRowW.promised)
    (hop : (opening l.prog).main.body = []) (hmore : (opening l.prog).main.more = []) (hf : ∀ s, fenceModules? l.prog s = some s) (hann : hasAnns (behindTheImports l.prog) = false) (hdoc : docOf (behindTheImports l.prog) = none)
    (walk : ∀ w, TopWalk l.prog w (Fi w))
    (hpin : ∀ w mb mg pins, Fi w mb mg pins → LawPinned l mg pins)
    (call : ∀ w mb mg pins, Fi w mb mg pins → ∀ (s : Shared) (a : Addr) (vs : List Value) (ns : List Int), Gl mg mb pins s.heap → ns.length ≤ 63 → IsL s.heap a vs.toArray 0 → IntsAre vs ns → ∃ fa, mg l.name = some (.ref fa) ∧
      wpAny (model l.prog w) callerA (PySem.call (.ref fa) [.ref a]) (fun v s' => Grow s s' ∧ v = .bool true) (fun _ _ => False) s) :
    l.row.toRowW.claim.HoldsOpenBy (callStub l.row.name) (if l.row.pinned then [l.row.name] else []) l.row.keeps l.row.writes := by
  refine ⟨⟨hb, ho, rfl⟩, hw.witness, fun w => ⟨(opened (w := w) hop hmore).1, fun s hs => ?_⟩⟩
  obtain ⟨hg0, mb, mg₀, B⟩ := (opened (w := w) hop hmore).2 s hs
  have hz : s.asleep := AfterImport.life hs
  obtain ⟨s₁, hT, hz1, hg1, hsm, mg, hG, hBn, hL, ⟨pins, hp, hFi⟩, _⟩ := head_ran hann hdoc (walk w) hz hg0 B
  refine ⟨s, hf s, hg0, s₁, hT, fun n hn => ?_, (fun _ hx => nomatch hx), (fun _ hx => nomatch hx), ?_⟩
  · have hn' : n = l.name := by simpa [OpenLaw.row] using hn
    subst hn'
    obtain ⟨a, o, fd, args, body, scope, h1, h2, h3, h4, h5, h6, h7, h8, h9, h10, h11, h12, h13, h14, h15, h16⟩ := hpin w mb mg pins hFi
    exact ⟨a, o, fd, args, body, scope, (globalOf_of_ns hG _).trans h1, hp _ h2, h3, h4, h5, h6, h7, h8, h9, h10, h11, h12, .inl ⟨h13, h14⟩, [], h15, .inl ⟨rfl, h16⟩⟩
  · refine ClaimW.callFrom_of_specG (c := l.row.toRowW.claim) hz1 hg1 fun args hpre hlay ord hord => ?_
    obtain ⟨hsh, hcond⟩ := pre_splitW hpre
    obtain ⟨⟨vs, s₂⟩, hlaid⟩ := Option.isSome_iff_exists.mp (layAllW_isSome (R := l.row.records) (cl := classAt s₁.heap) (P := w.params) (ord := ord) (fun c hc => nomatch hc) args l.row.args s₁ hsh)
    have keeps := layAllW_keeps _ _ _ hlaid
    have hal := layAllW_rest _ _ _ hlaid
    obtain ⟨as, hrd, hin, hold⟩ := reads_layAllW hord _ _ _ hlaid hlay s₂.heap (fun _ _ e => e)
    have Ld : Laid l.row.records w s₁ s₂ args vs as := ⟨⟨ord, hord, hlaid⟩, hrd, hin, hold, keeps, hal.1.trans hg1, hal.2.2.1⟩
    obtain ⟨ns, rfl⟩ := script_shape hsh
    have hlen : ns.length ≤ 63 := by
      have h := hcond
      simp only [OpenLaw.row, OpenLaw.pre, hmost, hbound, WTm.holds, WTm.value, List.getElem?_cons_zero] at h
      simp only [PySem.W.less?, PySem.W.Num.less?, Option.map_some, List.length_map] at h
      refine less63 ?_
      cases q : decide (((63 : Nat) : Int) < (ns.length : Int)) with
      | false => rfl
      | true => rw [q] at h; exact nomatch h
    obtain ⟨a, vs', rfl, hIs, hInts⟩ : ∃ a vs', vs = [.ref a] ∧ IsL s₂.heap a vs'.toArray 0 ∧ IntsAre vs' ns := by
      obtain ⟨b, vb, hvs, hIs, hInts⟩ := reads_list hrd
      subst hvs
      have e1 : [WData.list (ns.map WData.int)] = [ofPy (PyData.list (ns.map PyData.int))] := by simp [ofPy, ofPys_ints]
      rw [e1] at Ld
      exact ⟨b, vb.toList, rfl, by simpa using PySem.W.X.script_obj Ld hIs, hInts⟩
    have G2 : Gl mg mb pins s₂.heap := ⟨hG.keeps keeps, hBn.keeps keeps, hL.keeps keeps, fun p h => keeps _ _ (hp p h)⟩
    obtain ⟨fa, hfa, hcall⟩ := call w mb mg pins hFi s₂ a vs' ns G2 hlen hIs hInts
    refine ⟨_, s₂, hlaid, ?_⟩
    refine wpAny_bind (wpAny_nsGet G2.g ?_)
    have hfa' : mg l.row.name = some (.ref fa) := hfa
    rw [hfa']
    refine wpAny_bind (wpAny_mono hcall (fun v s' hpat => ?_) fun _ _ x => x.elim)
    obtain ⟨g, hv⟩ := hpat
    subst hv
    obtain ⟨⟨h', tk, rfl⟩, k⟩ := g
    obtain ⟨hsame, hu, ha, hap, hm⟩ := frees_parts (r := l.row.toRowW) rfl
    have gw : GoodWG l.row.toRowW.claim (classAt s₁.heap) (ExcName.means s₁.heap) [.list (ns.map WData.int)] s₂ (.ok (.ret (.bool true))) { s₂ with heap := h', toks := tk } :=
      ⟨.inl ⟨.bool true, .bool true, [], rfl, fun _ => rfl, .bool true, by simp [RowW.claim, OpenLaw.row, WShape.has, WShape.arms, WTm.holds, WTm.value, PySem.W.same], fun _ => ⟨List.nodup_nil, fun _ h => nomatch h⟩⟩, .of_keep k, rfl, .of_eq Ld.gens⟩
    have z := gw.laid (c := l.row.toRowW.claim) hsame rfl (ident_freeW hu ha hap) Ld
    exact wpAny_pure ⟨_, rfl, z.1, z.2.1, z.2.2, fun q => by rw [show l.row.writes = l.writes from rfl, hwr] at q; cases q⟩
end Mine
-- ZH8
set_option maxRecDepth 100000
set_option linter.unusedVariables false
set_option linter.unusedSimpArgs false
namespace Mine
open PySem PySem.Calls PyProof.Rows PySem.W
def argsOf : Stmt → Arguments
  | .FunctionDef _ a .. => a
  | _ => default
def dictK : Stmt → List (Option Expr)
  | .Assign _ (.Dict k _ _) _ => k
  | _ => []
def dictV : Stmt → List Expr
  | .Assign _ (.Dict _ v _) _ => v
  | _ => []
def tabAt (st : Stmt) : List (Int × Str) := (tabOf (dictK st) (dictV st)).getD []
theorem sortedNodup : ∀ (l : List Int), (l.zip l.tail).all (fun p => decide (p.1 < p.2)) = true → l.Nodup := by
  intro l h
  have key : ∀ (l : List Int) (x : Int), ((x :: l).zip l).all (fun p => decide (p.1 < p.2)) = true → (∀ y ∈ l, x < y) ∧ l.Nodup := by
    intro l
    induction l with
    | nil => intro x _; exact ⟨(fun _ h => nomatch h), List.nodup_nil⟩
    | cons y l ih =>
      intro x h
      simp only [List.zip_cons_cons, List.all_cons, Bool.and_eq_true, decide_eq_true_eq] at h
      obtain ⟨h1, h2⟩ := ih y h.2
      refine ⟨fun z hz => ?_, ?_⟩
      · rcases List.mem_cons.mp hz with rfl | hz
        · exact h.1
        · exact Int.lt_trans h.1 (h1 z hz)
      · exact List.nodup_cons.mpr ⟨fun q => absurd (h1 y q) (Int.lt_irrefl y), h2⟩
  cases l with
  | nil => exact List.nodup_nil
  | cons x l =>
    obtain ⟨h1, h2⟩ := key l x h
    exact List.nodup_cons.mpr ⟨fun q => absurd (h1 x q) (Int.lt_irrefl x), h2⟩
theorem look_hit {L : List (Str × Value)} {m : Str → Option Value} {x : Str} {v : Value} : look ((x, v) :: L) m x = some v := by simp [look]
theorem lookup_at {β : Type} : ∀ {l : List (Str × β)} {i : Nat} {x : Str} {v : β}, (l.map (·.1)).Nodup → l[i]? = some (x, v) → l.lookup x = some v
  | [], i, x, v, _, h => by simp at h
  | (y, u) :: l, 0, x, v, _, h => by
    simp at h
    obtain ⟨rfl, rfl⟩ := h
    simp
  | (y, u) :: l, i + 1, x, v, n, h => by
    simp at h
    rw [List.map_cons, List.nodup_cons] at n
    have hne : (x == y) = false := beq_eq_false_iff_ne.mpr fun e => n.1 (e ▸ List.mem_map.mpr ⟨_, List.mem_of_getElem? h, rfl⟩)
    rw [List.lookup_cons]
    simp only [hne]
    exact lookup_at n.2 h
theorem look_none {L : List (Str × Value)} {m : Str → Option Value} {x y : Str} {u : Value} (h : (x == y) = false) (k : look L m x = none) : look ((y, u) :: L) m x = none := by
  unfold look at k ⊢
  rw [List.lookup_cons]
  simp only [h]
  exact k
theorem nq {l : List Str} (n : l.Nodup) {i j : Nat} {x y : Str} (h1 : l[i]? = some x) (h2 : l[j]? = some y) (h : i ≠ j) : (x == y) = false :=
  beq_eq_false_iff_ne.mpr fun e => by
    subst e
    obtain ⟨a, b⟩ := List.getElem?_eq_some_iff.mp h1
    obtain ⟨c, d⟩ := List.getElem?_eq_some_iff.mp h2
    exact h ((List.getElem_inj n).mp (b.trans d.symm))
theorem look_skip {L : List (Str × Value)} {m : Str → Option Value} {x y : Str} {v u : Value} (h : (x == y) = false) (k : look L m x = some v) : look ((y, u) :: L) m x = some v := by
  unfold look at k ⊢
  rw [List.lookup_cons]
  simp only [h]
  exact k

theorem body_eq : behindTheImports PW = [stmtAt PW 0, stmtAt PW 1, stmtAt PW 2, stmtAt PW 3, stmtAt PW 4, stmtAt PW 5, stmtAt PW 6, stmtAt PW 7, stmtAt PW 8, stmtAt PW 9, stmtAt PW 10, stmtAt PW 11, stmtAt PW 12, stmtAt PW 13, stmtAt PW 14, stmtAt PW 15, stmtAt PW 16, stmtAt PW 17, stmtAt PW 18, stmtAt PW 19, stmtAt PW 20, stmtAt PW 21] := by rfl
theorem scNodup : (PW.main.scope.names.map (·.1)).Nodup := by decide +kernel
theorem qualOf {f : Str} (h : PW.main.scope.names.lookup f = some .local) : qualnameIn { scope := PW.main.scope, locals := mainGlobals, globals := mainGlobals, cells := [] } f f = f := by
  unfold qualnameIn Env.kindOf
  rw [h]
  show ("" : Str) ++ f = f
  cases f
  show Str.append _ _ = _
  simp [Str.append, show (Str.ofString "").cps = #[] by decide +kernel]
theorem len1 {vs : List Value} (h : vs.length = 1) : ∃ a, vs = [a] := List.length_eq_one_iff.mp h
theorem len2 {vs : List Value} (h : vs.length = 2) : ∃ a b, vs = [a, b] := by
  cases vs with
  | nil => exact nomatch h
  | cons a r =>
    obtain ⟨b, rfl⟩ := len1 (Nat.succ.inj h)
    exact ⟨a, b, rfl⟩
theorem len3 {vs : List Value} (h : vs.length = 3) : ∃ a b c, vs = [a, b, c] := by
  cases vs with
  | nil => exact nomatch h
  | cons a r =>
    obtain ⟨b, c, rfl⟩ := len2 (Nat.succ.inj h)
    exact ⟨a, b, c, rfl⟩
theorem s0_eq : stmtAt PW 0 = .Assign [.Name "__name__" ⟨1, 0, 1, 8⟩] (.Constant (.str "cpy313.stringprep") 0 ⟨1, 11, 1, 30⟩) ⟨1, 0, 1, 30⟩ := by rfl
theorem s2_eq : stmtAt PW 2 = .FunctionDef "in_table_b1" (argsOf (stmtAt PW 2)) (bodyOf (stmtAt PW 2)) [] none [] (scopeOf (stmtAt PW 2)) none "in_table_b1" ⟨3, 0, 4, 30⟩ := by rfl
theorem s2_tree : PlainDefTree "in_table_b1" (argsOf (stmtAt PW 2)) (bodyOf (stmtAt PW 2)) (scopeOf (stmtAt PW 2)) ⟨3, 0, 4, 30⟩ := fun env => rfl
theorem s2_free : ∀ x ∈ (scopeOf (stmtAt PW 2)).names, x.2 ≠ .free := by decide +kernel
theorem s2_doc : docOf (bodyOf (stmtAt PW 2)) = none := by rfl
theorem s2_q : qualnameIn { scope := PW.main.scope, locals := mainGlobals, globals := mainGlobals, cells := [] } "in_table_b1" "in_table_b1" = "in_table_b1" := qualOf (lookup_at (i := 5) scNodup rfl)
theorem s2_bind (pm code : Value) (vs : List Value) (h : vs.length = (["code"] : List Str).length) : bindArgs (plainDef "in_table_b1" (argsOf (stmtAt PW 2)) (bodyOf (stmtAt PW 2)) (scopeOf (stmtAt PW 2)) pm code) ⟨vs, []⟩ = pure ((["code"] : List Str).zip vs) := by
  obtain ⟨v0, rfl⟩ := len1 h
  rfl
theorem s4_eq : stmtAt PW 4 = .FunctionDef "map_table_b3" (argsOf (stmtAt PW 4)) (bodyOf (stmtAt PW 4)) [] none [] (scopeOf (stmtAt PW 4)) none "map_table_b3" ⟨6, 0, 10, 23⟩ := by rfl
theorem s4_tree : PlainDefTree "map_table_b3" (argsOf (stmtAt PW 4)) (bodyOf (stmtAt PW 4)) (scopeOf (stmtAt PW 4)) ⟨6, 0, 10, 23⟩ := fun env => rfl
theorem s4_free : ∀ x ∈ (scopeOf (stmtAt PW 4)).names, x.2 ≠ .free := by decide +kernel
theorem s4_doc : docOf (bodyOf (stmtAt PW 4)) = none := by rfl
theorem s4_q : qualnameIn { scope := PW.main.scope, locals := mainGlobals, globals := mainGlobals, cells := [] } "map_table_b3" "map_table_b3" = "map_table_b3" := qualOf (lookup_at (i := 7) scNodup rfl)
theorem s4_bind (pm code : Value) (vs : List Value) (h : vs.length = (["code"] : List Str).length) : bindArgs (plainDef "map_table_b3" (argsOf (stmtAt PW 4)) (bodyOf (stmtAt PW 4)) (scopeOf (stmtAt PW 4)) pm code) ⟨vs, []⟩ = pure ((["code"] : List Str).zip vs) := by
  obtain ⟨v0, rfl⟩ := len1 h
  rfl
theorem s5_eq : stmtAt PW 5 = .Assign [.Name "__name__" ⟨11, 0, 11, 8⟩] (.Constant (.str "cpy313.dis") 0 ⟨11, 11, 11, 23⟩) ⟨11, 0, 11, 23⟩ := by rfl
theorem s7_eq : stmtAt PW 7 = .FunctionDef "pretty_flags" (argsOf (stmtAt PW 7)) (bodyOf (stmtAt PW 7)) [] none [] (scopeOf (stmtAt PW 7)) none "pretty_flags" ⟨13, 0, 24, 27⟩ := by rfl
theorem s7_tree : PlainDefTree "pretty_flags" (argsOf (stmtAt PW 7)) (bodyOf (stmtAt PW 7)) (scopeOf (stmtAt PW 7)) ⟨13, 0, 24, 27⟩ := fun env => rfl
theorem s7_free : ∀ x ∈ (scopeOf (stmtAt PW 7)).names, x.2 ≠ .free := by decide +kernel
theorem s7_doc : docOf (bodyOf (stmtAt PW 7)) = none := by rfl
theorem s7_q : qualnameIn { scope := PW.main.scope, locals := mainGlobals, globals := mainGlobals, cells := [] } "pretty_flags" "pretty_flags" = "pretty_flags" := qualOf (lookup_at (i := 9) scNodup rfl)
theorem s7_bind (pm code : Value) (vs : List Value) (h : vs.length = (["flags"] : List Str).length) : bindArgs (plainDef "pretty_flags" (argsOf (stmtAt PW 7)) (bodyOf (stmtAt PW 7)) (scopeOf (stmtAt PW 7)) pm code) ⟨vs, []⟩ = pure ((["flags"] : List Str).zip vs) := by
  obtain ⟨v0, rfl⟩ := len1 h
  rfl
theorem s8_eq : stmtAt PW 8 = .FunctionDef "_parse_varint" (argsOf (stmtAt PW 8)) (bodyOf (stmtAt PW 8)) [] none [] (scopeOf (stmtAt PW 8)) none "_parse_varint" ⟨25, 0, 32, 14⟩ := by rfl
theorem s8_tree : PlainDefTree "_parse_varint" (argsOf (stmtAt PW 8)) (bodyOf (stmtAt PW 8)) (scopeOf (stmtAt PW 8)) ⟨25, 0, 32, 14⟩ := fun env => rfl
theorem s8_free : ∀ x ∈ (scopeOf (stmtAt PW 8)).names, x.2 ≠ .free := by decide +kernel
theorem s8_doc : docOf (bodyOf (stmtAt PW 8)) = none := by rfl
theorem s8_q : qualnameIn { scope := PW.main.scope, locals := mainGlobals, globals := mainGlobals, cells := [] } "_parse_varint" "_parse_varint" = "_parse_varint" := qualOf (lookup_at (i := 10) scNodup rfl)
theorem s8_bind (pm code : Value) (vs : List Value) (h : vs.length = (["iterator"] : List Str).length) : bindArgs (plainDef "_parse_varint" (argsOf (stmtAt PW 8)) (bodyOf (stmtAt PW 8)) (scopeOf (stmtAt PW 8)) pm code) ⟨vs, []⟩ = pure ((["iterator"] : List Str).zip vs) := by
  obtain ⟨v0, rfl⟩ := len1 h
  rfl
theorem s9_eq : stmtAt PW 9 = .Assign [.Name "__name__" ⟨33, 0, 33, 8⟩] (.Constant (.str "cpy313.traceback") 0 ⟨33, 11, 33, 29⟩) ⟨33, 0, 33, 29⟩ := by rfl
theorem s10_eq : stmtAt PW 10 = .Assign [.Name "_MAX_STRING_SIZE" ⟨34, 0, 34, 16⟩] (.Constant (.int 40) 0 ⟨34, 19, 34, 21⟩) ⟨34, 0, 34, 21⟩ := by rfl
theorem s11_eq : stmtAt PW 11 = .Assign [.Name "_MOVE_COST" ⟨35, 0, 35, 10⟩] (.Constant (.int 2) 0 ⟨35, 13, 35, 14⟩) ⟨35, 0, 35, 14⟩ := by rfl
theorem s12_eq : stmtAt PW 12 = .Assign [.Name "_CASE_COST" ⟨36, 0, 36, 10⟩] (.Constant (.int 1) 0 ⟨36, 13, 36, 14⟩) ⟨36, 0, 36, 14⟩ := by rfl
theorem s13_eq : stmtAt PW 13 = .FunctionDef "_substitution_cost" (argsOf (stmtAt PW 13)) (bodyOf (stmtAt PW 13)) [] none [] (scopeOf (stmtAt PW 13)) none "_substitution_cost" ⟨37, 0, 42, 21⟩ := by rfl
theorem s13_tree : PlainDefTree "_substitution_cost" (argsOf (stmtAt PW 13)) (bodyOf (stmtAt PW 13)) (scopeOf (stmtAt PW 13)) ⟨37, 0, 42, 21⟩ := fun env => rfl
theorem s13_free : ∀ x ∈ (scopeOf (stmtAt PW 13)).names, x.2 ≠ .free := by decide +kernel
theorem s13_doc : docOf (bodyOf (stmtAt PW 13)) = none := by rfl
theorem s13_q : qualnameIn { scope := PW.main.scope, locals := mainGlobals, globals := mainGlobals, cells := [] } "_substitution_cost" "_substitution_cost" = "_substitution_cost" := qualOf (lookup_at (i := 14) scNodup rfl)
theorem s13_bind (pm code : Value) (vs : List Value) (h : vs.length = (["ch_a", "ch_b"] : List Str).length) : bindArgs (plainDef "_substitution_cost" (argsOf (stmtAt PW 13)) (bodyOf (stmtAt PW 13)) (scopeOf (stmtAt PW 13)) pm code) ⟨vs, []⟩ = pure ((["ch_a", "ch_b"] : List Str).zip vs) := by
  obtain ⟨v0, v1, rfl⟩ := len2 h
  rfl
theorem s14_eq : stmtAt PW 14 = .FunctionDef "_levenshtein_distance" (argsOf (stmtAt PW 14)) (bodyOf (stmtAt PW 14)) [] none [] (scopeOf (stmtAt PW 14)) none "_levenshtein_distance" ⟨43, 0, 80, 17⟩ := by rfl
theorem s14_tree : PlainDefTree "_levenshtein_distance" (argsOf (stmtAt PW 14)) (bodyOf (stmtAt PW 14)) (scopeOf (stmtAt PW 14)) ⟨43, 0, 80, 17⟩ := fun env => rfl
theorem s14_free : ∀ x ∈ (scopeOf (stmtAt PW 14)).names, x.2 ≠ .free := by decide +kernel
theorem s14_doc : docOf (bodyOf (stmtAt PW 14)) = none := by rfl
theorem s14_q : qualnameIn { scope := PW.main.scope, locals := mainGlobals, globals := mainGlobals, cells := [] } "_levenshtein_distance" "_levenshtein_distance" = "_levenshtein_distance" := qualOf (lookup_at (i := 15) scNodup rfl)
theorem s14_bind (pm code : Value) (vs : List Value) (h : vs.length = (["a", "b", "max_cost"] : List Str).length) : bindArgs (plainDef "_levenshtein_distance" (argsOf (stmtAt PW 14)) (bodyOf (stmtAt PW 14)) (scopeOf (stmtAt PW 14)) pm code) ⟨vs, []⟩ = pure ((["a", "b", "max_cost"] : List Str).zip vs) := by
  obtain ⟨v0, v1, v2, rfl⟩ := len3 h
  rfl
theorem s15_eq : stmtAt PW 15 = .Assign [.Name "__name__" ⟨81, 0, 81, 8⟩] (.Constant (.str "law_rl0114_02") 0 ⟨81, 11, 81, 26⟩) ⟨81, 0, 81, 26⟩ := by rfl
theorem s16_eq : stmtAt PW 16 = .FunctionDef "_law_pairs" (argsOf (stmtAt PW 16)) (bodyOf (stmtAt PW 16)) [] none [] (scopeOf (stmtAt PW 16)) none "_law_pairs" ⟨82, 0, 84, 102⟩ := by rfl
theorem s16_tree : PlainDefTree "_law_pairs" (argsOf (stmtAt PW 16)) (bodyOf (stmtAt PW 16)) (scopeOf (stmtAt PW 16)) ⟨82, 0, 84, 102⟩ := fun env => rfl
theorem s16_free : ∀ x ∈ (scopeOf (stmtAt PW 16)).names, x.2 ≠ .free := by decide +kernel
theorem s16_doc : docOf (bodyOf (stmtAt PW 16)) = none := by rfl
theorem s16_q : qualnameIn { scope := PW.main.scope, locals := mainGlobals, globals := mainGlobals, cells := [] } "_law_pairs" "_law_pairs" = "_law_pairs" := qualOf (lookup_at (i := 16) scNodup rfl)
theorem s16_bind (pm code : Value) (vs : List Value) (h : vs.length = ([] : List Str).length) : bindArgs (plainDef "_law_pairs" (argsOf (stmtAt PW 16)) (bodyOf (stmtAt PW 16)) (scopeOf (stmtAt PW 16)) pm code) ⟨vs, []⟩ = pure (([] : List Str).zip vs) := by
  obtain rfl := List.length_eq_zero_iff.mp h
  rfl
theorem s17_eq : stmtAt PW 17 = .FunctionDef "_law_words" (argsOf (stmtAt PW 17)) (bodyOf (stmtAt PW 17)) [] none [] (scopeOf (stmtAt PW 17)) none "_law_words" ⟨85, 0, 87, 123⟩ := by rfl
theorem s17_tree : PlainDefTree "_law_words" (argsOf (stmtAt PW 17)) (bodyOf (stmtAt PW 17)) (scopeOf (stmtAt PW 17)) ⟨85, 0, 87, 123⟩ := fun env => rfl
theorem s17_free : ∀ x ∈ (scopeOf (stmtAt PW 17)).names, x.2 ≠ .free := by decide +kernel
theorem s17_doc : docOf (bodyOf (stmtAt PW 17)) = none := by rfl
theorem s17_q : qualnameIn { scope := PW.main.scope, locals := mainGlobals, globals := mainGlobals, cells := [] } "_law_words" "_law_words" = "_law_words" := qualOf (lookup_at (i := 17) scNodup rfl)
theorem s17_bind (pm code : Value) (vs : List Value) (h : vs.length = (["number"] : List Str).length) : bindArgs (plainDef "_law_words" (argsOf (stmtAt PW 17)) (bodyOf (stmtAt PW 17)) (scopeOf (stmtAt PW 17)) pm code) ⟨vs, []⟩ = pure ((["number"] : List Str).zip vs) := by
  obtain ⟨v0, rfl⟩ := len1 h
  rfl
theorem s18_eq : stmtAt PW 18 = .FunctionDef "_law_numbers" (argsOf (stmtAt PW 18)) (bodyOf (stmtAt PW 18)) [] none [] (scopeOf (stmtAt PW 18)) none "_law_numbers" ⟨88, 0, 96, 21⟩ := by rfl
theorem s18_tree : PlainDefTree "_law_numbers" (argsOf (stmtAt PW 18)) (bodyOf (stmtAt PW 18)) (scopeOf (stmtAt PW 18)) ⟨88, 0, 96, 21⟩ := fun env => rfl
theorem s18_free : ∀ x ∈ (scopeOf (stmtAt PW 18)).names, x.2 ≠ .free := by decide +kernel
theorem s18_doc : docOf (bodyOf (stmtAt PW 18)) = none := by rfl
theorem s18_q : qualnameIn { scope := PW.main.scope, locals := mainGlobals, globals := mainGlobals, cells := [] } "_law_numbers" "_law_numbers" = "_law_numbers" := qualOf (lookup_at (i := 18) scNodup rfl)
theorem s18_bind (pm code : Value) (vs : List Value) (h : vs.length = (["codes"] : List Str).length) : bindArgs (plainDef "_law_numbers" (argsOf (stmtAt PW 18)) (bodyOf (stmtAt PW 18)) (scopeOf (stmtAt PW 18)) pm code) ⟨vs, []⟩ = pure ((["codes"] : List Str).zip vs) := by
  obtain ⟨v0, rfl⟩ := len1 h
  rfl
theorem s19_eq : stmtAt PW 19 = .FunctionDef "_law_read" (argsOf (stmtAt PW 19)) (bodyOf (stmtAt PW 19)) [] none [] (scopeOf (stmtAt PW 19)) none "_law_read" ⟨97, 0, 104, 23⟩ := by rfl
theorem s19_tree : PlainDefTree "_law_read" (argsOf (stmtAt PW 19)) (bodyOf (stmtAt PW 19)) (scopeOf (stmtAt PW 19)) ⟨97, 0, 104, 23⟩ := fun env => rfl
theorem s19_free : ∀ x ∈ (scopeOf (stmtAt PW 19)).names, x.2 ≠ .free := by decide +kernel
theorem s19_doc : docOf (bodyOf (stmtAt PW 19)) = none := by rfl
theorem s19_q : qualnameIn { scope := PW.main.scope, locals := mainGlobals, globals := mainGlobals, cells := [] } "_law_read" "_law_read" = "_law_read" := qualOf (lookup_at (i := 19) scNodup rfl)
theorem s19_bind (pm code : Value) (vs : List Value) (h : vs.length = (["text"] : List Str).length) : bindArgs (plainDef "_law_read" (argsOf (stmtAt PW 19)) (bodyOf (stmtAt PW 19)) (scopeOf (stmtAt PW 19)) pm code) ⟨vs, []⟩ = pure ((["text"] : List Str).zip vs) := by
  obtain ⟨v0, rfl⟩ := len1 h
  rfl
theorem s20_eq : stmtAt PW 20 = .FunctionDef "_law_turned" (argsOf (stmtAt PW 20)) (bodyOf (stmtAt PW 20)) [] none [] (scopeOf (stmtAt PW 20)) none "_law_turned" ⟨105, 0, 115, 17⟩ := by rfl
theorem s20_tree : PlainDefTree "_law_turned" (argsOf (stmtAt PW 20)) (bodyOf (stmtAt PW 20)) (scopeOf (stmtAt PW 20)) ⟨105, 0, 115, 17⟩ := fun env => rfl
theorem s20_free : ∀ x ∈ (scopeOf (stmtAt PW 20)).names, x.2 ≠ .free := by decide +kernel
theorem s20_doc : docOf (bodyOf (stmtAt PW 20)) = none := by rfl
theorem s20_q : qualnameIn { scope := PW.main.scope, locals := mainGlobals, globals := mainGlobals, cells := [] } "_law_turned" "_law_turned" = "_law_turned" := qualOf (lookup_at (i := 20) scNodup rfl)
theorem s20_bind (pm code : Value) (vs : List Value) (h : vs.length = (["before", "after"] : List Str).length) : bindArgs (plainDef "_law_turned" (argsOf (stmtAt PW 20)) (bodyOf (stmtAt PW 20)) (scopeOf (stmtAt PW 20)) pm code) ⟨vs, []⟩ = pure ((["before", "after"] : List Str).zip vs) := by
  obtain ⟨v0, v1, rfl⟩ := len2 h
  rfl
theorem s21_eq : stmtAt PW 21 = .FunctionDef "law" (argsOf (stmtAt PW 21)) (bodyOf (stmtAt PW 21)) [] none [] (scopeOf (stmtAt PW 21)) none "law" ⟨116, 0, 149, 115⟩ := by rfl
theorem s21_tree : PlainDefTree "law" (argsOf (stmtAt PW 21)) (bodyOf (stmtAt PW 21)) (scopeOf (stmtAt PW 21)) ⟨116, 0, 149, 115⟩ := fun env => rfl
theorem s21_free : ∀ x ∈ (scopeOf (stmtAt PW 21)).names, x.2 ≠ .free := by decide +kernel
theorem s21_doc : docOf (bodyOf (stmtAt PW 21)) = none := by rfl
theorem s21_q : qualnameIn { scope := PW.main.scope, locals := mainGlobals, globals := mainGlobals, cells := [] } "law" "law" = "law" := qualOf (lookup_at (i := 21) scNodup rfl)
theorem s21_bind (pm code : Value) (vs : List Value) (h : vs.length = (["script"] : List Str).length) : bindArgs (plainDef "law" (argsOf (stmtAt PW 21)) (bodyOf (stmtAt PW 21)) (scopeOf (stmtAt PW 21)) pm code) ⟨vs, []⟩ = pure ((["script"] : List Str).zip vs) := by
  obtain ⟨v0, rfl⟩ := len1 h
  rfl
def topNames : List Str := ["__name__", "b1_set", "in_table_b1", "b3_exceptions", "map_table_b3", "COMPILER_FLAG_NAMES", "pretty_flags", "_parse_varint", "_MAX_STRING_SIZE", "_MOVE_COST", "_CASE_COST", "_substitution_cost", "_levenshtein_distance", "_law_pairs", "_law_words", "_law_numbers", "_law_read", "_law_turned", "law"]
theorem topNodup : topNames.Nodup := by decide +kernel
def flagTab : List (Int × Str) := tabAt (stmtAt PW 6)
def b3Tab : List (Int × Str) := tabAt (stmtAt PW 3)
def b1L : List Int := [173, 847, 6150, 6155, 6156, 6157, 8203, 8204, 8205, 8288, 65279] ++ (List.range (65040 - 65024 : Int).toNat).map fun (j : Nat) => (65024 : Int) + (j : Int)
def b1F (i : Int) : Bool := b1L.any (· == i)
theorem s3_tab : tabOf (dictK (stmtAt PW 3)) (dictV (stmtAt PW 3)) = some b3Tab := by
  have : (tabOf (dictK (stmtAt PW 3)) (dictV (stmtAt PW 3))).isSome = true := by decide +kernel
  unfold b3Tab tabAt
  cases e : tabOf (dictK (stmtAt PW 3)) (dictV (stmtAt PW 3)) with
  | none => rw [e] at this; cases this
  | some x => rfl
theorem s3_nodup : (b3Tab.map (·.1)).Nodup := sortedNodup _ (by decide +kernel)
theorem s3_len : b3Tab.length ≤ 1000 := by decide +kernel
theorem s3_ne : b3Tab ≠ [] := by
  intro e
  have h : b3Tab.length ≠ 0 := by decide +kernel
  rw [e] at h
  exact h rfl
theorem s3_eq : ∃ a b c, stmtAt PW 3 = .Assign [.Name "b3_exceptions" a] (.Dict (dictK (stmtAt PW 3)) (dictV (stmtAt PW 3)) b) c := ⟨_, _, _, rfl⟩
theorem s6_tab : tabOf (dictK (stmtAt PW 6)) (dictV (stmtAt PW 6)) = some flagTab := by
  have : (tabOf (dictK (stmtAt PW 6)) (dictV (stmtAt PW 6))).isSome = true := by decide +kernel
  unfold flagTab tabAt
  cases e : tabOf (dictK (stmtAt PW 6)) (dictV (stmtAt PW 6)) with
  | none => rw [e] at this; cases this
  | some x => rfl
theorem s6_nodup : (flagTab.map (·.1)).Nodup := sortedNodup _ (by decide +kernel)
theorem s6_len : flagTab.length ≤ 1000 := by decide +kernel
theorem s6_ne : flagTab ≠ [] := by
  intro e
  have h : flagTab.length ≠ 0 := by decide +kernel
  rw [e] at h
  exact h rfl
theorem s6_eq : ∃ a b c, stmtAt PW 6 = .Assign [.Name "COMPILER_FLAG_NAMES" a] (.Dict (dictK (stmtAt PW 6)) (dictV (stmtAt PW 6)) b) c := ⟨_, _, _, rfl⟩
def setEs : Stmt → List Expr
  | .Assign _ (.Call _ [.BinOp (.List es _) _ _ _] _ _) _ => es
  | _ => []
def setRs : Stmt → List Expr
  | .Assign _ (.Call _ [.BinOp _ _ (.Call _ [.Call _ rs _ _] _ _) _] _ _) _ => rs
  | _ => []
theorem s1_eq : ∃ pos' p1 p2 p3 p4 p5 p6 p7 p8 pos, stmtAt PW 1 = .Assign [.Name "b1_set" pos'] (.Call (.Name "set" p1) [.BinOp (.List (setEs (stmtAt PW 1)) p2) .Add (.Call (.Name "list" p3) [.Call (.Name "range" p4) (setRs (stmtAt PW 1)) [] p5] [] p6) p7] [] p8) pos := ⟨_, _, _, _, _, _, _, _, _, _, rfl⟩

/-- what the head leaves -/
structure Left (w : World) (mb mg : Str → Option Value) (pins : List (Addr × Obj)) : Prop where
  base : Base PW w mg mb pins (tabFn flagTab) (tabFn b3Tab) b1F
  bi : ∀ x v, x ∉ topNames → x ∉ bootMainNames → bootBuiltins x = some v → BI mg mb x v
  f2 : FnPin mg pins "in_table_b1" (stmtAt PW 2) ["code"]
  f4 : FnPin mg pins "map_table_b3" (stmtAt PW 4) ["code"]
  f7 : FnPin mg pins "pretty_flags" (stmtAt PW 7) ["flags"]
  f8 : FnPin mg pins "_parse_varint" (stmtAt PW 8) ["iterator"]
  f13 : FnPin mg pins "_substitution_cost" (stmtAt PW 13) ["ch_a", "ch_b"]
  f14 : FnPin mg pins "_levenshtein_distance" (stmtAt PW 14) ["a", "b", "max_cost"]
  f16 : FnPin mg pins "_law_pairs" (stmtAt PW 16) []
  f17 : FnPin mg pins "_law_words" (stmtAt PW 17) ["number"]
  f18 : FnPin mg pins "_law_numbers" (stmtAt PW 18) ["codes"]
  f19 : FnPin mg pins "_law_read" (stmtAt PW 19) ["text"]
  f20 : FnPin mg pins "_law_turned" (stmtAt PW 20) ["before", "after"]
  f21 : FnPin mg pins "law" (stmtAt PW 21) ["script"]
  law : ∃ a pm c', mg "law" = some (.ref a) ∧ (a, ({ cls := .type "function", data := .func (plainDef "law" (argsOf (stmtAt PW 21)) (bodyOf (stmtAt PW 21)) (scopeOf (stmtAt PW 21)) pm (.ref c')) } : Obj)) ∈ pins

theorem dictPin_of {w : World} {mg : Str → Option Value} {pins : List (Addr × Obj)} {D : Str} {d : Addr} {o : Obj} {kvs : List (Int × Value)} {tab : List (Int × Str)} (h1 : mg D = some (.ref d)) (h2 : (d, o) ∈ pins)
    (h3 : ∀ h'' : Heap, h''.get? d = some o → h''.MapOf (intKind PW w) d (valueAt kvs)) (h4 : TabIs kvs tab) (h5 : (d == sysModules) = false) : DictPin PW w mg pins D (tabFn tab) := by
  refine ⟨d, o, valueAt kvs, h1, h2, h5, h3, fun k => ?_⟩
  rcases h4.value k with q | ⟨x, u, e1, e2⟩
  · exact .inl q
  · exact .inr ⟨_, _, e1, e2, rfl⟩
theorem fnPin_of {mg : Str → Option Value} {pins : List (Addr × Obj)} {f : Str} {a c' : Addr} {oc : Obj} {pm : Value} {st : Stmt} {ns : List Str} (h1 : mg f = some (.ref a))
    (h2 : (a, ({ cls := .type "function", data := .func (plainDef f (argsOf st) (bodyOf st) (scopeOf st) pm (.ref c')) } : Obj)) ∈ pins) (h3 : (c', oc) ∈ pins) (h4 : ∀ h'' : Heap, h''.get? c' = some oc → h''.CodeRec (.ref c') f)
    (h5 : ∀ vs : List Value, vs.length = ns.length → bindArgs (plainDef f (argsOf st) (bodyOf st) (scopeOf st) pm (.ref c')) ⟨vs, []⟩ = pure (ns.zip vs)) : FnPin mg pins f st ns :=
  ⟨a, _, _, h1, h2, rfl, rfl, rfl, rfl, rfl, rfl, fun h hp => h4 h (hp _ h3), h5⟩
theorem biOf {L : List (Str × Value)} {mb mg₀ : Str → Option Value} {h : Heap} (B : Boo h mb mg₀) (hL : ∀ x ∈ L.map (·.1), x ∈ topNames) (x : Str) (v : Value) (h1 : x ∉ topNames) (h2 : x ∉ bootMainNames) (h3 : bootBuiltins x = some v) : BI (look L mg₀) mb x v := by
  refine ⟨(look_not fun q => h1 (hL x q)).trans (B.others x h2), (B.builtins x fun e => h2 ?_).trans h3⟩
  subst e; decide +kernel
set_option maxHeartbeats 2000000 in
theorem topWalk (w : World) : TopWalk PW w (Left w) := by
  intro A s mb mg₀ h₀ c Pl F Q hA B T0 hQ
  rw [body_eq]
  refine RunS.it ?_
  refine RunS.str s0_eq T0 (lookup_at (i := 0) scNodup rfl) (by decide +kernel) rfl fun h0 tk0 u0 T1 => ?_
  obtain ⟨q0, q1, q2, q3, q4, q5, q6, q7, q8, q9, q⟩ := s1_eq
  have n_set : look [("__name__", .str "cpy313.stringprep" u0)] mg₀ "set" = none := (look_none (nq (l := "set" :: topNames) (i := 0) (j := 1) (by decide +kernel) rfl rfl (by decide)) (show look [] mg₀ "set" = none from B.others _ (by decide +kernel)))
  have n_list : look [("__name__", .str "cpy313.stringprep" u0)] mg₀ "list" = none := (look_none (nq (l := "list" :: topNames) (i := 0) (j := 1) (by decide +kernel) rfl rfl (by decide)) (show look [] mg₀ "list" = none from B.others _ (by decide +kernel)))
  have n_range : look [("__name__", .str "cpy313.stringprep" u0)] mg₀ "range" = none := (look_none (nq (l := "range" :: topNames) (i := 0) (j := 1) (by decide +kernel) rfl rfl (by decide)) (show look [] mg₀ "range" = none from B.others _ (by decide +kernel)))
  have e_es : intsOf (setEs (stmtAt PW 1)) = some [173, 847, 6150, 6155, 6156, 6157, 8203, 8204, 8205, 8288, 65279] := by rfl
  have e_rs : intsOf (setRs (stmtAt PW 1)) = some [65024, 65040] := by rfl
  refine RunS.set (is := [173, 847, 6150, 6155, 6156, 6157, 8203, 8204, 8205, 8288, 65279]) (lo := 65024) (hi := 65040) q T1 B.b B.noLimit hA (lookup_at (i := 1) scNodup rfl) (by decide +kernel) rfl n_set n_list n_range
    ((B.builtins _ (by decide +kernel)).trans PyProof.Rows.Boot.«set») ((B.builtins _ (by decide +kernel)).trans PyProof.Rows.Boot.«list») ((B.builtins _ (by decide +kernel)).trans PyProof.Rows.Boot.«range») e_es e_rs (by decide) (by decide) (by decide) (by decide) fun h1 tk1 d1 od1 T2 S1 => ?_
  refine RunS.def_ s2_eq T2 s2_tree s2_free s2_doc (lookup_at (i := 5) scNodup rfl) s2_q (by decide +kernel) rfl (by kernel_rfl!) fun h2 tk2 a2 c2 oc2 pm2 T3 R2 => ?_
  obtain ⟨q1, q2, q3, q⟩ := s3_eq
  refine RunS.dict q T3 (lookup_at (i := 6) scNodup rfl) (by decide +kernel) rfl s3_tab s3_ne s3_nodup s3_len fun h3 tk3 d3 od3 kv3 T4 M3 I3 N3 => ?_
  refine RunS.def_ s4_eq T4 s4_tree s4_free s4_doc (lookup_at (i := 7) scNodup rfl) s4_q (by decide +kernel) rfl (by kernel_rfl!) fun h4 tk4 a4 c4 oc4 pm4 T5 R4 => ?_
  refine RunS.str s5_eq T5 (lookup_at (i := 0) scNodup rfl) (by decide +kernel) rfl fun h5 tk5 u5 T6 => ?_
  obtain ⟨q1, q2, q3, q⟩ := s6_eq
  refine RunS.dict q T6 (lookup_at (i := 8) scNodup rfl) (by decide +kernel) rfl s6_tab s6_ne s6_nodup s6_len fun h6 tk6 d6 od6 kv6 T7 M6 I6 N6 => ?_
  refine RunS.def_ s7_eq T7 s7_tree s7_free s7_doc (lookup_at (i := 9) scNodup rfl) s7_q (by decide +kernel) rfl (by kernel_rfl!) fun h7 tk7 a7 c7 oc7 pm7 T8 R7 => ?_
  refine RunS.def_ s8_eq T8 s8_tree s8_free s8_doc (lookup_at (i := 10) scNodup rfl) s8_q (by decide +kernel) rfl (by kernel_rfl!) fun h8 tk8 a8 c8 oc8 pm8 T9 R8 => ?_
  refine RunS.str s9_eq T9 (lookup_at (i := 0) scNodup rfl) (by decide +kernel) rfl fun h9 tk9 u9 T10 => ?_
  refine RunS.int s10_eq T10 (lookup_at (i := 11) scNodup rfl) (by decide +kernel) rfl fun h10 tk10 u10 T11 => ?_
  refine RunS.int s11_eq T11 (lookup_at (i := 12) scNodup rfl) (by decide +kernel) rfl fun h11 tk11 u11 T12 => ?_
  refine RunS.int s12_eq T12 (lookup_at (i := 13) scNodup rfl) (by decide +kernel) rfl fun h12 tk12 u12 T13 => ?_
  refine RunS.def_ s13_eq T13 s13_tree s13_free s13_doc (lookup_at (i := 14) scNodup rfl) s13_q (by decide +kernel) rfl (by kernel_rfl!) fun h13 tk13 a13 c13 oc13 pm13 T14 R13 => ?_
  refine RunS.def_ s14_eq T14 s14_tree s14_free s14_doc (lookup_at (i := 15) scNodup rfl) s14_q (by decide +kernel) rfl (by kernel_rfl!) fun h14 tk14 a14 c14 oc14 pm14 T15 R14 => ?_
  refine RunS.str s15_eq T15 (lookup_at (i := 0) scNodup rfl) (by decide +kernel) rfl fun h15 tk15 u15 T16 => ?_
  refine RunS.def_ s16_eq T16 s16_tree s16_free s16_doc (lookup_at (i := 16) scNodup rfl) s16_q (by decide +kernel) rfl (by kernel_rfl!) fun h16 tk16 a16 c16 oc16 pm16 T17 R16 => ?_
  refine RunS.def_ s17_eq T17 s17_tree s17_free s17_doc (lookup_at (i := 17) scNodup rfl) s17_q (by decide +kernel) rfl (by kernel_rfl!) fun h17 tk17 a17 c17 oc17 pm17 T18 R17 => ?_
  refine RunS.def_ s18_eq T18 s18_tree s18_free s18_doc (lookup_at (i := 18) scNodup rfl) s18_q (by decide +kernel) rfl (by kernel_rfl!) fun h18 tk18 a18 c18 oc18 pm18 T19 R18 => ?_
  refine RunS.def_ s19_eq T19 s19_tree s19_free s19_doc (lookup_at (i := 19) scNodup rfl) s19_q (by decide +kernel) rfl (by kernel_rfl!) fun h19 tk19 a19 c19 oc19 pm19 T20 R19 => ?_
  refine RunS.def_ s20_eq T20 s20_tree s20_free s20_doc (lookup_at (i := 20) scNodup rfl) s20_q (by decide +kernel) rfl (by kernel_rfl!) fun h20 tk20 a20 c20 oc20 pm20 T21 R20 => ?_
  refine RunS.def_ s21_eq T21 s21_tree s21_free s21_doc (lookup_at (i := 21) scNodup rfl) s21_q (by decide +kernel) rfl (by kernel_rfl!) fun h21 tk21 a21 c21 oc21 pm21 T22 R21 => ?_
  refine RunS.nil (hQ _ _ _ _ _ T22 ?_ ?_)
  · show ∀ x ∈ [("law" : Str), ("_law_turned" : Str), ("_law_read" : Str), ("_law_numbers" : Str), ("_law_words" : Str), ("_law_pairs" : Str), ("__name__" : Str), ("_levenshtein_distance" : Str), ("_substitution_cost" : Str), ("_CASE_COST" : Str), ("_MOVE_COST" : Str), ("_MAX_STRING_SIZE" : Str), ("__name__" : Str), ("_parse_varint" : Str), ("pretty_flags" : Str), ("COMPILER_FLAG_NAMES" : Str), ("__name__" : Str), ("map_table_b3" : Str), ("b3_exceptions" : Str), ("in_table_b1" : Str), ("b1_set" : Str), ("__name__" : Str)], _
    decide +kernel
  have hL : ∀ x ∈ [("law" : Str), ("_law_turned" : Str), ("_law_read" : Str), ("_law_numbers" : Str), ("_law_words" : Str), ("_law_pairs" : Str), ("__name__" : Str), ("_levenshtein_distance" : Str), ("_substitution_cost" : Str), ("_CASE_COST" : Str), ("_MOVE_COST" : Str), ("_MAX_STRING_SIZE" : Str), ("__name__" : Str), ("_parse_varint" : Str), ("pretty_flags" : Str), ("COMPILER_FLAG_NAMES" : Str), ("__name__" : Str), ("map_table_b3" : Str), ("b3_exceptions" : Str), ("in_table_b1" : Str), ("b1_set" : Str), ("__name__" : Str)], x ∈ topNames := by decide +kernel
  have hbi := biOf (L := [("law", .ref a21), ("_law_turned", .ref a20), ("_law_read", .ref a19), ("_law_numbers", .ref a18), ("_law_words", .ref a17), ("_law_pairs", .ref a16), ("__name__", .str "law_rl0114_02" u15), ("_levenshtein_distance", .ref a14), ("_substitution_cost", .ref a13), ("_CASE_COST", .int 1 u12), ("_MOVE_COST", .int 2 u11), ("_MAX_STRING_SIZE", .int 40 u10), ("__name__", .str "cpy313.traceback" u9), ("_parse_varint", .ref a8), ("pretty_flags", .ref a7), ("COMPILER_FLAG_NAMES", .ref d6), ("__name__", .str "cpy313.dis" u5), ("map_table_b3", .ref a4), ("b3_exceptions", .ref d3), ("in_table_b1", .ref a2), ("b1_set", .ref d1), ("__name__", .str "cpy313.stringprep" u0)]) B hL
  refine ⟨⟨⟨_, (look_skip (nq (i := 8) (j := 18) topNodup rfl rfl (by decide)) (look_skip (nq (i := 8) (j := 17) topNodup rfl rfl (by decide)) (look_skip (nq (i := 8) (j := 16) topNodup rfl rfl (by decide)) (look_skip (nq (i := 8) (j := 15) topNodup rfl rfl (by decide)) (look_skip (nq (i := 8) (j := 14) topNodup rfl rfl (by decide)) (look_skip (nq (i := 8) (j := 13) topNodup rfl rfl (by decide)) (look_skip (nq (i := 8) (j := 0) topNodup rfl rfl (by decide)) (look_skip (nq (i := 8) (j := 12) topNodup rfl rfl (by decide)) (look_skip (nq (i := 8) (j := 11) topNodup rfl rfl (by decide)) (look_skip (nq (i := 8) (j := 10) topNodup rfl rfl (by decide)) (look_skip (nq (i := 8) (j := 9) topNodup rfl rfl (by decide)) look_hit))))))))))), rfl⟩, ⟨_, (look_skip (nq (i := 9) (j := 18) topNodup rfl rfl (by decide)) (look_skip (nq (i := 9) (j := 17) topNodup rfl rfl (by decide)) (look_skip (nq (i := 9) (j := 16) topNodup rfl rfl (by decide)) (look_skip (nq (i := 9) (j := 15) topNodup rfl rfl (by decide)) (look_skip (nq (i := 9) (j := 14) topNodup rfl rfl (by decide)) (look_skip (nq (i := 9) (j := 13) topNodup rfl rfl (by decide)) (look_skip (nq (i := 9) (j := 0) topNodup rfl rfl (by decide)) (look_skip (nq (i := 9) (j := 12) topNodup rfl rfl (by decide)) (look_skip (nq (i := 9) (j := 11) topNodup rfl rfl (by decide)) (look_skip (nq (i := 9) (j := 10) topNodup rfl rfl (by decide)) look_hit)))))))))), rfl⟩, ⟨_, (look_skip (nq (i := 10) (j := 18) topNodup rfl rfl (by decide)) (look_skip (nq (i := 10) (j := 17) topNodup rfl rfl (by decide)) (look_skip (nq (i := 10) (j := 16) topNodup rfl rfl (by decide)) (look_skip (nq (i := 10) (j := 15) topNodup rfl rfl (by decide)) (look_skip (nq (i := 10) (j := 14) topNodup rfl rfl (by decide)) (look_skip (nq (i := 10) (j := 13) topNodup rfl rfl (by decide)) (look_skip (nq (i := 10) (j := 0) topNodup rfl rfl (by decide)) (look_skip (nq (i := 10) (j := 12) topNodup rfl rfl (by decide)) (look_skip (nq (i := 10) (j := 11) topNodup rfl rfl (by decide)) look_hit))))))))), rfl⟩, (hbi "len" _ (by decide +kernel) (by decide +kernel) PyProof.Rows.Boot.«len»), (hbi "min" _ (by decide +kernel) (by decide +kernel) PyProof.Rows.Boot.«min»), (hbi "hex" _ (by decide +kernel) (by decide +kernel) PyProof.Rows.Boot.«hex»), (hbi "sum" _ (by decide +kernel) (by decide +kernel) PyProof.Rows.Boot.«sum»), (hbi "ord" _ (by decide +kernel) (by decide +kernel) PyProof.Rows.Boot.«ord»), (hbi "chr" _ (by decide +kernel) (by decide +kernel) PyProof.Rows.Boot.«chr»), (hbi "bin" _ (by decide +kernel) (by decide +kernel) PyProof.Rows.Boot.«bin»), (hbi "iter" _ (by decide +kernel) (by decide +kernel) PyProof.Rows.Boot.«iter»), (hbi "next" _ (by decide +kernel) (by decide +kernel) PyProof.Rows.Boot.«next»), (hbi "range" _ (by decide +kernel) (by decide +kernel) PyProof.Rows.Boot.«range»), (hbi "list" _ (by decide +kernel) (by decide +kernel) PyProof.Rows.Boot.«list»), (hbi "tuple" _ (by decide +kernel) (by decide +kernel) PyProof.Rows.Boot.«tuple»),
    dictPin_of (look_skip (nq (i := 5) (j := 18) topNodup rfl rfl (by decide)) (look_skip (nq (i := 5) (j := 17) topNodup rfl rfl (by decide)) (look_skip (nq (i := 5) (j := 16) topNodup rfl rfl (by decide)) (look_skip (nq (i := 5) (j := 15) topNodup rfl rfl (by decide)) (look_skip (nq (i := 5) (j := 14) topNodup rfl rfl (by decide)) (look_skip (nq (i := 5) (j := 13) topNodup rfl rfl (by decide)) (look_skip (nq (i := 5) (j := 0) topNodup rfl rfl (by decide)) (look_skip (nq (i := 5) (j := 12) topNodup rfl rfl (by decide)) (look_skip (nq (i := 5) (j := 11) topNodup rfl rfl (by decide)) (look_skip (nq (i := 5) (j := 10) topNodup rfl rfl (by decide)) (look_skip (nq (i := 5) (j := 9) topNodup rfl rfl (by decide)) (look_skip (nq (i := 5) (j := 8) topNodup rfl rfl (by decide)) (look_skip (nq (i := 5) (j := 0) topNodup rfl rfl (by decide)) (look_skip (nq (i := 5) (j := 7) topNodup rfl rfl (by decide)) (look_skip (nq (i := 5) (j := 6) topNodup rfl rfl (by decide)) look_hit))))))))))))))) (List.Mem.tail _ (List.Mem.tail _ (List.Mem.tail _ (List.Mem.tail _ (List.Mem.tail _ (List.Mem.tail _ (List.Mem.tail _ (List.Mem.tail _ (List.Mem.tail _ (List.Mem.tail _ (List.Mem.tail _ (List.Mem.tail _ (List.Mem.tail _ (List.Mem.tail _ (List.Mem.tail _ (List.Mem.tail _ (List.Mem.tail _ (List.Mem.tail _ (List.Mem.tail _ (List.Mem.tail _ (List.Mem.head _))))))))))))))))))))) M6 I6 N6,
    dictPin_of (look_skip (nq (i := 3) (j := 18) topNodup rfl rfl (by decide)) (look_skip (nq (i := 3) (j := 17) topNodup rfl rfl (by decide)) (look_skip (nq (i := 3) (j := 16) topNodup rfl rfl (by decide)) (look_skip (nq (i := 3) (j := 15) topNodup rfl rfl (by decide)) (look_skip (nq (i := 3) (j := 14) topNodup rfl rfl (by decide)) (look_skip (nq (i := 3) (j := 13) topNodup rfl rfl (by decide)) (look_skip (nq (i := 3) (j := 0) topNodup rfl rfl (by decide)) (look_skip (nq (i := 3) (j := 12) topNodup rfl rfl (by decide)) (look_skip (nq (i := 3) (j := 11) topNodup rfl rfl (by decide)) (look_skip (nq (i := 3) (j := 10) topNodup rfl rfl (by decide)) (look_skip (nq (i := 3) (j := 9) topNodup rfl rfl (by decide)) (look_skip (nq (i := 3) (j := 8) topNodup rfl rfl (by decide)) (look_skip (nq (i := 3) (j := 0) topNodup rfl rfl (by decide)) (look_skip (nq (i := 3) (j := 7) topNodup rfl rfl (by decide)) (look_skip (nq (i := 3) (j := 6) topNodup rfl rfl (by decide)) (look_skip (nq (i := 3) (j := 5) topNodup rfl rfl (by decide)) (look_skip (nq (i := 3) (j := 0) topNodup rfl rfl (by decide)) (look_skip (nq (i := 3) (j := 4) topNodup rfl rfl (by decide)) look_hit)))))))))))))))))) (List.Mem.tail _ (List.Mem.tail _ (List.Mem.tail _ (List.Mem.tail _ (List.Mem.tail _ (List.Mem.tail _ (List.Mem.tail _ (List.Mem.tail _ (List.Mem.tail _ (List.Mem.tail _ (List.Mem.tail _ (List.Mem.tail _ (List.Mem.tail _ (List.Mem.tail _ (List.Mem.tail _ (List.Mem.tail _ (List.Mem.tail _ (List.Mem.tail _ (List.Mem.tail _ (List.Mem.tail _ (List.Mem.tail _ (List.Mem.tail _ (List.Mem.tail _ (List.Mem.head _)))))))))))))))))))))))) M3 I3 N3,
    ⟨d1, od1, _, (look_skip (nq (i := 1) (j := 18) topNodup rfl rfl (by decide)) (look_skip (nq (i := 1) (j := 17) topNodup rfl rfl (by decide)) (look_skip (nq (i := 1) (j := 16) topNodup rfl rfl (by decide)) (look_skip (nq (i := 1) (j := 15) topNodup rfl rfl (by decide)) (look_skip (nq (i := 1) (j := 14) topNodup rfl rfl (by decide)) (look_skip (nq (i := 1) (j := 13) topNodup rfl rfl (by decide)) (look_skip (nq (i := 1) (j := 0) topNodup rfl rfl (by decide)) (look_skip (nq (i := 1) (j := 12) topNodup rfl rfl (by decide)) (look_skip (nq (i := 1) (j := 11) topNodup rfl rfl (by decide)) (look_skip (nq (i := 1) (j := 10) topNodup rfl rfl (by decide)) (look_skip (nq (i := 1) (j := 9) topNodup rfl rfl (by decide)) (look_skip (nq (i := 1) (j := 8) topNodup rfl rfl (by decide)) (look_skip (nq (i := 1) (j := 0) topNodup rfl rfl (by decide)) (look_skip (nq (i := 1) (j := 7) topNodup rfl rfl (by decide)) (look_skip (nq (i := 1) (j := 6) topNodup rfl rfl (by decide)) (look_skip (nq (i := 1) (j := 5) topNodup rfl rfl (by decide)) (look_skip (nq (i := 1) (j := 0) topNodup rfl rfl (by decide)) (look_skip (nq (i := 1) (j := 4) topNodup rfl rfl (by decide)) (look_skip (nq (i := 1) (j := 3) topNodup rfl rfl (by decide)) (look_skip (nq (i := 1) (j := 2) topNodup rfl rfl (by decide)) look_hit)))))))))))))))))))), (List.Mem.tail _ (List.Mem.tail _ (List.Mem.tail _ (List.Mem.tail _ (List.Mem.tail _ (List.Mem.tail _ (List.Mem.tail _ (List.Mem.tail _ (List.Mem.tail _ (List.Mem.tail _ (List.Mem.tail _ (List.Mem.tail _ (List.Mem.tail _ (List.Mem.tail _ (List.Mem.tail _ (List.Mem.tail _ (List.Mem.tail _ (List.Mem.tail _ (List.Mem.tail _ (List.Mem.tail _ (List.Mem.tail _ (List.Mem.tail _ (List.Mem.tail _ (List.Mem.tail _ (List.Mem.tail _ (List.Mem.tail _ (List.Mem.head _))))))))))))))))))))))))))), S1.choose_spec⟩⟩, hbi,
    fnPin_of (look_skip (nq (i := 2) (j := 18) topNodup rfl rfl (by decide)) (look_skip (nq (i := 2) (j := 17) topNodup rfl rfl (by decide)) (look_skip (nq (i := 2) (j := 16) topNodup rfl rfl (by decide)) (look_skip (nq (i := 2) (j := 15) topNodup rfl rfl (by decide)) (look_skip (nq (i := 2) (j := 14) topNodup rfl rfl (by decide)) (look_skip (nq (i := 2) (j := 13) topNodup rfl rfl (by decide)) (look_skip (nq (i := 2) (j := 0) topNodup rfl rfl (by decide)) (look_skip (nq (i := 2) (j := 12) topNodup rfl rfl (by decide)) (look_skip (nq (i := 2) (j := 11) topNodup rfl rfl (by decide)) (look_skip (nq (i := 2) (j := 10) topNodup rfl rfl (by decide)) (look_skip (nq (i := 2) (j := 9) topNodup rfl rfl (by decide)) (look_skip (nq (i := 2) (j := 8) topNodup rfl rfl (by decide)) (look_skip (nq (i := 2) (j := 0) topNodup rfl rfl (by decide)) (look_skip (nq (i := 2) (j := 7) topNodup rfl rfl (by decide)) (look_skip (nq (i := 2) (j := 6) topNodup rfl rfl (by decide)) (look_skip (nq (i := 2) (j := 5) topNodup rfl rfl (by decide)) (look_skip (nq (i := 2) (j := 0) topNodup rfl rfl (by decide)) (look_skip (nq (i := 2) (j := 4) topNodup rfl rfl (by decide)) (look_skip (nq (i := 2) (j := 3) topNodup rfl rfl (by decide)) look_hit))))))))))))))))))) (List.Mem.tail _ (List.Mem.tail _ (List.Mem.tail _ (List.Mem.tail _ (List.Mem.tail _ (List.Mem.tail _ (List.Mem.tail _ (List.Mem.tail _ (List.Mem.tail _ (List.Mem.tail _ (List.Mem.tail _ (List.Mem.tail _ (List.Mem.tail _ (List.Mem.tail _ (List.Mem.tail _ (List.Mem.tail _ (List.Mem.tail _ (List.Mem.tail _ (List.Mem.tail _ (List.Mem.tail _ (List.Mem.tail _ (List.Mem.tail _ (List.Mem.tail _ (List.Mem.tail _ (List.Mem.head _))))))))))))))))))))))))) (List.Mem.tail _ (List.Mem.tail _ (List.Mem.tail _ (List.Mem.tail _ (List.Mem.tail _ (List.Mem.tail _ (List.Mem.tail _ (List.Mem.tail _ (List.Mem.tail _ (List.Mem.tail _ (List.Mem.tail _ (List.Mem.tail _ (List.Mem.tail _ (List.Mem.tail _ (List.Mem.tail _ (List.Mem.tail _ (List.Mem.tail _ (List.Mem.tail _ (List.Mem.tail _ (List.Mem.tail _ (List.Mem.tail _ (List.Mem.tail _ (List.Mem.tail _ (List.Mem.tail _ (List.Mem.tail _ (List.Mem.head _)))))))))))))))))))))))))) R2 (s2_bind _ _), fnPin_of (look_skip (nq (i := 4) (j := 18) topNodup rfl rfl (by decide)) (look_skip (nq (i := 4) (j := 17) topNodup rfl rfl (by decide)) (look_skip (nq (i := 4) (j := 16) topNodup rfl rfl (by decide)) (look_skip (nq (i := 4) (j := 15) topNodup rfl rfl (by decide)) (look_skip (nq (i := 4) (j := 14) topNodup rfl rfl (by decide)) (look_skip (nq (i := 4) (j := 13) topNodup rfl rfl (by decide)) (look_skip (nq (i := 4) (j := 0) topNodup rfl rfl (by decide)) (look_skip (nq (i := 4) (j := 12) topNodup rfl rfl (by decide)) (look_skip (nq (i := 4) (j := 11) topNodup rfl rfl (by decide)) (look_skip (nq (i := 4) (j := 10) topNodup rfl rfl (by decide)) (look_skip (nq (i := 4) (j := 9) topNodup rfl rfl (by decide)) (look_skip (nq (i := 4) (j := 8) topNodup rfl rfl (by decide)) (look_skip (nq (i := 4) (j := 0) topNodup rfl rfl (by decide)) (look_skip (nq (i := 4) (j := 7) topNodup rfl rfl (by decide)) (look_skip (nq (i := 4) (j := 6) topNodup rfl rfl (by decide)) (look_skip (nq (i := 4) (j := 5) topNodup rfl rfl (by decide)) (look_skip (nq (i := 4) (j := 0) topNodup rfl rfl (by decide)) look_hit))))))))))))))))) (List.Mem.tail _ (List.Mem.tail _ (List.Mem.tail _ (List.Mem.tail _ (List.Mem.tail _ (List.Mem.tail _ (List.Mem.tail _ (List.Mem.tail _ (List.Mem.tail _ (List.Mem.tail _ (List.Mem.tail _ (List.Mem.tail _ (List.Mem.tail _ (List.Mem.tail _ (List.Mem.tail _ (List.Mem.tail _ (List.Mem.tail _ (List.Mem.tail _ (List.Mem.tail _ (List.Mem.tail _ (List.Mem.tail _ (List.Mem.head _)))))))))))))))))))))) (List.Mem.tail _ (List.Mem.tail _ (List.Mem.tail _ (List.Mem.tail _ (List.Mem.tail _ (List.Mem.tail _ (List.Mem.tail _ (List.Mem.tail _ (List.Mem.tail _ (List.Mem.tail _ (List.Mem.tail _ (List.Mem.tail _ (List.Mem.tail _ (List.Mem.tail _ (List.Mem.tail _ (List.Mem.tail _ (List.Mem.tail _ (List.Mem.tail _ (List.Mem.tail _ (List.Mem.tail _ (List.Mem.tail _ (List.Mem.tail _ (List.Mem.head _))))))))))))))))))))))) R4 (s4_bind _ _), fnPin_of (look_skip (nq (i := 6) (j := 18) topNodup rfl rfl (by decide)) (look_skip (nq (i := 6) (j := 17) topNodup rfl rfl (by decide)) (look_skip (nq (i := 6) (j := 16) topNodup rfl rfl (by decide)) (look_skip (nq (i := 6) (j := 15) topNodup rfl rfl (by decide)) (look_skip (nq (i := 6) (j := 14) topNodup rfl rfl (by decide)) (look_skip (nq (i := 6) (j := 13) topNodup rfl rfl (by decide)) (look_skip (nq (i := 6) (j := 0) topNodup rfl rfl (by decide)) (look_skip (nq (i := 6) (j := 12) topNodup rfl rfl (by decide)) (look_skip (nq (i := 6) (j := 11) topNodup rfl rfl (by decide)) (look_skip (nq (i := 6) (j := 10) topNodup rfl rfl (by decide)) (look_skip (nq (i := 6) (j := 9) topNodup rfl rfl (by decide)) (look_skip (nq (i := 6) (j := 8) topNodup rfl rfl (by decide)) (look_skip (nq (i := 6) (j := 0) topNodup rfl rfl (by decide)) (look_skip (nq (i := 6) (j := 7) topNodup rfl rfl (by decide)) look_hit)))))))))))))) (List.Mem.tail _ (List.Mem.tail _ (List.Mem.tail _ (List.Mem.tail _ (List.Mem.tail _ (List.Mem.tail _ (List.Mem.tail _ (List.Mem.tail _ (List.Mem.tail _ (List.Mem.tail _ (List.Mem.tail _ (List.Mem.tail _ (List.Mem.tail _ (List.Mem.tail _ (List.Mem.tail _ (List.Mem.tail _ (List.Mem.tail _ (List.Mem.tail _ (List.Mem.head _))))))))))))))))))) (List.Mem.tail _ (List.Mem.tail _ (List.Mem.tail _ (List.Mem.tail _ (List.Mem.tail _ (List.Mem.tail _ (List.Mem.tail _ (List.Mem.tail _ (List.Mem.tail _ (List.Mem.tail _ (List.Mem.tail _ (List.Mem.tail _ (List.Mem.tail _ (List.Mem.tail _ (List.Mem.tail _ (List.Mem.tail _ (List.Mem.tail _ (List.Mem.tail _ (List.Mem.tail _ (List.Mem.head _)))))))))))))))))))) R7 (s7_bind _ _), fnPin_of (look_skip (nq (i := 7) (j := 18) topNodup rfl rfl (by decide)) (look_skip (nq (i := 7) (j := 17) topNodup rfl rfl (by decide)) (look_skip (nq (i := 7) (j := 16) topNodup rfl rfl (by decide)) (look_skip (nq (i := 7) (j := 15) topNodup rfl rfl (by decide)) (look_skip (nq (i := 7) (j := 14) topNodup rfl rfl (by decide)) (look_skip (nq (i := 7) (j := 13) topNodup rfl rfl (by decide)) (look_skip (nq (i := 7) (j := 0) topNodup rfl rfl (by decide)) (look_skip (nq (i := 7) (j := 12) topNodup rfl rfl (by decide)) (look_skip (nq (i := 7) (j := 11) topNodup rfl rfl (by decide)) (look_skip (nq (i := 7) (j := 10) topNodup rfl rfl (by decide)) (look_skip (nq (i := 7) (j := 9) topNodup rfl rfl (by decide)) (look_skip (nq (i := 7) (j := 8) topNodup rfl rfl (by decide)) (look_skip (nq (i := 7) (j := 0) topNodup rfl rfl (by decide)) look_hit))))))))))))) (List.Mem.tail _ (List.Mem.tail _ (List.Mem.tail _ (List.Mem.tail _ (List.Mem.tail _ (List.Mem.tail _ (List.Mem.tail _ (List.Mem.tail _ (List.Mem.tail _ (List.Mem.tail _ (List.Mem.tail _ (List.Mem.tail _ (List.Mem.tail _ (List.Mem.tail _ (List.Mem.tail _ (List.Mem.tail _ (List.Mem.head _))))))))))))))))) (List.Mem.tail _ (List.Mem.tail _ (List.Mem.tail _ (List.Mem.tail _ (List.Mem.tail _ (List.Mem.tail _ (List.Mem.tail _ (List.Mem.tail _ (List.Mem.tail _ (List.Mem.tail _ (List.Mem.tail _ (List.Mem.tail _ (List.Mem.tail _ (List.Mem.tail _ (List.Mem.tail _ (List.Mem.tail _ (List.Mem.tail _ (List.Mem.head _)))))))))))))))))) R8 (s8_bind _ _), fnPin_of (look_skip (nq (i := 11) (j := 18) topNodup rfl rfl (by decide)) (look_skip (nq (i := 11) (j := 17) topNodup rfl rfl (by decide)) (look_skip (nq (i := 11) (j := 16) topNodup rfl rfl (by decide)) (look_skip (nq (i := 11) (j := 15) topNodup rfl rfl (by decide)) (look_skip (nq (i := 11) (j := 14) topNodup rfl rfl (by decide)) (look_skip (nq (i := 11) (j := 13) topNodup rfl rfl (by decide)) (look_skip (nq (i := 11) (j := 0) topNodup rfl rfl (by decide)) (look_skip (nq (i := 11) (j := 12) topNodup rfl rfl (by decide)) look_hit)))))))) (List.Mem.tail _ (List.Mem.tail _ (List.Mem.tail _ (List.Mem.tail _ (List.Mem.tail _ (List.Mem.tail _ (List.Mem.tail _ (List.Mem.tail _ (List.Mem.tail _ (List.Mem.tail _ (List.Mem.tail _ (List.Mem.tail _ (List.Mem.tail _ (List.Mem.tail _ (List.Mem.head _))))))))))))))) (List.Mem.tail _ (List.Mem.tail _ (List.Mem.tail _ (List.Mem.tail _ (List.Mem.tail _ (List.Mem.tail _ (List.Mem.tail _ (List.Mem.tail _ (List.Mem.tail _ (List.Mem.tail _ (List.Mem.tail _ (List.Mem.tail _ (List.Mem.tail _ (List.Mem.tail _ (List.Mem.tail _ (List.Mem.head _)))))))))))))))) R13 (s13_bind _ _), fnPin_of (look_skip (nq (i := 12) (j := 18) topNodup rfl rfl (by decide)) (look_skip (nq (i := 12) (j := 17) topNodup rfl rfl (by decide)) (look_skip (nq (i := 12) (j := 16) topNodup rfl rfl (by decide)) (look_skip (nq (i := 12) (j := 15) topNodup rfl rfl (by decide)) (look_skip (nq (i := 12) (j := 14) topNodup rfl rfl (by decide)) (look_skip (nq (i := 12) (j := 13) topNodup rfl rfl (by decide)) (look_skip (nq (i := 12) (j := 0) topNodup rfl rfl (by decide)) look_hit))))))) (List.Mem.tail _ (List.Mem.tail _ (List.Mem.tail _ (List.Mem.tail _ (List.Mem.tail _ (List.Mem.tail _ (List.Mem.tail _ (List.Mem.tail _ (List.Mem.tail _ (List.Mem.tail _ (List.Mem.tail _ (List.Mem.tail _ (List.Mem.head _))))))))))))) (List.Mem.tail _ (List.Mem.tail _ (List.Mem.tail _ (List.Mem.tail _ (List.Mem.tail _ (List.Mem.tail _ (List.Mem.tail _ (List.Mem.tail _ (List.Mem.tail _ (List.Mem.tail _ (List.Mem.tail _ (List.Mem.tail _ (List.Mem.tail _ (List.Mem.head _)))))))))))))) R14 (s14_bind _ _), fnPin_of (look_skip (nq (i := 13) (j := 18) topNodup rfl rfl (by decide)) (look_skip (nq (i := 13) (j := 17) topNodup rfl rfl (by decide)) (look_skip (nq (i := 13) (j := 16) topNodup rfl rfl (by decide)) (look_skip (nq (i := 13) (j := 15) topNodup rfl rfl (by decide)) (look_skip (nq (i := 13) (j := 14) topNodup rfl rfl (by decide)) look_hit))))) (List.Mem.tail _ (List.Mem.tail _ (List.Mem.tail _ (List.Mem.tail _ (List.Mem.tail _ (List.Mem.tail _ (List.Mem.tail _ (List.Mem.tail _ (List.Mem.tail _ (List.Mem.tail _ (List.Mem.head _))))))))))) (List.Mem.tail _ (List.Mem.tail _ (List.Mem.tail _ (List.Mem.tail _ (List.Mem.tail _ (List.Mem.tail _ (List.Mem.tail _ (List.Mem.tail _ (List.Mem.tail _ (List.Mem.tail _ (List.Mem.tail _ (List.Mem.head _)))))))))))) R16 (s16_bind _ _), fnPin_of (look_skip (nq (i := 14) (j := 18) topNodup rfl rfl (by decide)) (look_skip (nq (i := 14) (j := 17) topNodup rfl rfl (by decide)) (look_skip (nq (i := 14) (j := 16) topNodup rfl rfl (by decide)) (look_skip (nq (i := 14) (j := 15) topNodup rfl rfl (by decide)) look_hit)))) (List.Mem.tail _ (List.Mem.tail _ (List.Mem.tail _ (List.Mem.tail _ (List.Mem.tail _ (List.Mem.tail _ (List.Mem.tail _ (List.Mem.tail _ (List.Mem.head _))))))))) (List.Mem.tail _ (List.Mem.tail _ (List.Mem.tail _ (List.Mem.tail _ (List.Mem.tail _ (List.Mem.tail _ (List.Mem.tail _ (List.Mem.tail _ (List.Mem.tail _ (List.Mem.head _)))))))))) R17 (s17_bind _ _), fnPin_of (look_skip (nq (i := 15) (j := 18) topNodup rfl rfl (by decide)) (look_skip (nq (i := 15) (j := 17) topNodup rfl rfl (by decide)) (look_skip (nq (i := 15) (j := 16) topNodup rfl rfl (by decide)) look_hit))) (List.Mem.tail _ (List.Mem.tail _ (List.Mem.tail _ (List.Mem.tail _ (List.Mem.tail _ (List.Mem.tail _ (List.Mem.head _))))))) (List.Mem.tail _ (List.Mem.tail _ (List.Mem.tail _ (List.Mem.tail _ (List.Mem.tail _ (List.Mem.tail _ (List.Mem.tail _ (List.Mem.head _)))))))) R18 (s18_bind _ _), fnPin_of (look_skip (nq (i := 16) (j := 18) topNodup rfl rfl (by decide)) (look_skip (nq (i := 16) (j := 17) topNodup rfl rfl (by decide)) look_hit)) (List.Mem.tail _ (List.Mem.tail _ (List.Mem.tail _ (List.Mem.tail _ (List.Mem.head _))))) (List.Mem.tail _ (List.Mem.tail _ (List.Mem.tail _ (List.Mem.tail _ (List.Mem.tail _ (List.Mem.head _)))))) R19 (s19_bind _ _), fnPin_of (look_skip (nq (i := 17) (j := 18) topNodup rfl rfl (by decide)) look_hit) (List.Mem.tail _ (List.Mem.tail _ (List.Mem.head _))) (List.Mem.tail _ (List.Mem.tail _ (List.Mem.tail _ (List.Mem.head _)))) R20 (s20_bind _ _), fnPin_of look_hit (List.Mem.head _) (List.Mem.tail _ (List.Mem.head _)) R21 (s21_bind _ _), ⟨_, _, _, look_hit, (List.Mem.head _)⟩⟩
end Mine
-- Q5
set_option maxRecDepth 100000
set_option maxHeartbeats 1000000
set_option linter.unusedVariables false
namespace Mine
open PySem PySem.Calls PyProof.Rows
abbrev FT := tabFn flagTab
abbrev BT := tabFn b3Tab
def nothingL : List Nat := [173, 847, 6150, 6155, 6156, 6157, 8203, 8204, 8205, 8288, 65279] ++ (List.range 16).map (65024 + ·)
def runsL : List (Nat × Nat × Nat × Nat) := [(181, 1, 1, 956), (383, 1, 1, 115), (1009, 1, 1, 961), (8517, 1, 1, 100), (119912, 8, 2, 97), (119928, 8, 2, 113), (120032, 9, 2, 113), (120432, 16, 2, 97), (120496, 8, 2, 953), (120512, 1, 1, 969), (120720, 16, 2, 945), (913, 15, 1, 945), (1040, 16, 1, 1072), (65, 26, 1, 97), (192, 23, 1, 224), (216, 7, 1, 248)]
def stepL (size step : Nat) : List Nat := (List.range size).filter fun k => k % step == 0
def pairsL : List (Nat × Nat) := (runsL.map fun r => (stepL r.2.1 r.2.2.1).map fun k => (r.1 + k, r.2.2.2 + k)).flatten
def foldN (c : Nat) : Nat := (pairsL.lookup c).getD c
def lostN (c : Nat) : Bool := nothingL.contains c
def SL : List Nat := nothingL ++ (pairsL.take 69).map (·.1) ++ (List.range 256).filter (· != 223)
theorem pairs_len : pairsL.length = 125 ∧ (pairsL.map (·.1)).Nodup := by decide +kernel
theorem n_b1 : ∀ c ∈ SL, b1F (c : Int) = lostN c := by decide +kernel
def missP (k : Int) : Bool := (decide (k < 256) && !(k == 181) && !(k == 223)) || (decide (912 < k) && decide (k < 928)) || (decide (1039 < k) && decide (k < 1056))
theorem b3_hit : ∀ p ∈ pairsL.take 38, tabFn b3Tab (p.1 : Int) = some [p.2] := by decide +kernel
theorem b3_miss : ∀ p ∈ b3Tab, missP p.1 = false := by decide +kernel
theorem b3_side : ∀ c ∈ SL, lostN c = false → missP (c : Int) = true ∧ lowerL [c] = [foldN c] ∨ (c, foldN c) ∈ pairsL.take 38 := by decide +kernel
theorem n_b3 (c : Nat) (hc : c ∈ SL) (hl : lostN c = false) : mapB3 BT c = [foldN c] := by
  unfold mapB3
  rcases b3_side c hc hl with ⟨m, e⟩ | m
  · have t : BT (c : Int) = none := by
      show Option.map _ (List.find? _ _) = none
      rw [List.find?_eq_none.mpr fun p hp e => by
        have h := b3_miss p hp
        rw [eq_of_beq e, m] at h
        cases h]
      rfl
    rw [t]; exact e
  · rw [show BT (c : Int) = some [foldN c] from b3_hit _ m]
theorem n_idem : ∀ c ∈ SL, foldN (foldN c) = foldN c := by decide +kernel
theorem n_kept : ∀ c ∈ SL, lostN c = false → lostN (foldN c) = false := by decide +kernel
theorem n_low : ∀ c ∈ SL, lostN c = false → lowerL [foldN c] = [foldN c] := by decide +kernel
theorem n_two : ∀ c ∈ SL, lostN c = false → turnC foldN c = 2 → lowerL [c] ≠ [foldN ((lowerL [c]).headD 0)] := by decide +kernel
theorem n_lost : ∀ c ∈ nothingL, lowerL [c] = [c] := by decide +kernel
theorem n_euro : ∀ c ∈ SL, foldN c ≠ 8364 := by decide +kernel
theorem n_kip : ∀ c ∈ SL, c ≠ 8365 ∧ lowerL [c] ≠ [8365] := by decide +kernel
theorem n_signs : 8364 ∉ SL ∧ lowerL [8364] = [8364] ∧ lowerL [8365] = [8365] ∧ lostN 55 = false ∧ turnC foldN 55 = 0 ∧ 55 ∈ SL := by decide +kernel
def bits6 (n : Nat) : Nat := ((List.range 6).filter fun k => n.testBit k).length
theorem n_bits : ∀ c ∈ SL, lostN c = false → (bits6 (c % 64 ^^^ foldN c % 64) : Int) = turnC foldN c ∧ foldN c / 64 % 2 = c / 64 % 2 := by decide +kernel
end Mine
-- V1
set_option maxRecDepth 100000
set_option linter.unusedVariables false
set_option linter.unusedSimpArgs false
namespace Mine
open PySem PySem.Calls PyProof.Rows

abbrev frs (l : List Env) : List Addr := l.filterMap (·.frame)
/-- what a station on an exception's way may change: the exception, its last entry, the frames' slots -/
structure Stn (fr : List Addr) (P : Addr → Prop) (h h' : Heap) : Prop where
  keep : ∀ b o, ¬ P b → b ∉ fr → h.get? b = some o → h'.get? b = some o
  slot : ∀ b o, ¬ P b → b ∈ fr → h.get? b = some o → ∃ sl, h'.get? b = some { o with slots := sl }
theorem Stn.refl (fr : List Addr) (P : Addr → Prop) (h : Heap) : Stn fr P h h := ⟨fun _ _ _ _ e => e, fun _ o _ _ e => ⟨o.slots, e⟩⟩
theorem Stn.trans {fr : List Addr} {P : Addr → Prop} {h1 h2 h3 : Heap} (a : Stn fr P h1 h2) (b : Stn fr P h2 h3) : Stn fr P h1 h3 :=
  ⟨fun c o hp hf e => b.keep c o hp hf (a.keep c o hp hf e), fun c o hp hf e => by
    obtain ⟨sl, e1⟩ := a.slot c o hp hf e
    obtain ⟨sl', e2⟩ := b.slot c _ hp hf e1
    exact ⟨sl', e2⟩⟩
theorem Stn.mono {fr : List Addr} {P P' : Addr → Prop} {h h' : Heap} (a : Stn fr P h h') (hp : ∀ b, P b → P' b) : Stn fr P' h h' :=
  ⟨fun b o n => a.keep b o fun q => n (hp b q), fun b o n => a.slot b o fun q => n (hp b q)⟩

/-- a StopIteration, its traceback, no context -/
def Xe (h : Heap) (e : Addr) (T : Value) : Prop := ∃ oe vs, h.get? e = some oe ∧ oe.cls = .type "StopIteration" ∧ oe.data = .fields vs ∧ vs[1]? = some T ∧ vs[2]? = some .none
def Tb (h : Heap) (t : Addr) (fl : Value) : Prop := ∃ oT ts, h.get? t = some oT ∧ oT.data = .fields ts ∧ ts[3]? = some fl
theorem empty_get (a : Addr) : (({} : Heap)).get? a = none := Heap.get?_none_of_le (Nat.zero_le _)
theorem size_of_get {α : Type} {a : Array α} {i : Nat} {x : α} (h : a[i]? = some x) : i < a.size := (Array.getElem?_eq_some_iff.mp h).1

section
variable {M : Model} {A : Around} {E : Value → Shared → Prop} {s : Shared}

theorem stn_frames {l : List Env} {h h' : Heap} {P : Addr → Prop} (hl : h.FunFrames {} l) (a : Stn (frs l) P h h') (hp : ∀ b ∈ frs l, ¬ P b) : h'.FunFrames {} l := by
  have key : ∀ l' : List Env, (∀ b ∈ frs l', b ∈ frs l) → h.FunFrames {} l' → h'.FunFrames {} l' := by
    intro l'
    induction l' with
    | nil => intro _ _; trivial
    | cons env rest ih =>
      intro hm ⟨hk, ⟨L, o, hf, hn, ho, hd⟩, hr⟩
      have hL : L ∈ frs (env :: rest) := by simp [frs, hf]
      obtain ⟨sl, e⟩ := a.slot L o (hp L (hm L hL)) (hm L hL) ho
      exact ⟨hk, ⟨L, _, hf, hn, e, hd⟩, ih (fun b hb => hm b (by simp only [frs, List.filterMap_cons, hf]; exact List.mem_cons_of_mem _ hb)) hr⟩
  exact key l (fun _ h => h) hl

theorem entry_new {env : Env} {outer : List Env} {L e : Addr} {oe : Obj} {vs : Array Value} {head : Value} {hadNext : Bool} {Q : Unit → Shared → Prop}
    (hfr : A.frames = some (env :: outer)) (hl : s.heap.FunFrames {} (env :: outer)) (hf : env.frame = some L) (he : s.heap.get? e = some oe) (hd : oe.data = .fields vs) (hsz : 1 < vs.size)
    (h : ∀ h' T, h'.get? e = some (Obj.mapFields (·.setIfInBounds 1 (.ref T)) oe) → Tb h' T (rawInt L) → s.heap.get? T = none → T ≠ e → Stn (frs (env :: outer)) (· = e) s.heap h' → Q () { s with heap := h' }) :
    wpAny M A (do let a ← frameOf env; let pl ← entryPlaceOf L hadNext; let b ← EntryCells.newEntry head a .none (rawInt L) .none pl; setField (.ref e) 1 b) Q E s := by
  have hene : e ∉ frs (env :: outer) := fun hm => by
    obtain ⟨_, o, ho, hnf⟩ := hl.mem hm
    rw [he] at ho; injection ho with ho; subst ho; exact hnf vs hd
  refine wpAny_bind (wpAny_frameOf_fun hfr hl hf fun h₁ hs₁ => ?_)
  refine wpAny_bind (wpAny_entryPlaceOf fun pl hpl => ?_)
  unfold EntryCells.newEntry newFields
  refine wpAny_bind (wpAny_newObj_type ?_ (hpl.sizeOk5 _ _ _ _ _))
  have he₁ : h₁.get? e = some oe := (hs₁.2.1 e hene).trans he
  have he₂ := Heap.get?_push_of_some (h := h₁) { cls := .type "traceback", dict := none, data := .fields ([head, .ref L, .none, rawInt L, .none] ++ (if pl.isEmpty then List.replicate 6 Value.none else pl)).toArray } he₁
  have hTe : h₁.objs.size ≠ e := Nat.ne_of_gt (Heap.lt_size he₁)
  have hd₃ := Obj.data_mapFields hd (·.setIfInBounds 1 (Value.ref h₁.objs.size))
  refine wpAny_setField he₂ hd hsz (h _ h₁.objs.size (Heap.get?_update_self _ he₂ (Obj.isFreed_of_fields hd₃)) ?_ ?_ hTe ?_)
  · refine ⟨_, _, (Heap.get?_update_other _ _ (Ne.symm hTe)).trans (Heap.get?_push_size h₁ rfl), rfl, ?_⟩
    simp
  · exact Heap.get?_none_of_le (by rw [hs₁.1]; exact Nat.le_refl _)
  · refine ⟨fun b o hb hbf hbo => ?_, fun b o hb hbf hbo => ?_⟩
    · rw [Heap.get?_update_other _ _ (Ne.symm hb)]
      exact Heap.get?_push_of_some _ ((hs₁.2.1 b hbf).trans hbo)
    · obtain ⟨sl, e1⟩ := hs₁.2.2 b o hbo
      exact ⟨sl, by rw [Heap.get?_update_other _ _ (Ne.symm hb)]; exact Heap.get?_push_of_some _ e1⟩

theorem Xe.turned {h h' : Heap} {e T : Addr} {T0 : Value} {oe : Obj} {vs : Array Value} (hcls : oe.cls = .type "StopIteration") (hd : oe.data = .fields vs) (h1 : vs[1]? = some T0) (h2 : vs[2]? = some .none) (he : h'.get? e = some (Obj.mapFields (·.setIfInBounds 1 (.ref T)) oe)) : Xe h' e (.ref T) :=
  ⟨_, _, he, (Obj.cls_mapFields ..).trans hcls, Obj.data_mapFields hd _, by simp [size_of_get h1], by rw [Array.getElem?_setIfInBounds_ne (by decide)]; exact h2⟩

/-- the first frame that an exception meets -/
theorem note_first {env : Env} {outer : List Env} {L e : Addr} {Q : Unit → Shared → Prop} (hfr : A.frames = some (env :: outer)) (hl : s.heap.FunFrames {} (env :: outer)) (hf : env.frame = some L) (hx : Xe s.heap e .none)
    (h : ∀ h' T, Xe h' e (.ref T) → Tb h' T (rawInt L) → s.heap.get? T = none → T ≠ e → Stn (frs (env :: outer)) (· = e) s.heap h' → Q () { s with heap := h' }) : wpAny M A (noteFrame (.ref e) env) Q E s := by
  obtain ⟨oe, vs, he, hcls, hd, h1, h2⟩ := hx
  unfold noteFrame
  simp only [hf]
  refine wpAny_bind (wpAny_field he hd h1 ?_)
  rw [if_neg (by decide)]
  exact entry_new hfr hl hf he hd (size_of_get h1) fun h' T e1 e2 e3 e4 e5 => h h' T (Xe.turned (h := s.heap) hcls hd h1 h2 e1) e2 e3 e4 e5
/-- noted here already -/
theorem note_again {env : Env} {L e T : Addr} {Q : Unit → Shared → Prop} (hf : env.frame = some L) (hx : Xe s.heap e (.ref T)) (ht : Tb s.heap T (rawInt L)) (h : Q () s) : wpAny M A (noteFrame (.ref e) env) Q E s := by
  obtain ⟨oe, vs, he, hcls, hd, h1, h2⟩ := hx
  obtain ⟨oT, ts, hT, hdT, h3⟩ := ht
  unfold noteFrame
  simp only [hf]
  refine wpAny_bind (wpAny_field he hd h1 ?_)
  rw [if_pos (show (Value.ref T != Value.none) = true from by simp)]
  refine wpAny_bind (wpAny_field hT hdT h3 ?_)
  rw [if_pos (by simp)]
  exact wpAny_pure h
/-- a further frame -/
theorem note_next {env : Env} {outer : List Env} {L e T : Addr} {Q : Unit → Shared → Prop} (hfr : A.frames = some (env :: outer)) (hl : s.heap.FunFrames {} (env :: outer)) (hf : env.frame = some L) (hx : Xe s.heap e (.ref T)) (ht : Tb s.heap T .none) (hTe : T ≠ e)
    (h : ∀ h' T', Xe h' e (.ref T') → Tb h' T' (rawInt L) → s.heap.get? T' = none → T' ≠ e → Stn (frs (env :: outer)) (fun b => b = e ∨ b = T) s.heap h' → Q () { s with heap := h' }) : wpAny M A (noteFrame (.ref e) env) Q E s := by
  obtain ⟨oe, vs, he, hcls, hd, h1, h2⟩ := hx
  obtain ⟨oT, ts, hT, hdT, h3⟩ := ht
  unfold noteFrame
  simp only [hf]
  refine wpAny_bind (wpAny_field he hd h1 ?_)
  rw [if_pos (show (Value.ref T != Value.none) = true from by simp)]
  refine wpAny_bind (wpAny_field hT hdT h3 ?_)
  rw [if_neg (show ¬ ((Value.none == rawInt L) = true) from by simp [rawInt])]
  refine wpAny_bind (wpAny_setField hT hdT (size_of_get h3) ?_)
  have other : ∀ b, b ≠ T → (s.heap.update T (Obj.mapFields (·.setIfInBounds 3 Value.none))).get? b = s.heap.get? b := fun b hb => Heap.get?_update_other _ _ (Ne.symm hb)
  have hTf : T ∉ frs (env :: outer) := fun hm => by
    obtain ⟨_, o, ho, hnf⟩ := hl.mem hm
    rw [hT] at ho; injection ho with ho; subst ho; exact hnf ts hdT
  have st1 : Stn (frs (env :: outer)) (fun b => b = e ∨ b = T) s.heap (s.heap.update T (Obj.mapFields (·.setIfInBounds 3 Value.none))) :=
    ⟨fun b o hb _ e => (other b fun q => hb (.inr q)).trans e, fun b o hb _ e => ⟨o.slots, (other b fun q => hb (.inr q)).trans e⟩⟩
  have hef : e ∉ frs (env :: outer) := fun hm => by
    obtain ⟨_, o, ho, hnf⟩ := hl.mem hm
    rw [he] at ho; injection ho with ho; subst ho; exact hnf vs hd
  refine entry_new (s := { s with heap := s.heap.update T (Obj.mapFields (·.setIfInBounds 3 Value.none)) }) hfr (stn_frames hl st1 fun b hb q => q.elim (fun q => hef (q ▸ hb)) fun q => hTf (q ▸ hb)) hf ((other e (Ne.symm hTe)).trans he) hd (size_of_get h1) fun h' T' e1 e2 e3 e4 e5 => ?_
  refine h h' T' (Xe.turned (h := s.heap) hcls hd h1 h2 e1) e2 ?_ e4 (st1.trans (e5.mono fun b q => .inl q))
  by_cases q : T' = T
  · subst q
    rw [Heap.get?_update_self _ hT (Obj.isFreed_of_fields (Obj.data_mapFields hdT _))] at e3; cases e3
  · exact (other T' q).symm.trans e3
end
end Mine
-- V2
set_option maxRecDepth 100000
set_option linter.unusedVariables false
set_option linter.unusedSimpArgs false
namespace Mine
open PySem PySem.Calls PyProof.Rows
section
variable {prog : Program} {w : World} {A : Around} {E : Value → Shared → Prop} {s : Shared}

theorem special_list {it l : Addr} {i : Nat} {items : Array Value} {Q : Option Value → Shared → Prop} (hh : A.handled = none) (hit : s.heap.IsListIter it l i) (hl : s.heap.IsList l items)
    (hQ : ∀ x, items[i]? = some x → ∀ h', h'.IsListIter it l (i + 1) → Heap.SameBut it s.heap h' → Q (some x) { s with heap := h' })
    (hE : items[i]? = none → ∀ h' e, Xe h' e .none → s.heap.get? e = none → (∀ b o, b ≠ it → s.heap.get? b = some o → h'.get? b = some o) → E (.ref e) { s with heap := h' }) :
    wpAny (model prog w) A (callSpecial? (.ref it) (Str.ofString "__next__")) Q E s := by
  obtain ⟨o, ho, hc, hd⟩ := id hit
  obtain ⟨ol, hol, _, nl, hdl⟩ := hl
  refine wpAny_callSpecial?_slot (name := Str.ofString "__next__") hit.typeIs slot_listiter_next
    (wpAny_call_entry slot_listiter_next hit.typeIs entry_listiter_next ?_ (args_listiter_next _))
  show wpAny _ _ (field (.ref it) 0 >>= _) _ _ s
  refine wpAny_bind (wpAny_field ho hd (x := .ref l) rfl ?_)
  show wpAny _ _ (if (Value.ref l == Value.none) = true then _ else _) _ _ s
  rw [if_neg (show ¬ ((Value.ref l == Value.none) = true) from Bool.false_ne_true)]
  show wpAny _ _ (field (.ref it) 1 >>= _) _ _ s
  refine wpAny_bind (wpAny_field ho hd (x := .int i 0) rfl ?_)
  show wpAny _ _ (seqItems? (.ref l) >>= _) _ _ s
  refine wpAny_bind (wpAny_seqItems hol hdl ?_)
  cases hx : items[i]? with
  | some x =>
    simp only [Int.toNat_natCast, hx]
    refine wpAny_bind (wpAny_setField ho hd (by simp) (wpAny_pure ⟨x, rfl, hQ x hx _ ?_ (Heap.SameBut.update ..)⟩))
    exact ⟨_, Heap.get?_update_self _ ho (Obj.isFreed_of_fields (Obj.data_mapFields hd _)), (Obj.cls_mapFields ..).trans hc, by
      rw [Obj.data_mapFields hd]; simp [rawInt]⟩
  | none =>
    simp only [Int.toNat_natCast, hx]
    refine wpAny_bind (wpAny_rule (wpAny_bind (wpAny_setField ho hd (by simp) ?_)))
    show wpAny _ _ (newExc (.type "StopIteration") [] >>= _) _ _ _
    refine wpAny_bind ?_
    simp only [newExc, newTuple]
    refine wpAny_bind (wpAny_newObj_type ?_ (by size_fits))
    refine wpAny_bind (m := firstArgMember _ _) (wpAny_of_eq (a := Value.none) (by first | rfl | (simp only [firstArgMember]; rfl)) ?_)
    refine wpAny_newObj_type ?_ (by size_fits)
    simp only [raiseNew]
    refine wpAny_bind (wpAny_handled ?_)
    rw [show A.in1.handled = none from hh]
    refine wpAny_bind (wpAny_pure (wpAny_throw ?_))
    refine hE hx _ _ ⟨_, _, Heap.get?_push_size _ rfl, rfl, rfl, by rfl, by rfl⟩ ?_ ?_
    · exact Heap.get?_none_of_le (by simp [Heap.size_push])
    · exact fun b o hb e => Heap.get?_push_of_some _ (Heap.get?_push_of_some _ ((Heap.SameBut.update ..).2 b hb |>.trans e))

theorem call_next {it l : Addr} {i : Nat} {items : Array Value} {Q : Value → Shared → Prop} (hh : A.handled = none) (hit : s.heap.IsListIter it l i) (hl : s.heap.IsList l items)
    (hQ : ∀ x, items[i]? = some x → ∀ h', h'.IsListIter it l (i + 1) → Heap.SameBut it s.heap h' → Q x { s with heap := h' })
    (hE : items[i]? = none → ∀ h' e, Xe h' e .none → s.heap.get? e = none → (∀ b o, b ≠ it → s.heap.get? b = some o → h'.get? b = some o) → E (.ref e) { s with heap := h' }) :
    wpAny (model prog w) A (call (.builtin "next") [.ref it]) Q E s := by
  refine call_function_entry (by decide +kernel) (by decide +kernel) PySem.W.kdk_entry_next (PySem.W.kdk_args_next _) ?_
  unfold Builtin.«next»
  refine wpAny_bind (m := someArgs "next" 1 2 _) (wpAny_of_eq (a := [Value.ref it]) (by first | rfl | kernel_rfl!) ?_)
  dsimp only
  refine wpAny_bind (wpAny_specialOf (name := Str.ofString "__next__") hit.typeIs slot_listiter_next.lookup ?_)
  refine wpAny_ite_split (fun hab => absurd hab (by decide)) (fun _ => ?_)
  refine wpAny_bind (special_list hh hit hl (fun x hx h' hit' hs => ?_) fun hx h' e a b c => hE hx h' e a b c)
  exact wpAny_pure ⟨_, rfl, hQ x hx h' hit' hs⟩

theorem call_iter {l : Addr} {items : Array Value} {Q : Value → Shared → Prop} (hl : s.heap.IsList l items)
    (hQ : (s.heap.push { cls := .type "list_iterator", data := .fields #[.ref l, .int 0 0] }).IsListIter s.heap.objs.size l 0 → Q (.ref s.heap.objs.size) { s with heap := s.heap.push { cls := .type "list_iterator", data := .fields #[.ref l, .int 0 0] } }) :
    wpAny (model prog w) A (call (.builtin "iter") [.ref l]) Q E s := by
  refine call_function_entry (by decide +kernel) (by decide +kernel) PySem.W.kdk_entry_iter (PySem.W.kdk_args_iter _) ?_
  unfold Builtin.«iter»
  refine wpAny_bind (m := someArgs "iter" 1 2 _) (wpAny_of_eq (a := [Value.ref l]) (by first | rfl | kernel_rfl!) ?_)
  show wpAny _ _ (pyIter (.ref l) >>= _) _ _ _
  refine wpAny_bind (wpAny_pyIter_list hl ?_)
  exact wpAny_pure ⟨_, rfl, hQ ⟨_, Heap.get?_push_size _ rfl, rfl, rfl⟩⟩
end
end Mine
-- V3
set_option maxRecDepth 100000
set_option linter.unusedVariables false
set_option linter.unusedSimpArgs false
namespace Mine
open PySem PySem.Calls PyProof.Rows
section
variable {prog : Program} {w : World} {mg mb : Str → Option Value} {pins : List (Addr × Obj)} {l : Lim} {sc : Scope} {nm : List Str}

/-- an owned iterator has moved -/
theorem FRel.setItr {X₀ X Z : Addr → Prop} {s₀ s : Shared} {env : Env} {σ : Sto} {m cm : Str → Option Value} (F : FRel mg mb pins nm X₀ s₀ env σ s Z X m cm) {k : Nat} {x : Str} {xs xs' : List AV} {p : Addr} {h' : Heap}
    (hx : nm[k]? = some x) (e : σ.getD k .unset = .itr p xs) (rp : RdM env m cm x (.ref p)) (xp : X p) {l0 : Addr} {i0 : Nat} (ip : s.heap.IsListIter p l0 i0) (sb : Heap.SameBut p s.heap h') (ia : IterAt X h' p xs') :
    FRel mg mb pins nm X₀ s₀ env (σ.set k (.itr p xs')) { s with heap := h' } Z X m cm ∧ Step X Z s.heap h' X := by
  have npl : env.locals ≠ p := (not_iter_ns F.call.toInCall.ns ip).symm
  have npc : ∀ n c, env.cells.lookup n = some c → c ≠ p := fun n c hc q' => by
    obtain ⟨o, eo, d⟩ := F.call.cell n c hc
    obtain ⟨o2, e2, _, d2⟩ := ip
    subst q'
    rw [eo] at e2; cases e2; rw [d] at d2; cases d2
  exact F.turn s.toks (.itr p xs') hx (by rw [e]; rfl) rp (fun _ x => x) (fun _ x _ => x) (fun b o nb eb => (sb.2 b nb).trans eb) (by obtain ⟨_, _, _, _, ⟨o, eo, _⟩, _, _, _, _, _⟩ := ia; exact ⟨o, eo⟩) (fun n => absurd xp n) ⟨rp, xp, ia⟩ (fun _ => xp) npl npc
end

/-- a StopIteration on its way within a frame -/
structure XSt (s₀ : Shared) (env : Env) (outer : List Env) (L e : Addr) (s' : Shared) : Prop where
  same : ∃ h tk, s' = { s₀ with heap := h, toks := tk }
  new : s₀.heap.get? e = none
  st : Xe s'.heap e .none ∨ ∃ T, Xe s'.heap e (.ref T) ∧ Tb s'.heap T (rawInt L) ∧ T ≠ e ∧ s₀.heap.get? T = none
  out : Stn (frs outer) (fun _ => False) s₀.heap s'.heap
  fun_ : s'.heap.FunFrames {} (env :: outer)
structure XNoted (s₀ : Shared) (env : Env) (outer : List Env) (L e : Addr) (s' : Shared) : Prop extends XSt s₀ env outer L e s' where
  noted : ∃ T, Xe s'.heap e (.ref T) ∧ Tb s'.heap T (rawInt L) ∧ T ≠ e ∧ s₀.heap.get? T = none
/-- it has left the frame -/
structure XOut (s₀ : Shared) (outer : List Env) (e : Addr) (s' : Shared) : Prop where
  same : ∃ h tk, s' = { s₀ with heap := h, toks := tk }
  new : s₀.heap.get? e = none
  st : ∃ T, Xe s'.heap e (.ref T) ∧ Tb s'.heap T .none ∧ T ≠ e ∧ s₀.heap.get? T = none
  out : Stn (frs outer) (fun _ => False) s₀.heap s'.heap
  fun_ : s'.heap.FunFrames {} outer

section
variable {M : Model} {A : Around} {E : Value → Shared → Prop} {s s₀ : Shared} {env : Env} {outer : List Env} {L e : Addr}
theorem fun_not_fields {h : Heap} {l : List Env} (hl : h.FunFrames {} l) {b : Addr} (hb : b ∈ frs l) {o : Obj} {vs} (ho : h.get? b = some o) (hd : o.data = .fields vs) : False := by
  obtain ⟨_, o', ho', hnf⟩ := hl.mem hb
  rw [ho] at ho'; injection ho' with q; subst q; exact hnf vs hd
theorem Xe.not_frame {h : Heap} {T : Value} {l : List Env} (hl : h.FunFrames {} l) (x : Xe h e T) : e ∉ frs l := fun hb => by
  obtain ⟨oe, vs, he, _, hd, _⟩ := x; exact fun_not_fields hl hb he hd
theorem Tb.not_frame {h : Heap} {T : Addr} {fl : Value} {l : List Env} (hl : h.FunFrames {} l) (x : Tb h T fl) : T ∉ frs l := fun hb => by
  obtain ⟨oe, vs, he, hd, _⟩ := x; exact fun_not_fields hl hb he hd
/-- from a station within env's frame to what s₀ knows -/
theorem stn_out {P : Addr → Prop} (hL : env.frame = some L) (hL0 : s₀.heap.get? L = none) (hP : ∀ b, P b → s₀.heap.get? b = none) {h h' : Heap} (o : Stn (frs outer) (fun _ => False) s₀.heap h) (st : Stn (frs (env :: outer)) P h h') : Stn (frs outer) (fun _ => False) s₀.heap h' := by
  have hfr : frs (env :: outer) = L :: frs outer := by simp [frs, hL]
  have nP : ∀ b oo, s₀.heap.get? b = some oo → ¬ P b := fun b oo e q => by rw [hP b q] at e; cases e
  have nL : ∀ b oo, s₀.heap.get? b = some oo → b ≠ L := fun b oo e q => by rw [q, hL0] at e; cases e
  refine ⟨fun b oo _ hb eb => ?_, fun b oo _ hb eb => ?_⟩
  · refine st.keep b oo (nP b oo eb) ?_ (o.keep b oo (fun q => q) hb eb)
    rw [hfr]; exact fun q => (List.mem_cons.mp q).elim (nL b oo eb) hb
  · obtain ⟨sl, e1⟩ := o.slot b oo (fun q => q) hb eb
    obtain ⟨sl', e2⟩ := st.slot b _ (nP b oo eb) (by rw [hfr]; exact List.mem_cons_of_mem _ hb) e1
    exact ⟨sl', e2⟩
theorem note_x {Q : Unit → Shared → Prop} (hfr : A.frames = some (env :: outer)) (hL : env.frame = some L) (hL0 : s₀.heap.get? L = none) (x : XSt s₀ env outer L e s) (h : ∀ s', XNoted s₀ env outer L e s' → Q () s') : wpAny M A (noteFrame (.ref e) env) Q E s := by
  rcases x.st with hx | ⟨T, hx, ht, hTe, hT0⟩
  · refine note_first hfr x.fun_ hL hx fun h' T e1 e2 e3 e4 e5 => h _ ?_
    obtain ⟨hh, tk, e0⟩ := x.same
    have hne : ∀ b, b = e → s₀.heap.get? b = none := fun b q => q ▸ x.new
    have hT0 : s₀.heap.get? T = none := by
      cases q : s₀.heap.get? T with
      | none => rfl
      | some o =>
        exfalso
        by_cases hb : T ∈ frs outer
        · obtain ⟨sl, e6⟩ := x.out.slot T o (fun q => q) hb q; rw [e3] at e6; cases e6
        · have := x.out.keep T o (fun q => q) hb q; rw [e3] at this; cases this
    exact ⟨⟨⟨h', s.toks, by rw [e0]⟩, x.new, .inr ⟨T, e1, e2, e4, hT0⟩, stn_out hL hL0 hne x.out e5, stn_frames x.fun_ e5 fun b hb q => hx.not_frame x.fun_ (q ▸ hb)⟩, T, e1, e2, e4, hT0⟩
  · exact note_again hL hx ht (h _ ⟨x, T, hx, ht, hTe, hT0⟩)
theorem flight_x {fl : Option Addr} {T : Addr} {f0 : Value} {Q : Unit → Shared → Prop} (hx : Xe s.heap e (.ref T)) (ht : Tb s.heap T f0) (hTe : T ≠ e)
    (h : ∀ h', Xe h' e (.ref T) → Tb h' T (fl.elim .none fun f => rawInt f) → (∀ fr, Stn fr (· = T) s.heap h') → Q () { s with heap := h' }) : wpAny M A (setFlight (.ref e) fl) Q E s := by
  obtain ⟨oe, vs, he, hcls, hd, h1, h2⟩ := hx
  obtain ⟨oT, ts, hT, hdT, h3⟩ := ht
  unfold setFlight
  refine wpAny_bind (wpAny_field he hd h1 ?_)
  rw [if_pos (show (Value.ref T != Value.none) = true from by simp)]
  refine wpAny_setField hT hdT (size_of_get h3) (h _ ⟨oe, vs, (Heap.get?_update_other _ _ hTe).trans he, hcls, hd, h1, h2⟩ ?_ ?_)
  · exact ⟨_, _, Heap.get?_update_self _ hT (Obj.isFreed_of_fields (Obj.data_mapFields hdT _)), Obj.data_mapFields hdT _, by simp [size_of_get h3]⟩
  · exact fun fr => ⟨fun b o hb _ e => (Heap.get?_update_other _ _ (Ne.symm hb)).trans e, fun b o hb _ e => ⟨o.slots, (Heap.get?_update_other _ _ (Ne.symm hb)).trans e⟩⟩
/-- back from a loop's own activation -/
theorem came_x (hL : env.frame = some L) (hL0 : s₀.heap.get? L = none) (x : XNoted s₀ env outer L e s) (h : ∀ s', XNoted s₀ env outer L e s' → E (.ref e) s') : cameBackBy M A env E (.ref e) s := by
  obtain ⟨T, hx, ht, hTe, hT0⟩ := x.noted
  obtain ⟨oe, vs, he, hcls, hd, h1, h2⟩ := id hx
  unfold cameBackBy
  refine wpAny_bind (wpAny_field he hd h1 ?_)
  rw [if_neg (by simp), hL]
  refine flight_x (fl := some L) hx ht hTe fun h' e1 e2 e3 => h _ ?_
  obtain ⟨hh, tk, e0⟩ := x.same
  have hne : ∀ b, b = T → s₀.heap.get? b = none := fun b q => q ▸ hT0
  exact ⟨⟨⟨h', s.toks, by rw [e0]⟩, x.new, .inr ⟨T, e1, e2, hTe, hT0⟩, stn_out hL hL0 hne x.out (e3 _), stn_frames x.fun_ (e3 _) fun b hb q => ht.not_frame x.fun_ (q ▸ hb)⟩, T, e1, e2, hTe, hT0⟩
theorem leave_x {Q : Unit → Shared → Prop} (hfr : A.frames = some (env :: outer)) (hL : env.frame = some L) (hL0 : s₀.heap.get? L = none) (x : XSt s₀ env outer L e s) (h : ∀ s', XOut s₀ outer e s' → Q () s') : wpAny M A (leaving env (.ref e)) Q E s := by
  unfold leaving
  refine wpAny_bind (note_x hfr hL hL0 x fun s' y => ?_)
  obtain ⟨T, hx, ht, hTe, hT0⟩ := y.noted
  refine flight_x (fl := none) hx ht hTe fun h' e1 e2 e3 => h _ ?_
  obtain ⟨hh, tk, e0⟩ := y.same
  have hne : ∀ b, b = T → s₀.heap.get? b = none := fun b q => q ▸ hT0
  have hf' := stn_frames y.fun_ (e3 _) fun b hb q => ht.not_frame y.fun_ (q ▸ hb)
  exact ⟨⟨h', s'.toks, by rw [e0]⟩, y.new, ⟨T, e1, e2, hTe, hT0⟩, stn_out hL hL0 hne y.out (e3 _), hf'.2.2⟩
end
end Mine
-- V4
set_option maxRecDepth 100000
set_option linter.unusedVariables false
set_option linter.unusedSimpArgs false
namespace Mine
open PySem PySem.Calls PyProof.Rows

structure XCtx (A : Around) (env : Env) (outer : List Env) (s₀ : Shared) : Prop where
  fr : A.frames = some (env :: outer)
  fl : env.frame = some env.locals
  fun_ : s₀.heap.FunFrames {} outer

abbrev WX := Sto → (Fl → Sto → Prop) → Prop → Prop
section
variable (prog : Program) (w : World) (mg mb : Str → Option Value) (pins : List (Addr × Obj)) (l : Lim) (sc : Scope) (nm : List Str)
/-- a statement that may raise StopIteration -/
structure SemX1 (st : Stmt) (W : WX) : Prop where
  it : ∀ (A : Around) (env : Env) (outer : List Env) (X₀ : Addr → Prop) (s₀ : Shared) (σ : Sto) (s : Shared) (Z X : Addr → Prop) (m cm : Str → Option Value) (Q : Fl → Sto → Prop) (QE : Prop) (E : Value → Shared → Prop),
    AOk pins l A → l.z = true → FnEnv sc env → XCtx A env outer s₀ → FRel mg mb pins nm X₀ s₀ env σ s Z X m cm → W σ Q QE → (∀ e s', QE → XSt s₀ env outer env.locals e s' → E (.ref e) s') →
    wpAny (model prog w) A (exec st env) (SPost mg mb pins nm X₀ s₀ env s Z X Q) E s
structure SemXS (st : List Stmt) (W : WX) : Prop where
  it : ∀ (A : Around) (env : Env) (outer : List Env) (X₀ : Addr → Prop) (s₀ : Shared) (σ : Sto) (s : Shared) (Z X : Addr → Prop) (m cm : Str → Option Value) (Q : Fl → Sto → Prop) (QE : Prop) (E : Value → Shared → Prop),
    AOk pins l A → l.z = true → FnEnv sc env → XCtx A env outer s₀ → FRel mg mb pins nm X₀ s₀ env σ s Z X m cm → W σ Q QE → (∀ e s', QE → XSt s₀ env outer env.locals e s' → E (.ref e) s') →
    wpAny (model prog w) A (execs st env) (SPost mg mb pins nm X₀ s₀ env s Z X Q) E s
end
section
variable {prog : Program} {w : World} {mg mb : Str → Option Value} {pins : List (Addr × Obj)} {l : Lim} {sc : Scope} {nm : List Str}
theorem semX1_lift {st W} (h : Sem1 prog w mg mb pins l sc nm st W) : SemX1 prog w mg mb pins l sc nm st (fun σ Q _ => W σ Q) :=
  .mk fun A env outer X₀ s₀ σ s Z X m cm Q QE E a z eo c F hq _ => h.it A env X₀ s₀ σ s Z X m cm Q E a eo F hq
theorem semX1_weak {st W W'} (h : SemX1 prog w mg mb pins l sc nm st W) (hw : ∀ σ Q QE, W' σ Q QE → W σ Q QE) : SemX1 prog w mg mb pins l sc nm st W' :=
  .mk fun A env outer X₀ s₀ σ s Z X m cm Q QE E a z eo c F hq he => h.it A env outer X₀ s₀ σ s Z X m cm Q QE E a z eo c F (hw _ _ _ hq) he
theorem semXS_nil : SemXS prog w mg mb pins l sc nm [] (fun σ Q _ => Q .next σ) :=
  .mk fun A env outer X₀ s₀ σ s Z X m cm Q QE E a z eo c F h _ => wpAny_execs_nil ⟨.next, σ, X, m, cm, h, trivial, F, Step.refl _ _ _⟩
def seqXK (W2 : WX) (Q : Fl → Sto → Prop) (QE : Prop) : Fl → Sto → Prop
  | .next, σ => W2 σ Q QE
  | f, σ => Q f σ
def seqX (W1 W2 : WX) : WX := fun σ Q QE => W1 σ (seqXK W2 Q QE) QE
theorem semXS_cons {st rest W1 W2} (h1 : SemX1 prog w mg mb pins l sc nm st W1) (h2 : SemXS prog w mg mb pins l sc nm rest W2) :
    SemXS prog w mg mb pins l sc nm (st :: rest) (seqX W1 W2) := by
  refine .mk fun A env outer X₀ s₀ σ s Z X m cm Q QE E a z eo c F h he => ?_
  unfold seqX at h
  refine wpAny_execs_cons (wpAny_mono (h1.it A env outer X₀ s₀ σ s Z X m cm _ QE E a z eo c F h he) (fun fl s₁ hpat => ?_) fun _ _ x => x)
  obtain ⟨f, σ', X', m', cm', q, hf, F', st'⟩ := hpat
  cases fl <;> cases f <;> try exact hf.elim
  · exact wpAny_mono (h2.it A env outer X₀ s₀ σ' s₁ Z X' m' cm' Q QE E a z eo c F' q he) (fun fl s₂ ⟨f, σ2, X2, m2, cm2, q2, hf2, F2, st2⟩ => ⟨f, σ2, X2, m2, cm2, q2, hf2, F2, st'.trans st2⟩) fun _ _ x => x
  · exact ⟨_, σ', X', m', cm', q, hf, F', st'⟩
  · exact ⟨_, σ', X', m', cm', q, hf, F', st'⟩
  · exact ⟨_, σ', X', m', cm', q, hf, F', st'⟩

def nextW (k j : Nat) : WX := fun σ Q QE => ∃ it xs, σ.getD j .unset = .itr it xs ∧ match xs with | [] => QE | a :: r => Q .next ((σ.set j (.itr it r)).set k (.val a))
theorem semX1_next {x y p p1 p2 pos1 pos : _} {k j : Nat} (hB : BI mg mb "next" (.builtin "next")) (hx : Ix nm k x) (hy : Ix nm j y) (hk : sc.names.lookup ("next" : Str) = some NameKind.globalImplicit) (hn : nm.Nodup := by decide +kernel) (hl : isLoc sc x = true := by decide +kernel)
    (hd : (y == ("__debug__" : Str)) = false := by decide +kernel) (hc : (y == ("__classdict__" : Str)) = false := by decide +kernel)
    (hs : ∀ env, swapsWith (.Call (.Name "next" p1) [.Name y p2] [] pos1) (some (.Name x p)) pos.line env = pure false := by intro _; rfl) :
    SemX1 prog w mg mb pins l sc nm (.Assign [.Name x p] (.Call (.Name "next" p1) [.Name y p2] [] pos1) pos) (nextW k j) := by
  refine .mk fun A env outer X₀ s₀ σ s Z X m cm Q QE E a z eo c F ⟨it, xs, ej, hq⟩ he => ?_
  have R := F.rel
  have hv := F.var j y hy.get
  rw [ej] at hv
  obtain ⟨rit, xit, ia⟩ := hv
  obtain ⟨l0, i0, vs, ys, hit, nl, hl0, rl, hdrop, hile⟩ := ia
  have it0 : s₀.heap.get? it = none := F.mine j y it hy.get (by rw [ej]; rfl) rit
  have lenv := rl.length
  refine wpAny_Assign_Name (wpAny_Call_NameR (Name_function_global eo.fn (by rw [eo.kindOf]; exact hk) (loadGlobal_builtin (env := env) (eo.globals ▸ R.gl.g) hB.m (eo.builtins ▸ R.gl.b) hB.b ?_) (by decide +kernel))) (hs env)
  refine callWith_b rfl (args_cons (load_of_reads eo.fn (F.reads rit) (args_nil ?_) hd hc) rfl)
  refine call_next (a.none z) hit hl0.isList (fun v hv h' hit' hs' => ?_) fun hnone h' e hxe hen hkeep => he e _ ?_ ?_
  · -- an item
    have hv' : vs.toList[i0]? = some v := by simpa using hv
    have hlt : i0 < ys.length := by have := (List.getElem?_eq_some_iff.mp hv').1; omega
    obtain ⟨v2, g2, rv⟩ := rl.get (i := i0) (x := ys[i0]) (by simp [hlt])
    have : v2 = v := by rw [hv'] at g2; exact (Option.some.inj g2).symm
    subst this
    have hcons : ys.drop i0 = ys[i0] :: ys.drop (i0 + 1) := List.drop_eq_getElem_cons hlt
    rw [hcons] at hdrop
    subst hdrop
    have kx : KeepX X s.heap h' := fun b o nx e => (hs'.2 b fun q => nx (q ▸ xit)).trans e
    have ia' : IterAt X h' it (ys.drop (i0 + 1)) := ⟨l0, i0 + 1, vs, ys, hit', nl, isList_keepX kx nl hl0, rl.keepX kx, rfl, by omega⟩
    obtain ⟨F2, st2⟩ := F.setItr hy.get ej rit xit hit hs' ia'
    exact F2.bindVal eo hx hn hl (rv.keepX kx) fun s' m' cm' F' st => ⟨.next, _, X, m', cm', hq, trivial, F', st2.trans st⟩
  · -- the end
    have hge : ys.length ≤ i0 := by
      rcases Nat.lt_or_ge i0 ys.length with h | h
      · exfalso
        have : i0 < vs.size := by rw [← Array.length_toList]; omega
        rw [Array.getElem?_eq_getElem this] at hnone; cases hnone
      · exact h
    rw [List.drop_of_length_le hge] at hdrop
    subst hdrop
    exact hq
  · have itne : ∀ b o, s₀.heap.get? b = some o → b ≠ it := fun b o e q => by rw [q, it0] at e; cases e
    obtain ⟨hh, tk, e0⟩ := F.call.toInCall.same
    refine ⟨⟨h', s.toks, by rw [e0]⟩, not_of_keep F.keep₀ hen, .inl hxe, ⟨fun b o _ _ e => hkeep b o (itne b o e) (F.keep₀ b o e), fun b o _ _ e => ⟨o.slots, hkeep b o (itne b o e) (F.keep₀ b o e)⟩⟩, ?_⟩
    obtain ⟨o, es, ep, e1, d⟩ := ns_data F.call.toInCall.ns
    have nL : env.locals ≠ it := (not_iter_ns F.call.toInCall.ns hit).symm
    exact ⟨(fun q => by rw [eo.fn] at q; cases q), ⟨_, o, c.fl, empty_get _, hkeep _ _ nL e1, (fun vs q => by rw [d] at q; cases q)⟩, c.fun_.of_keeps fun b o e _ => ⟨o, hkeep b o (itne b o e) (F.keep₀ b o e), rfl⟩⟩

def whXW (Wt : Sto → (Bool → Prop) → Prop) (Wb : WX) : Nat → WX
  | 0, _, _, _ => False
  | n + 1, σ, Q, QE => Wt σ fun c => if c = true then Wb σ (fun f σ' => match f with
      | .next => whXW Wt Wb n σ' Q QE
      | .cont => whXW Wt Wb n σ' Q QE
      | .brk => Q .next σ'
      | .ret a => Q (.ret a) σ') QE else Q .next σ
theorem semX1_while {t body pos Wt Wb} (ht : SemT prog w mg mb pins l sc nm t Wt) (hb : SemXS prog w mg mb pins l sc nm body Wb) :
    SemX1 prog w mg mb pins l sc nm (.While t body [] pos) (fun σ Q QE => ∃ n, whXW Wt Wb n σ Q QE) := by
  refine .mk fun A env outer X₀ s₀ σ s Z X m cm Q QE E a z eo c F ⟨n, hq⟩ he => ?_
  have hL0 : s₀.heap.get? env.locals = none := Heap.get?_none_of_le F.call.toInCall.fresh
  refine wpAny_While (codeAny_whileLoop (WhInv mg mb pins nm X₀ s₀ env s Z X (fun n σ' => whXW Wt Wb n σ' Q QE)) ?_ n ⟨σ, X, m, cm, F, hq, Step.refl _ _ _⟩)
  rintro n s' ⟨σ', X', m', cm', F', hW, st'⟩
  have hexc : ∀ e s2, QE → XSt s₀ env outer env.locals e s2 → notedBy (model prog w) A env (fun e s' => cameBackBy (model prog w) A env E e s') (.ref e) s2 := fun e s2 hqe x =>
    note_x c.fr c.fl hL0 x fun s3 y => came_x c.fl hL0 y fun s4 y' => he e s4 hqe y'.toXSt
  cases n with
  | zero => exact hW.elim
  | succ n =>
    refine wpAny_mono (ht.it A env X' σ' s' _ _ a eo.toEnvOk F'.rel hW) (fun b s₁ hpat => ?_) fun _ _ x => x
    obtain ⟨g, hc⟩ := hpat
    have st1 := st'.trans (Step.grow g)
    cases b with
    | false =>
      simp only [if_false, Bool.false_eq_true] at hc ⊢
      exact wpAny_execs_nil ⟨.next, σ', X', m', cm', hc, trivial, F'.grow g, st1⟩
    | true =>
      simp only [if_true] at hc ⊢
      refine wpAny_mono (hb.it A env outer X₀ s₀ σ' s₁ Z X' m' cm' _ QE _ a z eo c (F'.grow g) hc hexc) (fun f s₅ hpat => ?_) fun _ _ x => x
      obtain ⟨f', σ5, X5, m5, cm5, q5, hf5, F5, st5⟩ := hpat
      have stt := st1.trans st5
      cases f <;> cases f' <;> try exact hf5.elim
      · exact ⟨n, by omega, σ5, X5, m5, cm5, F5, q5, stt⟩
      · exact ⟨.next, σ5, X5, m5, cm5, q5, trivial, F5, stt⟩
      · exact ⟨n, by omega, σ5, X5, m5, cm5, F5, q5, stt⟩
      · exact ⟨.ret _, σ5, X5, m5, cm5, q5, hf5, F5, stt⟩
end
end Mine
-- ZC5
set_option maxRecDepth 100000
set_option maxHeartbeats 2000000
set_option linter.unusedVariables false
namespace Mine
open PySem PySem.Calls PyProof.Rows PySem.SeqAt PySem.MeetsSeq
section
variable {prog : Program} {w : World} {mg mb : Str → Option Value} {pins : List (Addr × Obj)} {flagT b3T : Int → Option (List Nat)} {b1S : Int → Bool} {l : Lim} {sc : Scope} {nm : List Str}
theorem getA_nat {α : Type} {xs : List α} {k : Nat} (h : k < xs.length) : getA xs (k : Int) = some xs[k] := by
  unfold getA seqIndex?
  simp only [show ¬ ((k : Int) < 0) by (first | lia | omega), if_false]
  simp [h]
theorem item_str {s : List Nat} {k : Nat} {Q : AV → Prop} (hk : k < s.length) (hl : s.length ≤ 100000) (h : Q (.str [s[k]])) : itemW (.str s) (.int (k : Nat)) Q := by
  refine ⟨hl, ?_⟩
  rw [getA_nat hk]; exact h
theorem drop_some {a : List Nat} {k : Nat} (h : k < a.length) : (!(a.drop k).isEmpty) = true := by rw [List.drop_eq_getElem_cons h]; rfl
theorem drop_none {a : List Nat} {k : Nat} (h : ¬ k < a.length) : (!(a.drop k).isEmpty) = false := by rw [List.drop_of_length_le (Nat.le_of_not_lt h)]; rfl
def levNm : List Str := ["a", "b", "max_cost", "pre", "post", "row", "result", "bindex", "bchar", "distance", "minimum", "index", "substitute", "insert_delete"]
def bodyAt (st : Stmt) (k : Nat) : Stmt := (bodyOf st)[k]?.getD (.Pass default)
/-- the common prefix is measured -/
inductive wh1W (σ : Sto) (Q : Fl → Sto → Prop) : Prop
  | mk (a b : List Nat) (mx : LV) (r : List LV) (e : σ = LV.val (.str a) :: .val (.str b) :: mx :: .val (.int 0) :: r) (ha : a.length ≤ 1000) (hb : b.length ≤ 1000) (hq : Q .next (LV.val (.str a) :: .val (.str b) :: mx :: .val (.int (preN a b : Nat)) :: r))
theorem lev_wh1 : Sem1 prog w mg mb pins l (scopeOf (stmtAt PW 14)) levNm (bodyAt (stmtAt PW 14) 2) wh1W := by
  refine sem1_weak (sem1_while (semT_bool (semL_and (semT_of (semE_from (semE_var .head) (semE_var (.tail (.tail (.tail .head)))))) (semL_and (semT_of (semE_from (semE_var (.tail .head)) (semE_var (.tail (.tail (.tail .head)))))) (semL_and (semT_cmp (semE_sub (semE_var .head) (semE_var (.tail (.tail (.tail .head))))) (semE_sub (semE_var (.tail .head)) (semE_var (.tail (.tail (.tail .head))))) eq_ok) semL_and_nil))))
    (semS_cons (sem1_aug semE_int iadd_ok (.tail (.tail (.tail .head)))) semS_nil)) ?_
  rintro σ Q ⟨a, b, mx, r, rfl, ha, hb, hq⟩
  have hle := preN_le a b
  refine ⟨preN a b + 1, whW_inv (fun n σ => ∃ k, k ≤ preN a b ∧ n = preN a b - k ∧ σ = LV.val (.str a) :: .val (.str b) :: mx :: .val (.int (k : Nat)) :: r) ?_ _ (preN a b) _ (Nat.lt_succ_self _) ⟨0, Nat.zero_le _, rfl, rfl⟩⟩
  rintro n σ ⟨k, hk, rfl, rfl⟩ K hK
  have hs := preN_step a b k hk
  have hend : ¬ k < preN a b → Q Fl.next (LV.val (AV.str a) :: LV.val (AV.str b) :: mx :: LV.val (AV.int (k : Nat)) :: r) := fun hn => by
    have : k = preN a b := by (first | lia | omega)
    rw [this]; exact hq
  have k0 : (0 : Int) ≤ (k : Nat) := Int.natCast_nonneg k
  refine ⟨k0, by (first | lia | omega), by (first | lia | omega), by rw [List.length_drop]; (first | lia | omega), ?_⟩
  by_cases ka : k < a.length
  · refine if_t (drop_some ka) ⟨k0, by (first | lia | omega), by (first | lia | omega), by rw [List.length_drop]; (first | lia | omega), ?_⟩
    by_cases kb : k < b.length
    · refine if_t (drop_some kb) ?_
      dsimp only [varW, List.getD_cons_zero, List.getD_cons_succ, LV.read]
      refine item_str ka (by (first | lia | omega)) (item_str kb (by (first | lia | omega)) ?_)
      cases ke : [a[k]] == [b[k]] with
      | true =>
        have e := List.cons.inj (beq_iff_eq.mp ke)
        have hlt : k < preN a b := hs.mpr ⟨ka, kb, by rw [List.getElem?_eq_getElem ka, List.getElem?_eq_getElem kb, e.1]⟩
        exact if_t ke (hK (preN a b - (k + 1)) _ (by (first | lia | omega)) ⟨k + 1, by (first | lia | omega), rfl, rfl⟩)
      | false =>
        exact if_f ke (hend fun q => by
          have := (hs.mp q).2.2
          rw [List.getElem?_eq_getElem ka, List.getElem?_eq_getElem kb] at this
          rw [Option.some.inj this, beq_self_eq_true] at ke
          cases ke)
    · exact if_f (drop_none kb) (hend fun q => kb (hs.mp q).2.1)
  · exact if_f (drop_none ka) (hend fun q => ka (hs.mp q).1)
end
end Mine
-- ZC6
set_option maxRecDepth 100000
set_option maxHeartbeats 2000000
set_option linter.unusedVariables false
namespace Mine
open PySem PySem.Calls PyProof.Rows PySem.SeqAt PySem.MeetsSeq
section
variable {prog : Program} {w : World} {mg mb : Str → Option Value} {pins : List (Addr × Obj)} {l : Lim}
theorem getA_back {α : Type} {xs : List α} {k : Nat} (h : k < xs.length) : getA xs (-(k : Int) - 1) = some (xs[xs.length - 1 - k]'(by (first | lia | omega))) := by
  unfold getA seqIndex?
  have h1 : (-(k : Int) - 1 < 0) := by (first | lia | omega)
  simp only [h1, if_true]
  have e : (-(k : Int) - 1 + xs.length) = ((xs.length - 1 - k : Nat) : Int) := by (first | lia | omega)
  rw [e]
  have h2 : (0 ≤ ((xs.length - 1 - k : Nat) : Int)) := by (first | lia | omega)
  have h3 : ((xs.length - 1 - k : Nat) : Int) < xs.length := by (first | lia | omega)
  simp [h2, h3]
theorem take_some {a : List Nat} {k : Nat} (h : k < a.length) : (!(a.take (a.length - k)).isEmpty) = true := by
  cases a with
  | nil => exact absurd h (Nat.not_lt_zero _)
  | cons x a =>
    obtain ⟨m, hm⟩ : ∃ m, (x :: a).length - k = m + 1 := ⟨(x :: a).length - k - 1, by (first | lia | omega)⟩
    rw [hm]; rfl
theorem take_none {a : List Nat} {k : Nat} (h : ¬ k < a.length) : (!(a.take (a.length - k)).isEmpty) = false := by
  rw [Nat.sub_eq_zero_of_le (Nat.le_of_not_lt h)]; rfl
theorem item_back {s : List Nat} {k : Nat} {Q : AV → Prop} (hk : k < s.length) (hl : s.length ≤ 100000) (h : Q (.str [s[s.length - 1 - k]'(by (first | lia | omega))])) : itemW (.str s) (.int (-(k : Int) - 1)) Q := by
  refine ⟨hl, ?_⟩
  rw [getA_back hk]; exact h
/-- the common suffix is measured -/
inductive wh2W (σ : Sto) (Q : Fl → Sto → Prop) : Prop
  | mk (a b : List Nat) (mx p : LV) (r : List LV) (e : σ = LV.val (.str a) :: .val (.str b) :: mx :: p :: .val (.int 0) :: r) (ha : a.length ≤ 1000) (hb : b.length ≤ 1000) (hq : Q .next (LV.val (.str a) :: .val (.str b) :: mx :: p :: .val (.int (-(sufN a b : Nat))) :: r))
theorem to_or {s : List Nat} {k : Nat} {Q : AV → Prop} (hk : k ≤ s.length) (hl : s.length ≤ 100000) (h : Q (.str (s.take (s.length - k)))) :
    truW (.int (-(k : Int))) fun c => if c = true then toW (.str s) (.int (-(k : Int))) Q else toW (.str s) .none Q := by
  cases k with
  | zero => exact ⟨hl, by rw [Nat.sub_zero, List.take_length] at h; exact h⟩
  | succ k =>
    refine (show (-((k + 1 : Nat) : Int)) < 0 ∧ -(s.length : Int) ≤ -((k + 1 : Nat) : Int) ∧ s.length ≤ 100000 ∧ Q (.str (s.take ((s.length : Int) + -((k + 1 : Nat) : Int)).toNat)) from ⟨by (first | lia | omega), by (first | lia | omega), hl, ?_⟩)
    rw [show ((s.length : Int) + -((k + 1 : Nat) : Int)).toNat = s.length - (k + 1) by (first | lia | omega)]; exact h
theorem lev_wh2 : Sem1 prog w mg mb pins l (scopeOf (stmtAt PW 14)) levNm (bodyAt (stmtAt PW 14) 6) wh2W := by
  refine sem1_weak (sem1_while (semT_bool (semL_and (semT_of (semE_to (semE_var .head) (semE_or (semE_var (.tail (.tail (.tail (.tail .head))))) semE_none))) (semL_and (semT_of (semE_to (semE_var (.tail .head)) (semE_or (semE_var (.tail (.tail (.tail (.tail .head))))) semE_none))) (semL_and (semT_cmp (semE_sub (semE_var .head) (semE_bin (semE_var (.tail (.tail (.tail (.tail .head))))) semE_int sub_ok)) (semE_sub (semE_var (.tail .head)) (semE_bin (semE_var (.tail (.tail (.tail (.tail .head))))) semE_int sub_ok)) eq_ok) semL_and_nil))))
    (semS_cons (sem1_aug semE_int isub_ok (.tail (.tail (.tail (.tail .head))))) semS_nil)) ?_
  rintro σ Q ⟨a, b, mx, p, r, rfl, ha, hb, hq⟩
  have hle : sufN a b ≤ a.length ∧ sufN a b ≤ b.length := by have := preN_le a.reverse b.reverse; simpa [sufN] using this
  refine ⟨sufN a b + 1, whW_inv (fun n σ => ∃ k, k ≤ sufN a b ∧ n = sufN a b - k ∧ σ = LV.val (.str a) :: .val (.str b) :: mx :: p :: .val (.int (-(k : Nat))) :: r) ?_ _ (sufN a b) _ (by (first | lia | omega)) ⟨0, by (first | lia | omega), rfl, rfl⟩⟩
  rintro n σ ⟨k, hk, rfl, rfl⟩ K hK
  have hs : k < sufN a b ↔ k < a.length ∧ k < b.length ∧ a.reverse[k]? = b.reverse[k]? := by have := preN_step a.reverse b.reverse k hk; simpa [sufN] using this
  have hend : ¬ k < sufN a b → Q Fl.next (LV.val (AV.str a) :: LV.val (AV.str b) :: mx :: p :: LV.val (AV.int (-(k : Nat))) :: r) := fun hn => by
    have : k = sufN a b := by (first | lia | omega)
    rw [this]; exact hq
  refine to_or (by (first | lia | omega)) (by (first | lia | omega)) ⟨by rw [List.length_take]; (first | lia | omega), ?_⟩
  by_cases ka : k < a.length
  · refine if_t (take_some ka) (to_or (by (first | lia | omega)) (by (first | lia | omega)) ⟨by rw [List.length_take]; (first | lia | omega), ?_⟩)
    by_cases kb : k < b.length
    · refine if_t (take_some kb) ?_
      dsimp only [varW, List.getD_cons_zero, List.getD_cons_succ, LV.read, subW]
      refine item_back ka (by (first | lia | omega)) (item_back kb (by (first | lia | omega)) ?_)
      have er : a.reverse[k]? = some (a[a.length - 1 - k]'(by (first | lia | omega))) := by rw [List.getElem?_reverse ka, List.getElem?_eq_getElem]
      have er' : b.reverse[k]? = some (b[b.length - 1 - k]'(by (first | lia | omega))) := by rw [List.getElem?_reverse kb, List.getElem?_eq_getElem]
      cases ke : [a[a.length - 1 - k]'(by (first | lia | omega))] == [b[b.length - 1 - k]'(by (first | lia | omega))] with
      | true =>
        have e := List.cons.inj (beq_iff_eq.mp ke)
        have hlt : k < sufN a b := hs.mpr ⟨ka, kb, by rw [er, er', e.1]⟩
        exact if_t ke (hK (sufN a b - (k + 1)) _ (by (first | lia | omega)) ⟨k + 1, by (first | lia | omega), rfl, by rw [show (-((k + 1 : Nat) : Int)) = -(k : Int) - 1 by (first | lia | omega)]; rfl⟩)
      | false =>
        exact if_f ke (hend fun q => by
          have := (hs.mp q).2.2
          rw [er, er'] at this
          rw [Option.some.inj this, beq_self_eq_true] at ke
          cases ke)
    · exact if_f (take_none kb) (hend fun q => kb (hs.mp q).2.1)
  · exact if_f (take_none ka) (hend fun q => ka (hs.mp q).1)
end
end Mine
-- ZC7
set_option maxRecDepth 100000
set_option maxHeartbeats 2000000
set_option linter.unusedVariables false
namespace Mine
open PySem PySem.Calls PyProof.Rows PySem.SeqAt PySem.MeetsSeq
theorem cntR_one (n : Nat) : cntR 0 n 1 = n := by
  unfold cntR; rw [rangeSize_one]; split <;> (first | lia | omega)
theorem item_ints {row : List Int} {k : Nat} {Q : AV → Prop} (hk : k < row.length) (hl : row.length ≤ 100000) (h : Q (.int row[k])) : itemW (.lst (row.map AV.int)) (.int (k : Nat)) Q := by
  refine ⟨by rw [List.length_map]; exact hl, ?_⟩
  rw [getA_nat (by rw [List.length_map]; exact hk), List.getElem_map]; exact h
theorem setA_ints {row : List Int} {k : Nat} {v : Int} (hk : k < row.length) : setA (row.map AV.int) (k : Int) (.int v) = some ((row.set k v).map AV.int) := by
  unfold setA seqIndex?
  simp only [show ¬ ((k : Int) < 0) by (first | lia | omega), if_false]
  simp [hk, List.map_set]
theorem range_tail {k n : Nat} {y : AV} {r : List AV} (h : y :: r = (List.range (n - k)).map (fun (j : Nat) => AV.int ((k + j : Nat) : Int))) : k < n ∧ y = .int (k : Nat) ∧ r = (List.range (n - (k + 1))).map (fun (j : Nat) => AV.int ((k + 1 + j : Nat) : Int)) := by
  have hk : k < n := by
    have := congrArg List.length h
    rw [List.length_cons, List.length_map, List.length_range] at this; (first | lia | omega)
  rw [show n - k = (n - (k + 1)) + 1 by (first | lia | omega), List.range_succ_eq_map, List.map_cons, List.map_map] at h
  obtain ⟨h1, h2⟩ := List.cons.inj h
  refine ⟨hk, h1, h2.trans (List.map_congr_left fun j _ => ?_)⟩
  rw [Function.comp_apply, show k + j.succ = k + 1 + j by (first | lia | omega)]
theorem range_nil {k n : Nat} (hk : k ≤ n) (h : [] = (List.range (n - k)).map (fun (j : Nat) => AV.int ((k + j : Nat) : Int))) : k = n := by
  have := congrArg List.length h
  rw [List.length_nil, List.length_map, List.length_range] at this; (first | lia | omega)
theorem range_full (n : Nat) : rangeL 0 1 (cntR 0 n 1) = (List.range (n - 0)).map (fun (j : Nat) => AV.int ((0 + j : Nat) : Int)) := by
  rw [cntR_one]; simp [rangeL]
def forBody : Stmt → List Stmt
  | .For _ _ b _ _ => b
  | _ => []
/-- one row of the table -/
inductive rowW (σ : Sto) (Q : Fl → Sto → Prop) : Prop
  | mk (a : List Nat) (b mx pre post : LV) (row : List Int) (res : Int) (bi : LV) (c : Nat) (d mn : Int) (i s e : LV) (hσ : σ = [LV.val (.str a), b, mx, pre, post, .own (row.map AV.int), .val (.int res), bi, .val (.str [c]), .val (.int d), .val (.int mn), i, s, e])
    (hr : row.length = a.length) (ha : a.length ≤ 1000) (hc : (lowerL [c]).length ≤ 1000000) (hx : ∀ x ∈ a, (lowerL [x]).length ≤ 1000000)
    (hq : ∀ d' i' s' e', Q .next [LV.val (.str a), b, mx, pre, post, .own ((inner c a row d res mn).1.map AV.int), .val (.int (inner c a row d res mn).2.1), bi, .val (.str [c]), d', .val (.int (inner c a row d res mn).2.2), i', s', e'])
inductive RowInv (a : List Nat) (b mx pre post bi : LV) (c : Nat) (t : List Int × Int × Int) (xs : List AV) (σ : Sto) : Prop
  | mk (k : Nat) (row' : List Int) (d' res' mn' : Int) (i' s' e' : LV) (hk : k ≤ a.length) (hxs : xs = (List.range (a.length - k)).map (fun (j : Nat) => AV.int ((k + j : Nat) : Int))) (hl : row'.length = a.length)
    (hσ : σ = [LV.val (.str a), b, mx, pre, post, .own (row'.map AV.int), .val (.int res'), bi, .val (.str [c]), .val (.int d'), .val (.int mn'), i', s', e'])
    (h1 : row'.take k ++ (inner c (a.drop k) (row'.drop k) d' res' mn').1 = t.1) (h2 : (inner c (a.drop k) (row'.drop k) d' res' mn').2 = t.2)
section
variable {prog : Program} {w : World} {mg mb : Str → Option Value} {pins : List (Addr × Obj)} {flagT b3T : Int → Option (List Nat)} {b1S : Int → Bool}
theorem lev_in (B : Base prog w mg mb pins flagT b3T b1S) (h_substitution_cost : FnOk prog w mg mb pins ⟨1, true⟩ "_substitution_cost" subCostW) :
    Sem1 prog w mg mb pins ⟨1, true⟩ (scopeOf (stmtAt PW 14)) levNm ((forBody (bodyAt (stmtAt PW 14) 15))[3]?.getD (.Pass default)) rowW := by
  refine sem1_weak (sem1_for (semI_rng (semA_cons (semE_bf B.len (semA_cons (semE_var .head) semA_nil) len_ok) semA_nil) (by decide +kernel) B.range.m B.range.b)
 (semS_cons (sem1_assign (semE_bin (semE_var (.tail (.tail (.tail (.tail (.tail (.tail (.tail (.tail (.tail .head)))))))))) (semE_fn (semA_cons (semE_var (.tail (.tail (.tail (.tail (.tail (.tail (.tail (.tail .head))))))))) (semA_cons (semE_sub (semE_var .head) (semE_var (.tail (.tail (.tail (.tail (.tail (.tail (.tail (.tail (.tail (.tail (.tail .head))))))))))))) semA_nil)) h_substitution_cost (by decide +kernel)) add_ok) (.tail (.tail (.tail (.tail (.tail (.tail (.tail (.tail (.tail (.tail (.tail (.tail .head)))))))))))))
 (semS_cons (sem1_assign (semE_subVar (.tail (.tail (.tail (.tail (.tail .head))))) (semE_var (.tail (.tail (.tail (.tail (.tail (.tail (.tail (.tail (.tail (.tail (.tail .head))))))))))))) (.tail (.tail (.tail (.tail (.tail (.tail (.tail (.tail (.tail .head))))))))))
 (semS_cons (sem1_assign (semE_bin (semE_bf B.min (semA_cons (semE_var (.tail (.tail (.tail (.tail (.tail (.tail .head))))))) (semA_cons (semE_var (.tail (.tail (.tail (.tail (.tail (.tail (.tail (.tail (.tail .head)))))))))) semA_nil)) (min_ok rfl)) (semE_gv B.move) add_ok) (.tail (.tail (.tail (.tail (.tail (.tail (.tail (.tail (.tail (.tail (.tail (.tail (.tail .head))))))))))))))
 (semS_cons (sem1_assign (semE_bf B.min (semA_cons (semE_var (.tail (.tail (.tail (.tail (.tail (.tail (.tail (.tail (.tail (.tail (.tail (.tail (.tail .head)))))))))))))) (semA_cons (semE_var (.tail (.tail (.tail (.tail (.tail (.tail (.tail (.tail (.tail (.tail (.tail (.tail .head))))))))))))) semA_nil)) (min_ok rfl)) (.tail (.tail (.tail (.tail (.tail (.tail .head)))))))
 (semS_cons (sem1_store (semE_var (.tail (.tail (.tail (.tail (.tail (.tail .head))))))) (semE_var (.tail (.tail (.tail (.tail (.tail (.tail (.tail (.tail (.tail (.tail (.tail .head)))))))))))) (.tail (.tail (.tail (.tail (.tail .head))))))
 (semS_cons (sem1_if (semT_cmp (semE_var (.tail (.tail (.tail (.tail (.tail (.tail .head))))))) (semE_var (.tail (.tail (.tail (.tail (.tail (.tail (.tail (.tail (.tail (.tail .head))))))))))) lt_ok)
 (semS_cons (sem1_assign (semE_var (.tail (.tail (.tail (.tail (.tail (.tail .head))))))) (.tail (.tail (.tail (.tail (.tail (.tail (.tail (.tail (.tail (.tail .head)))))))))))
 semS_nil)
 semS_nil)
 semS_nil))))))
 semS_nil (.tail (.tail (.tail (.tail (.tail (.tail (.tail (.tail (.tail (.tail (.tail .head)))))))))))) ?_
  rintro σ Q ⟨a, b, mx, pre, post, row, res, bi, c, d, mn, i, s, e, rfl, hr, ha, hc, hx, hq⟩
  refine ⟨by (first | lia | omega), by (first | lia | omega), by (first | lia | omega), forW_at (range_full a.length) ?_⟩
  refine forW_inv (RowInv a b mx pre post bi c (inner c a row d res mn)) ?_ ?_ _ _
    ⟨0, row, d, res, mn, i, s, e, Nat.zero_le _, rfl, hr, rfl, rfl, rfl⟩
  · rintro y r σ ⟨k, row', d', res', mn', i', s', e', hk, hxs, hl, rfl, h1, h2⟩ K hK
    obtain ⟨hk', rfl, rfl⟩ := range_tail hxs
    have hkr : k < row'.length := by (first | lia | omega)
    have hd : a.drop k = a[k] :: a.drop (k + 1) := List.drop_eq_getElem_cons hk'
    have hdr : row'.drop k = row'[k] :: row'.drop (k + 1) := List.drop_eq_getElem_cons hkr
    rw [hd, hdr] at h1 h2
    simp only [inner] at h1 h2
    generalize hsc : subCost [c] [a[k]] = sc at h1 h2
    generalize hrk : row'[k] = rk at h1 h2
    generalize hnr : minI (minI res' rk + 2) (d' + sc) = nr at h1 h2
    refine seqW_of (σ1 := [LV.val (.str a), b, mx, pre, post, .own (row'.map AV.int), .val (.int res'), bi, .val (.str [c]), .val (.int d'), .val (.int mn'), .val (.int (k : Nat)), .val (.int (d' + sc)), e']) (fun K hK => ?_) ?_
    · dsimp only [List.set, consW, varW, List.getD_cons_zero, List.getD_cons_succ, LV.read]
      exact item_str hk' (by (first | lia | omega)) ⟨_, _, rfl, hc, hx _ (List.getElem_mem hk'), by rw [hsc]; exact hK⟩
    refine seqW_of (σ1 := [LV.val (.str a), b, mx, pre, post, .own (row'.map AV.int), .val (.int res'), bi, .val (.str [c]), .val (.int rk), .val (.int mn'), .val (.int (k : Nat)), .val (.int (d' + sc)), e']) (fun K hK => ?_) ?_
    · dsimp only [List.set, varW, List.getD_cons_zero, List.getD_cons_succ, LV.read, LV.seq]
      exact item_ints hkr (by (first | lia | omega)) (by rw [hrk]; exact hK)
    refine seqW_of (σ1 := [LV.val (.str a), b, mx, pre, post, .own (row'.map AV.int), .val (.int res'), bi, .val (.str [c]), .val (.int rk), .val (.int mn'), .val (.int (k : Nat)), .val (.int (d' + sc)), .val (.int (minI res' rk + 2))]) (fun K hK => hK) ?_
    refine seqW_of (σ1 := [LV.val (.str a), b, mx, pre, post, .own (row'.map AV.int), .val (.int nr), bi, .val (.str [c]), .val (.int rk), .val (.int mn'), .val (.int (k : Nat)), .val (.int (d' + sc)), .val (.int (minI res' rk + 2))]) (fun K hK => by subst hnr; exact hK) ?_
    refine seqW_of (σ1 := [LV.val (.str a), b, mx, pre, post, .own ((row'.set k nr).map AV.int), .val (.int nr), bi, .val (.str [c]), .val (.int rk), .val (.int mn'), .val (.int (k : Nat)), .val (.int (d' + sc)), .val (.int (minI res' rk + 2))]) (fun K hK => ⟨_, rfl, by rw [List.length_map]; (first | lia | omega), ?_⟩) ?_
    · rw [setA_ints hkr]; exact hK
    have key : ∀ mn'', (if nr < mn' then nr else mn') = mn'' → K [LV.val (.str a), b, mx, pre, post, .own ((row'.set k nr).map AV.int), .val (.int nr), bi, .val (.str [c]), .val (.int rk), .val (.int mn''), .val (.int (k : Nat)), .val (.int (d' + sc)), .val (.int (minI res' rk + 2))] := fun mn'' e => by
      subst e
      refine hK _ ⟨k + 1, _, _, _, _, _, _, _, hk', rfl, by rw [List.length_set]; exact hl, rfl, ?_, ?_⟩
      · rw [← h1, List.drop_set_of_lt (Nat.lt_succ_self k), List.take_set, List.take_succ_eq_append_getElem hkr, List.set_append_right _ _ (by rw [List.length_take]; (first | lia | omega))]
        have e : k - (row'.take k).length = 0 := by rw [List.length_take]; (first | lia | omega)
        rw [e, List.set_cons_zero, List.append_assoc]; rfl
      · rw [← h2, List.drop_set_of_lt (Nat.lt_succ_self k)]
    cases q : decide (nr < mn') with
    | true => exact if_t q (key _ (if_pos (of_decide_eq_true q)))
    | false => exact if_f q (key _ (if_neg (of_decide_eq_false q)))
  · rintro σ ⟨k, row', d', res', mn', i', s', e', hk, hxs, hl, rfl, h1, h2⟩
    have hk' := range_nil hk hxs
    subst hk'
    rw [List.drop_length, List.drop_of_length_le (Nat.le_of_eq hl)] at h1 h2
    rw [List.take_of_length_le (Nat.le_of_eq hl)] at h1
    have e1 : row' = (inner c a row d res mn).1 := (List.append_nil row').symm.trans h1
    have := hq (.val (.int d')) i' s' e'
    rw [← e1, ← h2] at this
    exact this
end
end Mine
-- ZC8
set_option maxRecDepth 100000
set_option maxHeartbeats 2000000
set_option linter.unusedVariables false
namespace Mine
open PySem PySem.Calls PyProof.Rows PySem.SeqAt PySem.MeetsSeq
theorem inner_len (c : Nat) : ∀ (a : List Nat) (row : List Int) (d res mn : Int), (inner c a row d res mn).1.length = row.length
  | x :: a, r :: row, d, res, mn => by simp [inner, inner_len c a row]
  | [], row, d, res, mn => by simp [inner]
  | _ :: _, [], d, res, mn => by simp [inner]
/-- the table -/
inductive tabW (σ : Sto) (Q : Fl → Sto → Prop) : Prop
  | mk (a b : List Nat) (mx : Int) (pre post : LV) (row : List Int) (res : Int) (bi bc d mn i s e : LV) (hσ : σ = [LV.val (.str a), .val (.str b), .val (.int mx), pre, post, .own (row.map AV.int), .val (.int res), bi, bc, d, mn, i, s, e])
    (hr : row.length = a.length) (ha : a.length ≤ 1000) (hb : b.length ≤ 1000) (hxa : ∀ x ∈ a, (lowerL [x]).length ≤ 1000000) (hxb : ∀ x ∈ b, (lowerL [x]).length ≤ 1000000)
    (hret : ∀ σ', Q (.ret (.int (outer a mx b 0 row res))) σ') (hq : ∀ row' bi' bc' d' mn' i' s' e', Q .next [LV.val (.str a), .val (.str b), .val (.int mx), pre, post, row', .val (.int (outer a mx b 0 row res)), bi', bc', d', mn', i', s', e'])
inductive TabInv (a b : List Nat) (mx : Int) (pre post : LV) (r : Int) (xs : List AV) (σ : Sto) : Prop
  | mk (k : Nat) (row' : List Int) (res' : Int) (bi' bc' d' mn' i' s' e' : LV) (hk : k ≤ b.length) (hxs : xs = (List.range (b.length - k)).map (fun (j : Nat) => AV.int ((k + j : Nat) : Int))) (hl : row'.length = a.length)
    (hσ : σ = [LV.val (.str a), .val (.str b), .val (.int mx), pre, post, .own (row'.map AV.int), .val (.int res'), bi', bc', d', mn', i', s', e']) (h1 : outer a mx (b.drop k) k row' res' = r)
section
variable {prog : Program} {w : World} {mg mb : Str → Option Value} {pins : List (Addr × Obj)} {flagT b3T : Int → Option (List Nat)} {b1S : Int → Bool}
theorem lev_tab (B : Base prog w mg mb pins flagT b3T b1S) (h_substitution_cost : FnOk prog w mg mb pins ⟨1, true⟩ "_substitution_cost" subCostW) :
    Sem1 prog w mg mb pins ⟨1, true⟩ (scopeOf (stmtAt PW 14)) levNm (bodyAt (stmtAt PW 14) 15) tabW := by
  refine sem1_weak (sem1_for (semI_rng (semA_cons (semE_bf B.len (semA_cons (semE_var (.tail .head)) semA_nil) len_ok) semA_nil) (by decide +kernel) B.range.m B.range.b)
 (semS_cons (sem1_assign (semE_sub (semE_var (.tail .head)) (semE_var (.tail (.tail (.tail (.tail (.tail (.tail (.tail .head))))))))) (.tail (.tail (.tail (.tail (.tail (.tail (.tail (.tail .head)))))))))
 (semS_cons (sem1_assign2 (semE_bin (semE_var (.tail (.tail (.tail (.tail (.tail (.tail (.tail .head)))))))) (semE_gv B.move) mul_ok) (.tail (.tail (.tail (.tail (.tail (.tail (.tail (.tail (.tail .head))))))))) (.tail (.tail (.tail (.tail (.tail (.tail .head)))))))
 (semS_cons (sem1_assign semE_int (.tail (.tail (.tail (.tail (.tail (.tail (.tail (.tail (.tail (.tail .head)))))))))))
 (semS_cons (lev_in B h_substitution_cost)
 (semS_cons (sem1_if (semT_cmp (semE_var (.tail (.tail (.tail (.tail (.tail (.tail (.tail (.tail (.tail (.tail .head))))))))))) (semE_var (.tail (.tail .head))) gt_ok)
 (semS_cons (sem1_return (semE_bin (semE_var (.tail (.tail .head))) semE_int add_ok))
 semS_nil)
 semS_nil)
 semS_nil)))))
 semS_nil (.tail (.tail (.tail (.tail (.tail (.tail (.tail .head)))))))) ?_
  rintro σ Q ⟨a, b, mx, pre, post, row, res, bi, bc, d, mn, i, s, e, rfl, hr, ha, hb, hxa, hxb, hret, hq⟩
  refine ⟨by (first | lia | omega), by (first | lia | omega), by (first | lia | omega), forW_at (range_full b.length) ?_⟩
  refine forW_inv (TabInv a b mx pre post (outer a mx b 0 row res)) ?_ ?_ _ _
    ⟨0, row, res, bi, bc, d, mn, i, s, e, Nat.zero_le _, rfl, hr, rfl, rfl⟩
  · rintro y r σ ⟨k, row', res', bi', bc', d', mn', i', s', e', hk, hxs, hl, rfl, h1⟩ K hK
    obtain ⟨hk', rfl, rfl⟩ := range_tail hxs
    have hd : b.drop k = b[k] :: b.drop (k + 1) := List.drop_eq_getElem_cons hk'
    rw [hd] at h1
    simp only [outer] at h1
    refine seqW_of (σ1 := [LV.val (.str a), .val (.str b), .val (.int mx), pre, post, .own (row'.map AV.int), .val (.int res'), .val (.int (k : Nat)), .val (.str [b[k]]), d', mn', i', s', e']) (fun K hK => ?_) ?_
    · dsimp only [List.set, varW, List.getD_cons_zero, List.getD_cons_succ, LV.read]
      exact item_str hk' (by (first | lia | omega)) hK
    refine seqW_of (σ1 := [LV.val (.str a), .val (.str b), .val (.int mx), pre, post, .own (row'.map AV.int), .val (.int ((k : Nat) * 2)), .val (.int (k : Nat)), .val (.str [b[k]]), .val (.int ((k : Nat) * 2)), mn', i', s', e']) (fun K hK => ⟨.inr (by unfold Small; decide), hK⟩) ?_
    refine seqW_of (σ1 := [LV.val (.str a), .val (.str b), .val (.int mx), pre, post, .own (row'.map AV.int), .val (.int ((k : Nat) * 2)), .val (.int (k : Nat)), .val (.str [b[k]]), .val (.int ((k : Nat) * 2)), .val (.int 9223372036854775807), i', s', e']) (fun K hK => hK) ?_
    refine seqW_mk ⟨a, _, _, _, _, row', _, _, b[k], _, _, _, _, _, rfl, hl, ha, hxb _ (List.getElem_mem hk'), hxa, fun d2 i2 s2 e2 => ?_⟩
    have hln := inner_len b[k] a row' (k * 2) (k * 2) 9223372036854775807
    generalize inner b[k] a row' (k * 2) (k * 2) 9223372036854775807 = t at h1 hln
    cases hg : decide (t.2.2 > mx) with
    | true =>
      rw [if_pos (of_decide_eq_true hg)] at h1
      refine if_t hg ?_
      rw [← h1] at hret
      exact hret _
    | false =>
      rw [if_neg (of_decide_eq_false hg)] at h1
      exact if_f hg (hK _ ⟨k + 1, _, _, _, _, _, _, _, _, _, hk', rfl, hln.trans hl, rfl, h1⟩)
  · rintro σ ⟨k, row', res', bi', bc', d', mn', i', s', e', hk, hxs, hl, rfl, h1⟩
    have hk' := range_nil hk hxs
    subst hk'
    rw [List.drop_length] at h1
    have h1 : res' = outer a mx b 0 row res := h1
    rw [h1]; exact hq _ _ _ _ _ _ _ _
end
end Mine
-- ZC9
set_option maxRecDepth 100000
set_option maxHeartbeats 2000000
set_option linter.unusedVariables false
set_option linter.unusedSimpArgs false
namespace Mine
open PySem PySem.Calls PyProof.Rows PySem.SeqAt PySem.MeetsSeq
section
variable {prog : Program} {w : World} {mg mb : Str → Option Value} {pins : List (Addr × Obj)} {flagT b3T : Int → Option (List Nat)} {b1S : Int → Bool}
/-- from the exchange on -/
inductive tailW (σ : Sto) (Q : Fl → Sto → Prop) : Prop
  | mk (a b : List Nat) (mx : Int) (p q : LV) (hσ : σ = [LV.val (.str a), .val (.str b), .val (.int mx), p, q, .unset, .unset, .unset, .unset, .unset, .unset, .unset, .unset, .unset]) (ha : a.length ≤ 1000) (hb : b.length ≤ 1000)
    (hxa : ∀ x ∈ a, (lowerL [x]).length ≤ 1000000) (hxb : ∀ x ∈ b, (lowerL [x]).length ≤ 1000000) (hq : ∀ σ', Q (.ret (.int (levRow a b mx))) σ')
theorem lev_tail (B : Base prog w mg mb pins flagT b3T b1S) (h_substitution_cost : FnOk prog w mg mb pins ⟨1, true⟩ "_substitution_cost" subCostW) :
    SemS prog w mg mb pins ⟨1, true⟩ (scopeOf (stmtAt PW 14)) levNm ((bodyOf (stmtAt PW 14)).drop 12) tailW := by
  refine semS_weak (semS_cons (sem1_if (semT_cmp (semE_bin (semE_bin (semE_bf B.len (semA_cons (semE_var (.tail .head)) semA_nil) len_ok) (semE_bf B.len (semA_cons (semE_var .head) semA_nil) len_ok) sub_ok) (semE_gv B.move) mul_ok) (semE_var (.tail (.tail .head))) gt_ok)
 (semS_cons (sem1_return (semE_bin (semE_var (.tail (.tail .head))) semE_int add_ok))
 semS_nil)
 semS_nil)
 (semS_cons (sem1_assignOwn (semF_listRange rfl (semA_cons (semE_gv B.move) (semA_cons (semE_bin (semE_gv B.move) (semE_bin (semE_bf B.len (semA_cons (semE_var .head) semA_nil) len_ok) semE_int add_ok) mul_ok) (semA_cons (semE_gv B.move) semA_nil))) (by decide +kernel) B.list.m B.list.b (by decide +kernel) B.range.m B.range.b) (.tail (.tail (.tail (.tail (.tail .head))))))
 (semS_cons (sem1_assign semE_int (.tail (.tail (.tail (.tail (.tail (.tail .head)))))))
 (semS_cons (lev_tab B h_substitution_cost)
 (semS_cons (sem1_return (semE_var (.tail (.tail (.tail (.tail (.tail (.tail .head))))))))
 semS_nil))))) ?_
  rintro σ Q ⟨a, b, mx, p, q, rfl, ha, hb, hxa, hxb, hq⟩
  unfold levRow at hq
  refine ⟨by (first | lia | omega), by (first | lia | omega), .inr (by unfold Small; decide), ?_⟩
  cases hg : decide (((b.length : Int) - a.length) * 2 > mx) with
  | true =>
    rw [if_pos (of_decide_eq_true hg)] at hq
    exact if_t hg (hq _)
  | false =>
    rw [if_neg (of_decide_eq_false hg)] at hq
    refine if_f hg (seqN ?_)
    have e : rangeL 2 2 (cntR 2 (2 * ((a.length : Int) + 1)) 2) = (row0 a.length).map AV.int := by
      have ec : cntR 2 (2 * ((a.length : Int) + 1)) 2 = a.length := by
        unfold cntR Builtin.Range.rangeSize
        simp only [show (2 : Int) > 0 by decide, if_true]
        split <;> (first | lia | omega)
      rw [ec]
      unfold rangeL row0
      rw [List.map_map]; rfl
    refine seqW_of (σ1 := [LV.val (.str a), .val (.str b), .val (.int mx), p, q, .own ((row0 a.length).map AV.int), .unset, .unset, .unset, .unset, .unset, .unset, .unset, .unset]) (fun K hK => ⟨by (first | lia | omega), .inl (by unfold Small; decide), by decide, by decide, by (first | lia | omega), by (first | lia | omega), by decide, by decide, ?_⟩) ?_
    · rw [← e] at hK; exact hK
    refine seqW_of (σ1 := [LV.val (.str a), .val (.str b), .val (.int mx), p, q, .own ((row0 a.length).map AV.int), .val (.int 0), .unset, .unset, .unset, .unset, .unset, .unset, .unset]) (fun K hK => hK) ?_
    refine seqW_mk ⟨a, b, mx, p, q, row0 a.length, 0, _, _, _, _, _, _, _, rfl, by rw [row0, List.length_map, List.length_range], ha, hb, hxa, hxb, hq, fun _ _ _ _ _ _ _ _ => ?_⟩
    exact hq _
theorem lev_ok (B : Base prog w mg mb pins flagT b3T b1S) (h_substitution_cost : FnOk prog w mg mb pins ⟨1, true⟩ "_substitution_cost" subCostW) (P : FnPin mg pins "_levenshtein_distance" (stmtAt PW 14) ["a", "b", "max_cost"]) : FnOk prog w mg mb pins ⟨2, true⟩ "_levenshtein_distance" levW := by
  refine FnOk.of_sem (n := 1) (nm := levNm) P
   (semS_cons (sem1_if (semT_cmp (semE_var .head) (semE_var (.tail .head)) eq_ok)
 (semS_cons (sem1_return semE_int)
 semS_nil)
 semS_nil)
 (semS_cons (sem1_assign semE_int (.tail (.tail (.tail .head))))
 (semS_cons lev_wh1
 (semS_cons (sem1_assign (semE_from (semE_var .head) (semE_var (.tail (.tail (.tail .head))))) .head)
 (semS_cons (sem1_assign (semE_from (semE_var (.tail .head)) (semE_var (.tail (.tail (.tail .head))))) (.tail .head))
 (semS_cons (sem1_assign semE_int (.tail (.tail (.tail (.tail .head)))))
 (semS_cons lev_wh2
 (semS_cons (sem1_assign (semE_to (semE_var .head) (semE_or (semE_var (.tail (.tail (.tail (.tail .head))))) semE_none)) .head)
 (semS_cons (sem1_assign (semE_to (semE_var (.tail .head)) (semE_or (semE_var (.tail (.tail (.tail (.tail .head))))) semE_none)) (.tail .head))
 (semS_cons (sem1_if (semT_bool (semL_or (semT_not (semT_of (semE_var .head))) (semL_or (semT_not (semT_of (semE_var (.tail .head)))) semL_or_nil)))
 (semS_cons (sem1_return (semE_bin (semE_gv B.move) (semE_bin (semE_bf B.len (semA_cons (semE_var .head) semA_nil) len_ok) (semE_bf B.len (semA_cons (semE_var (.tail .head)) semA_nil) len_ok) add_ok) mul_ok))
 semS_nil)
 semS_nil)
 (semS_cons (sem1_if (semT_bool (semL_or (semT_cmp (semE_bf B.len (semA_cons (semE_var .head) semA_nil) len_ok) (semE_gv B.max) gt_ok) (semL_or (semT_cmp (semE_bf B.len (semA_cons (semE_var (.tail .head)) semA_nil) len_ok) (semE_gv B.max) gt_ok) semL_or_nil)))
 (semS_cons (sem1_return (semE_bin (semE_var (.tail (.tail .head))) semE_int add_ok))
 semS_nil)
 semS_nil)
 (semS_cons (sem1_if (semT_cmp (semE_bf B.len (semA_cons (semE_var (.tail .head)) semA_nil) len_ok) (semE_bf B.len (semA_cons (semE_var .head) semA_nil) len_ok) lt_ok)
 (semS_cons (sem1_swap (semE_tuple (semA_cons (semE_var (.tail .head)) (semA_cons (semE_var .head) semA_nil))) rfl .head (.tail .head) (hw := fun env e => by unfold swappedStores Env.blockKind Env.kindOf; rw [e]; rfl))
 semS_nil)
 semS_nil)
 (lev_tail B h_substitution_cost)))))))))))))
   ?_ ⟨["pre", "post", "row", "result", "bindex", "bchar", "distance", "minimum", "index", "substitute", "insert_delete"], rfl⟩ (by decide +kernel) (by decide +kernel) rfl rfl rfl
  rintro as Q ⟨a, b, mx, rfl, h1, h2, h3, h4, h5⟩
  refine ⟨rfl, ?_⟩
  unfold levD at h5
  cases hab : a == b with
  | true => rw [hab] at h5; exact if_t hab h5
  | false =>
  rw [hab] at h5
  refine if_f hab (seqN ?_)
  refine seqW_of (σ1 := [.val (.str a), .val (.str b), .val (.int mx), .val (.int 0), .unset, .unset, .unset, .unset, .unset, .unset, .unset, .unset, .unset, .unset]) (fun K hK => hK) ?_
  refine seqW_of (σ1 := [.val (.str a), .val (.str b), .val (.int mx), .val (.int (preN a b : Nat)), .unset, .unset, .unset, .unset, .unset, .unset, .unset, .unset, .unset, .unset]) (fun K hK => ⟨a, b, _, _, rfl, h1, h2, hK⟩) ?_
  have hle := preN_le a b
  have h5 : Q (.int (levCore (trim a b).1 (trim a b).2 mx)) := h5
  unfold trim at h5
  dsimp only at h5
  have ma : ∀ x ∈ a.drop (preN a b), (lowerL [x]).length ≤ 1000000 := fun x hx => h3 x (List.mem_of_mem_drop hx)
  have mb' : ∀ x ∈ b.drop (preN a b), (lowerL [x]).length ≤ 1000000 := fun x hx => h4 x (List.mem_of_mem_drop hx)
  have la : (a.drop (preN a b)).length ≤ 1000 := by rw [List.length_drop]; (first | lia | omega)
  have lb : (b.drop (preN a b)).length ≤ 1000 := by rw [List.length_drop]; (first | lia | omega)
  generalize ea1 : a.drop (preN a b) = a1 at h5 ma la
  generalize eb1 : b.drop (preN a b) = b1 at h5 mb' lb
  have k0 : (0 : Int) ≤ (preN a b : Nat) := Int.natCast_nonneg _
  refine seqW_of (σ1 := [.val (.str a1), .val (.str b), .val (.int mx), .val (.int (preN a b : Nat)), .unset, .unset, .unset, .unset, .unset, .unset, .unset, .unset, .unset, .unset]) (fun K hK => ⟨k0, by (first | lia | omega), by (first | lia | omega), by subst ea1; exact hK⟩) ?_
  refine seqW_of (σ1 := [.val (.str a1), .val (.str b1), .val (.int mx), .val (.int (preN a b : Nat)), .unset, .unset, .unset, .unset, .unset, .unset, .unset, .unset, .unset, .unset]) (fun K hK => ⟨k0, by (first | lia | omega), by (first | lia | omega), by subst eb1; exact hK⟩) ?_
  generalize LV.val (AV.int (preN a b : Nat)) = p
  refine seqW_of (σ1 := [.val (.str a1), .val (.str b1), .val (.int mx), p, .val (.int 0), .unset, .unset, .unset, .unset, .unset, .unset, .unset, .unset, .unset]) (fun K hK => hK) ?_
  refine seqW_of (σ1 := [.val (.str a1), .val (.str b1), .val (.int mx), p, .val (.int (-(sufN a1 b1 : Nat))), .unset, .unset, .unset, .unset, .unset, .unset, .unset, .unset, .unset]) (fun K hK => ⟨a1, b1, _, _, _, rfl, la, lb, hK⟩) ?_
  have hle2 : sufN a1 b1 ≤ a1.length ∧ sufN a1 b1 ≤ b1.length := by have h := preN_le a1.reverse b1.reverse; rw [List.length_reverse, List.length_reverse] at h; exact h
  have ma2 : ∀ x ∈ a1.take (a1.length - sufN a1 b1), (lowerL [x]).length ≤ 1000000 := fun x hx => ma x (List.mem_of_mem_take hx)
  have mb2 : ∀ x ∈ b1.take (b1.length - sufN a1 b1), (lowerL [x]).length ≤ 1000000 := fun x hx => mb' x (List.mem_of_mem_take hx)
  have la2 : (a1.take (a1.length - sufN a1 b1)).length ≤ 1000 := by rw [List.length_take]; (first | lia | omega)
  have lb2 : (b1.take (b1.length - sufN a1 b1)).length ≤ 1000 := by rw [List.length_take]; (first | lia | omega)
  generalize ea2 : a1.take (a1.length - sufN a1 b1) = a2 at h5 ma2 la2
  generalize eb2 : b1.take (b1.length - sufN a1 b1) = b2 at h5 mb2 lb2
  refine seqW_of (σ1 := [.val (.str a2), .val (.str b1), .val (.int mx), p, .val (.int (-(sufN a1 b1 : Nat))), .unset, .unset, .unset, .unset, .unset, .unset, .unset, .unset, .unset]) (fun K hK => to_or hle2.1 (by (first | lia | omega)) (by rw [ea2]; exact hK)) ?_
  refine seqW_of (σ1 := [.val (.str a2), .val (.str b2), .val (.int mx), p, .val (.int (-(sufN a1 b1 : Nat))), .unset, .unset, .unset, .unset, .unset, .unset, .unset, .unset, .unset]) (fun K hK => to_or hle2.2 (by (first | lia | omega)) (by rw [eb2]; exact hK)) ?_
  generalize LV.val (AV.int (-(sufN a1 b1 : Nat))) = q
  unfold levCore at h5
  refine seqW_mk ⟨by (first | lia | omega), ?_⟩
  by_cases ea : a2.isEmpty = true
  · rw [if_pos (.inl (List.isEmpty_iff.mp ea))] at h5
    exact if_t (by rw [ea]; rfl) ⟨by (first | lia | omega), by (first | lia | omega), .inl (by unfold Small; decide), h5⟩
  have ea' : a2.isEmpty = false := by simpa using ea
  refine if_f (by rw [ea']; rfl) ⟨by (first | lia | omega), ?_⟩
  by_cases eb : b2.isEmpty = true
  · rw [if_pos (.inr (List.isEmpty_iff.mp eb))] at h5
    exact if_t (by rw [eb]; rfl) ⟨by (first | lia | omega), by (first | lia | omega), .inl (by unfold Small; decide), h5⟩
  have eb' : b2.isEmpty = false := by simpa using eb
  refine if_f (by rw [eb']; rfl) ?_
  refine ff ?_
  rw [if_neg (fun h => h.elim (fun e => ea (List.isEmpty_iff.mpr e)) fun e => eb (List.isEmpty_iff.mpr e))] at h5
  refine seqN (seqW_mk ?_)
  refine ⟨by (first | lia | omega), ?_⟩
  cases g1 : decide ((a2.length : Int) > 40) with
  | true =>
    rw [if_pos (.inl (by have := of_decide_eq_true g1; (first | lia | omega)))] at h5
    exact if_t g1 h5
  | false =>
  refine if_f g1 ⟨by (first | lia | omega), ?_⟩
  cases g2 : decide ((b2.length : Int) > 40) with
  | true =>
    rw [if_pos (.inr (by have := of_decide_eq_true g2; (first | lia | omega)))] at h5
    exact if_t g2 h5
  | false =>
  have g1 := of_decide_eq_false g1
  have g2' := of_decide_eq_false g2
  rw [if_neg (by (first | lia | omega))] at h5
  refine if_f g2 ?_
  refine ff ?_
  refine seqN (seqW_mk ?_)
  refine ⟨by (first | lia | omega), by (first | lia | omega), ?_⟩
  cases g3 : decide ((b2.length : Int) < a2.length) with
  | true =>
    rw [if_pos (by have := of_decide_eq_true g3; (first | lia | omega))] at h5
    exact if_t g3 ⟨b2, a2, mx, _, _, rfl, lb2, la2, mb2, ma2, fun _ => h5⟩
  | false =>
    rw [if_neg (by have := of_decide_eq_false g3; (first | lia | omega))] at h5
    exact if_f g3 ⟨a2, b2, mx, _, _, rfl, la2, lb2, ma2, mb2, fun _ => h5⟩
end
end Mine
-- ZV5
set_option maxRecDepth 100000
set_option maxHeartbeats 1000000
set_option linter.unusedVariables false
set_option linter.unusedSimpArgs false
namespace Mine
open PySem PySem.Calls PyProof.Rows

/-- the varint, as the text reads it: b, val at hand, the rest behind -/
def pvGo : List Int → Int → Int → Option (Int × List Int)
  | r, b, val => if Builtin.bitAnd b 64 = 0 then some (val, r) else match r with
    | [] => none
    | b' :: r' => pvGo r' b' (Builtin.bitOr (val * 64) (Builtin.bitAnd b' 63))
def pv : List Int → Option (Int × List Int)
  | [] => none
  | b :: r => pvGo r b (Builtin.bitAnd b 63)
/-- the numbers on the way are small -/
def pvSm : List Int → Int → Int → Prop
  | r, b, val => if Builtin.bitAnd b 64 = 0 then True else Small val ∧ match r with
    | [] => True
    | b' :: r' => pvSm r' b' (Builtin.bitOr (val * 64) (Builtin.bitAnd b' 63))
def pvSmall : List Int → Prop
  | [] => True
  | b :: r => pvSm r b (Builtin.bitAnd b 63)
def pvNm : List Str := ["iterator", "b", "val"]
section
variable {prog : Program} {w : World} {mg mb : Str → Option Value} {pins : List (Addr × Obj)} {flagT b3T : Int → Option (List Nat)} {b1S : Int → Bool} {n : Nat}
def pvW : WX := fun σ Q QE => ∃ it xs, σ = [.itr it (xs.map AV.int), .unset, .unset] ∧ pvSmall xs ∧
  match pv xs with
  | none => QE
  | some (val, r) => ∀ b v, Q (.ret (.int val)) [.itr it (r.map AV.int), b, v]
def pvLoopW : WX := fun σ Q QE => ∃ it r b val, σ = [LV.itr it (r.map AV.int), .val (.int b), .val (.int val)] ∧ pvSm r b val ∧
  match pvGo r b val with
  | none => QE
  | some (val, r') => ∀ b', Q .next [LV.itr it (r'.map AV.int), .val (.int b'), .val (.int val)]
theorem pv_loop (B : Base prog w mg mb pins flagT b3T b1S) : SemX1 prog w mg mb pins ⟨n, true⟩ (scopeOf (stmtAt PW 8)) pvNm (bodyAt (stmtAt PW 8) 2) pvLoopW := by
  refine semX1_weak (semX1_while (semT_of (semE_bin (semE_var (.tail .head)) semE_int and_ok))
      (semXS_cons (semX1_lift (sem1_aug semE_int ishl_ok (.tail (.tail .head))))
      (semXS_cons (semX1_next B.next (.tail .head) .head (by decide +kernel))
      (semXS_cons (semX1_lift (sem1_aug (semE_bin (semE_var (.tail .head)) semE_int and_ok) ior_ok (.tail (.tail .head))))
      semXS_nil)))) ?_
  rintro σ Q QE ⟨it, r, b, val, rfl, hs, hq⟩
  refine ⟨r.length + 1, ?_⟩
  induction r generalizing b val with
  | nil =>
    unfold pvGo at hq
    unfold pvSm at hs
    by_cases hb : Builtin.bitAnd b 64 = 0
    · rw [if_pos hb] at hq
      exact if_f (by rw [hb]; rfl) (hq b)
    · rw [if_neg hb] at hq hs
      exact if_t (bne_iff_ne.mpr hb) ⟨by decide, by decide, hs.1, it, [], rfl, hq⟩
  | cons x r ih =>
    unfold pvGo at hq
    unfold pvSm at hs
    by_cases hb : Builtin.bitAnd b 64 = 0
    · rw [if_pos hb] at hq
      exact if_f (by rw [hb]; rfl) (hq b)
    · rw [if_neg hb] at hq hs
      exact if_t (bne_iff_ne.mpr hb) ⟨by decide, by decide, hs.1, it, _, rfl, ih x _ hs.2 hq⟩
theorem pv_body (B : Base prog w mg mb pins flagT b3T b1S) : SemXS prog w mg mb pins ⟨n, true⟩ (scopeOf (stmtAt PW 8)) pvNm (bodyOf (stmtAt PW 8)) pvW := by
  have key : SemXS prog w mg mb pins ⟨n, true⟩ (scopeOf (stmtAt PW 8)) pvNm (bodyOf (stmtAt PW 8)) _ :=
    semXS_cons (semX1_next B.next (.tail .head) .head (by decide +kernel))
    (semXS_cons (semX1_lift (sem1_assign (semE_bin (semE_var (.tail .head)) semE_int and_ok) (.tail (.tail .head))))
    (semXS_cons (pv_loop B)
    (semXS_cons (semX1_lift (sem1_return (semE_var (.tail (.tail .head)))))
    semXS_nil)))
  refine .mk fun A env outer X₀ s₀ σ s Z X m cm Q QE E a z eo c F hq he => key.it A env outer X₀ s₀ σ s Z X m cm Q QE E a z eo c F ?_ he
  obtain ⟨it, xs, rfl, hs, hq⟩ := hq
  refine ⟨it, xs.map AV.int, rfl, ?_⟩
  cases xs with
  | nil => exact hq
  | cons b r =>
    have hs : pvSm r b (Builtin.bitAnd b 63) := hs
    have hq : match pvGo r b (Builtin.bitAnd b 63) with | none => QE | some (val, r') => ∀ b v, Q (.ret (.int val)) [.itr it (r'.map AV.int), b, v] := hq
    refine (⟨it, r, b, _, rfl, hs, ?_⟩ : pvLoopW _ _ _)
    cases e : pvGo r b (Builtin.bitAnd b 63) with
    | none => rw [e] at hq; exact hq
    | some p => rw [e] at hq; exact fun b' => hq _ _
end
end Mine
-- ZV6
set_option maxRecDepth 100000
set_option maxHeartbeats 1000000
set_option linter.unusedVariables false
set_option linter.unusedSimpArgs false
namespace Mine
open PySem PySem.Calls PyProof.Rows

/-- the heap without one object -/
theorem virt (h : Heap) {a : Addr} (ha : ∃ o, h.get? a = some o) : ∃ hv : Heap, hv.objs.size = h.objs.size ∧ hv.get? a = none ∧ ∀ b, b ≠ a → hv.get? b = h.get? b := by
  refine ⟨h.update a fun _ => { cls := .none, data := .freed }, Heap.size_after_update .., ?_, fun b hb => Heap.get?_update_other _ _ (Ne.symm hb)⟩
  obtain ⟨o, e⟩ := ha
  cases q : (h.update a fun _ => ({ cls := .none, data := .freed } : Obj)).get? a with
  | none => rfl
  | some o' =>
    exfalso
    have h1 := Heap.get?_some_iff.mp q
    have h2 := (Heap.get?_some_iff.mp e).1
    have : (h.update a fun _ => ({ cls := .none, data := .freed } : Obj)).objs[a]? = some { cls := .none, data := .freed } := by
      unfold Heap.update
      have hlt : a < h.objs.size := (Array.getElem?_eq_some_iff.mp h2).1
      simp [hlt, Array.getElem_modify]
    rw [this] at h1
    have := h1.1
    injection this with this
    subst this
    exact absurd h1.2 (by decide)
section
variable {prog : Program} {w : World} {mg mb : Str → Option Value} {pins : List (Addr × Obj)} {flagT b3T : Int → Option (List Nat)} {b1S : Int → Bool} {n : Nat}
theorem gl_virt {h hv : Heap} {a : Addr} {l i} (G : Gl mg mb pins h) (hit : h.IsListIter a l i) (hap : ∀ p ∈ pins, p.1 ≠ a) (hv' : ∀ b, b ≠ a → hv.get? b = h.get? b) : Gl mg mb pins hv := by
  have k : ∀ b m, h.Ns b m → ∀ o, h.get? b = some o → hv.get? b = some o := fun b m hn o e => (hv' b (not_iter_ns hn hit).symm).trans e
  obtain ⟨mm, p, q⟩ := G.nolimit
  exact ⟨G.g.at (k _ _ G.g), G.b.at (k _ _ G.b), ⟨mm, p.at (k _ _ p), q⟩, fun p hp => (hv' _ (hap p hp)).trans (G.pin p hp)⟩

theorem pv_call (B : Base prog w mg mb pins flagT b3T b1S) (P : FnPin mg pins "_parse_varint" (stmtAt PW 8) ["iterator"]) {A : Around} {outer : List Env} {s : Shared} {X : Addr → Prop} {a : Addr} {xs : List Int} {Q : Value → Shared → Prop} {E : Value → Shared → Prop}
    (hA : AOk pins ⟨n + 1, true⟩ A) (hfr : A.frames = some outer) (hfun : s.heap.FunFrames {} outer) (G : Gl mg mb pins s.heap) (D : ∀ a, X a → ∃ o, s.heap.get? a = some o) (hXa : X a) (hit : IterAt X s.heap a (xs.map AV.int)) (hap : ∀ p ∈ pins, p.1 ≠ a) (hs : pvSmall xs)
    (hok : ∀ val r, pv xs = some (val, r) → ∀ h' tk u, (∀ b o, b ≠ a → s.heap.get? b = some o → h'.get? b = some o) → IterAt X h' a (r.map AV.int) → Q (.int val u) { s with heap := h', toks := tk })
    (hex : pv xs = none → ∀ e h' tk, (e = a ∨ s.heap.get? e = none) → (∃ T, Xe h' e (.ref T) ∧ Tb h' T .none ∧ T ≠ e ∧ (T = a ∨ s.heap.get? T = none)) → Stn (frs outer) (· = a) s.heap h' → h'.FunFrames {} outer → E (.ref e) { s with heap := h', toks := tk }) :
    ∃ fa, mg "_parse_varint" = some (.ref fa) ∧ wpAny (model prog w) A (call (.ref fa) [.ref a]) Q E s := by
  obtain ⟨fa, o, fd, h1, h2, h3, h4, h5, h6, h7, h8, h9, h10⟩ := P
  refine ⟨fa, h1, ?_⟩
  obtain ⟨l0, i0, vs, ys, hli, nl, hl0, rl, hdrop, hile⟩ := id hit
  obtain ⟨hv, hvs, hva, hvk⟩ := virt s.heap (D a hXa)
  have Gv := gl_virt G hli hap hvk
  have hsc : fd.scope = scopeOf (stmtAt PW 8) := h5
  refine wpAny_call (codeAny_call_cells (body := bodyOf (stmtAt PW 8)) (binds := [("iterator", .ref a)]) (by have := hA.depth; (first | lia | omega)) (G.pin _ h2) h3 G.nolimit (h9 _ G.pin) h4 (h10 [.ref a] rfl) h6 (fun x hx => ?_) (fun s₁ ic => ?_) (by rw [hsc]; rfl) (by rw [hsc]; rfl) (by rw [hsc]; rfl))
  · rw [List.mem_singleton.mp hx, hsc]
    left
    show (scopeOf (stmtAt PW 8)).names.lookup ("iterator" : Str) = some NameKind.local
    decide +kernel
  · have hk : fd.scope.kind = .function := by rw [hsc]; rfl
    have eo : FnEnv (scopeOf (stmtAt PW 8)) (callEnvC fd s.heap.objs.size fa) := ⟨⟨h5, by rfl, h7, h8⟩, fun x hx => Option.isSome_iff_exists.mp (PySem.W.cellsFrom_some _ _ _ (.inl (by rw [hsc]; exact hx)))⟩
    have ltk : ∀ b o, hv.get? b = some o → s.heap.get? b = some o := fun b o e => by
      by_cases q : b = a
      · subst q; rw [hva] at e; cases e
      · rw [← hvk b q]; exact e
    have icv : InCallC { s with heap := hv } (callEnvC fd s.heap.objs.size fa).locals (bindL (callEnvC fd s.heap.objs.size fa).kindOf [("iterator", .ref a)] fun _ => none) (callEnvC fd s.heap.objs.size fa).cells (bindC (callEnvC fd s.heap.objs.size fa).kindOf [("iterator", .ref a)] fun _ => none) s₁ := by
      obtain ⟨⟨⟨h, t, e⟩, hns, hk', hf⟩, hc, hap', hab⟩ := ic
      exact ⟨⟨⟨h, t, by rw [e]⟩, hns, fun b o e => hk' b o (ltk b o e), by show hv.objs.size ≤ _; rw [hvs]; exact hf⟩, hc, hap', hab⟩
    have hL : s.heap.get? (callEnvC fd s.heap.objs.size fa).locals = none := Heap.get?_none_of_le ic.toInCall.fresh
    have hC : ∀ n c, (callEnvC fd s.heap.objs.size fa).cells.lookup n = some c → s.heap.get? c = none := fun n c hc => Heap.get?_none_of_le (Nat.le_of_lt (Nat.lt_of_le_of_lt ic.toInCall.fresh (ic.above n c (mem_of_lookup hc))))
    have k0 := ic.toInCall.keep
    have oL : ∀ b o, s.heap.get? b = some o → b ≠ (callEnvC fd s.heap.objs.size fa).locals := fun b o e q => by rw [q, hL] at e; cases e
    have oC : ∀ b o, s.heap.get? b = some o → ∀ n c, (callEnvC fd s.heap.objs.size fa).cells.lookup n = some c → b ≠ c := fun b o e n c hc q => by rw [q, hC n c hc] at e; cases e
    have hne : ∀ b o, hv.get? b = some o → b ≠ a := fun b o e q => by rw [q, hva] at e; cases e
    obtain ⟨oa, hoa⟩ := D a hXa
    have hl0a : l0 ≠ a := fun q => by
      obtain ⟨_, x⟩ := hl0
      obtain ⟨o', e', _, d'⟩ := hli
      rw [q] at x
      have := x.symm.trans e'
      simp at this; subst this; simp at d'
    have hrd : RdM (callEnvC fd s.heap.objs.size fa) (bindL (callEnvC fd s.heap.objs.size fa).kindOf [("iterator", .ref a)] fun _ => none) (bindC (callEnvC fd s.heap.objs.size fa).kindOf [("iterator", .ref a)] fun _ => none) "iterator" (.ref a) := by
      have q : (callEnvC fd s.heap.objs.size fa).kindOf "iterator" = some .local := by rw [eo.kindOf]; decide +kernel
      exact .inl ⟨q, bindL_mem q (by simp) (by simp)⟩
    have F : FRel mg mb pins pvNm (fun b => X b ∧ b ≠ a) { s with heap := hv } (callEnvC fd s.heap.objs.size fa) [.itr a (xs.map AV.int), .unset, .unset] s₁ (fun _ => False) (fun b => (X b ∧ b ≠ a) ∨ b = (callEnvC fd s.heap.objs.size fa).locals ∨ (∃ n, (callEnvC fd s.heap.objs.size fa).cells.lookup n = some b) ∨ b = a) (bindL (callEnvC fd s.heap.objs.size fa).kindOf [("iterator", .ref a)] fun _ => none) (bindC (callEnvC fd s.heap.objs.size fa).kindOf [("iterator", .ref a)] fun _ => none) := by
      refine ⟨icv, Gv, fun b hb => ?_, fun b hb => ?_, fun b hb => .inl hb, fun b hb => ?_, .inr (.inl rfl), fun n c hc => .inr (.inr (.inl ⟨n, hc⟩)), rfl, fun k x hx => ?_, fun k j x y b hx hy ho1 ho2 r1 r2 => ?_, fun k x b hx ho r => ?_, fun _ h => h.elim⟩
      · obtain ⟨o, e⟩ := D b hb.1; exact ⟨o, (hvk b hb.2).trans e⟩
      · rcases hb with hb | hb | ⟨n, hn⟩ | hb
        · obtain ⟨o, e⟩ := D b hb.1; exact ⟨o, k0 _ _ e⟩
        · subst hb; obtain ⟨o, _, _, e, _⟩ := ns_data ic.toInCall.ns; exact ⟨o, e⟩
        · obtain ⟨o, e, _⟩ := ic.cell n b hn; exact ⟨o, e⟩
        · subst hb; exact ⟨oa, k0 _ _ hoa⟩
      · rcases hb with hb | hb | ⟨n, hn⟩ | hb
        · exact .inl hb
        · right; subst hb
          cases q : hv.get? (callEnvC fd s.heap.objs.size fa).locals with
          | none => rfl
          | some o => have := ltk _ _ q; rw [hL] at this; cases this
        · right
          cases q : hv.get? b with
          | none => rfl
          | some o => have := ltk _ _ q; rw [hC n b hn] at this; cases this
        · right; subst hb; exact hva
      · match k, hx with
        | 0, hx =>
          simp only [pvNm, List.getElem?_cons_zero, Option.some.injEq] at hx
          subst hx
          refine ⟨hrd, .inr (.inr (.inr rfl)), l0, i0, vs, ys, ?_, ?_, ?_, ?_, hdrop, hile⟩
          · obtain ⟨o', e', r'⟩ := hli; exact ⟨o', k0 _ _ e', r'⟩
          · obtain ⟨nn, x⟩ := hl0
            rintro (q | q | ⟨n, q⟩ | q)
            · exact nl q.1
            · exact oL _ _ x q
            · exact oC _ _ x n l0 q rfl
            · exact hl0a q
          · obtain ⟨nn, x⟩ := hl0; exact ⟨nn, k0 _ _ x⟩
          · refine (rl.reX fun b hb => ?_).keep k0
            rcases hb with hb | hb | ⟨n, hn⟩ | hb
            · exact .inl hb.1
            · exact .inr (by rw [hb]; exact hL)
            · exact .inr (hC n b hn)
            · exact .inl (hb ▸ hXa)
        | 1, _ => trivial
        | 2, _ => trivial
      · match k, j, ho1, ho2 with
        | 0, 0, _, _ => rfl
        | 0, 1, _, h => exact absurd h (by simp [LV.owns])
        | 0, 2, _, h => exact absurd h (by simp [LV.owns])
        | 0, j + 3, _, h => exact absurd h (by simp [LV.owns])
        | 1, _, h, _ => exact absurd h (by simp [LV.owns])
        | 2, _, h, _ => exact absurd h (by simp [LV.owns])
        | k + 3, _, h, _ => exact absurd h (by simp [LV.owns])
      · match k, hx, ho with
        | 0, hx, _ =>
          simp only [pvNm, List.getElem?_cons_zero, Option.some.injEq] at hx
          subst hx
          have := r.unique hrd
          cases this
          exact hva
        | 1, _, h => exact absurd h (by simp [LV.owns])
        | 2, _, h => exact absurd h (by simp [LV.owns])
        | k + 3, _, h => exact absurd h (by simp [LV.owns])
    have hframe_ne : ∀ b ∈ frs outer, b ≠ a := fun b hb q => by
      obtain ⟨o', e', _, d'⟩ := hli
      subst q
      exact fun_not_fields hfun hb e' d'
    have ctx : XCtx (A.deeper (callEnvC fd s.heap.objs.size fa)) (callEnvC fd s.heap.objs.size fa) outer { s with heap := hv } := by
      refine ⟨by simp [Around.deeper, hfr], rfl, ?_⟩
      have st : Stn (frs outer) (fun b => b = a) s.heap hv := ⟨fun b o hb _ e => (hvk b hb).trans e, fun b o hb _ e => ⟨o.slots, (hvk b hb).trans e⟩⟩
      exact stn_frames hfun st hframe_ne
    have hL0 : hv.get? (callEnvC fd s.heap.objs.size fa).locals = none := by
      cases q : hv.get? (callEnvC fd s.heap.objs.size fa).locals with
      | none => rfl
      | some o => have := ltk _ _ q; rw [hL] at this; cases this
    refine wpAny_mono ((pv_body B).it _ _ outer _ _ _ s₁ _ _ _ _ (fun f σ' => ∃ val r, pv xs = some (val, r) ∧ f = .ret (.int val) ∧ σ'.getD 0 .unset = .itr a (r.map AV.int)) (pv xs = none)
      (fun e s' => wpAny (model prog w) (A.deeper (callEnvC fd s.heap.objs.size fa)) (leaving (callEnvC fd s.heap.objs.size fa) e) (fun _ s'' => E e s'') (fun e' s'' => E e' s'') s') (hA.deeper _) rfl eo ctx F ⟨a, xs, rfl, hs, ?_⟩ fun e s' hn x => ?_) (fun fl s' ⟨f, σ', X', m', cm', q, hf, F', _⟩ => ?_) fun e s' x => x
    · cases q : pv xs with
      | none => exact rfl
      | some p => exact fun b v => ⟨p.1, p.2, rfl, rfl, rfl⟩
    · refine leave_x ctx.fr rfl hL0 x fun s'' y => ?_
      obtain ⟨hh, tk, e0⟩ := y.same
      subst e0
      obtain ⟨T, t1, t2, t3, t4⟩ := y.st
      have ne' : ∀ b, hv.get? b = none → b = a ∨ s.heap.get? b = none := fun b q => by
        by_cases q' : b = a
        · exact .inl q'
        · exact .inr ((hvk b q').symm.trans q)
      refine hex hn e hh tk (ne' _ y.new) ⟨T, t1, t2, t3, ne' _ t4⟩ ⟨fun b o hb hbf e1 => y.out.keep b o (fun q => q) hbf ((hvk b hb).trans e1), fun b o hb hbf e1 => y.out.slot b o (fun q => q) hbf ((hvk b hb).trans e1)⟩ y.fun_
    · obtain ⟨val, r, e1, rfl, e2⟩ := q
      cases fl <;> try exact hf.elim
      cases hf with
      | int _ u =>
        obtain ⟨h', tk, e0, kk⟩ := F'.call.done
        subst e0
        have hv0 := F'.var 0 "iterator" rfl
        rw [e2] at hv0
        obtain ⟨_, xa', l1, i1, vs1, ys1, hi1, nl1, hl1, rl1, hd1, hle1⟩ := hv0
        have sub : ∀ b, X b → X' b := fun b hb => by
          by_cases q : b = a
          · rw [q]; exact xa'
          · exact F'.old b ⟨hb, q⟩
        refine hok val r e1 h' tk u (fun b o hb eb => kk b o ((hvk b hb).trans eb)) ⟨l1, i1, vs1, ys1, hi1, fun q => nl1 (sub _ q), hl1, rl1.reX fun b hb => .inl (sub _ hb), hd1, hle1⟩
end
end Mine
-- ZV7
set_option maxRecDepth 100000
set_option maxHeartbeats 1000000
set_option linter.unusedVariables false
set_option linter.unusedSimpArgs false
namespace Mine
open PySem PySem.Calls PyProof.Rows
section
variable {prog : Program} {w : World} {mg mb : Str → Option Value} {pins : List (Addr × Obj)} {l : Lim} {sc : Scope} {nm : List Str}

/-- a callee moved an owned iterator -/
theorem FRel.movItr {X₀ X Z : Addr → Prop} {s₀ s : Shared} {env : Env} {σ : Sto} {m cm : Str → Option Value} (F : FRel mg mb pins nm X₀ s₀ env σ s Z X m cm) {k : Nat} {x : Str} {xs xs' : List AV} {p : Addr} {h' : Heap} (tk : Nat)
    (hx : nm[k]? = some x) (e : σ.getD k .unset = .itr p xs) (kk : ∀ b o, b ≠ p → s.heap.get? b = some o → h'.get? b = some o) (ia : IterAt X h' p xs') :
    FRel mg mb pins nm X₀ s₀ env (σ.set k (.itr p xs')) { s with heap := h', toks := tk } Z X m cm ∧ Step X Z s.heap h' X := by
  have hv := F.var k x hx
  rw [e] at hv
  obtain ⟨rp, xp, _, _, _, _, ip, _, _, _, _, _⟩ := hv
  have npl : env.locals ≠ p := (not_iter_ns F.call.toInCall.ns ip).symm
  have npc : ∀ n c, env.cells.lookup n = some c → c ≠ p := fun n c hc q' => by
    obtain ⟨o, eo, d⟩ := F.call.cell n c hc
    obtain ⟨o2, e2, _, d2⟩ := ip
    subst q'
    rw [eo] at e2; cases e2; rw [d] at d2; cases d2
  exact F.turn tk (.itr p xs') hx (by rw [e]; rfl) rp (fun _ x => x) (fun _ x _ => x) kk (by obtain ⟨_, _, _, _, ⟨o, eo, _⟩, _, _, _, _, _⟩ := ia; exact ⟨o, eo⟩) (fun n => absurd xp n) ⟨rp, xp, ia⟩ (fun _ => xp) npl npc

/-- where an exception may be caught: the frames below are known, and change in their slots alone -/
structure KCtx (A : Around) (env : Env) (outer : List Env) (s₀ s : Shared) (Z : Addr → Prop) : Prop where
  fr : A.frames = some (env :: outer)
  fl : env.frame = some env.locals
  fun_ : s.heap.FunFrames {} outer
  out : ∀ b ∈ frs outer, Z b ∧ s₀.heap.get? b = none
  lst : ∀ b ∈ frs outer, ∃ o, s.heap.get? b = some o ∧ ∀ its n, o.data ≠ .seq its n
structure StepK (fr : List Addr) (X Z : Addr → Prop) (h h' : Heap) (X' : Addr → Prop) : Prop where
  keep : ∀ b o, (¬ X b ∨ Z b) → b ∉ fr → h.get? b = some o → h'.get? b = some o
  slot : ∀ b o, b ∈ fr → h.get? b = some o → ∃ sl, h'.get? b = some { o with slots := sl }
  newX : ∀ a, X' a → X a ∨ h.get? a = none
theorem frames_slot {h h' : Heap} {fs : List Env} (f : h.FunFrames {} fs) (k : ∀ b o, b ∈ frs fs → h.get? b = some o → ∃ sl, h'.get? b = some { o with slots := sl }) : h'.FunFrames {} fs :=
  stn_frames (P := fun b => b ∉ frs fs) f ⟨fun b o n m _ => absurd m n, fun b o _ m e => k b o m e⟩ fun b m n => n m
theorem Step.toK {fr : List Addr} {X Z X' : Addr → Prop} {h h' : Heap} (st : Step X Z h h' X') (hz : ∀ b ∈ fr, Z b) : StepK fr X Z h h' X' :=
  ⟨fun b o hb _ e => st.keep b o hb e, fun b o hb e => ⟨o.slots, st.keep b o (.inr (hz b hb)) e⟩, st.newX⟩
theorem Step.transK {fr : List Addr} {X Z X1 X2 : Addr → Prop} {h h1 h2 : Heap} (a : Step X Z h h1 X1) (b : StepK fr X1 Z h1 h2 X2) (hz : ∀ b ∈ fr, Z b) : StepK fr X Z h h2 X2 := by
  refine ⟨fun c o hc hn e => b.keep c o ?_ hn (a.keep c o hc e), fun c o hc e => b.slot c o hc (a.keep c o (.inr (hz c hc)) e), fun c x => ?_⟩
  · by_cases z : Z c
    · exact .inr z
    · have nx := hc.resolve_right z
      exact .inl fun x1 => (a.newX c x1).elim nx fun q => by rw [q] at e; cases e
  · by_cases xc : X c
    · exact .inl xc
    · refine .inr ?_
      rcases b.newX c x with q | q
      · exact (a.newX c q).resolve_left xc
      · cases e : h.get? c with
        | none => rfl
        | some o => rw [a.keep c o (.inl xc) e] at q; cases q
theorem KCtx.step {A : Around} {env : Env} {outer : List Env} {s₀ s s' : Shared} {X X' Z : Addr → Prop} (c : KCtx A env outer s₀ s Z) (st : Step X Z s.heap s'.heap X') : KCtx A env outer s₀ s' Z :=
  ⟨c.fr, c.fl, frames_slot c.fun_ fun b o hb e => ⟨o.slots, st.keep b o (.inr (c.out b hb).1) e⟩, c.out, fun b hb => let ⟨o, e, n⟩ := c.lst b hb; ⟨o, st.keep b o (.inr (c.out b hb).1) e, n⟩⟩
theorem FRel.kFrames {X₀ X Z : Addr → Prop} {s₀ s : Shared} {env : Env} {outer : List Env} {σ : Sto} {m cm : Str → Option Value} {A : Around} (F : FRel mg mb pins nm X₀ s₀ env σ s Z X m cm) (eo : FnEnv sc env) (c : KCtx A env outer s₀ s Z) : s.heap.FunFrames {} (env :: outer) := by
  obtain ⟨o, es, ep, e, d⟩ := ns_data F.call.toInCall.ns
  exact ⟨(fun q => by rw [eo.fn] at q; cases q), ⟨_, o, c.fl, empty_get _, e, (fun vs q => by rw [d] at q; cases q)⟩, c.fun_⟩

/-- after an exception out of a callee that moved it: the iterator is let go -/
theorem FRel.caught {X₀ X Z : Addr → Prop} {s₀ s : Shared} {env : Env} {outer : List Env} {A : Around} {σ : Sto} {m cm : Str → Option Value} (c : KCtx A env outer s₀ s Z) (F : FRel mg mb pins nm X₀ s₀ env σ s Z X m cm) {k : Nat} {x : Str} {xs : List AV} {p : Addr} {h' : Heap} (tk : Nat)
    (hx : nm[k]? = some x) (e : σ.getD k .unset = .itr p xs) (st : Stn (frs (env :: outer)) (· = p) s.heap h') :
    FRel mg mb pins nm X₀ s₀ env (σ.set k .unset) { s with heap := h', toks := tk } Z (fun a => X a ∧ a ≠ p) m cm ∧ StepK (frs outer) X Z s.heap h' (fun a => X a ∧ a ≠ p) := by
  have hv := F.var k x hx
  rw [e] at hv
  obtain ⟨rp, xp, _, _, _, _, ip, _, _, _, _, _⟩ := hv
  have hkl : k < σ.length := by rw [F.len]; exact (List.getElem?_eq_some_iff.mp hx).1
  have ho : (σ.getD k .unset).owns = true := by rw [e]; rfl
  have p0 : s₀.heap.get? p = none := F.mine k x p hx ho rp
  have L0 : s₀.heap.get? env.locals = none := Heap.get?_none_of_le F.call.toInCall.fresh
  have npl : env.locals ≠ p := (not_iter_ns F.call.toInCall.ns ip).symm
  have npc : ∀ n c, env.cells.lookup n = some c → c ≠ p := fun n c hc q' => by
    obtain ⟨o, eo, d⟩ := F.call.cell n c hc
    obtain ⟨o2, e2, _, d2⟩ := ip
    subst q'
    rw [eo] at e2; cases e2; rw [d] at d2; cases d2
  have nlc : ∀ n c, env.cells.lookup n = some c → c ≠ env.locals := fun n c hc q' => by
    obtain ⟨o, eo, d⟩ := F.call.cell n c hc
    obtain ⟨o2, es, ep, e2, d2⟩ := ns_data F.call.toInCall.ns
    subst q'
    rw [eo] at e2; cases e2; rw [d] at d2; cases d2
  have hfr : frs (env :: outer) = env.locals :: frs outer := by simp [frs, c.fl]
  have kk : ∀ b o, b ≠ p → b ≠ env.locals → b ∉ frs outer → s.heap.get? b = some o → h'.get? b = some o := fun b o n1 n2 n3 eb => st.keep b o n1 (by rw [hfr]; exact fun q => (List.mem_cons.mp q).elim n2 n3) eb
  have fX : ∀ b ∈ frs outer, X b := fun b hb => (F.prot b (c.out b hb).1).1
  have fL : env.locals ∉ frs outer := fun hb => (F.prot _ (c.out _ hb).1).2.1 rfl
  have fC : ∀ n b, env.cells.lookup n = some b → b ∉ frs outer := fun n b e hb => (F.prot b (c.out b hb).1).2.2.1 n b e rfl
  have fO : ∀ j y a, nm[j]? = some y → (σ.getD j .unset).owns = true → RdM env m cm y (.ref a) → a ∉ frs outer := fun j y a hj o r hb => (F.prot a (c.out a hb).1).2.2.2 j y hj o r
  have kx : KeepX X s.heap h' := fun b o nx e => kk b o (fun q => nx (q ▸ xp)) (fun q => nx (q ▸ F.loc)) (fun q => nx (fX b q)) e
  have nz : ∀ a, Z a → a ≠ p := fun a z q => (F.prot a z).2.2.2 k x hx ho (q ▸ rp)
  have e2 : ∀ j, j ≠ k → (σ.set k LV.unset).getD j .unset = σ.getD j .unset := fun j hj => by simp [List.getD_eq_getElem?_getD, List.getElem?_set, Ne.symm hj]
  have e1 : (σ.set k LV.unset).getD k .unset = .unset := getD_same hkl
  have own_of : ∀ j, ((σ.set k LV.unset).getD j .unset).owns = true → j ≠ k ∧ (σ.getD j .unset).owns = true := fun j h => by
    by_cases hj : j = k
    · subst hj; rw [e1] at h; cases h
    · rw [e2 j hj] at h; exact ⟨hj, h⟩
  have own_ne : ∀ j y a, j ≠ k → nm[j]? = some y → (σ.getD j .unset).owns = true → RdM env m cm y (.ref a) → a ≠ p := fun j y a hj hy ho' r' q' => by
    subst q'
    exact hj (F.apart j k y x a hy hx ho' ho r' rp)
  have re : ∀ a, (X a ∧ a ≠ p) → X a ∨ s.heap.get? a = none := fun a h => .inl h.1
  refine ⟨⟨⟨⟨?_, ?_, fun b o eb => kk b o (fun q => ?_) (fun q => ?_) (fun q => by rw [(c.out b q).2] at eb; cases eb) (F.keep₀ b o eb), F.call.toInCall.fresh⟩, fun n cc hc => ?_, F.call.apart, F.call.above⟩, F.gl, F.dom₀, fun a xa => ?_, fun a xa => ⟨F.old a xa, fun q => ?_⟩, fun a xa => F.new a xa.1, ⟨F.loc, npl⟩, fun n c hc => ⟨F.cel n c hc, npc n c hc⟩, by rw [List.length_set]; exact F.len, fun j y hy => ?_,
    fun i j y z a hy hz o1 o2 r1 r2 => F.apart i j y z a hy hz (own_of i o1).2 (own_of j o2).2 r1 r2, fun j y a hy ho' r' => F.mine j y a hy (own_of j ho').2 r', fun a z => ⟨⟨(F.prot a z).1, nz a z⟩, (F.prot a z).2.1, (F.prot a z).2.2.1, fun j y hy ho' => (F.prot a z).2.2.2 j y hy (own_of j ho').2⟩⟩,
    ⟨fun b o hb nf eb => kk b o (fun q => ?_) (fun q => ?_) nf eb, fun b o hb eb => st.slot b o (nz b (c.out b hb).1) (by rw [hfr]; exact List.mem_cons_of_mem _ hb) eb, fun _ x => .inl x.1⟩⟩
  · obtain ⟨h₁, t₁, rfl⟩ := F.call.toInCall.same; exact ⟨h', tk, rfl⟩
  · obtain ⟨o, es, ep, eo, r⟩ := F.call.toInCall.ns
    obtain ⟨sl, e'⟩ := st.slot _ o npl (by rw [hfr]; exact .head _) eo
    exact ⟨_, es, ep, e', r⟩
  · subst q; rw [p0] at eb; cases eb
  · subst q; rw [L0] at eb; cases eb
  · obtain ⟨o, eo, d⟩ := F.call.cell n cc hc; exact ⟨o, kk _ _ (npc n cc hc) (nlc n cc hc) (fC n cc hc) eo, d⟩
  · obtain ⟨o, eo⟩ := F.dom a xa.1
    by_cases q : a = env.locals
    · subst q
      obtain ⟨sl, e'⟩ := st.slot _ o npl (by rw [hfr]; exact .head _) eo
      exact ⟨_, e'⟩
    · by_cases qf : a ∈ frs outer
      · obtain ⟨sl, e'⟩ := st.slot _ o xa.2 (by rw [hfr]; exact List.mem_cons_of_mem _ qf) eo
        exact ⟨_, e'⟩
      · exact ⟨o, kk _ _ xa.2 q qf eo⟩
  · subst q; obtain ⟨o, eo⟩ := F.dom₀ a xa; rw [p0] at eo; cases eo
  · by_cases hj : j = k
    · subst hj
      rw [e1]; trivial
    · rw [e2 j hj]
      exact (F.var j y hy).move (Z := fun _ => False) ⟨fun b o n e => kx b o (n.resolve_right id) e, fun a h => .inl h.1⟩ (fun _ p => p) fun ho' a r xa n1 _ =>
        have nap := own_ne j y a hj hy ho' r
        ⟨⟨xa, nap⟩, fun o e => kk a o nap (fun q => n1 m (q ▸ F.call.toInCall.ns)) (fO j y a hy ho' r) e⟩
  · rcases hb with hb | hb
    · exact hb (q ▸ xp)
    · exact nz b hb q
  · rcases hb with hb | hb
    · exact hb (q ▸ F.loc)
    · exact (F.prot b hb).2.1 q
end
end Mine
-- ZV8
set_option maxRecDepth 100000
set_option maxHeartbeats 1000000
set_option linter.unusedVariables false
set_option linter.unusedSimpArgs false
namespace Mine
open PySem PySem.Calls PyProof.Rows

/-- a StopIteration that came out of a callee that moved the iterator p -/
structure YOut (s : Shared) (env : Env) (outer : List Env) (p e : Addr) (s' : Shared) : Prop where
  same : ∃ h tk, s' = { s with heap := h, toks := tk }
  new : e = p ∨ s.heap.get? e = none
  st : ∃ T, Xe s'.heap e (.ref T) ∧ Tb s'.heap T .none ∧ T ≠ e ∧ (T = p ∨ s.heap.get? T = none)
  out : Stn (frs (env :: outer)) (· = p) s.heap s'.heap
  fun_ : s'.heap.FunFrames {} (env :: outer)

inductive MPost (mg mb : Str → Option Value) (pins : List (Addr × Obj)) (nm : List Str) (X₀ : Addr → Prop) (s₀ : Shared) (env : Env) (s : Shared) (Z X : Addr → Prop) (m cm : Str → Option Value) (Q : AV → Sto → Prop) (v : Value) (s' : Shared) : Prop
  | mk (a : AV) (σ' : Sto) (q : Q a σ') (r : Rep X s'.heap v a) (F' : FRel mg mb pins nm X₀ s₀ env σ' s' Z X m cm) (st : Step X Z s.heap s'.heap X)
abbrev WM := Sto → (AV → Sto → Prop) → Prop → Prop
section
variable (prog : Program) (w : World) (mg mb : Str → Option Value) (pins : List (Addr × Obj)) (l : Lim) (sc : Scope) (nm : List Str) (j : Nat)
/-- an expression that moves the iterator j -/
structure SemM (x : Expr) (W : WM) : Prop where
  it : ∀ (A : Around) (env : Env) (outer : List Env) (X₀ : Addr → Prop) (s₀ : Shared) (σ : Sto) (s : Shared) (Z X : Addr → Prop) (m cm : Str → Option Value) (Q : AV → Sto → Prop) (QE : Prop) (E : Value → Shared → Prop),
    AOk pins l A → l.z = true → FnEnv sc env → KCtx A env outer s₀ s Z → FRel mg mb pins nm X₀ s₀ env σ s Z X m cm → W σ Q QE → (∀ e s' p xs, QE → σ.getD j .unset = .itr p xs → YOut s env outer p e s' → E (.ref e) s') →
    wpAny (model prog w) A (eval x env) (MPost mg mb pins nm X₀ s₀ env s Z X m cm Q) E s
structure SemY (st : List Stmt) (W : WX) : Prop where
  it : ∀ (A : Around) (env : Env) (outer : List Env) (X₀ : Addr → Prop) (s₀ : Shared) (σ : Sto) (s : Shared) (Z X : Addr → Prop) (m cm : Str → Option Value) (Q : Fl → Sto → Prop) (QE : Prop) (E : Value → Shared → Prop),
    AOk pins l A → l.z = true → FnEnv sc env → KCtx A env outer s₀ s Z → FRel mg mb pins nm X₀ s₀ env σ s Z X m cm → W σ Q QE → (∀ e s' p xs, QE → σ.getD j .unset = .itr p xs → YOut s env outer p e s' → E (.ref e) s') →
    wpAny (model prog w) A (execs st env) (SPost mg mb pins nm X₀ s₀ env s Z X Q) E s
end
section
variable {prog : Program} {w : World} {mg mb : Str → Option Value} {pins : List (Addr × Obj)} {flagT b3T : Int → Option (List Nat)} {b1S : Int → Bool} {l : Lim} {sc : Scope} {nm : List Str} {j : Nat}
def pvM (j : Nat) : WM := fun σ Q QE => ∃ p xs, σ.getD j .unset = .itr p (xs.map AV.int) ∧ pvSmall xs ∧ match pv xs with
  | none => QE
  | some (val, r) => Q (.int val) (σ.set j (.itr p (r.map AV.int)))
theorem semM_pv {y p1 p2 pos} (B : Base prog w mg mb pins flagT b3T b1S) (P : FnPin mg pins "_parse_varint" (stmtAt PW 8) ["iterator"]) (hy : Ix nm j y) (hk : sc.names.lookup ("_parse_varint" : Str) = some NameKind.globalImplicit) (hl : Lim.le ⟨1, true⟩ l = true)
    (hd : (y == ("__debug__" : Str)) = false := by decide +kernel) (hc : (y == ("__classdict__" : Str)) = false := by decide +kernel) :
    SemM prog w mg mb pins l sc nm j (.Call (.Name "_parse_varint" p1) [.Name y p2] [] pos) (pvM j) := by
  refine .mk fun A env outer X₀ s₀ σ s Z X m cm Q QE E a z eo c F ⟨p, xs, ej, hs, hq⟩ he => ?_
  have R := F.rel
  have hv := F.var j y hy.get
  rw [ej] at hv
  obtain ⟨rit, xit, ia⟩ := hv
  have p0 : s₀.heap.get? p = none := F.mine j y p hy.get (by rw [ej]; rfl) rit
  obtain ⟨fa, o, fd, h1, h2, h3, h4, _⟩ := id P
  obtain ⟨fa', h1', hcall⟩ := pv_call (Q := MPost mg mb pins nm X₀ s₀ env s Z X m cm Q) (E := E) (n := 0) (A := A) (outer := env :: outer) (s := s) (X := X) (a := p) (xs := xs) B P (a.mono hl) c.fr (F.kFrames eo c) R.gl F.dom xit ia (fun q hq' e => by have := F.gl.pin q hq'; rw [e, p0] at this; cases this) hs
    (fun val r e h' tk u kk ia' => by
      rw [e] at hq
      obtain ⟨F2, st2⟩ := F.movItr tk hy.get ej kk ia'
      exact ⟨_, _, hq, .int _ _, F2, st2⟩)
    (fun e1 e h' tk hn ⟨T, t1, t2, t3, t4⟩ st hf => by
      rw [e1] at hq
      exact he e _ p _ hq ej ⟨⟨h', tk, rfl⟩, hn, ⟨T, t1, t2, t3, t4⟩, st, hf⟩)
  rw [h1] at h1'; cases h1'
  refine wpAny_Call_NameR (Name_function_global eo.fn (by rw [eo.kindOf]; exact hk) (loadGlobal_global (env := env) (eo.globals ▸ R.gl.g) h1 ?_) (by decide +kernel))
  refine callWith_def (o := o) h3 (args_cons (load_of_reads eo.fn (F.reads rit) (args_nil ?_) hd hc) rfl) (starEach_plain rfl)
  exact ⟨R.gl.pin _ h2, hcall⟩
end
end Mine
-- ZV9
set_option maxRecDepth 100000
set_option maxHeartbeats 1000000
set_option linter.unusedVariables false
set_option linter.unusedSimpArgs false
namespace Mine
open PySem PySem.Calls PyProof.Rows

section
variable (prog : Program) (w : World) (mg mb : Str → Option Value) (pins : List (Addr × Obj)) (l : Lim) (sc : Scope) (nm : List Str)
inductive KPost (outer : List Env) (X₀ : Addr → Prop) (s₀ : Shared) (env : Env) (s : Shared) (Z X : Addr → Prop) (Q : Fl → Sto → Prop) (fl : Flow) (s' : Shared) : Prop
  | mk (f : Fl) (σ' : Sto) (X' : Addr → Prop) (m' cm' : Str → Option Value) (q : Q f σ') (hf : FlIs X₀ s'.heap fl f) (F' : FRel mg mb pins nm X₀ s₀ env σ' s' Z X' m' cm') (st : StepK (frs outer) X Z s.heap s'.heap X')
/-- statements of a frame that may catch -/
structure SemK1 (st : Stmt) (W : WS) : Prop where
  it : ∀ (A : Around) (env : Env) (outer : List Env) (X₀ : Addr → Prop) (s₀ : Shared) (σ : Sto) (s : Shared) (Z X : Addr → Prop) (m cm : Str → Option Value) (Q : Fl → Sto → Prop) (E : Value → Shared → Prop),
    AOk pins l A → l.z = true → FnEnv sc env → KCtx A env outer s₀ s Z → FRel mg mb pins nm X₀ s₀ env σ s Z X m cm → W σ Q →
    wpAny (model prog w) A (exec st env) (KPost mg mb pins nm outer X₀ s₀ env s Z X Q) E s
structure SemKS (st : List Stmt) (W : WS) : Prop where
  it : ∀ (A : Around) (env : Env) (outer : List Env) (X₀ : Addr → Prop) (s₀ : Shared) (σ : Sto) (s : Shared) (Z X : Addr → Prop) (m cm : Str → Option Value) (Q : Fl → Sto → Prop) (E : Value → Shared → Prop),
    AOk pins l A → l.z = true → FnEnv sc env → KCtx A env outer s₀ s Z → FRel mg mb pins nm X₀ s₀ env σ s Z X m cm → W σ Q →
    wpAny (model prog w) A (execs st env) (KPost mg mb pins nm outer X₀ s₀ env s Z X Q) E s
end
section
variable {prog : Program} {w : World} {mg mb : Str → Option Value} {pins : List (Addr × Obj)} {flagT b3T : Int → Option (List Nat)} {b1S : Int → Bool} {l : Lim} {sc : Scope} {nm : List Str} {j : Nat}
theorem StepK.trans {fr : List Addr} {X Z X1 X2 : Addr → Prop} {h h1 h2 : Heap} (a : StepK fr X Z h h1 X1) (b : StepK fr X1 Z h1 h2 X2) : StepK fr X Z h h2 X2 := by
  refine ⟨fun c o hc hn e => b.keep c o ?_ hn (a.keep c o hc hn e), fun c o hc e => ?_, fun c x => ?_⟩
  · by_cases z : Z c
    · exact .inr z
    · have nx := hc.resolve_right z
      exact .inl fun x1 => (a.newX c x1).elim nx fun q => by rw [q] at e; cases e
  · obtain ⟨sl, e1⟩ := a.slot c o hc e
    obtain ⟨sl', e2⟩ := b.slot c _ hc e1
    exact ⟨sl', e2⟩
  · by_cases xc : X c
    · exact .inl xc
    · refine .inr ?_
      rcases b.newX c x with q | q
      · exact (a.newX c q).resolve_left xc
      · cases e : h.get? c with
        | none => rfl
        | some o =>
          by_cases hf : c ∈ fr
          · obtain ⟨sl, e1⟩ := a.slot c o hf e; rw [e1] at q; cases q
          · rw [a.keep c o (.inl xc) hf e] at q; cases q
theorem KCtx.stepK {A : Around} {env : Env} {outer : List Env} {s₀ s s' : Shared} {X X' Z : Addr → Prop} (c : KCtx A env outer s₀ s Z) (st : StepK (frs outer) X Z s.heap s'.heap X') : KCtx A env outer s₀ s' Z :=
  ⟨c.fr, c.fl, frames_slot c.fun_ fun b o hb e => st.slot b o hb e, c.out, fun b hb => let ⟨o, e, n⟩ := c.lst b hb; let ⟨sl, e'⟩ := st.slot b o hb e; ⟨_, e', n⟩⟩
theorem semK_lift {st W} (h : Sem1 prog w mg mb pins l sc nm st W) : SemK1 prog w mg mb pins l sc nm st W :=
  .mk fun A env outer X₀ s₀ σ s Z X m cm Q E a z eo c F hq => wpAny_mono (h.it A env X₀ s₀ σ s Z X m cm Q E a eo F hq) (fun fl s₁ ⟨f, σ', X', m', cm', q, hf, F', st⟩ => ⟨f, σ', X', m', cm', q, hf, F', st.toK fun b hb => (c.out b hb).1⟩) fun _ _ x => x
theorem semKS_lift {st W} (h : SemS prog w mg mb pins l sc nm st W) : SemKS prog w mg mb pins l sc nm st W :=
  .mk fun A env outer X₀ s₀ σ s Z X m cm Q E a z eo c F hq => wpAny_mono (h.it A env X₀ s₀ σ s Z X m cm Q E a eo F hq) (fun fl s₁ ⟨f, σ', X', m', cm', q, hf, F', st⟩ => ⟨f, σ', X', m', cm', q, hf, F', st.toK fun b hb => (c.out b hb).1⟩) fun _ _ x => x
theorem semKS_nil : SemKS prog w mg mb pins l sc nm [] (fun σ Q => Q .next σ) := semKS_lift semS_nil
theorem semKS_cons {st rest W1 W2} (h1 : SemK1 prog w mg mb pins l sc nm st W1) (h2 : SemKS prog w mg mb pins l sc nm rest W2) :
    SemKS prog w mg mb pins l sc nm (st :: rest) (seqW W1 W2) := by
  refine .mk fun A env outer X₀ s₀ σ s Z X m cm Q E a z eo c F h => ?_
  unfold seqW at h
  refine wpAny_execs_cons (wpAny_mono (h1.it A env outer X₀ s₀ σ s Z X m cm _ E a z eo c F h) (fun fl s₁ hpat => ?_) fun _ _ x => x)
  obtain ⟨f, σ', X', m', cm', q, hf, F', st'⟩ := hpat
  cases fl <;> cases f <;> try exact hf.elim
  · exact wpAny_mono (h2.it A env outer X₀ s₀ σ' s₁ Z X' m' cm' Q E a z eo (c.stepK st') F' q) (fun fl s₂ ⟨f, σ2, X2, m2, cm2, q2, hf2, F2, st2⟩ => ⟨f, σ2, X2, m2, cm2, q2, hf2, F2, st'.trans st2⟩) fun _ _ x => x
  · exact ⟨_, σ', X', m', cm', q, hf, F', st'⟩
  · exact ⟨_, σ', X', m', cm', q, hf, F', st'⟩
  · exact ⟨_, σ', X', m', cm', q, hf, F', st'⟩
theorem semKS_freeze {st W} (k : Nat) (h : SemKS prog w mg mb pins l sc nm st W) : SemKS prog w mg mb pins l sc nm st (fun σ Q => W (freeze k σ) Q) := by
  refine .mk fun A env outer X₀ s₀ σ s Z X m cm Q E a z eo c F hq => ?_
  obtain ⟨X', F', hX⟩ := F.freeze k
  refine wpAny_mono (h.it A env outer X₀ s₀ _ s Z X' m cm Q E a z eo c F' hq) (fun fl s₁ ⟨f, σ', X2, m', cm', q, hf, F2, st'⟩ => ⟨f, σ', X2, m', cm', q, hf, F2, ?_⟩) fun _ _ x => x
  exact ⟨fun b o hb nf e => st'.keep b o (hb.imp (fun n x => n (hX b x)) id) nf e, st'.slot, fun b x => (st'.newX b x).imp (hX b) id⟩
end
end Mine
-- ZV10
set_option maxRecDepth 100000
set_option maxHeartbeats 1000000
set_option linter.unusedVariables false
set_option linter.unusedSimpArgs false
namespace Mine
open PySem PySem.Calls PyProof.Rows
section
variable {prog : Program} {w : World} {mg mb : Str → Option Value} {pins : List (Addr × Obj)} {n : Nat} {sc : Scope} {nm : List Str} {j : Nat}
theorem sub_stop : isSubtype (.type "StopIteration") (.type "StopIteration") = pure true := by kernel_rfl!
theorem sub_stop_base : isSubtype (.type "StopIteration") (.type "BaseException") = pure true := by kernel_rfl!
end
end Mine
-- ZV11
set_option maxRecDepth 100000
set_option maxHeartbeats 1000000
set_option linter.unusedVariables false
set_option linter.unusedSimpArgs false
namespace Mine
open PySem PySem.Calls PyProof.Rows
section
variable {prog : Program} {w : World} {mg mb : Str → Option Value} {pins : List (Addr × Obj)} {l : Lim} {sc : Scope} {nm : List Str}
/-- x = iter(e) -/
theorem sem1_iter {x p p1 e pos1 pos k W} (hB : BI mg mb "iter" (.builtin "iter")) (h : SemE prog w mg mb pins l sc nm e W) (hx : Ix nm k x) (hk : sc.names.lookup ("iter" : Str) = some NameKind.globalImplicit) (hpl : plainE e = true := by rfl)
    (hn : nm.Nodup := by decide +kernel) (hl : isLoc sc x = true := by decide +kernel)
    (hs : ∀ env, swapsWith (.Call (.Name "iter" p1) [e] [] pos1) (some (.Name x p)) pos.line env = pure false := by intro _; rfl) :
    Sem1 prog w mg mb pins l sc nm (.Assign [.Name x p] (.Call (.Name "iter" p1) [e] [] pos1) pos) (fun σ Q => W σ fun a => match a with | .lst xs => ∀ q, Q .next (σ.set k (.itr q xs)) | _ => False) := by
  refine .mk ?_
  intro A env X₀ s₀ σ s Z X m cm Q E a eo F hq
  have R := F.rel
  refine wpAny_Assign_Name (wpAny_Call_NameR (Name_function_global eo.fn (by rw [eo.toEnvOk.kindOf]; exact hk) (loadGlobal_builtin (env := env) (eo.toEnvOk.globals ▸ R.gl.g) hB.m (eo.toEnvOk.builtins ▸ R.gl.b) hB.b ?_) (by decide +kernel))) (hs env)
  refine callWith_b (by simp [hpl]) (args_cons (wpAny_mono (h.it A env X σ s _ E a eo.toEnvOk R hq) (fun v s₁ ⟨g, y, hy, ry⟩ => args_nil ?_) fun _ _ x => x) (starEach_plain hpl))
  cases y with
  | lst xs =>
    obtain ⟨lp, vs, rfl, nx, hl1, rl⟩ := ry.toLst
    refine call_iter hl1.isList fun hit => ?_
    generalize hq' : s₁.heap.objs.size = q at hit
    generalize hh' : s₁.heap.push { cls := .type "list_iterator", data := .fields #[.ref lp, .int 0 0] } = h' at hit
    have kp : Keep s₁.heap h' := fun b o e => hh' ▸ Heap.get?_push_of_some _ e
    have hf : s₁.heap.get? q = none := hq' ▸ fresh_none _
    have hf0 : s.heap.get? q = none := not_of_keep g.2 hf
    have F1 := (F.grow g).grow (s' := { s₁ with heap := h' }) ⟨⟨h', s₁.toks, rfl⟩, kp⟩
    have nX : ¬ X q := fun x => by obtain ⟨o, e⟩ := F.dom q x; rw [hf0] at e; cases e
    have re : ∀ a, (X a ∨ a = q) → X a ∨ s₁.heap.get? a = none := fun a x => x.imp id fun e => by subst e; exact hf
    have ne_of : ∀ j y, nm[j]? = some y → (σ.getD j .unset).owns = true → ¬ RdM env m cm y (.ref q) := fun j y hy ho r => by
      obtain ⟨b, o, p', e⟩ := (F.var j y hy).aliveX ho
      have := r.unique p'.1
      cases this
      rw [hf0] at e; cases e
    have hlq : lp ≠ q := fun e => by
      obtain ⟨_, x⟩ := hl1; exact nomatch ((e ▸ x : IsL s₁.heap q _ _) : s₁.heap.get? q = _).symm.trans hf
    obtain ⟨oq, eq, _⟩ := id hit
    refine F1.bind eo.fn hx.get hn (loc_kind eo hl) (.itr q xs) (fun a => X a ∨ a = q) (fun _ x => .inl x) (fun a x => x.elim (F1.dom a) fun e => by subst e; exact ⟨_, eq⟩) (fun a x => x.imp id fun e => by subst e; exact not_of_keep F.keep₀ hf0)
      (fun a x n => by rcases x with x | x; exact absurd x n; subst x; exact not_of_keep F.keep₀ hf0) ⟨rfl, .inr rfl, lp, 0, vs.toArray, xs, hit, fun q => q.elim nx hlq, ?_, ?_, rfl, Nat.zero_le _⟩ (fun j y hj hy => ?_) (fun _ j y hj hy ho r => ne_of j y hy ho r) (fun _ a z e => ?_) (fun _ a e => ?_) fun s' m' cm' F' k' => ⟨.next, _, _, m', cm', hy q, trivial, F', ⟨fun b o hb e => k' b o hb (kp _ _ (g.2 _ _ e)), fun a x => x.imp id fun e => by subst e; exact hf0⟩⟩
    · obtain ⟨nn, x⟩ := hl1; exact ⟨nn, kp _ _ x⟩
    · exact (by simpa using (rl.reX re).keep kp)
    · exact (F.var j y hy).move (Z := Z) ⟨fun b o _ e => kp _ _ (g.2 _ _ e), fun a x => x.imp id fun e => by subst e; exact hf0⟩ (fun _ p => p) fun _ a _ xa _ _ => ⟨.inl xa, fun o e => kp _ _ (g.2 _ _ e)⟩
    · cases e
      obtain ⟨o, e⟩ := F.dom _ (F.prot _ z).1
      rw [hf0] at e; cases e
    · cases e; exact not_of_keep F.keep₀ hf0
  | _ => exact hy.elim
end
end Mine
-- ZV12
set_option maxRecDepth 100000
set_option maxHeartbeats 1000000
set_option linter.unusedVariables false
set_option linter.unusedSimpArgs false
namespace Mine
open PySem PySem.Calls PyProof.Rows
section
variable {prog : Program} {w : World} {mg mb : Str → Option Value} {pins : List (Addr × Obj)} {flagT b3T : Int → Option (List Nat)} {b1S : Int → Bool} {sc : Scope} {nm : List Str}
theorem FnPin.more {f st names} {p : Addr × Obj} (P : FnPin mg pins f st names) : FnPin mg (p :: pins) f st names := by
  obtain ⟨fa, o, fd, h1, h2, h3, h4, h5, h6, h7, h8, h9, h10⟩ := P
  exact ⟨fa, o, fd, h1, .tail _ h2, h3, h4, h5, h6, h7, h8, fun h hp => h9 h fun q hq => hp q (.tail _ hq), h10⟩
theorem DictPin.more {D T} {p : Addr × Obj} (P : DictPin prog w mg pins D T) : DictPin prog w mg (p :: pins) D T := by
  obtain ⟨d, o, v, h1, h2, h3, h4, h5⟩ := P
  exact ⟨d, o, v, h1, List.mem_cons_of_mem _ h2, h3, h4, h5⟩
theorem SetPin.more {D T} {p : Addr × Obj} (P : SetPin prog w mg pins D T) : SetPin prog w mg (p :: pins) D T := by
  obtain ⟨d, o, x, h1, h2, h3⟩ := P
  exact ⟨d, o, x, h1, List.mem_cons_of_mem _ h2, h3⟩
theorem Base.more {p : Addr × Obj} (B : Base prog w mg mb pins flagT b3T b1S) : Base prog w mg mb (p :: pins) flagT b3T b1S :=
  { B with flags := B.flags.more, b3 := B.b3.more, b1 := B.b1.more }
/-- a call of a def from the caller's own ground -/
theorem lawRun {n : Nat} {f : Str} {st : Stmt} {names : List Str} {W : WS} {A : Around} {vs : List Value} {as : List AV} {s : Shared} {Q : AV → Prop} {E : Value → Shared → Prop} (P : FnPin mg pins f st names) (hW : SemKS prog w mg mb pins ⟨n, true⟩ (scopeOf st) nm (bodyOf st) W)
    (a : AOk pins ⟨n + 1, true⟩ A) (hfr : A.frames = some []) (G : Gl mg mb pins s.heap) (r : RepL (fun _ => False) s.heap vs as) (hlen : as.length = names.length) (hq : W (sto0 nm as) (retK Q))
    (hpre : ∃ rest, nm = names ++ rest) (hnd : names.Nodup) (hloc : names.all (isLoc (scopeOf st)) = true)
    (hk : (scopeOf st).kind = .function) (hco : (scopeOf st).isCoroutine = false) (hgen : (scopeOf st).isGenerator = false) :
    ∃ fa, mg f = some (.ref fa) ∧ wpAny (model prog w) A (call (.ref fa) vs) (fun v s' => Grow s s' ∧ ∃ c, Q c ∧ Rep (fun _ => False) s'.heap v c) E s := by
  obtain ⟨fa, o, fd, hf, hp, hd, hb, hs, hc, hg, hbl, hcode, hbind⟩ := P
  refine ⟨fa, hf, ?_⟩
  rw [← hs] at hW hloc hk hco hgen
  have hvl : vs.length = names.length := r.length.trans hlen
  have hkeys : (names.zip vs).map (·.1) = names := by rw [List.map_fst_zip]; (first | lia | omega)
  have hloc' : ((names.zip vs).all fun y => fd.scope.names.lookup y.1 == some .local || fd.scope.names.lookup y.1 == some .cell) = true := by
    rw [List.all_eq_true]
    intro y hy
    have : y.1 ∈ names := hkeys ▸ List.mem_map_of_mem hy
    exact List.all_eq_true.mp hloc y.1 this
  refine wpAny_call (codeAny_call_cells (body := bodyOf st) (binds := names.zip vs) (by have := a.depth; (first | lia | omega)) (G.pin _ hp) hd G.nolimit (hcode _ G.pin) hb (hbind vs hvl) hc (fun x hx => PySem.W.kindsX hloc' _ x hx) (fun s₁ ic => ?_) hco hgen hk)
  have eo : FnEnv fd.scope (callEnvC fd s.heap.objs.size fa) := ⟨⟨rfl, hk, hg, hbl⟩, fun x hx => Option.isSome_iff_exists.mp (PySem.W.cellsFrom_some _ _ _ (.inl hx))⟩
  obtain ⟨rest, hrest⟩ := hpre
  have D : ∀ a : Addr, (fun _ : Addr => False) a → ∃ o, s.heap.get? a = some o := fun _ h => h.elim
  have F := FRel.entry (nm := nm) (X := fun _ => False) G D ic (sto0 nm as) (by subst hrest; simp [sto0]; (first | lia | omega)) (fun k x e => ?_)
  · refine wpAny_mono (hW.it _ _ [] (fun _ => False) s _ s₁ _ _ _ _ _ (fun _ _ => False) (a.deeper _) rfl eo ⟨by simp [Around.deeper, hfr], rfl, trivial, fun _ h => (nomatch h), fun _ h => nomatch h⟩ F hq) (fun fl s' hpat => ?_) fun _ _ x => x.elim
    obtain ⟨f', σ', X', m', cm', q, hf', F', _⟩ := hpat
    · obtain ⟨h', tk, e, k⟩ := F'.call.done
      have g : Grow s s' := ⟨⟨h', tk, e⟩, by rw [e]; exact k⟩
      cases fl <;> cases f' <;> try exact hf'.elim
      · exact ⟨g, _, q, .none⟩
      · exact q.elim
      · exact q.elim
      · exact ⟨g, _, q, hf'⟩
  · by_cases hkn : k < names.length
    · right
      have hxn : names[k]? = some x := by rw [hrest, List.getElem?_append_left hkn] at e; exact e
      obtain ⟨v, b, hb', rb, hm⟩ := r.zip_get hvl hxn
      refine ⟨b, v, ?_, ?_, rb⟩
      · unfold sto0
        rw [List.getD_eq_getElem?_getD, List.getElem?_append_left (by simp; (first | lia | omega))]
        simp [hb']
      · have hl := List.all_eq_true.mp hloc x (List.mem_of_getElem? hxn)
        rcases loc_kind eo hl with q | ⟨q, c⟩
        · exact .inl ⟨q, bindL_mem q (by rw [hkeys]; exact hnd) hm⟩
        · exact .inr ⟨q, c, bindC_mem (by rw [q]; decide) (by rw [hkeys]; exact hnd) hm⟩
    · left
      unfold sto0
      rw [List.getD_eq_getElem?_getD, List.getElem?_append_right (by simp; (first | lia | omega))]
      rw [List.getElem?_replicate]
      split <;> rfl
end
end Mine
-- W1
set_option maxRecDepth 100000
set_option linter.unusedVariables false
namespace Mine
open PySem PySem.Calls PyProof.Rows PySem.SeqAt PySem.MeetsSeq
theorem lk_list_keys : typeLookup (.type "list") "keys" = pure none := by rw [typeLookup_type, builtinLookup_eq_fast]; kernel_rfl
theorem lk_list_ga : typeLookup (.type "list") "__getattr__" = pure none := by rw [typeLookup_type, builtinLookup_eq_fast]; kernel_rfl
theorem first_attr (xs : List Value) : firstArgMember (.type "AttributeError") xs = pure .none := by
  unfold firstArgMember
  have : ((Manifest.find? "AttributeError").elim false fun t => t.mro.contains "StopIteration" || t.mro.contains "SystemExit") = false := by decide +kernel
  simp only [this, pure_bind]
  rfl
section
variable {prog : Program} {w : World} {A : Around} {E : Value → Shared → Prop} {s : Shared} {a : Addr}
theorem sub_attr : isSubtype (.type "AttributeError") (.type "AttributeError") = pure true := by rw [isSubtype_type]; kernel_rfl
theorem note_attr {e : Addr} {o nm : Value} {v0 v1 : Value} {Q : Unit → Shared → Prop} (he : s.heap.get? e = some { cls := .type "AttributeError", data := .fields #[v0, .none, .none, .none, .bool false, v1, unsetMember, unsetMember] })
    (h : ∀ h', Heap.SameBut e s.heap h' → (∃ o, h'.get? e = some o ∧ o.cls = .type "AttributeError") → Q () { s with heap := h' }) : wpAny (model prog w) A (noteAttr (.ref e) o nm) Q E s := by
  have hT : s.TypeIs (.ref e) "AttributeError" := ⟨_, he, rfl⟩
  unfold noteAttr lacksNameAndObj
  refine wpAny_bind (wpAny_bind (wpAny_isInstance (T := "AttributeError") (b := true) hT sub_attr ?_))
  simp only [Bool.not_true, Bool.false_eq_true, if_false]
  refine wpAny_bind (wpAny_load he ?_)
  show wpAny _ _ (pure true) _ _ _
  refine wpAny_pure ?_
  show wpAny _ _ (rule _ >>= _) _ _ _
  refine wpAny_bind (wpAny_rule (wpAny_bind (wpAny_typeOf hT ?_)))
  show wpAny _ _ (layMembers e 6 _) _ _ _
  unfold layMembers
  refine wpAny_bind (wpAny_load he ?_)
  show wpAny _ _ (update e _) _ _ _
  refine wpAny_update he (h _ (Heap.SameBut.update ..) ⟨_, Heap.get?_update_self _ he rfl, rfl⟩)
theorem attr_raise {α : Type} {Q : α → Shared → Prop} {msg nm : Str} (hh : A.handled = none) (hm : msg.length ≤ sizeLine)
    (h : ∀ h' t' e, Keep s.heap h' → (∃ o, h'.get? e = some o ∧ o.cls = .type "AttributeError") → E (.ref e) { s with heap := h', toks := t' }) :
   wpAny (model prog w) A (raiseAttrError (.ref a) nm msg : Sem α) Q E s := by
  unfold raiseAttrError newExc newTuple
  refine wpAny_bind (wpAny_mkStr (wpAny_bind (wpAny_bind (wpAny_newObj_type ?_ (by size_fits)))) hm)
  refine wpAny_bind (wpAny_of_eq (first_attr _) ?_)
  refine wpAny_newObj_type ?_ (by size_fits)
  refine wpAny_bind (wpAny_mkText ?_)
  refine wpAny_bind (note_attr (Heap.get?_push_size _ rfl) fun h' sb he => ?_)
  simp only [raiseNew]
  refine wpAny_bind (wpAny_handled ?_)
  rw [hh]
  refine wpAny_bind (wpAny_pure (wpAny_throw (h h' _ _ (fun b o e => (sb.2 b fun q => ?_).trans (Heap.get?_push_of_some _ (Heap.get?_push_of_some _ e))) he)))
  have := Heap.lt_size e
  rw [q, Heap.size_push] at this; exact absurd (Nat.lt_of_succ_lt this) (Nat.lt_irrefl _)
theorem name_list : (Manifest.find? "list").elim "list" (fun x => x.tpName) = "list" := by decide +kernel
theorem nk_entry {its : Array Value} {n : Nat} {tk : Tok} {Q : Fin → Shared → Prop} (hh : A.handled = none) (hx : IsL s.heap a its n)
    (h : ∀ h' t' e, Keep s.heap h' → (∃ o, h'.get? e = some o ∧ o.cls = .type "AttributeError") → E (.ref e) { s with heap := h', toks := t' }) :
    wpAny (model prog w) A (Builtin.«object.__getattribute__» ⟨[.ref a, .str "keys" tk], []⟩) Q E s := by
  have hT : s.TypeIs (.ref a) "list" := ⟨_, hx, rfl⟩
  have f4 := lk_list_keys
  obtain ⟨hp, g, d, t, os⟩ := s
  repeat (any_goals (first | assumption | wp_step))
  rw [name_list]
  exact attr_raise hh (by decide +kernel) h
theorem nk_call {its : Array Value} {n : Nat} {tk : Tok} {R : Result → Shared → Prop} (hh : A.handled = none) (hx : IsL s.heap a its n)
    (h : ∀ h' t' e, Keep s.heap h' → (∃ o, h'.get? e = some o ∧ o.cls = .type "AttributeError") → R (.error (.ref e)) { s with heap := h', toks := t' }) :
    codeAny (model prog w) A (.call (.builtin "list.__getattribute__") ⟨[.ref a, .str "keys" tk], []⟩) R s :=
  codeAny_call_builtin F.slot_list_getattribute.plain F.entry_list_ga (F.slot_list_getattribute.check _ _ _ _ _ _ _ _ (show s.TypeIs (.ref a) "list" from ⟨_, hx, rfl⟩) (F.args_list_getattribute_2 _ _) (nk_entry hh hx h))
theorem nk_by {its : Array Value} {n : Nat} {tk : Tok} {Q : Value → Shared → Prop} (hh : A.handled = none) (hx : IsL s.heap a its n)
    (h : ∀ h' t' e, Keep s.heap h' → (∃ o, h'.get? e = some o ∧ o.cls = .type "AttributeError") → E (.ref e) { s with heap := h', toks := t' }) :
    wpAny (model prog w) A (getAttrBy (.ref a) (.str "keys" tk) false) Q E s := by
  have hT : s.TypeIs (.ref a) "list" := ⟨_, hx, rfl⟩
  have f2 := F.slot_list_getattribute.lookup
  have f3 := F.slot_list_getattribute.bind (.ref a)
  obtain ⟨hp, g, d, t, os⟩ := s
  repeat (any_goals (first | assumption | wp_step))
  refine nk_call hh hx fun h' t' e k q => ?_
  have hT2 : (⟨h', g, d, t', os⟩ : Shared).TypeIs (.ref e) "AttributeError" := q
  have f6 := sub_attr
  have f7 := lk_list_ga
  repeat (any_goals (first | assumption | wp_step))
  exact h h' t' e k q
theorem nk_attr {its : Array Value} {n : Nat} {Q : Option Value → Shared → Prop} (hh : A.handled = none) (hx : IsL s.heap a its n) (h : ∀ h' t', Keep s.heap h' → Q none { s with heap := h', toks := t' }) :
    wpAny (model prog w) A (getAttr? (.ref a) "keys") Q E s := by
  unfold getAttr? getAttrBy?
  refine wpAny_bind (wpAny_mkText (wpAny_bind (wpAny_attempt (nk_by hh hx fun h' t' e k q => ?_))))
  refine wpAny_bind (wpAny_isInstance (T := "AttributeError") (b := true) q sub_attr ?_)
  exact wpAny_pure (h h' t' k)
end
end Mine
-- R2
set_option maxRecDepth 100000
set_option linter.unusedVariables false
set_option linter.unusedSimpArgs false
namespace Mine
open PySem PySem.Calls PyProof.Rows PySem.SeqAt PySem.MeetsSeq
def prs (ps : List (Int × Int)) : List AV := ps.map fun p => .tup [.int p.1, .int p.2]
inductive KR : List (Int × Value) → List (Int × Int) → Prop
  | nil : KR [] []
  | cons {k v : Int} {t : Tok} {kvs : List (Int × Value)} {ps : List (Int × Int)} : KR kvs ps → KR ((k, .int v t) :: kvs) ((k, v) :: ps)
theorem KR.snoc {kvs : List (Int × Value)} {ps : List (Int × Int)} (r : KR kvs ps) (k v : Int) (t : Tok) : KR (kvs ++ [(k, .int v t)]) (ps ++ [(k, v)]) := by
  induction r with
  | nil => exact .cons .nil
  | cons _ ih => exact .cons ih
theorem KR.keys {kvs : List (Int × Value)} {ps : List (Int × Int)} (r : KR kvs ps) : kvs.map (·.1) = ps.map (·.1) := by
  induction r with
  | nil => rfl
  | cons _ ih => rw [List.map_cons, List.map_cons, ih]
section
variable {prog : Program} {w : World}
theorem KR.entries {es : List DictEntry} {kvs : List (Int × Value)} (p : Pairs (intKind prog w) es kvs) : ∀ {ps}, KR kvs ps → (∀ e ∈ es, ∃ k, (intKind prog w).is k e.key = true ∧ e.hash = (intKind prog w).hash k) →
    ∃ ts : List (Tok × Tok), ts.length = ps.length ∧ es = (ps.zip ts).map (fun x => (⟨hashInt x.1.1, .int x.1.1 x.2.1, .int x.1.2 x.2.2⟩ : DictEntry)) := by
  induction p with
  | nil => intro ps r _; cases r; exact ⟨[], rfl, rfl⟩
  | @cons e kv es kvs h1 h2 _ ih =>
    intro ps r hk
    cases r with
    | @cons k v t _ ps r =>
      obtain ⟨ts, e1, e2⟩ := ih r fun e he => hk e (.tail _ he)
      obtain ⟨k', k1, k2⟩ := hk e (.head _)
      have e3 := (intKind prog w).inj _ _ _ k1 h1
      obtain ⟨u, k3⟩ := Value.isInt_shape h1
      refine ⟨(u, t) :: ts, congrArg (· + 1) e1, ?_⟩
      rw [List.zip_cons_cons, List.map_cons, ← e2]
      congr 1
      obtain ⟨eh, ek, ev⟩ := e
      simp only at k2 k3 h2
      subst k3 h2 k2 e3; rfl
theorem IntDict.of {h : Heap} {d : Addr} {kvs : List (Int × Value)} {ps : List (Int × Int)} (hd : h.DictOf (intKind prog w) d kvs) (r : KR kvs ps) (hs : (d == sysModules) = false) : IntDict h d ps := by
  obtain ⟨o, es, ep, e1, e2, e3, e4, e5, e6⟩ := hd
  obtain ⟨ts, t1, t2⟩ := KR.entries e5 r fun e he => e4 e (by simpa using he)
  exact ⟨hs, o, es, ep, e1, e2, e3, ts, t1, t2, by rw [← r.keys]; exact e6⟩
theorem pairs_of : ∀ {ps : List (Int × Int)} {ts : List (Tok × Tok)}, ts.length = ps.length → ∃ kvs, KR kvs ps ∧ Pairs (intKind prog w) ((ps.zip ts).map (fun x => (⟨hashInt x.1.1, .int x.1.1 x.2.1, .int x.1.2 x.2.2⟩ : DictEntry))) kvs := by
  intro ps
  induction ps with
  | nil => intro ts _; exact ⟨[], .nil, .nil⟩
  | cons p ps ih =>
    intro ts e
    cases ts with
    | nil => cases e
    | cons t ts =>
      obtain ⟨kvs, r, q⟩ := ih (Nat.succ.inj e)
      exact ⟨(p.1, .int p.2 t.2) :: kvs, .cons r, .cons isInt_self rfl q⟩
theorem IntDict.dictOf {h : Heap} {d : Addr} {ps : List (Int × Int)} (x : IntDict h d ps) : ∃ kvs, KR kvs ps ∧ h.DictOf (intKind prog w) d kvs := by
  obtain ⟨hs, o, es, n, e1, e2, e3, ts, t1, t2, t3⟩ := x
  obtain ⟨kvs, r, q⟩ := pairs_of (prog := prog) (w := w) t1
  refine ⟨kvs, r, o, es, n, e1, e2, e3, fun e he => ?_, t2 ▸ q, by rw [r.keys]; exact t3⟩
  have he : e ∈ es.toList := by simpa using he
  rw [t2] at he
  obtain ⟨x, _, rfl⟩ := List.mem_map.mp he
  exact ⟨x.1.1, isInt_self, rfl⟩
def lookI (ps : List (Int × Int)) (k : Int) : Option Int := (ps.find? fun p => p.1 = k).map (·.2)
theorem KR.valueAt {kvs : List (Int × Value)} {ps : List (Int × Int)} (r : KR kvs ps) (k : Int) : (valueAt kvs k = none ∧ lookI ps k = none) ∨ ∃ v t, valueAt kvs k = some (.int v t) ∧ lookI ps k = some v := by
  induction r with
  | nil => exact .inl ⟨rfl, rfl⟩
  | @cons k' v t kvs ps r ih =>
    by_cases h : k' = k
    · right
      exact ⟨v, t, by simp [PySem.valueAt, h], by simp [lookI, h]⟩
    · have e1 : PySem.valueAt ((k', Value.int v t) :: kvs) k = PySem.valueAt kvs k := by simp [PySem.valueAt, h]
      have e2 : lookI ((k', v) :: ps) k = lookI ps k := by simp [lookI, h]
      rw [e1, e2]; exact ih
variable {mg mb : Str → Option Value} {pins : List (Addr × Obj)} {l : Lim} {sc : Scope} {nm : List Str}
def isDct : AV → Prop
  | .dct _ => True
  | _ => False
theorem tyDct : TyOk "dict" isDct := fun X s v a r ha => by
  cases a <;> try exact ha.elim
  obtain ⟨d, rfl, _, hs, o, es, n, e1, e2, e3, _⟩ := r.toDct
  exact ⟨⟨o, e1, e2.1⟩, fun b e => by cases e; exact ⟨o, e1, e2.2.1⟩⟩
def dctGetW : List AV → (AV → Prop) → Prop
  | [.dct ps, .int k, .int b], Q => Q (.int ((lookI ps k).getD b))
  | _, _ => False
theorem dctGet_inv {as : List AV} {Q : AV → Prop} (h : dctGetW as Q) : ∃ ps k b, as = [.dct ps, .int k, .int b] ∧ Q (.int ((lookI ps k).getD b)) := by
  unfold dctGetW at h
  split at h
  · exact ⟨_, _, _, rfl, h⟩
  · exact h.elim
theorem dctGet_ok : BnOk prog w mg mb pins l "dict.get" dctGetW := .mk fun A X s vs as Q E a G D r h => by
  obtain ⟨ps, k, b, rfl, h1⟩ := dctGet_inv h
  obtain ⟨v, u, u', rfl, rv, ru, ru'⟩ := r.to3
  obtain ⟨d, rfl, _, hd⟩ := rv.toDct
  obtain ⟨t, rfl⟩ := ru.toInt
  obtain ⟨t', rfl⟩ := ru'.toInt
  have hs := hd.1
  obtain ⟨kvs, rk, hm⟩ := hd.dictOf (prog := prog) (w := w)
  refine call_meetsIn F.slot_dict_get hm.typeIs F.entry_dict_get (F.args_dict_get_3 _ _ _) (meets_dict_get_default (intKind prog w) d (k := k) isInt_self hs _) ⟨_, hm.mapOf, ?_⟩
  rcases rk.valueAt k with ⟨e1, e2⟩ | ⟨v, t, e1, e2⟩
  · rw [e1]; rw [e2] at h1; exact ⟨Grow.tok _ _, _, h1, .int _ _⟩
  · rw [e1]; rw [e2] at h1; exact ⟨Grow.tok _ _, _, h1, .int _ _⟩
/-- the loop that lays pairs into a new dict -/
inductive PairAt (h0 : Heap) : List Value → List (Int × Int) → Prop
  | nil : PairAt h0 [] []
  | cons {p : Addr} {a b : Int} {t u : Tok} {vs : List Value} {ps : List (Int × Int)} : TupX h0 p #[.int a t, .int b u] → PairAt h0 vs ps → PairAt h0 (.ref p :: vs) ((a, b) :: ps)
theorem PairAt.of {X : Addr → Prop} {h : Heap} {ps : List (Int × Int)} : ∀ {vs : List Value}, RepL X h vs (prs ps) → PairAt h vs ps := by
  induction ps with
  | nil => intro vs r; rw [RepL.toNil r]; exact .nil
  | cons p ps ih =>
    intro vs r
    obtain ⟨v, ws, rfl, rv, rw'⟩ := RepL.toCons r
    obtain ⟨q, us, rfl, _, hq, ru⟩ := rv.toTup
    obtain ⟨x, y, rfl, rx, ry⟩ := ru.to2
    obtain ⟨t, rfl⟩ := rx.toInt
    obtain ⟨u, rfl⟩ := ry.toInt
    exact .cons hq (ih rw')
theorem PairAt.length {h : Heap} {vs : List Value} {ps : List (Int × Int)} (r : PairAt h vs ps) : vs.length = ps.length := by
  induction r with
  | nil => rfl
  | cons _ _ ih => exact congrArg (· + 1) ih
theorem entry_upd : entryFor table "dict.update.loop" = some Builtin.«dict.update.loop» := entryFor_of_tree (by kernel_rfl)
theorem upd_loop {A : Around} {R : Result → Shared → Prop} {h0 : Heap} {d it l : Addr} {all : List Value} {m : Nat} (hh : A.handled = none) (hl : IsL h0 l all.toArray m) (nd : h0.get? d = none) (ni : h0.get? it = none) (hdi : d ≠ it) {P : List (Int × Int)} (hP : (P.map (·.1)).Nodup) (hsz : P.length ≤ 100000) (s0 : Shared)
    (hR : ∀ h' tk kvs, Keep h0 h' → h'.DictOf (intKind prog w) d kvs → KR kvs P → R (.ok (.ret .none)) { s0 with heap := h', toks := tk }) :
    ∀ (vs : List Value) (ps : List (Int × Int)), PairAt h0 vs ps → ∀ (i : Int) (j : Nat) (qs : List (Int × Int)) (kvs : List (Int × Value)) (h : Heap) (tk : Nat), all.drop j = vs → qs ++ ps = P → Keep h0 h → h.IsListIter it l j → KR kvs qs → h.DictOf (intKind prog w) d kvs →
      codeAny (model prog w) A (.builtin "dict.update.loop" ⟨[.ref d, .ref it, rawInt i, .none], []⟩) R { s0 with heap := h, toks := tk } := by
  intro vs ps r
  induction r with
  | nil =>
    intro i j qs kvs h tk e1 e2 kk hit rk hd
    rw [List.append_nil] at e2
    subst e2
    refine codeAny_builtin entry_upd ?_
    unfold Builtin.«dict.update.loop»
    refine wpAny_bind (wpAny_pyNext_list_end hh hit (IsL.isList (kk _ _ hl)) ?_ fun h' k => ?_)
    · have : all.length ≤ j := by
        rcases Nat.lt_or_ge j all.length with q | q
        · have := congrArg List.length e1; simp at this; (first | lia | omega)
        · exact q
      simpa using this
    · refine wpAny_bind (wpAny_pure ?_)
      refine wpAny_pure (hR h' _ kvs (fun b o e => k b o (fun q => by rw [q, ni] at e; cases e) (kk b o e)) ?_ rk)
      obtain ⟨o, es, ep, x, y⟩ := hd
      exact ⟨o, es, ep, k _ _ hdi x, y⟩
  | @cons p a b t u vs ps hp r ih =>
    intro i j qs kvs h tk e1 e2 kk hit rk hd
    have hj : all[j]? = some (.ref p) := by
      have : all[j]? = (all.drop j)[0]? := by simp
      rw [this, e1]; rfl
    have hnd : (qs.map (·.1) ++ (a :: ps.map (·.1))).Nodup := by
      have := hP
      rw [← e2, List.map_append, List.map_cons] at this; exact this
    have hna : a ∉ qs.map (·.1) := fun q => (List.nodup_append.mp hnd).2.2 a q a (.head _) rfl
    refine codeAny_builtin entry_upd ?_
    unfold Builtin.«dict.update.loop»
    refine wpAny_bind (wpAny_pyNext_list_item hit (IsL.isList (kk _ _ hl)) (x := .ref p) (by simpa using hj) fun h' hit' sb => ?_)
    have kk' : Keep h0 h' := fun b o e => (sb.2 b fun q => by rw [q, ni] at e; cases e).trans (kk b o e)
    have hd' := hd.sameBut sb hdi
    obtain ⟨m', hp⟩ := hp
    have ho := kk' _ _ hp
    refine wpAny_bind (m := holding [Value.ref p] _) (wpAny_holding (wpAny_bind (wpAny_tryCatch ?_)))
    unfold Builtin.Dict.pairItems
    refine wpAny_bind (wpAny_typeOf (T := "tuple") ⟨_, ho, rfl⟩ ?_)
    rw [if_pos (by decide)]
    refine wpAny_bind (wpAny_seqItems ho rfl (wpAny_pure ?_))
    show wpAny _ _ (holding _ (dictSet d (.int a t) (.int b u))) _ _ _
    have hle : kvs.length ≤ sizeLine := by
      have h1 := congrArg List.length rk.keys
      have h2 := congrArg List.length e2
      rw [List.length_map, List.length_map] at h1
      rw [List.length_append, List.length_cons] at h2
      rw [sizeLine_eq]; (first | lia | omega)
    refine wpAny_holding (wpAny_dictSet_pairs isInt_self hd' (fun h2 hd2 sb2 => ?_) hle)
    have est : stored kvs a (.int b u) = kvs ++ [(a, .int b u)] := by
      unfold stored
      rw [if_neg]
      rw [List.any_eq_true]
      rintro ⟨kv, hkv, he⟩
      exact hna (by rw [← rk.keys]; exact List.mem_map.mpr ⟨kv, hkv, of_decide_eq_true he⟩)
    rw [est] at hd2
    refine wpAny_pure ⟨Code.quiet_builtin _ (by decide +kernel), ?_⟩
    obtain ⟨oi, hi1, hi2, hi3⟩ := hit'
    exact ih (i + 1) (j + 1) (qs ++ [(a, b)]) _ h2 _ (by rw [← List.drop_drop, e1]; rfl) (by rw [List.append_assoc]; exact e2) (fun b o e => (sb2.2 b fun q => by rw [q, nd] at e; cases e).trans (kk' b o e)) ⟨oi, (sb2.2 it (Ne.symm hdi)).trans hi1, hi2, hi3⟩ (rk.snoc a b u) hd2
/-- dict(pairs) -/
theorem call_dict_pairs {A : Around} {E : Value → Shared → Prop} {s : Shared} {l : Addr} {all : List Value} {P : List (Int × Int)} {Q : Value → Shared → Prop} (hh : A.handled = none) (hl : LstX s.heap l all.toArray) (hA : PairAt s.heap all P) (hP : (P.map (·.1)).Nodup) (hsz : P.length ≤ 100000) (hs : sysModules < s.heap.objs.size)
    (h : ∀ h' tk, Keep s.heap h' → IntDict h' s.heap.objs.size P → Q (.ref s.heap.objs.size) { s with heap := h', toks := tk }) : wpAny (model prog w) A (call (.type "dict") [.ref l]) Q E s := by
  obtain ⟨m, hl⟩ := hl
  refine callType_codes (Q₁ := fun obj s₁ => obj = .ref s.heap.objs.size ∧ s₁ = { s with heap := s.heap.push { cls := .type "dict", data := .dict #[] } }) F.kt_called_dict (F.kt_typeCall_dict_1 _) F.entry_dict_init (kt_code_dict_new _ ⟨rfl, rfl⟩) ?_
  rintro obj s₁ ⟨rfl, rfl⟩
  have hnew : (s.heap.push { cls := .type "dict", data := .dict #[] }).DictOf (intKind prog w) s.heap.objs.size [] := Heap.DictOf.new s.heap
  have k1 : Keep s.heap (s.heap.push { cls := .type "dict", data := .dict #[] }) := fun _ _ e => Heap.get?_push_of_some _ e
  refine ⟨hnew.typeIs, F.args_dict_init_2 _ _, ?_⟩
  unfold Builtin.«dict.__init__»
  refine wpAny_bind ?_
  unfold Builtin.Dict.selfAndRest
  refine wpAny_bind (wpAny_notOrdered_dict hnew.typeIs ?_)
  show wpAny _ _ (pure (s.heap.objs.size, [Value.ref l])) _ _ _
  refine wpAny_pure ?_
  show wpAny _ _ (Builtin.Dict.updateFrom "dict.__init__" s.heap.objs.size (.ref l) [] .none) _ _ _
  unfold Builtin.Dict.updateFrom
  refine wpAny_bind (wpAny_typeOf (T := "list") ⟨_, k1 _ _ hl, rfl⟩ ?_)
  rw [if_pos (by decide)]
  refine wpAny_bind (nk_attr hh (k1 _ _ hl) fun h2 tk2 k2 => ?_)
  rw [if_pos (by rfl)]
  refine wpAny_bind (wpAny_rule (wpAny_bind (wpAny_pyIter_list (IsL.isList (k2 _ _ (k1 _ _ hl))) ?_)))
  have lt2 : s.heap.objs.size < h2.objs.size := by
    obtain ⟨o, es, ep, x, _⟩ := hnew
    exact Heap.lt_size (k2 _ _ x)
  refine wpAny_pure ⟨Code.quiet_builtin _ (by decide +kernel), ?_⟩
  refine upd_loop (A := A.in1) (s0 := s) (h0 := s.heap) (m := m) (l := l) (all := all) (P := P) hh hl (fresh_none _) (Heap.get?_none_of_le (Nat.le_of_lt lt2)) (Nat.ne_of_lt lt2) hP hsz (fun h' tk kvs kk hd rk => ?_) all P hA 0 0 [] [] _ tk2 rfl rfl ((k1.trans k2).trans fun _ _ e => Heap.get?_push_of_some _ e) ?_ .nil ?_
  · exact ⟨rfl, h h' tk kk (.of hd rk (by rw [beq_eq_false_iff_ne]; exact Nat.ne_of_gt hs))⟩
  · exact ⟨_, Heap.get?_push_size _ rfl, rfl, rfl⟩
  · exact (hnew.keep k2).push _
theorem semE_dict {x p e pos W} (hB : BI mg mb x (.type "dict")) (h : SemE prog w mg mb pins l sc nm e W) (hz : l.z = true) (hk : sc.names.lookup x = some .globalImplicit) (hpl : plainE e = true := by rfl) (hd : (x == ("__debug__" : Str)) = false := by decide +kernel) :
    SemE prog w mg mb pins l sc nm (.Call (.Name x p) [e] [] pos) (fun σ Q => W σ fun a => ∃ P, a = .lst (prs P) ∧ (P.map (·.1)).Nodup ∧ P.length ≤ 100000 ∧ Q (.dct P)) := by
  refine .mk ?_
  intro A env X σ s Q E a eo R hq
  refine eval_callType (semA_cons h semA_nil hpl) (by simp [hpl]) hk hB.m hB.b hd a eo R (P := fun as => ∃ P, as = [.lst (prs P)] ∧ (P.map (·.1)).Nodup ∧ P.length ≤ 100000 ∧ Q (.dct P)) ?_ fun vs s₁ as g hP r => ?_
  · have : (fun a => ∃ P, a = AV.lst (prs P) ∧ (P.map (·.1)).Nodup ∧ P.length ≤ 100000 ∧ Q (.dct P)) = fun a => ∃ P, [a] = [AV.lst (prs P)] ∧ (P.map (·.1)).Nodup ∧ P.length ≤ 100000 ∧ Q (.dct P) := by
      funext a; simp only [List.cons.injEq, and_true]
    show W σ fun a => ∃ P, [a] = [AV.lst (prs P)] ∧ (P.map (·.1)).Nodup ∧ P.length ≤ 100000 ∧ Q (.dct P)
    rw [← this]; exact hq
  · obtain ⟨P, rfl, n1, n2, hQ⟩ := hP
    obtain ⟨v, rfl, rv⟩ := r.to1
    obtain ⟨q, vs, rfl, n, hl, rl⟩ := rv.toLst
    have R1 := R.keep g.2
    refine call_dict_pairs (a.none hz) hl (PairAt.of rl) n1 n2 ?_ fun h' tk k hd => ⟨g.trans (Grow.heap _ k), _, hQ, .dct R1.fresh hd⟩
    obtain ⟨o, es, ep, e, _⟩ := R1.gl.g
    exact Nat.lt_trans (show sysModules < mainGlobals by decide) (Heap.lt_size e)
end
end Mine
-- R3
set_option maxRecDepth 100000
set_option maxHeartbeats 1000000
set_option linter.unusedVariables false
set_option linter.unusedSimpArgs false
namespace Mine
open PySem PySem.Calls PyProof.Rows
section
variable {prog : Program} {w : World} {mg mb : Str → Option Value} {pins : List (Addr × Obj)} {l : Lim} {sc : Scope} {nm : List Str} {j n : Nat}
inductive KWhInv (mg mb : Str → Option Value) (pins : List (Addr × Obj)) (nm : List Str) (outer : List Env) (X₀ : Addr → Prop) (s₀ : Shared) (env : Env) (s : Shared) (Z X : Addr → Prop) (P : Nat → Sto → Prop) (n : Nat) (s' : Shared) : Prop
  | mk (σ' : Sto) (X' : Addr → Prop) (m' cm' : Str → Option Value) (F' : FRel mg mb pins nm X₀ s₀ env σ' s' Z X' m' cm') (w : P n σ') (st : StepK (frs outer) X Z s.heap s'.heap X')
theorem semK_while {t body pos Wt Wb} (ht : SemT prog w mg mb pins l sc nm t Wt) (hb : SemKS prog w mg mb pins l sc nm body Wb) :
    SemK1 prog w mg mb pins l sc nm (.While t body [] pos) (fun σ Q => ∃ n, whW Wt Wb n σ Q) := by
  refine .mk fun A env outer X₀ s₀ σ s Z X m cm Q E a z eo c F ⟨n, hq⟩ => ?_
  have hz : ∀ b ∈ frs outer, Z b := fun b hb => (c.out b hb).1
  refine wpAny_While (codeAny_whileLoop (KWhInv mg mb pins nm outer X₀ s₀ env s Z X (fun n σ' => whW Wt Wb n σ' Q)) ?_ n ⟨σ, X, m, cm, F, hq, (Step.refl _ _ _).toK hz⟩)
  rintro n s' ⟨σ', X', m', cm', F', hW, st'⟩
  have c' := c.stepK st'
  cases n with
  | zero => exact hW.elim
  | succ n =>
    refine wpAny_mono (ht.it A env X' σ' s' _ _ a eo.toEnvOk F'.rel hW) (fun b s₁ hpat => ?_) fun _ _ x => x
    obtain ⟨g, hc⟩ := hpat
    have st0 : Step X' Z s'.heap s₁.heap X' := Step.grow g
    have st1 := st'.trans (st0.toK hz)
    cases b with
    | false =>
      rw [if_neg Bool.false_ne_true] at hc
      exact wpAny_execs_nil ⟨.next, σ', X', m', cm', hc, trivial, F'.grow g, st1⟩
    | true =>
      rw [if_pos rfl] at hc
      refine wpAny_mono (hb.it A env outer X₀ s₀ σ' s₁ Z X' m' cm' _ _ a z eo (c'.step st0) (F'.grow g) hc) (fun f s₅ hpat => ?_) fun _ _ x => x
      obtain ⟨f', σ5, X5, m5, cm5, q5, hf5, F5, st5⟩ := hpat
      have stt := st1.trans st5
      cases f <;> cases f' <;> try exact hf5.elim
      · exact ⟨n, Nat.lt_succ_self n, σ5, X5, m5, cm5, F5, q5, stt⟩
      · exact ⟨.next, σ5, X5, m5, cm5, q5, trivial, F5, stt⟩
      · exact ⟨n, Nat.lt_succ_self n, σ5, X5, m5, cm5, F5, q5, stt⟩
      · exact ⟨.ret _, σ5, X5, m5, cm5, q5, hf5, F5, stt⟩
/-- x.append(e), e moves the iterator -/
theorem semY_append {x p apos e pos pos2 k W} (h : SemM prog w mg mb pins l sc nm j e W) (hx : Ix nm k x) (hline : (apos.endLine == pos.line) = true := by rfl) (hpl : plainE e = true := by rfl)
    (hd : (x == ("__debug__" : Str)) = false := by decide +kernel) (hc : (x == ("__classdict__" : Str)) = false := by decide +kernel) :
    SemY prog w mg mb pins l sc nm j [.Expr (.Call (.Attribute (.Name x p) "append" apos) [e] [] pos) pos2]
      (fun σ Q QE => ∃ xs, σ.getD k .unset = .own xs ∧ W σ (fun a σ' => ∃ ys, σ'.getD k .unset = .own ys ∧ ys.length ≤ 100000 ∧ Q .next (σ'.set k (.own (ys ++ [a])))) QE) := by
  refine .mk fun A env outer X₀ s₀ σ s Z X m cm Q QE E a z eo c F ⟨xs, ek, hq⟩ he => ?_
  have hv := F.var k x hx.get
  rw [ek] at hv
  obtain ⟨q, vs, rq, xq, ⟨n, lq⟩, rl⟩ := hv
  refine wpAny_execs_cons (wpAny_Expr_any ?_ (by simp [interactive, eo.fn]) rfl)
  refine wpAny_Call_method (hfew := fewArgs [e] (by simp [hpl]) (by simp)) rfl hline PySem.F.plainAttrs_list PySem.F.slot_list_append PySem.F.type_list_append (load_of_reads eo.fn (F.reads rq) ⟨⟨_, lq, rfl⟩, fun b hb => ?_, ?_⟩ hd hc)
  · cases hb; exact ⟨_, lq, rfl⟩
  · rw [starEach_plain hpl]
    refine PySem.P.append_list (wpAny_mono (h.it A env outer X₀ s₀ σ s Z X m cm _ QE E a z eo c F hq he) (fun v s₁ hpat => ?_) fun _ _ x => x)
    obtain ⟨y, σ', ⟨ys, ey, hy2, hy⟩, ry, F1, st1⟩ := hpat
    have hv1 := F1.var k x hx.get
    rw [ey] at hv1
    obtain ⟨q1, vs1, rq1, xq1, ⟨n1, lq1⟩, rl1⟩ := hv1
    have e1 := rq1.unique rq
    cases e1
    have hl' := rl1.length
    refine ⟨vs1, n1, by rw [sizeLine_eq, ← Array.length_toList]; (first | lia | omega), lq1, ?_⟩
    obtain ⟨F2, st⟩ := F1.setOwn (xs' := ys ++ [y]) (vs' := vs1.push v) s₁.toks hx.get ey rq xq lq1 (Heap.SameBut.update _ _ (Obj.mapSeq fun xs => xs.push v)) ⟨_, lq1.update fun xs => xs.push v⟩ (by simpa using rl1.append (.cons ry .nil))
    exact wpAny_execs_nil ⟨.next, _, X, m, cm, hy, trivial, F2, st1.trans st⟩
/-- try: …; except StopIteration: return e, where e reads a list that was owned -/
theorem semK_tryF {y body e p1 p2 p3 pos Wb We} (k : Nat) (hy : Ix nm j y) (hB : BI mg mb "StopIteration" (.type "StopIteration")) (hb : SemY prog w mg mb pins ⟨n, true⟩ sc nm j body Wb)
    (he : ∀ ea oe, QuietExc oe → SemE prog w mg mb ((ea, oe) :: pins) ⟨n, false⟩ sc nm e We) (hk : sc.names.lookup ("StopIteration" : Str) = some NameKind.globalImplicit) :
    SemK1 prog w mg mb pins ⟨n, true⟩ sc nm (.Try body [.ExceptHandler (some (.Name "StopIteration" p1)) none [.Return (some e) p2] p3] [] [] pos) (fun σ Q => Wb σ Q (We (freeze k (σ.set j .unset)) fun a => Q (.ret a) (freeze k (σ.set j .unset)))) := by
  refine .mk fun A env outer X₀ s₀ σ s Z X m cm Q E a z eo c F hq => ?_
  have hz : ∀ b ∈ frs outer, Z b := fun b hb => (c.out b hb).1
  refine wpAny_Try_except (wpAny_mono (hb.it A env outer X₀ s₀ σ s Z X m cm Q _ (fun e s₁ => wpAny (model prog w) A (noteFrame e env) (fun _ s₂ => wpAny (model prog w) A (setFlight e none) (fun _ s₃ => wpAny (model prog w) A (handleBy e env _) _ E s₃) E s₂) E s₁) a z eo c F hq fun ea s1 p xs hqe ej yo => ?_) (fun fl s₁ ⟨f, σ', X', m', cm', q, hf, F', st⟩ => ?_) fun _ _ x => x)
  · obtain ⟨T, hx, ht, hTe, hT0⟩ := yo.st
    refine note_next c.fr yo.fun_ c.fl hx ht hTe fun h2 T' e1 e2 e3 e4 e5 => ?_
    refine flight_x (fl := none) e1 e2 e4 fun h3 f1 f2 f3 => ?_
    have hv := F.var j y hy.get
    rw [ej] at hv
    have back : ∀ b, s.heap.get? b ≠ none → b ≠ p → b ≠ ea ∧ b ≠ T := fun b hb hp => ⟨fun q => yo.new.elim (fun q' => hp (q.trans q')) fun q' => hb (q ▸ q'), fun q => hT0.elim (fun q' => hp (q.trans q')) fun q' => hb (q ▸ q')⟩
    have T'new : ∀ b, s.heap.get? b ≠ none → b ≠ p → b ≠ T' := fun b hb hp q => by
      cases e : s.heap.get? b with
      | none => exact hb e
      | some o =>
        by_cases hbf : b ∈ frs (env :: outer)
        · obtain ⟨sl, e6⟩ := yo.out.slot b o hp hbf e; rw [q, e3] at e6; cases e6
        · have := yo.out.keep b o hp hbf e; rw [q, e3] at this; cases this
    have st2 : Stn (frs (env :: outer)) (· = p) s.heap h3 := by
      refine ⟨fun b o hp hbf e => ?_, fun b o hp hbf e => ?_⟩
      · have ne : s.heap.get? b ≠ none := by rw [e]; simp
        have := back b ne hp
        exact (f3 (frs (env :: outer))).keep b o (T'new b ne hp) hbf (e5.keep b o (fun q => q.elim this.1 this.2) hbf (yo.out.keep b o hp hbf e))
      · have ne : s.heap.get? b ≠ none := by rw [e]; simp
        have := back b ne hp
        obtain ⟨sl, g1⟩ := yo.out.slot b o hp hbf e
        obtain ⟨sl2, g2⟩ := e5.slot b _ (fun q => q.elim this.1 this.2) hbf g1
        obtain ⟨sl3, g3⟩ := (f3 (frs (env :: outer))).slot b _ (T'new b ne hp) hbf g2
        exact ⟨sl3, g3⟩
    obtain ⟨h1, tk, es⟩ := yo.same
    subst es
    obtain ⟨F3, st3⟩ := F.caught c tk hy.get ej st2
    have R3 := F3.rel
    obtain ⟨oe, vs, he1, hcls, hd, hv1, hv2⟩ := id f1
    refine wpAny_handleBy_builtin (X := "StopIteration") (T := "StopIteration") (b := true) sub_stop_base (by kernel_rfl!) sub_stop ?_
    refine Name_function_global eo.fn (by rw [eo.toEnvOk.kindOf]; exact hk) (loadGlobal_builtin (env := env) (eo.toEnvOk.globals ▸ R3.gl.g) hB.m (eo.toEnvOk.builtins ▸ R3.gl.b) hB.b ?_) (by decide +kernel)
    refine ⟨rfl, ⟨oe, he1, hcls⟩, ?_⟩
    simp only [if_true]
    refine flight_x (fl := none) f1 f2 e4 fun h4 g1 g2 g3 => ?_
    have st4 : Stn (frs (env :: outer)) (· = p) s.heap h4 := by
      refine ⟨fun b o hp hbf e => ?_, fun b o hp hbf e => ?_⟩
      · have ne : s.heap.get? b ≠ none := by rw [e]; simp
        exact (g3 (frs (env :: outer))).keep b o (T'new b ne hp) hbf (st2.keep b o hp hbf e)
      · have ne : s.heap.get? b ≠ none := by rw [e]; simp
        obtain ⟨sl, g4⟩ := st2.slot b o hp hbf e
        obtain ⟨sl2, g5⟩ := (g3 (frs (env :: outer))).slot b _ (T'new b ne hp) hbf g4
        exact ⟨sl2, g5⟩
    obtain ⟨F4, st4'⟩ := F.caught c tk hy.get ej st4
    obtain ⟨X5, F5, hX5⟩ := F4.freeze k
    have R4 := F5.rel
    obtain ⟨o4, vs4, he4, hcls4, hd4, hv41, hv42⟩ := id g1
    have R5 : Rel mg mb ((ea, o4) :: pins) nm X5 env (freeze k (σ.set j .unset)) h4 := ⟨⟨R4.gl.g, R4.gl.b, R4.gl.nolimit, fun q hq => by
      cases hq with
      | head => exact he4
      | tail _ hq => exact R4.gl.pin q hq⟩, R4.dom, R4.var⟩
    have a' : AOk ((ea, o4) :: pins) ⟨n, false⟩ (A.mark (some (.ref ea))) := ⟨a.depth, a.units, .inr ⟨rfl, ea, o4, rfl, .head _, vs4, hd4, hv42⟩⟩
    refine wpAny_execs_cons (wpAny_Return_some (wpAny_mono ((he ea o4 ⟨vs4, hd4, hv42⟩).it _ env _ _ _ _ _ a' eo.toEnvOk R5 hqe) (fun v s₁ hpat => ?_) fun _ _ x => x))
    obtain ⟨g, x, hx, rx⟩ := hpat
    have st5 := st4'.trans ((Step.grow g).toK hz)
    exact ⟨.ret x, _, _, m, cm, hx, rx.ret F5.old, F5.grow g, st5.keep, st5.slot, fun b xb => st5.newX b (hX5 b xb)⟩
  · cases fl <;> cases f <;> try exact hf.elim
    · exact wpAny_execs_nil ⟨_, σ', X', m', cm', q, trivial, F', st.toK hz⟩
    · exact ⟨_, σ', X', m', cm', q, hf, F', st.toK hz⟩
    · exact ⟨_, σ', X', m', cm', q, hf, F', st.toK hz⟩
    · exact ⟨_, σ', X', m', cm', q, hf, F', st.toK hz⟩
end
end Mine
-- R4
set_option maxRecDepth 100000
set_option maxHeartbeats 1000000
set_option linter.unusedVariables false
set_option linter.unusedSimpArgs false
namespace Mine
open PySem PySem.Calls PyProof.Rows
theorem virts (h : Heap) : ∀ l : List Addr, ∃ hv : Heap, hv.objs.size = h.objs.size ∧ (∀ a ∈ l, hv.get? a = none) ∧ ∀ b, b ∉ l → hv.get? b = h.get? b
  | [] => ⟨h, rfl, (fun _ h => nomatch h), fun _ _ => rfl⟩
  | a :: l => by
    obtain ⟨h1, e1, e2, e3⟩ := virts h l
    by_cases q : ∃ o, h1.get? a = some o
    · obtain ⟨h2, f1, f2, f3⟩ := virt h1 q
      refine ⟨h2, f1.trans e1, fun b hb => ?_, fun b hb => (f3 b fun e => hb (e ▸ .head _)).trans (e3 b fun e => hb (.tail _ e))⟩
      by_cases hba : b = a
      · rw [hba]; exact f2
      · rw [f3 b hba]; exact e2 b ((List.mem_cons.mp hb).resolve_left hba)
    · refine ⟨h1, e1, fun b hb => ?_, fun b hb => e3 b fun e => hb (.tail _ e)⟩
      rcases List.mem_cons.mp hb with rfl | hb
      · cases e : h1.get? b with
        | none => rfl
        | some o => exact absurd ⟨o, e⟩ q
      · exact e2 b hb
inductive KRet (fr : List Addr) (X : Addr → Prop) (s : Shared) (Q : List Int → Prop) (v : Value) (s' : Shared) : Prop
  | mk (h : Heap) (tk : Nat) (e : s' = { s with heap := h, toks := tk }) (k : ∀ b o, b ∉ fr → s.heap.get? b = some o → h.get? b = some o)
    (sl : ∀ b o, b ∈ fr → s.heap.get? b = some o → ∃ sl, h.get? b = some { o with slots := sl }) (is : List Int) (q : Q is) (r : Rep X h v (.lst (is.map .int)))
/-- a def that may catch -/
inductive KFnOk (prog : Program) (w : World) (mg mb : Str → Option Value) (pins : List (Addr × Obj)) (l : Lim) (f : Str) (Wf : List AV → (List Int → Prop) → Prop) : Prop
  | mk (fa : Addr) (o : Obj) (fd : FuncData) (h1 : mg f = some (.ref fa)) (h2 : (fa, o) ∈ pins) (h3 : o.data = .func fd)
    (h4 : ∀ (A : Around) (outer : List Env) (X : Addr → Prop) (s : Shared) (vs : List Value) (as : List AV) (Q : List Int → Prop) (E : Value → Shared → Prop), AOk pins l A → A.frames = some outer → s.heap.FunFrames {} outer →
      (∀ b ∈ frs outer, X b ∧ ∃ o, s.heap.get? b = some o ∧ ∀ its n, o.data ≠ .seq its n) → (∀ hv : Heap, (∀ b, b ∉ frs outer → hv.get? b = s.heap.get? b) → Gl mg mb pins hv) → (∀ a, X a → ∃ o, s.heap.get? a = some o) →
      RepL X s.heap vs as → Wf as Q → wpAny (model prog w) A (call (.ref fa) vs) (KRet (frs outer) X s Q) E s)
theorem repL_intsK {X Y : Addr → Prop} {h h' : Heap} {is : List Int} : ∀ {vs : List Value}, RepL X h vs (is.map .int) → RepL Y h' vs (is.map .int) := by
  induction is with
  | nil => intro vs r; rw [RepL.toNil r]; exact .nil
  | cons i is ih =>
    intro vs r
    obtain ⟨v, ws, rfl, a, q⟩ := RepL.toCons r
    obtain ⟨t, rfl⟩ := a.toInt
    exact .cons (.int _ _) (ih q)
def kRet (Q : List Int → Prop) : Fl → Sto → Prop := fun fl _ => match fl with | .ret a => ∃ is : List Int, a = .lst (is.map .int) ∧ Q is | _ => False
section
variable {prog : Program} {w : World} {mg mb : Str → Option Value} {pins : List (Addr × Obj)} {l : Lim} {sc : Scope} {nm : List Str} {n : Nat}
theorem KFnOk.of_sem {f : Str} {st : Stmt} {names : List Str} {W : WS} {Wf} (P : FnPin mg pins f st names) (hW : SemKS prog w mg mb pins ⟨n, true⟩ (scopeOf st) nm (bodyOf st) W)
    (h : ∀ as Q, Wf as Q → as.length = names.length ∧ W (sto0 nm as) (kRet Q)) (hpre : ∃ rest, nm = names ++ rest) (hnd : names.Nodup) (hloc : names.all (isLoc (scopeOf st)) = true)
    (hk : (scopeOf st).kind = .function) (hco : (scopeOf st).isCoroutine = false) (hgen : (scopeOf st).isGenerator = false) : KFnOk prog w mg mb pins ⟨n + 1, true⟩ f Wf := by
  obtain ⟨fa, o, fd, hf, hp, hd, hb, hs, hc, hg, hbl, hcode, hbind⟩ := P
  refine ⟨fa, o, fd, hf, hp, hd, fun A outer X s vs as Q E a hfr hfun hX hG D r hwf => ?_⟩
  obtain ⟨hlen, hq⟩ := h as Q hwf
  rw [← hs] at hW hloc hk hco hgen
  have G : Gl mg mb pins s.heap := hG s.heap fun _ _ => rfl
  have hvl : vs.length = names.length := r.length.trans hlen
  have hkeys : (names.zip vs).map (·.1) = names := by rw [List.map_fst_zip]; (first | lia | omega)
  have hloc' : ((names.zip vs).all fun y => fd.scope.names.lookup y.1 == some .local || fd.scope.names.lookup y.1 == some .cell) = true := by
    rw [List.all_eq_true]
    intro y hy
    have : y.1 ∈ names := hkeys ▸ List.mem_map_of_mem hy
    exact List.all_eq_true.mp hloc y.1 this
  refine wpAny_call (codeAny_call_cells (body := bodyOf st) (binds := names.zip vs) (by have := a.depth; (first | lia | omega)) (G.pin _ hp) hd G.nolimit (hcode _ G.pin) hb (hbind vs hvl) hc (fun x hx => PySem.W.kindsX hloc' _ x hx) (fun s₁ ic => ?_) hco hgen hk)
  have eo : FnEnv fd.scope (callEnvC fd s.heap.objs.size fa) := ⟨⟨rfl, hk, hg, hbl⟩, fun x hx => Option.isSome_iff_exists.mp (PySem.W.cellsFrom_some _ _ _ (.inl hx))⟩
  obtain ⟨hv, v1, v2, v3⟩ := virts s.heap (frs outer)
  obtain ⟨hw, w1, w2, w3⟩ := virts s₁.heap (frs outer)
  have ltk : ∀ b o, hv.get? b = some o → b ∉ frs outer ∧ s.heap.get? b = some o := fun b o e => by
    by_cases q : b ∈ frs outer
    · rw [v2 b q] at e; cases e
    · exact ⟨q, (v3 b q).symm.trans e⟩
  have k0 := ic.toInCall.keep
  have alive : ∀ b ∈ frs outer, ∃ o, s.heap.get? b = some o := fun b hb => let ⟨_, o, e, _⟩ := hX b hb; ⟨o, e⟩
  have nfr : ∀ b, s.heap.get? b = none → b ∉ frs outer := fun b e hb => by obtain ⟨o, q⟩ := alive b hb; rw [q] at e; cases e
  have hL := nfr _ (Heap.get?_none_of_le ic.toInCall.fresh)
  have hC : ∀ n c, (callEnvC fd s.heap.objs.size fa).cells.lookup n = some c → c ∉ frs outer := fun n c hc => nfr _ (Heap.get?_none_of_le (Nat.le_of_lt (Nat.lt_of_le_of_lt ic.toInCall.fresh (ic.above n c (mem_of_lookup hc)))))
  have icv : InCallC { s with heap := hv } (callEnvC fd s.heap.objs.size fa).locals (bindL (callEnvC fd s.heap.objs.size fa).kindOf (names.zip vs) fun _ => none) (callEnvC fd s.heap.objs.size fa).cells (bindC (callEnvC fd s.heap.objs.size fa).kindOf (names.zip vs) fun _ => none) { s₁ with heap := hw } := by
    obtain ⟨⟨⟨h, t, e⟩, hns, hk', hf⟩, hc, hap', hab⟩ := ic
    refine ⟨⟨⟨hw, t, by rw [e]⟩, hns.at fun o e => (w3 _ hL).trans e, fun b o e => (w3 b (ltk b o e).1).trans (hk' b o (ltk b o e).2), by show hv.objs.size ≤ _; rw [v1]; exact hf⟩, fun n c e => ?_, hap', hab⟩
    obtain ⟨o, eo, d⟩ := hc n c e
    exact ⟨o, (w3 c (hC n c e)).trans eo, d⟩
  have rv : RepL (fun b => X b ∧ b ∉ frs outer) hv vs as := r.map ⟨fun a o n e => ⟨fun x => n x.1, (v3 a fun q => n (hX a q).1).trans e⟩⟩
  obtain ⟨rest, hrest⟩ := hpre
  have F0 := FRel.entry (nm := nm) (X := fun b => X b ∧ b ∉ frs outer) (s := { s with heap := hv }) (hG hv v3) (fun b hb => let ⟨o, e⟩ := D b hb.1; ⟨o, (v3 b hb.2).trans e⟩) icv (sto0 nm as) (by subst hrest; simp [sto0]; (first | lia | omega)) (fun k x e => by
    by_cases hkn : k < names.length
    · right
      have hxn : names[k]? = some x := by rw [hrest, List.getElem?_append_left hkn] at e; exact e
      obtain ⟨v, b, hb', rb, hm⟩ := rv.zip_get hvl hxn
      refine ⟨b, v, ?_, ?_, rb⟩
      · unfold sto0
        rw [List.getD_eq_getElem?_getD, List.getElem?_append_left (by simp; (first | lia | omega))]
        simp [hb']
      · have hl := List.all_eq_true.mp hloc x (List.mem_of_getElem? hxn)
        rcases loc_kind eo hl with q | ⟨q, c⟩
        · exact .inl ⟨q, bindL_mem q (by rw [hkeys]; exact hnd) hm⟩
        · exact .inr ⟨q, c, bindC_mem (by rw [q]; decide) (by rw [hkeys]; exact hnd) hm⟩
    · left
      unfold sto0
      rw [List.getD_eq_getElem?_getD, List.getElem?_append_right (by simp; (first | lia | omega))]
      rw [List.getElem?_replicate]
      split <;> rfl)
  have F1 := F0.extend (s' := s₁) (I := fun b => b ∈ frs outer) ⟨⟨s₁.heap, s₁.toks, rfl⟩, fun b o e => by
    by_cases q : b ∈ frs outer
    · exact nomatch (w2 b q).symm.trans e
    · exact (w3 b q).symm.trans e⟩ fun b hb => ⟨w2 b hb, let ⟨o, e⟩ := alive b hb; ⟨o, k0 _ _ e⟩⟩
  have ctx : KCtx (A.deeper (callEnvC fd s.heap.objs.size fa)) (callEnvC fd s.heap.objs.size fa) outer { s with heap := hv } s₁ (fun b => False ∨ b ∈ frs outer) :=
    ⟨by simp [Around.deeper, hfr], rfl, frames_slot hfun fun b o _ e => ⟨o.slots, k0 _ _ e⟩, fun b hb => ⟨.inr hb, v2 b hb⟩, fun b hb => let ⟨_, o, e, q⟩ := hX b hb; ⟨o, k0 _ _ e, q⟩⟩
  refine wpAny_mono (hW.it _ _ outer _ _ _ s₁ _ _ _ _ _ (fun _ _ => False) (a.deeper _) rfl eo ctx F1 hq) (fun fl s' hpat => ?_) fun _ _ x => x.elim
  obtain ⟨f', σ', X', m', cm', q, hf', F', st'⟩ := hpat
  cases f' with
  | ret b =>
    obtain ⟨is, rfl, hqi⟩ := q
    cases fl <;> try exact hf'.elim
    obtain ⟨h', tk, e, kk⟩ := F'.call.done
    subst e
    refine ⟨h', tk, rfl, fun b o nb eb => kk b o ((v3 b nb).trans eb), fun b o hb eb => st'.slot b o hb (k0 _ _ eb), is, hqi, ?_⟩
    obtain ⟨p, us, rfl, np, ⟨m2, lp⟩, ru⟩ := Rep.toLst hf'
    refine .lst (fun xp => np ⟨xp, fun hb => ?_⟩) ⟨m2, lp⟩ (repL_intsK ru)
    obtain ⟨_, o, e, q⟩ := hX p hb
    obtain ⟨sl, e2⟩ := st'.slot p o hb (k0 _ _ e)
    have := lp.symm.trans e2
    injection this with this
    exact q us.toArray m2 (congrArg Obj.data this).symm
  | _ => exact q.elim
/-- the frames' slots turned -/
theorem FRel.slots {X₀ X Z : Addr → Prop} {s₀ s : Shared} {env : Env} {outer : List Env} {A : Around} {σ : Sto} {m cm : Str → Option Value} (c : KCtx A env outer s₀ s Z) (F : FRel mg mb pins nm X₀ s₀ env σ s Z X m cm) {h' : Heap} (tk : Nat)
    (kk : ∀ b o, b ∉ frs (env :: outer) → s.heap.get? b = some o → h'.get? b = some o) (sl : ∀ b o, b ∈ frs (env :: outer) → s.heap.get? b = some o → ∃ sl, h'.get? b = some { o with slots := sl }) :
    FRel mg mb pins nm X₀ s₀ env σ { s with heap := h', toks := tk } Z X m cm ∧ StepK (frs outer) X Z s.heap h' X := by
  have L0 : s₀.heap.get? env.locals = none := Heap.get?_none_of_le F.call.toInCall.fresh
  have hfr : frs (env :: outer) = env.locals :: frs outer := by simp [frs, c.fl]
  have nlc : ∀ n c, env.cells.lookup n = some c → c ≠ env.locals := fun n c hc q' => by
    obtain ⟨o, eo, d⟩ := F.call.cell n c hc
    obtain ⟨o2, es, ep, e2, d2⟩ := ns_data F.call.toInCall.ns
    subst q'
    rw [eo] at e2; cases e2; rw [d] at d2; cases d2
  have k2 : ∀ b o, b ≠ env.locals → b ∉ frs outer → s.heap.get? b = some o → h'.get? b = some o := fun b o n2 n3 eb => kk b o (by rw [hfr]; exact fun q => (List.mem_cons.mp q).elim n2 n3) eb
  have fX : ∀ b ∈ frs outer, X b := fun b hb => (F.prot b (c.out b hb).1).1
  have fC : ∀ n b, env.cells.lookup n = some b → b ∉ frs outer := fun n b e hb => (F.prot b (c.out b hb).1).2.2.1 n b e rfl
  have fO : ∀ j y a, nm[j]? = some y → (σ.getD j .unset).owns = true → RdM env m cm y (.ref a) → a ∉ frs outer := fun j y a hj o r hb => (F.prot a (c.out a hb).1).2.2.2 j y hj o r
  have kx : KeepX X s.heap h' := fun b o nx e => k2 b o (fun q => nx (q ▸ F.loc)) (fun q => nx (fX b q)) e
  refine ⟨⟨⟨⟨?_, ?_, fun b o eb => k2 b o (fun q => by rw [q, L0] at eb; cases eb) (fun q => by rw [(c.out b q).2] at eb; cases eb) (F.keep₀ b o eb), F.call.toInCall.fresh⟩, fun n cc hc => ?_, F.call.apart, F.call.above⟩, F.gl, F.dom₀, fun a xa => ?_, F.old, F.new, F.loc, F.cel, F.len, fun j y hy => ?_, F.apart, F.mine, F.prot⟩,
    ⟨fun b o hb nf eb => k2 b o (fun q => hb.elim (fun n => n (q ▸ F.loc)) fun z => (F.prot b z).2.1 q) nf eb, fun b o hb eb => sl b o (by rw [hfr]; exact List.mem_cons_of_mem _ hb) eb, fun _ x => .inl x⟩⟩
  · obtain ⟨h₁, t₁, rfl⟩ := F.call.toInCall.same; exact ⟨h', tk, rfl⟩
  · obtain ⟨o, es, ep, eo, r⟩ := F.call.toInCall.ns
    obtain ⟨sl, e'⟩ := sl _ o (by rw [hfr]; exact .head _) eo
    exact ⟨_, es, ep, e', r⟩
  · obtain ⟨o, eo, d⟩ := F.call.cell n cc hc; exact ⟨o, k2 _ _ (nlc n cc hc) (fC n cc hc) eo, d⟩
  · obtain ⟨o, eo⟩ := F.dom a xa
    by_cases q : a ∈ frs (env :: outer)
    · obtain ⟨sl, e'⟩ := sl a o q eo; exact ⟨_, e'⟩
    · exact ⟨o, kk a o q eo⟩
  · exact (F.var j y hy).move (Z := fun _ => False) ⟨fun b o n e => kx b o (n.resolve_right id) e, fun a h => .inl h⟩ (fun _ p => p) fun ho' a r xa n1 _ => ⟨xa, fun o e => k2 a o (fun q => n1 m (q ▸ F.call.toInCall.ns)) (fO j y a hy ho' r) e⟩
theorem semK_assignK {x p f p1 e pos1 pos k l' We Wf} (he : SemE prog w mg mb pins l sc nm e We) (hF : KFnOk prog w mg mb pins l' f Wf) (hk : sc.names.lookup f = some .globalImplicit) (hx : Ix nm k x) (hl : l'.le l = true := by rfl) (hpl : plainE e = true := by rfl)
    (hd : (f == ("__debug__" : Str)) = false := by decide +kernel) (hn : nm.Nodup := by decide +kernel) (hlx : isLoc sc x = true := by decide +kernel)
    (hs : ∀ env, swapsWith (.Call (.Name f p1) [e] [] pos1) (some (.Name x p)) pos.line env = pure false := by intro _; rfl) :
    SemK1 prog w mg mb pins l sc nm (.Assign [.Name x p] (.Call (.Name f p1) [e] [] pos1) pos) (fun σ Q => We σ fun a => Wf [a] fun is => Q .next (σ.set k (.val (.lst (is.map .int))))) := by
  refine .mk fun A env outer X₀ s₀ σ s Z X m cm Q E a z eo c F hq => ?_
  have R := F.rel
  obtain ⟨fa, o, fd, h1, h2, h3, h4⟩ := hF
  refine wpAny_Assign_Name (wpAny_Call_NameR (Name_function_global eo.fn (by rw [eo.toEnvOk.kindOf]; exact hk) (loadGlobal_global (env := env) (eo.toEnvOk.globals ▸ R.gl.g) h1 ?_) hd)) (hs env)
  refine callWith_def (o := o) h3 (wpAny_mono ((semA_cons he semA_nil hpl).it A env X σ s (fun as => Wf as fun is => Q .next (σ.set k (.val (.lst (is.map .int))))) E pos1 a eo.toEnvOk R hq) (fun vs s₁ hpat => ?_) fun _ _ x => x) (starEach_plain hpl)
  obtain ⟨g, as, hP, r, _⟩ := hpat
  have F1 := F.grow g
  have st0 : Step X Z s.heap s₁.heap X := Step.grow g
  have c1 := c.step st0
  have hfr : frs (env :: outer) = env.locals :: frs outer := by simp [frs, c.fl]
  refine ⟨F1.rel.gl.pin _ h2, wpAny_mono (h4 A (env :: outer) X s₁ vs as _ E (a.mono hl) c.fr (F1.kFrames eo c1) (fun b hb => ?_) (fun hv q => F.gl.keep fun b o e => ?_) F1.dom r hP) (fun v s₂ hpat => ?_) fun _ _ x => x⟩
  · rw [hfr] at hb
    rcases List.mem_cons.mp hb with rfl | hb
    · obtain ⟨o, es, ep, e, d⟩ := ns_data F1.call.toInCall.ns
      exact ⟨F1.loc, o, e, fun its n q => by rw [d] at q; cases q⟩
    · exact ⟨(F1.prot b (c.out b hb).1).1, c1.lst b hb⟩
  · refine (q b fun hb => ?_).trans (F1.keep₀ b o e)
    rw [hfr] at hb
    rcases List.mem_cons.mp hb with rfl | hb
    · rw [Heap.get?_none_of_le F.call.toInCall.fresh] at e; cases e
    · rw [(c.out b hb).2] at e; cases e
  · obtain ⟨h', tk, rfl, kk, sl, is, hqi, rr⟩ := hpat
    obtain ⟨F2, st2⟩ := F1.slots c1 tk kk sl
    exact F2.bindVal eo hx hn hlx rr fun s' m' cm' F3 st3 => ⟨.next, _, X, m', cm', hqi, trivial, F3, (st0.transK st2 fun b hb => (c.out b hb).1).trans (st3.toK fun b hb => (c.out b hb).1)⟩
end
end Mine
-- R1
set_option maxRecDepth 100000
set_option linter.unusedVariables false
set_option linter.unusedSimpArgs false
namespace Mine
open PySem PySem.Calls PyProof.Rows PySem.SeqAt PySem.MeetsSeq
section
variable {prog : Program} {w : World} {mg mb : Str → Option Value} {pins : List (Addr × Obj)} {l : Lim} {sc : Scope} {nm : List Str}
/-- a call of a def without arguments -/
theorem semE_fn0 {f p pos l' Wf} (hF : FnOk prog w mg mb pins l' f Wf) (hk : sc.names.lookup f = some .globalImplicit) (hl : l'.le l = true := by rfl) (hd : (f == ("__debug__" : Str)) = false := by decide +kernel) :
    SemE prog w mg mb pins l sc nm (.Call (.Name f p) [] [] pos) (fun _ Q => Wf [] Q) := by
  refine .mk ?_
  intro A env X σ s Q E a eo R hq
  obtain ⟨fa, o, fd, h1, h2, h3, h4⟩ := hF
  refine wpAny_Call_NameR (Name_function_global eo.fn (by rw [eo.kindOf]; exact hk) (loadGlobal_global (env := env) (eo.globals ▸ R.gl.g) h1 ?_) hd)
  exact callWith_function (o := o) (fd := fd) (PyProof.Rows.evalArgs_none ⟨⟨R.gl.pin _ h2, h3⟩, h4 A X s [] [] Q E (a.mono hl) R.gl R.dom .nil hq⟩)
/-- a text, several times -/
def mulSW (a b : AV) (Q : AV → Prop) : Prop := match a, b with
  | .str x, .int y => 0 ≤ y ∧ y ≤ 1000 ∧ x.length ≤ 100 ∧ Q (.str (List.replicate y.toNat x).flatten)
  | _, _ => False
theorem foldl_nat (l : List (Array Nat)) : ∀ acc : Array Nat, (List.foldl (fun x1 x2 => x1 ++ x2) acc l).toList = acc.toList ++ (l.map Array.toList).flatten := by
  induction l with
  | nil => intro acc; simp
  | cons x r ih => intro acc; rw [List.foldl_cons, ih]; simp
theorem rep_len {α : Type} (x : List α) : ∀ n : Nat, (List.replicate n x).flatten.length = n * x.length
  | 0 => by simp
  | n + 1 => by rw [List.replicate_succ, List.flatten_cons, List.length_append, rep_len x n, Nat.add_mul, Nat.one_mul, Nat.add_comm]
theorem mulS_ok : Prim2 prog w mg mb pins l (binaryOp .Mult) mulSW := .mk fun A X s va vb a b Q E ao G D ra rb h => by
  cases a <;> try exact h.elim
  rename_i x
  cases b <;> try exact h.elim
  rename_i y
  obtain ⟨t, rfl⟩ := ra.toStr
  obtain ⟨u, rfl⟩ := rb.toInt
  obtain ⟨h0, h1, h2, hq⟩ := h
  obtain ⟨n, rfl⟩ := Int.eq_ofNat_of_zero_le h0
  have hn : n ≤ 1000 := by (first | lia | omega)
  rw [Int.toNat_natCast] at hq
  have hlen : (⟨x.toArray⟩ : Str).length = x.length := by simp [Str.length]
  have hm : x.length * n ≤ 100 * 1000 := Nat.mul_le_mul h2 hn
  refine PySem.P.mul_str (by rw [decide_eq_false (by (first | lia | omega)), decide_eq_false (by (first | lia | omega))]; rfl) (fun k1 _ k => ?_) (fun _ _ => ?_) ?_
  · have : (2 ^ 63 - 1) / 1000 ≤ (2 ^ 63 - 1 : Int) / (n : Int) := by
      refine Int.le_ediv_of_mul_le (by (first | lia | omega)) ?_
      have : (n : Int) ≤ 1000 := by (first | lia | omega)
      have := Int.mul_le_mul_of_nonneg_left this (show (0 : Int) ≤ (2 ^ 63 - 1) / 1000 by decide)
      exact Int.le_trans this (by decide)
    rw [hlen] at k
    have h3 : (100 : Int) ≤ (2 ^ 63 - 1) / 1000 := by decide
    (first | lia | omega)
  · rw [hlen, Int.toNat_natCast]; exact notLong (by (first | lia | omega))
  · split
    · rename_i k
      have : n = 0 := by (first | lia | omega)
      subst this
      refine ⟨by decide, Grow.tok _ _, _, hq, ?_⟩
      exact Rep.str [] _
    · split
      · rename_i k
        rcases Bool.or_eq_true_iff.mp k with k | k
        · have : n = 1 := by have := beq_iff_eq.mp k; (first | lia | omega)
          subst this
          refine ⟨Grow.refl _, _, hq, ?_⟩
          have e : (List.replicate 1 x).flatten = x := by simp
          rw [e]; exact .str _ _
        · have : x = [] := by
            have := beq_iff_eq.mp k
            rw [hlen] at this; exact List.length_eq_zero_iff.mp this
          subst this
          refine ⟨Grow.refl _, _, hq, ?_⟩
          have e : (List.replicate n ([] : List Nat)).flatten = [] := by simp
          rw [e]; exact .str _ _
      · have e : List.foldl (fun x1 x2 => x1 ++ x2) #[] (List.replicate (Int.ofNat n).toNat (⟨x.toArray⟩ : Str).cps) = (List.replicate n x).flatten.toArray := by
          rw [← Array.toList_inj, foldl_nat]; simp
        refine ⟨?_, Grow.tok _ _, _, hq, ?_⟩
        · show Array.size (List.foldl (fun x1 x2 => x1 ++ x2) #[] (List.replicate (Int.ofNat n).toNat (⟨x.toArray⟩ : Str).cps)) ≤ _
          rw [e, List.size_toArray, rep_len, sizeLine_eq, Nat.mul_comm]; (first | lia | omega)
        · show Rep X _ (.str ⟨List.foldl (fun x1 x2 => x1 ++ x2) #[] (List.replicate (Int.ofNat n).toNat (⟨x.toArray⟩ : Str).cps)⟩ _) _
          rw [e]; exact .str _ _
/-- x[::-1] of a list -/
def revW (a : AV) (Q : AV → Prop) : Prop := match a with
  | .lst xs => xs.length ≤ 100000 ∧ Q (.lst xs.reverse)
  | _ => False
theorem RepL.reverse {X : Addr → Prop} {h : Heap} {xs : List AV} : ∀ {vs : List Value}, RepL X h vs xs → RepL X h vs.reverse xs.reverse := by
  induction xs with
  | nil => intro vs r; rw [r.toNil]; exact .nil
  | cons x xs ih =>
    intro vs r
    obtain ⟨v, ws, rfl, a, q⟩ := r.toCons
    rw [List.reverse_cons, List.reverse_cons]
    exact (ih q).append (.cons a .nil)
theorem semE_rev {value k p1 p2 p3 pos W} (h1 : SemE prog w mg mb pins l sc nm value W) (ht : ∀ o r, letTemporaryGo value o r = pure () := by intro _ _; rfl) :
    SemE prog w mg mb pins l sc nm (.Subscript value (.Slice none none (some (.UnaryOp .USub (.Constant (.int 1) k p1) p2)) p3) pos) (fun σ Q => W σ fun a => revW a Q) := by
  refine .mk ?_
  intro A env X σ s Q E a eo R hq
  refine wpAny_Subscript_Slice_step (T := "list") list_getitem_lookup (wpAny_mono (h1.it A env X σ s _ E a eo R hq) (fun v s₁ hpat => ?_) fun _ _ x => x) ht
  obtain ⟨g1, x, hx, rx⟩ := hpat
  refine wpAny_Slice (wpAny_evalPart_none (wpAny_evalPart_none (wpAny_evalPart_some (wpAny_UnaryOp (wpAny_Constant_int (PySem.P.neg_int ?_))))))
  cases x with
  | lst xs =>
    obtain ⟨q, vs, rfl, nx, hl, rl⟩ := rx.toLst
    obtain ⟨hlen, hx⟩ := hx
    have hvl := rl.length
    refine ⟨(hl.isList.push _).typeIs, ?_⟩
    refine wpAny_getItem_list_slice (hl.isList.push _) (Heap.IsSliceOf.new ..) .none .none (.int (-1) _) (by decide) ?_ (by rw [List.size_toArray, sizeLine_eq]; (first | lia | omega))
    rw [PySem.W.krv_pick]
    have g2 : Grow s₁ { s₁ with heap := s₁.heap.push { cls := .type "slice", data := .fields #[.none, .none, .int (-1) (s₁.toks + 1)] }, toks := s₁.toks + 1 + 1 } := (Grow.push _ _).toks _
    refine ⟨(g1.trans g2).trans (Grow.push _ _), _, hx, ?_⟩
    refine .lst (vs := vs.reverse) ((R.keep (g1.trans g2).2).fresh) ⟨0, ?_⟩ ((rl.reverse.keep g2.2).keep (Grow.push _ _).2)
    exact IsL.new _ _
  | _ => exact hx.elim
/-- reversed, of a list -/
inductive RevIt (it : Addr) (X : Addr → Prop) (xs : List AV) (h : Heap) : Prop
  | mk (p : Addr) (vs : Array Value) (ys : List AV) (hit : h.IsRevIter it p ((xs.length : Int) - 1)) (np : ¬ X p) (hl : LstX h p vs) (q : RepL X h vs.toList ys) (e : ∃ zs, ys = xs.reverse ++ zs)
theorem isIt_rev (hz : l.z = true) (it : Addr) : IsIt prog w mg mb pins l (fun a => a = it) (RevIt it) (.ref it) where
  item := fun A X s x r E ao G hI ⟨p, vs, ys, hit, np, hl, q, zs, e⟩ => by
    have hyi : ys[r.length]? = some x := by rw [e, List.reverse_cons, List.append_assoc, List.getElem?_append_right (by simp)]; simp
    obtain ⟨v, gv, rv⟩ := q.get hyi
    have e1 : (((x :: r).length : Nat) : Int) - 1 = ((r.length : Nat) : Int) := by rw [List.length_cons]; (first | lia | omega)
    rw [e1] at hit
    refine wpAny_pyNext_rev_item hit hl.isList (x := v) (by simpa using gv) fun h' hit' sb => ?_
    have kx : KeepX X s.heap h' := fun b o n e => (sb.2 b fun q => n (q ▸ hI it rfl)).trans e
    exact ⟨v, rfl, ⟨⟨h', s.toks, rfl⟩, fun b o n e => (sb.2 b n).trans e⟩, rv.keepX kx, p, vs, ys, hit', np, isList_keepX kx np hl, q.keepX kx, [x] ++ zs, by rw [e, List.reverse_cons, List.append_assoc]⟩
  fin := fun A X s E ao G hI hp ⟨p, vs, ys, hit, np, hl, q, e⟩ => wpAny_pyNext_rev_end (ao.none hz) hit fun h' k => ⟨rfl, ⟨⟨h', s.toks, rfl⟩, fun b o n e => k b o n e⟩⟩
  self := fun A X s xs E Q ⟨_, _, _, hit, _, _, _, _⟩ h => wpAny_pyIter_revIter hit h
  stable := fun X Z X' h h' xs ⟨p, vs, ys, ⟨o, e1, e2⟩, np, ⟨n, hl⟩, q, e⟩ hZ st =>
    ⟨p, vs, ys, ⟨o, st.keep _ _ (.inr (hZ it rfl)) e1, e2⟩, (fun x => (st.newX _ x).elim np fun e => nomatch hl.symm.trans e), ⟨n, st.keep _ _ (.inl np) hl⟩, q.step st, e⟩
  alive := fun X h xs ⟨_, _, _, ⟨o, e1, e2⟩, _, _, _, _⟩ a ha => ha ▸ ⟨o, e1⟩
theorem semI_rev {x p e pos W} (hB : BI mg mb x (.type "reversed")) (h : SemE prog w mg mb pins l sc nm e W) (hz : l.z = true) (hk : sc.names.lookup x = some .globalImplicit) (hpl : plainE e = true := by rfl) (hd : (x == ("__debug__" : Str)) = false := by decide +kernel) :
    SemI prog w mg mb pins l sc nm (.Call (.Name x p) [e] [] pos) (fun σ Q => W σ fun a => match a with | .lst xs => Q xs.reverse | _ => False) := by
  refine .mk ?_
  intro A env X σ s Q E a eo R hq
  refine eval_callType (semA_cons h semA_nil hpl) (by simp [hpl]) hk hB.m hB.b hd a eo R (P := fun as => match as with | [.lst xs] => Q xs.reverse | _ => False) ?_ fun vs s₁ as g hP r => ?_
  · have : (fun a => match a with | AV.lst xs => Q xs.reverse | _ => False) = fun a => (match [a] with | [.lst xs] => Q xs.reverse | _ => False) := by
      funext a; cases a <;> rfl
    show W σ fun a => (match [a] with | [.lst xs] => Q xs.reverse | _ => False)
    rw [← this]; exact hq
  · have hP : ∃ xs, as = [.lst xs] ∧ Q xs.reverse := by
      split at hP
      · exact ⟨_, rfl, hP⟩
      · exact hP.elim
    obtain ⟨xs, rfl, hP⟩ := hP
    obtain ⟨v, rfl, rv⟩ := r.to1
    obtain ⟨p, vs, rfl, n, hl, q⟩ := rv.toLst
    refine call_reversed_list hl.isList ?_
    have hit : (s₁.heap.push (revObj p ((vs.toArray.size : Int) - 1))).IsRevIter s₁.heap.objs.size p ((xs.reverse.length : Int) - 1) := by
      refine ⟨_, Heap.get?_push_size _ rfl, rfl, ?_⟩
      rw [List.length_reverse, ← q.length]; rfl
    refine wpAny_pyIter_revIter hit ⟨g.trans (Grow.push _ _), _, _, _, hP, ?_, isIt_rev hz s₁.heap.objs.size, fun c e => by subst e; exact ⟨not_of_keep g.2 (fresh_none _), _, Heap.get?_push_size _ rfl⟩⟩
    have fr : ∀ a, (X a ∨ a = s₁.heap.objs.size) → X a ∨ s₁.heap.get? a = none := fun a x => x.imp id fun e => by subst e; exact fresh_none _
    exact ⟨p, _, xs, hit, (fun h => (fr _ h).elim n fun e => by obtain ⟨_, x⟩ := hl; exact nomatch x.symm.trans e), isList_keepX (Keep.toX (Grow.push _ _).2) n hl, by simpa using (q.reX fr).keep (Grow.push _ _).2, [], by rw [List.reverse_reverse, List.append_nil]⟩
end
end Mine
-- R5
set_option maxRecDepth 100000
set_option maxHeartbeats 1000000
set_option linter.unusedVariables false
set_option linter.unusedSimpArgs false
namespace Mine
open PySem PySem.Calls PyProof.Rows PySem.SeqAt PySem.MeetsSeq
def zipA (xs ys : List AV) : List AV := List.zipWith (fun a b => .tup [a, b]) xs ys
inductive TPost (I : Addr → Prop) (J1 : Value → (Addr → Prop) → List AV → Heap → Prop) (X : Addr → Prop) (s : Shared) (x : AV) (r : List AV) (o : Option Value) (s' : Shared) : Prop
  | mk (v : Value) (e : o = some v) (g : GrowI I s s') (rv : Rep X s'.heap v x) (j : J1 v X r s'.heap)
/-- iterators whose items a target takes apart -/
structure IsItT (prog : Program) (w : World) (l : Lim) (pins : List (Addr × Obj)) (I : Addr → Prop) (J : (Addr → Prop) → List AV → Heap → Prop) (J1 : Value → (Addr → Prop) → List AV → Heap → Prop) (it : Value) : Prop where
  item : ∀ (A : Around) (X : Addr → Prop) (s : Shared) (x : AV) (r : List AV) (E : Value → Shared → Prop), AOk pins l A → (∀ a, I a → X a) → (∀ a, X a → ∃ o, s.heap.get? a = some o) → J X (x :: r) s.heap →
    wpAny (model prog w) A (pyNext it) (TPost I J1 X s x r) E s
  go : ∀ (A : Around) (X : Addr → Prop) (s : Shared) (v : Value) (r : List AV) (E : Value → Shared → Prop) (Q : Unit → Shared → Prop) (elts : List Expr) (k) (pos : Pos), J1 v X r s.heap → (∀ a, I a → X a) → (∀ s', GrowI I s s' → J X r s'.heap → Q () s') →
    wpAny (model prog w) A (letOwnedTupleGo (.Tuple elts k pos) it v) Q E s
  fin : ∀ (A : Around) (X : Addr → Prop) (s : Shared) (E : Value → Shared → Prop), AOk pins l A → J X [] s.heap → wpAny (model prog w) A (pyNext it) (fun o s' => o = none ∧ GrowI I s s') E s
  self : ∀ (A : Around) (X : Addr → Prop) (s : Shared) (xs : List AV) (E : Value → Shared → Prop) (Q : Value → Shared → Prop), J X xs s.heap → Q it s → wpAny (model prog w) A (pyIter it) Q E s
  stable : ∀ (X Z X' : Addr → Prop) (h h' : Heap) (xs : List AV), J X xs h → (∀ a, I a → Z a) → Step X Z h h' X' → J X' xs h'
  alive : ∀ (X : Addr → Prop) (h : Heap) (xs : List AV), J X xs h → ∀ a, I a → ∃ o, h.get? a = some o
  alive1 : ∀ (v : Value) (X : Addr → Prop) (h : Heap) (xs : List AV), J1 v X xs h → ∀ a, I a → ∃ o, h.get? a = some o
inductive ITPost (prog : Program) (w : World) (l : Lim) (pins : List (Addr × Obj)) (X : Addr → Prop) (s : Shared) (Q : List AV → Prop) (it : Value) (s₂ : Shared) : Prop
  | mk (g : Grow s s₂) (xs : List AV) (I : Addr → Prop) (J : (Addr → Prop) → List AV → Heap → Prop) (J1 : Value → (Addr → Prop) → List AV → Heap → Prop) (q : Q xs) (j : J (fun a => X a ∨ I a) xs s₂.heap) (isIt : IsItT prog w l pins I J J1 it) (hI : ∀ a, I a → s.heap.get? a = none ∧ ∃ o, s₂.heap.get? a = some o)
structure SemIT (prog : Program) (w : World) (mg mb : Str → Option Value) (pins : List (Addr × Obj)) (l : Lim) (sc : Scope) (nm : List Str) (e : Expr) (W : Sto → (List AV → Prop) → Prop) : Prop where
  it : ∀ (A : Around) (env : Env) (X : Addr → Prop) (σ : Sto) (s : Shared) (Q : List AV → Prop) (E : Value → Shared → Prop), AOk pins l A → EnvOk sc env → Rel mg mb pins nm X env σ s.heap → W σ Q →
    wpAny (model prog w) A (eval e env) (fun x s₁ => wpAny (model prog w) A (pyIter x) (ITPost prog w l pins X s Q) E s₁) E s
inductive ZipSt (z TI TO i1 i2 l1 l2 : Addr) (f0 : Value) (X : Addr → Prop) (xs : List AV) (h : Heap) : Prop
  | mk (k : Nat) (vs1 vs2 : Array Value) (ys1 ys2 : List AV) (a b : Value) (hz : IsZip h z TI TO f0) (hTI : IsPair h TI (.ref i1) (.ref i2)) (hTO : IsPair h TO a b) (h1 : h.IsListIter i1 l1 k) (h2 : h.IsListIter i2 l2 k) (n1 : ¬ X l1) (n2 : ¬ X l2)
    (L1 : LstX h l1 vs1) (L2 : LstX h l2 vs2) (R1 : RepL X h vs1.toList ys1) (R2 : RepL X h vs2.toList ys2) (e : xs = zipA (ys1.drop k) (ys2.drop k))
theorem ZipSt.step {z TI TO i1 i2 l1 l2 : Addr} {f0 : Value} {X Z X' : Addr → Prop} {xs : List AV} {h h' : Heap} (x : ZipSt z TI TO i1 i2 l1 l2 f0 X xs h) (hZ : ∀ a, (a = z ∨ a = TI ∨ a = TO ∨ a = i1 ∨ a = i2) → Z a) (st : Step X Z h h' X') : ZipSt z TI TO i1 i2 l1 l2 f0 X' xs h' := by
  obtain ⟨k, vs1, vs2, ys1, ys2, a, b, hz, hTI, hTO, ⟨o1, e1, f1⟩, ⟨o2, e2, f2⟩, n1, n2, L1, L2, R1, R2, e⟩ := x
  have K1 := L1.step st n1
  have K2 := L2.step st n2
  exact ⟨k, vs1, vs2, ys1, ys2, a, b, st.keep _ _ (.inr (hZ z (.inl rfl))) hz, st.keep _ _ (.inr (hZ TI (.inr (.inl rfl)))) hTI, st.keep _ _ (.inr (hZ TO (.inr (.inr (.inl rfl))))) hTO, ⟨o1, st.keep _ _ (.inr (hZ i1 (.inr (.inr (.inr (.inl rfl)))))) e1, f1⟩,
    ⟨o2, st.keep _ _ (.inr (hZ i2 (.inr (.inr (.inr (.inr rfl)))))) e2, f2⟩, K1.1, K2.1, K1.2, K2.2, R1.step st, R2.step st, e⟩
theorem ZipSt.alive {z TI TO i1 i2 l1 l2 : Addr} {f0 : Value} {X : Addr → Prop} {xs : List AV} {h : Heap} (x : ZipSt z TI TO i1 i2 l1 l2 f0 X xs h) (a : Addr) (ha : a = z ∨ a = TI ∨ a = TO ∨ a = i1 ∨ a = i2) : ∃ o, h.get? a = some o := by
  obtain ⟨k, vs1, vs2, ys1, ys2, _, _, hz, hTI, hTO, ⟨o1, e1, _⟩, ⟨o2, e2, _⟩, _⟩ := x
  rcases ha with rfl | rfl | rfl | rfl | rfl
  · exact ⟨_, hz⟩
  · exact ⟨_, hTI⟩
  · exact ⟨_, hTO⟩
  · exact ⟨_, e1⟩
  · exact ⟨_, e2⟩
theorem zipA_cons {ys1 ys2 : List AV} {k : Nat} {x : AV} {r : List AV} (e : x :: r = zipA (ys1.drop k) (ys2.drop k)) : ∃ a b, ys1[k]? = some a ∧ ys2[k]? = some b ∧ x = .tup [a, b] ∧ r = zipA (ys1.drop (k + 1)) (ys2.drop (k + 1)) := by
  have e1 : ys1[k]? = (ys1.drop k)[0]? := by simp
  have e2 : ys2[k]? = (ys2.drop k)[0]? := by simp
  rw [e1, e2, ← List.drop_drop, ← List.drop_drop]
  cases h1 : ys1.drop k with
  | nil => rw [h1] at e; cases e
  | cons a r1 =>
    cases h2 : ys2.drop k with
    | nil => rw [h1, h2] at e; cases e
    | cons b r2 =>
      rw [h1, h2] at e
      obtain ⟨rfl, e3⟩ := List.cons.inj e
      exact ⟨a, b, rfl, rfl, rfl, e3⟩
theorem zipA_nil {ys1 ys2 : List AV} {k : Nat} (e : [] = zipA (ys1.drop k) (ys2.drop k)) : ys1.length ≤ k ∨ ys2.length ≤ k := by
  rcases Nat.lt_or_ge k ys1.length with h1 | h1
  · rcases Nat.lt_or_ge k ys2.length with h2 | h2
    · rw [List.drop_eq_getElem_cons h1, List.drop_eq_getElem_cons h2] at e; cases e
    · exact .inr h2
  · exact .inl h1
theorem le_of5 {n a : Nat} (h : a = n + 4 ∨ a = n + 2 ∨ a = n + 3 ∨ a = n ∨ a = n + 1) : n ≤ a := by (first | lia | omega)
theorem zipApart5 {n l1 l2 : Nat} (h1 : l1 < n) (h2 : l2 < n) : ZipApart (n + 4) (n + 2) (n + 3) n (n + 1) l1 l2 := by
  have k : ∀ {a b : Nat}, a ≠ b → @Ne Addr a b := fun h => h
  constructor <;> (apply k; (first | lia | omega))
section
variable {prog : Program} {w : World} {mg mb : Str → Option Value} {pins : List (Addr × Obj)} {l : Lim} {sc : Scope} {nm : List Str}
theorem isItT_zip (hz : l.z = true) {z TI TO i1 i2 l1 l2 : Addr} (Dz : ZipApart z TI TO i1 i2 l1 l2) :
    IsItT prog w l pins (fun a => a = z ∨ a = TI ∨ a = TO ∨ a = i1 ∨ a = i2) (ZipSt z TI TO i1 i2 l1 l2 .none) (fun v X xs h => ∃ T, v = .ref T ∧ ZipSt z TI TO i1 i2 l1 l2 (rawInt T) X xs h) (.ref z) where
  item := fun A X s x r E ao hI D ⟨k, vs1, vs2, ys1, ys2, a, b, hz0, hTI, hTO, h1, h2, n1, n2, L1, L2, R1, R2, e⟩ => by
    obtain ⟨c, d, g1, g2, rfl, e2⟩ := zipA_cons e
    obtain ⟨v1, gv1, rv1⟩ := R1.get g1
    obtain ⟨v2, gv2, rv2⟩ := R2.get g2
    refine wpAny_pyNext_zip_item Dz hz0 hTI hTO h1 h2 L1.isList L2.isList (x := v1) (y := v2) (by simpa using gv1) (by simpa using gv2) fun h' a1 a2 a3 a4 a5 a6 hk => ?_
    have kx : KeepX X s.heap h' := fun c o n e => hk c o (fun q => n (hI c (.inl q))) (fun q => n (hI c (.inr (.inr (.inl q))))) (fun q => n (hI c (.inr (.inr (.inr (.inl q)))))) (fun q => n (hI c (.inr (.inr (.inr (.inr q)))))) e
    refine ⟨_, rfl, ⟨⟨h', s.toks, rfl⟩, fun c o n e => hk c o (fun q => n (.inl q)) (fun q => n (.inr (.inr (.inl q)))) (fun q => n (.inr (.inr (.inr (.inl q))))) (fun q => n (.inr (.inr (.inr (.inr q))))) e⟩,
      .tup (vs := [v1, v2]) (fresh_of D) ⟨0, a5⟩ (.cons (rv1.keepX kx) (.cons (rv2.keepX kx) .nil)), _, rfl, k + 1, vs1, vs2, ys1, ys2, _, _, a1, hk TI _ Dz.TIz Dz.TITO Dz.TIi1 Dz.TIi2 hTI, a2, a3, a4, n1, n2, isList_keepX kx n1 L1, isList_keepX kx n2 L2, R1.keepX kx, R2.keepX kx, e2⟩
  go := fun A X s v r E Q elts k pos ⟨T, e, k0, vs1, vs2, ys1, ys2, a, b, hz0, hTI, hTO, h1, h2, n1, n2, L1, L2, R1, R2, e2⟩ hI hQ => by
    subst e
    refine wpAny_letOwnedTupleGo_zip hz0 fun h' hz' sb => ?_
    have kx : KeepX X s.heap h' := fun c o n e => (sb.2 c fun q => n (hI c (.inl q))).trans e
    exact hQ _ ⟨⟨h', s.toks, rfl⟩, fun c o n e => (sb.2 c fun q => n (.inl q)).trans e⟩ ⟨k0, vs1, vs2, ys1, ys2, a, b, hz', (sb.2 _ Dz.TIz).trans hTI, (sb.2 _ Dz.TOz).trans hTO, h1.extBut sb.extBut Dz.i1z, h2.extBut sb.extBut Dz.i2z, n1, n2, isList_keepX kx n1 L1, isList_keepX kx n2 L2, R1.keepX kx, R2.keepX kx, e2⟩
  fin := fun A X s E ao ⟨k, vs1, vs2, ys1, ys2, a, b, hz0, hTI, hTO, h1, h2, n1, n2, L1, L2, R1, R2, e⟩ => by
    have l1 := R1.length
    have l2 := R2.length
    refine wpAny_pyNext_zip_end (ao.none hz) Dz hz0 hTI hTO h1 h2 L1.isList L2.isList ((zipA_nil e).imp (fun q => ?_) fun q => ?_) fun h' hk => ⟨rfl, ⟨h', s.toks, rfl⟩, fun c o n e => hk c o (fun q => n (.inl q)) (fun q => n (.inr (.inr (.inl q)))) (fun q => n (.inr (.inr (.inr (.inl q))))) (fun q => n (.inr (.inr (.inr (.inr q))))) e⟩
    · rw [Array.getElem?_eq_none_iff, ← Array.length_toList]; (first | lia | omega)
    · rw [Array.getElem?_eq_none_iff, ← Array.length_toList]; (first | lia | omega)
  self := fun A X s xs E Q x h => by obtain ⟨_, _, _, _, _, _, _, hz0, _⟩ := x; exact wpAny_pyIter_zip hz0 h
  stable := fun X Z X' h h' xs x hZ st => x.step hZ st
  alive := fun X h xs x a ha => x.alive a ha
  alive1 := fun v X h xs ⟨T, _, x⟩ a ha => x.alive a ha
theorem wpAny_letGo_tupiter {A : Around} {E : Value → Shared → Prop} {s : Shared} {elts : List Expr} {x1} {pos : Pos} {I l : Addr} {v : Value} {i : Nat} {Q : Unit → Shared → Prop} (hit : s.heap.IsTupleIter I l i) (hQ : Q () s) :
    wpAny (model prog w) A (letOwnedTupleGo (.Tuple elts x1 pos) (.ref I) v) Q E s := by
  obtain ⟨o, ho, hc, hd⟩ := hit
  unfold letOwnedTupleGo
  cases v with
  | ref T =>
    refine wpAny_bind (wpAny_load ho ?_)
    rw [hc, hd]
    show wpAny _ A (if (["enumerate", "zip", "dict_itemiterator", "dict_reverseitemiterator", "odict_iterator", "itertools.zip_longest", "itertools.pairwise"].contains "tuple_iterator" &&
        _ == some (rawInt T)) = true then _ else _) Q E s
    rw [if_neg (by
      intro h
      rw [show (["enumerate", "zip", "dict_itemiterator", "dict_reverseitemiterator", "odict_iterator", "itertools.zip_longest", "itertools.pairwise"].contains "tuple_iterator") = false from by decide, Bool.false_and] at h
      cases h)]
    exact wpAny_pure hQ
  | _ => exact wpAny_pure hQ
theorem isItT_tup (hz : l.z = true) (it : Addr) : IsItT prog w l pins (fun a => a = it) (TupIt it) (fun _ => TupIt it) (.ref it) where
  item := fun A X s x r E ao hI D j => by
    obtain ⟨p, i, vs, ys, hit, np, hl, q, e, hi⟩ := j
    have hyi : ys[i]? = some x := by
      have : ys[i]? = (ys.drop i)[0]? := by simp
      rw [this, e]; rfl
    obtain ⟨v, gv, rv⟩ := q.get (i := i) (x := x) hyi
    refine wpAny_pyNext_tuple_item hit hl.isTuple (x := v) (by simpa using gv) fun h' hit' sb => ?_
    have kx : KeepX X s.heap h' := fun b o n e => (sb.2 b fun q => n (q ▸ hI it rfl)).trans e
    refine ⟨v, rfl, ⟨⟨h', s.toks, rfl⟩, fun b o n e => (sb.2 b n).trans e⟩, rv.keepX kx, p, i + 1, vs, ys, hit', np, isTup_keepX kx np hl, q.keepX kx, ?_, ?_⟩
    · rw [← List.drop_drop, e]; rfl
    · exact (List.getElem?_eq_some_iff.mp hyi).1
  go := fun A X s v r E Q elts k pos j hI hQ => by
    obtain ⟨p, i, vs, ys, hit, np, hl, q, e, hi⟩ := j
    exact wpAny_letGo_tupiter hit (hQ s ⟨⟨s.heap, s.toks, rfl⟩, fun _ _ _ e => e⟩ ⟨p, i, vs, ys, hit, np, hl, q, e, hi⟩)
  fin := fun A X s E ao ⟨p, i, vs, ys, hit, np, hl, q, e, hi⟩ => by
    have hlen := q.length
    refine wpAny_pyNext_tuple_end (ao.none hz) hit hl.isTuple ?_ fun h' k => ⟨rfl, ⟨⟨h', s.toks, rfl⟩, fun b o n e => k b o n e⟩⟩
    have : ys.length ≤ i := by
      rcases Nat.lt_or_ge i ys.length with q | q
      · have := congrArg List.length e; simp at this; (first | lia | omega)
      · exact q
    rw [Array.getElem?_eq_none_iff, ← Array.length_toList]; (first | lia | omega)
  self := fun A X s xs E Q ⟨_, _, _, _, hit, _, _, _, _, _⟩ h => wpAny_pyIter_tupleiter hit h
  stable := fun X Z X' h h' xs ⟨p, i, vs, ys, ⟨o, e1, e2⟩, np, ⟨n, hl⟩, q, e, hi⟩ hZ st =>
    ⟨p, i, vs, ys, ⟨o, st.keep _ _ (.inr (hZ it rfl)) e1, e2⟩, (fun x => (st.newX _ x).elim np fun e => nomatch hl.symm.trans e), ⟨n, st.keep _ _ (.inl np) hl⟩, q.step st, e, hi⟩
  alive := fun X h xs ⟨_, _, _, _, ⟨o, e1, e2⟩, _, _, _, _, _⟩ a ha => ha ▸ ⟨o, e1⟩
  alive1 := fun v X h xs ⟨_, _, _, _, ⟨o, e1, e2⟩, _, _, _, _, _⟩ a ha => ha ▸ ⟨o, e1⟩
def itemsTW (a : AV) (Q : List AV → Prop) : Prop := match a with
  | .tup xs => Q xs
  | _ => False
theorem semIT_tup {e W} (h : SemE prog w mg mb pins l sc nm e W) (hz : l.z = true) : SemIT prog w mg mb pins l sc nm e (fun σ Q => W σ fun a => itemsTW a Q) := by
  refine .mk fun A env X σ s Q E a eo R hq => ?_
  refine wpAny_mono (h.it A env X σ s _ E a eo R hq) (fun v s₁ hpat => ?_) fun _ _ x => x
  obtain ⟨g, x, hx, rx⟩ := hpat
  have fr : ∀ a, (X a ∨ a = s₁.heap.objs.size) → X a ∨ s₁.heap.get? a = none := fun a x => x.imp id fun e => by subst e; exact fresh_none _
  cases x with
  | tup xs =>
    obtain ⟨p, vs, rfl, n, x, q⟩ := rx.toTup
    refine wpAny_pyIter_tuple x.isTuple ⟨g.trans (Grow.push _ _), _, _, _, _, hx, ?_, isItT_tup hz _, fun a e => ?_⟩
    · exact ⟨_, 0, _, _, ⟨_, Heap.get?_push_size _ rfl, rfl, rfl⟩, (fun h => (fr _ h).elim n fun e => by obtain ⟨_, x⟩ := x; exact nomatch x.symm.trans e), isTup_keepX (Keep.toX (Grow.push _ _).2) n x, by simpa using (q.reX fr).keep (Grow.push _ _).2, rfl, Nat.zero_le _⟩
    · subst e; exact ⟨not_of_keep g.2 (fresh_none _), _, Heap.get?_push_size _ rfl⟩
  | _ => exact hx.elim
def zipW (as : List AV) (Q : List AV → Prop) : Prop := match as with
  | [.lst xs, .lst ys] => Q (zipA xs ys)
  | _ => False
theorem zipW_inv {as : List AV} {Q : List AV → Prop} (h : zipW as Q) : ∃ xs ys, as = [.lst xs, .lst ys] ∧ Q (zipA xs ys) := by
  unfold zipW at h
  split at h
  · exact ⟨_, _, rfl, h⟩
  · exact h.elim
theorem semIT_zip {x p e1 e2 pos Wa} (hB : BI mg mb x (.type "zip")) (ha : SemA prog w mg mb pins l sc nm [e1, e2] Wa) (hz : l.z = true) (hk : sc.names.lookup x = some .globalImplicit) (hpl : [e1, e2].all plainE = true := by rfl) (hd : (x == ("__debug__" : Str)) = false := by decide +kernel) :
    SemIT prog w mg mb pins l sc nm (.Call (.Name x p) [e1, e2] [] pos) (fun σ Q => Wa σ fun as => zipW as Q) := by
  refine .mk fun A env X σ s Q E a eo R hq => ?_
  refine eval_callType ha hpl hk hB.m hB.b hd a eo R hq fun vs s₁ as g hP r => ?_
  obtain ⟨xs, ys, rfl, hQ⟩ := zipW_inv hP
  obtain ⟨v, u, rfl, rv, ru⟩ := r.to2
  obtain ⟨l1, vs1, rfl, n1, L1, R1⟩ := rv.toLst
  obtain ⟨l2, vs2, rfl, n2, L2, R2⟩ := ru.toLst
  have lt1 : l1 < s₁.heap.objs.size := by obtain ⟨_, x⟩ := L1; exact Heap.lt_size x
  have lt2 : l2 < s₁.heap.objs.size := by obtain ⟨_, x⟩ := L2; exact Heap.lt_size x
  refine call_zip_2 L1.isList L2.isList fun h' a1 a2 a3 a4 a5 a6 hk => ?_
  generalize hn : s₁.heap.objs.size = n at *
  have fr : ∀ a, (X a ∨ (a = n + 4 ∨ a = n + 2 ∨ a = n + 3 ∨ a = n ∨ a = n + 1)) → X a ∨ s₁.heap.get? a = none := fun a x => x.imp id fun e => Heap.get?_none_of_le (hn ▸ le_of5 e)
  have Dz : ZipApart (n + 4) (n + 2) (n + 3) n (n + 1) l1 l2 := zipApart5 lt1 lt2
  refine wpAny_pyIter_zip a1 ⟨g.trans ⟨⟨h', s₁.toks, rfl⟩, hk⟩, _, _, _, _, hQ, ?_, isItT_zip hz Dz, fun a ha => ⟨not_of_keep g.2 (Heap.get?_none_of_le (hn ▸ le_of5 ha)), ?_⟩⟩
  · have lx : ∀ {q : Addr} {vs : List Value}, ¬ X q → LstX s₁.heap q vs.toArray → ¬ (X q ∨ (q = n + 4 ∨ q = n + 2 ∨ q = n + 3 ∨ q = n ∨ q = n + 1)) := fun nx L h => (fr _ h).elim nx fun e => by obtain ⟨_, x⟩ := L; exact nomatch x.symm.trans e
    exact ⟨0, _, _, xs, ys, _, _, a1, a2, a3, a4, a5, lx n1 L1, lx n2 L2, L1.imp fun _ e => hk _ _ e, L2.imp fun _ e => hk _ _ e, by simpa using (R1.reX fr).keep hk, by simpa using (R2.reX fr).keep hk, rfl⟩
  · rcases ha with rfl | rfl | rfl | rfl | rfl
    · exact ⟨_, a1⟩
    · exact ⟨_, a2⟩
    · exact ⟨_, a3⟩
    · obtain ⟨o, e, _⟩ := a4; exact ⟨o, e⟩
    · obtain ⟨o, e, _⟩ := a5; exact ⟨o, e⟩
end
end Mine
-- R6
set_option maxRecDepth 100000
set_option maxHeartbeats 1000000
set_option linter.unusedVariables false
set_option linter.unusedSimpArgs false
namespace Mine
open PySem PySem.Calls PyProof.Rows PySem.SeqAt PySem.MeetsSeq
def setAll (σ : Sto) (k : Nat) : List AV → Sto
  | [] => σ
  | a :: r => setAll (σ.set k (.val a)) (k + 1) r
/-- a comprehension's block of plain names -/
structure CompT (sc csc : Scope) (names : List Str) : Prop where
  kind : csc.kind = .function
  loc : ∀ p ∈ csc.names, p.2 = .local → csc.names.lookup p.1 = some .local
  free : ∀ p ∈ csc.names, p.2 ≠ .free
  cell : ∀ p ∈ csc.names, p.2 ≠ .cell
  tgt : ∀ x ∈ names, isLoc (relS csc sc) x = true
def compTOk (sc csc : Scope) (names : List Str) : Bool :=
  csc.kind == .function && csc.names.all (fun p => (p.2 != .local || csc.names.lookup p.1 == some .local) && p.2 != .free && p.2 != .cell) && names.all (fun x => isLoc (relS csc sc) x)
theorem CompT.of {sc csc : Scope} {names : List Str} (h : compTOk sc csc names = true) : CompT sc csc names := by
  unfold compTOk at h
  simp only [Bool.and_eq_true, List.all_eq_true, Bool.or_eq_true, beq_iff_eq, bne_iff_ne, ne_eq] at h
  obtain ⟨⟨h1, h2⟩, h3⟩ := h
  exact ⟨h1, fun p hp e => (h2 p hp).1.1.resolve_left fun q => q e, fun p hp => (h2 p hp).1.2, fun p hp => (h2 p hp).2, h3⟩
theorem kind_cell : ∀ k : NameKind, (k == NameKind.cell) = true → k = .cell := by intro k; cases k <;> decide
theorem kind_free : ∀ k : NameKind, (k == NameKind.free) = true → k = .free := by intro k; cases k <;> decide
theorem cellsFrom_none : ∀ (names : List (Str × NameKind)) (n : Nat) (acc : List (Str × Addr)), (∀ p ∈ names, p.2 ≠ .cell) → cellsFrom n names acc = acc
  | [], _, _, _ => rfl
  | (m, k) :: r, n, acc, h => by
    have hk : ¬ (k == NameKind.cell) = true := fun q => h _ (.head _) (kind_cell k q)
    rw [cellsFrom, if_neg hk]
    exact cellsFrom_none r n acc fun p hp => h p (.tail _ hp)
theorem closL_none (cs : List (Str × Addr)) : ∀ (names : List (Str × NameKind)) (acc : List (Str × Addr)), (∀ p ∈ names, p.2 ≠ .free) → closL cs names acc = acc
  | [], _, _ => rfl
  | (m, k) :: r, acc, h => by
    have hk : ¬ (k == NameKind.free) = true := fun q => h _ (.head _) (kind_free k q)
    rw [closL, if_neg hk]
    exact closL_none cs r acc fun p hp => h p (.tail _ hp)
section
variable {prog : Program} {w : World} {mg mb : Str → Option Value} {pins : List (Addr × Obj)} {l : Lim} {sc : Scope} {nm : List Str}
  {X Y : Addr → Prop} {s s' : Shared} {ce : Env} {σ : Sto} {m cm : Str → Option Value} {D : Addr} {Z X' : Addr → Prop} {acc : List AV}
/-- the frame of a comprehension, and the list it fills -/
inductive CSt (mg mb : Str → Option Value) (pins : List (Addr × Obj)) (nm : List Str) (X : Addr → Prop) (s : Shared) (ce : Env) (D : Addr) (σ : Sto) (acc : List AV) (s' : Shared) (Z X' : Addr → Prop) : Prop
  | mk (m cm : Str → Option Value) (F : FRel mg mb pins nm X s ce σ s' Z X' m cm) (vs : List Value) (n : Nat) (lD : IsL s'.heap D vs.toArray n) (r : RepL X' s'.heap vs acc) (zD : Z D) (dD : s.heap.get? D = none)
theorem CSt.grow (c : CSt mg mb pins nm X s ce D σ acc s' Z X') {s'' : Shared} (g : Grow s' s'') : CSt mg mb pins nm X s ce D σ acc s'' Z X' := by
  obtain ⟨m, cm, F, vs, n, lD, r, zD, dD⟩ := c
  exact ⟨m, cm, F.grow g, vs, n, g.2 _ _ lD, r.keep g.2, zD, dD⟩
theorem CSt.rel (c : CSt mg mb pins nm X s ce D σ acc s' Z X') : Rel mg mb pins nm X' ce σ s'.heap := by
  obtain ⟨m, cm, F, _⟩ := c; exact F.rel
theorem CSt.growI (c : CSt mg mb pins nm X s ce D σ acc s' Z X') {s'' : Shared} {I : Addr → Prop} (g : GrowI I s' s'') (hZ : ∀ a, I a → Z a) (hX : ∀ a, I a → X' a) (h0 : ∀ a, I a → s.heap.get? a = none) (al : ∀ a, I a → ∃ o, s''.heap.get? a = some o) (nD : ¬ I D) : CSt mg mb pins nm X s ce D σ acc s'' Z X' := by
  obtain ⟨m, cm, F, vs, n, lD, r, zD, dD⟩ := c
  exact ⟨m, cm, F.growI g hZ hX h0 al, vs, n, g.keep _ _ nD lD, r.keepX fun b o nx e => g.keep b o (fun i => nx (hX b i)) e, zD, dD⟩
theorem CSt.append {A : Around} {E : Value → Shared → Prop} (c : CSt mg mb pins nm X s ce D σ acc s' Z X') (hl : acc.length ≤ 100000) {z : Value} {a : AV} (rz : Rep X' s'.heap z a) {Q : Value → Shared → Prop}
    (h : ∀ v s'', CSt mg mb pins nm X s ce D σ (acc ++ [a]) s'' Z X' → Step X' (fun b => b ≠ D) s'.heap s''.heap X' → Q v s'') : wpAny (model prog w) A (call (.builtin "list.append") [.ref D, z]) Q E s' := by
  obtain ⟨m, cm, F, vs, n, lD, r, zD, dD⟩ := c
  have hlen := r.length
  refine wpAny_list_append_plain (l := D) (items := vs.toArray) ⟨n, lD⟩ (fun h' hp sb => ?_) (by rw [sizeLine_eq, List.size_toArray]; (first | lia | omega))
  obtain ⟨n', hp⟩ := hp
  have xD := (F.prot D zD).1
  have kx : KeepX X' s'.heap h' := fun b o nb e => (sb.2 b fun e' => nb (e' ▸ xD)).trans e
  have gI : GrowI (fun b => b = D) s' { s' with heap := h' } := ⟨⟨h', s'.toks, rfl⟩, fun b o nb e => (sb.2 b nb).trans e⟩
  refine h _ _ ⟨m, cm, F.growI gI (fun b e => e ▸ zD) (fun b e => e ▸ xD) (fun b e => e ▸ dD) (fun b e => e ▸ ⟨_, hp⟩), vs ++ [z], n', by simpa using hp, (r.keepX kx).append (.cons (rz.keepX kx) .nil), zD, dD⟩ ⟨fun b o hb e => (sb.2 b fun q => ?_).trans e, fun _ q => .inl q⟩
  rcases hb with hb | hb
  · exact hb (q ▸ xD)
  · exact hb q
theorem ix_of : ∀ {nm : List Str} {k : Nat} {x : Str}, nm[k]? = some x → Ix nm k x
  | [], _, _, h => by simp at h
  | y :: r, 0, x, h => by
    simp at h; subst h; exact .head
  | y :: r, k + 1, x, h => .tail (ix_of (by simpa using h))
theorem CSt.bind {A : Around} {E : Value → Shared → Prop} {sc' : Scope} {k : Nat} {x : Str} {v : Value} {a : AV} {Q : Unit → Shared → Prop} (c : CSt mg mb pins nm X s ce D σ acc s' Z X') (eo : FnEnv sc' ce) (hx : nm[k]? = some x) (hn : nm.Nodup) (hl : isLoc sc' x = true) (rv : Rep X' s'.heap v a)
    (h : ∀ s'', CSt mg mb pins nm X s ce D (σ.set k (.val a)) acc s'' Z X' → Step X' Z s'.heap s''.heap X' → Q () s'') : wpAny (model prog w) A (storeName ce x v) Q E s' := by
  obtain ⟨m, cm, F, vs, n, lD, r, zD, dD⟩ := c
  exact F.bindVal eo (ix_of hx) hn hl rv fun s'' m' cm' F' st => h s'' ⟨m', cm', F', vs, n, st.keep _ _ (.inr zD) lD, r.step st, zD, dD⟩ st
theorem CSt.bindAll {A : Around} {E : Value → Shared → Prop} {sc' : Scope} {Q : Unit → Shared → Prop} (eo : FnEnv sc' ce) (hn : nm.Nodup) : ∀ (es : List (Str × Pos)) (k : Nat) (vs : List Value) (as : List AV) (σ : Sto) (s' : Shared), CSt mg mb pins nm X s ce D σ acc s' Z X' → RepL X' s'.heap vs as → as.length = es.length →
    (∀ i p, es[i]? = some p → nm[k + i]? = some p.1 ∧ isLoc sc' p.1 = true) → (∀ s'', CSt mg mb pins nm X s ce D (setAll σ k as) acc s'' Z X' → Step X' Z s'.heap s''.heap X' → Q () s'') →
    wpAny (model prog w) A (assignInOrder ((assignEach (es.map fun p => .Name p.1 p.2) ce).map (·.2)) vs) Q E s'
  | [], k, vs, as, σ, s', c, r, e, hx, h => by
    have : as = [] := List.length_eq_zero_iff.mp e
    subst this
    exact assignInOrder_nil (h s' c (Step.refl _ _ _))
  | p :: es, k, vs, as, σ, s', c, r, e, hx, h => by
    cases as with
    | nil => cases e
    | cons a as =>
      obtain ⟨v, ws, rfl, ra, rw'⟩ := r.toCons
      obtain ⟨h1, h2⟩ := hx 0 p rfl
      refine assignInOrder_cons (wpAny_assign_Name (c.bind eo h1 hn h2 ra fun s2 c2 st2 => ?_))
      refine CSt.bindAll eo hn es (k + 1) ws as _ s2 c2 (rw'.step st2) (Nat.succ.inj e) (fun i q hi => ?_) fun s3 c3 st3 => h s3 c3 (st2.trans st3)
      have := hx (i + 1) q (by simpa using hi)
      rw [show k + (i + 1) = k + 1 + i by (first | lia | omega)] at this; exact this
/-- a heap with the old things alone, as long as the new one -/
theorem virtS {h h' : Heap} (k : Keep h h') : ∃ hv : Heap, hv.objs.size = h'.objs.size ∧ ∀ b, hv.get? b = h.get? b := by
  obtain ⟨hv, e1, e2, e3⟩ := virts h' ((List.range h'.objs.size).filter fun b => (h.get? b).isNone)
  refine ⟨hv, e1, fun b => ?_⟩
  cases e : h.get? b with
  | some o =>
    rw [e3 b fun q => ?_]
    · exact k _ _ e
    · have := (List.mem_filter.mp q).2
      rw [e] at this; cases this
  | none =>
    by_cases hb : b < h'.objs.size
    · exact e2 b (List.mem_filter.mpr ⟨List.mem_range.mpr hb, by rw [e]; rfl⟩)
    · exact Heap.get?_none_of_le (by rw [e1]; exact Nat.not_lt.mp hb)
theorem comp_enter {A : Around} {env : Env} {E : Value → Shared → Prop} {e : Expr} {csc : Scope} {names : List Str} {it : Value} {s₂ : Shared} {I : Addr → Prop} {RR : Value → Addr → Result → Shared → Prop} (ok : CompT sc csc names) (eo : EnvOk sc env) (R : Rel mg mb pins nm X env σ s.heap) (g : Grow s s₂)
    (hI : ∀ a, I a → s.heap.get? a = none ∧ ∃ o, s₂.heap.get? a = some o)
    (h : ∀ D ce hv s₄, FnEnv (relS csc sc) ce → (∀ b, Heap.get? hv b = s.heap.get? b) → CSt mg mb pins names X { s with heap := hv } ce D (List.replicate names.length .unset) [] s₄ (fun b => b = D ∨ I b) (fun b => X b ∨ b = ce.locals ∨ b = D ∨ I b) → Keep s₂.heap s₄.heap → (∀ a, I a → a ≠ ce.locals ∧ a ≠ D) → D ≠ ce.locals → s₂.heap.get? D = none → s₂.heap.get? ce.locals = none →
      codeAny (model prog w) A (.compStart e 0 it (.ref D) ce) (RR (.ref D) ce.locals) s₄) :
    wpAny (model prog w) A (newList []) (fun acc s₃ => wpAny (model prog w) A (newFunctionEnv csc env.globals (closL env.cells csc.names []) [] env.qual none .none (some env)) (fun cenv s₄ =>
      codeAny (model prog w) A (.compStart e 0 it acc { cenv with scope := relabel csc env }) (RR acc cenv.locals) s₄) E s₃) E s₂ := by
  refine wpAny_newObj_type (newEnv_comp ?_)
  rw [closL_none _ _ _ ok.free, cellsFrom_none _ _ _ ok.cell]
  generalize hD : s₂.heap.objs.size = D
  generalize hH3 : s₂.heap.push { cls := .type "list", data := .seq ([] : List Value).toArray } = H3
  have hC1 : H3.objs.size = D + 1 := by rw [← hH3, Heap.size_push, hD]
  generalize hC : H3.objs.size = C
  rw [hC] at hC1
  generalize hH4 : pushCells (H3.push { cls := .type "dict", data := .dict #[] }) csc.names = H4
  have k23 : Keep s₂.heap H3 := fun b o e => hH3 ▸ Heap.get?_push_of_some _ e
  have k34 : Keep H3 H4 := fun b o e => hH4 ▸ pushCells_keeps _ _ _ _ (Heap.get?_push_of_some _ e)
  have k24 := k23.trans k34
  have nD2 : s₂.heap.get? D = none := hD ▸ fresh_none _
  have nC2 : s₂.heap.get? C = none := Heap.get?_none_of_le (by (first | lia | omega))
  have hDC : D ≠ C := by (first | lia | omega)
  have D4 : IsL H4 D #[] 0 := k34 _ _ (by rw [← hH3, ← hD]; exact IsL.new _ _)
  have C4 : H4.Ns C (fun _ => none) := by
    have := (Heap.Ns.new H3 (.type "dict")).keeps (pushCells_keeps csc.names _)
    rw [hH4, hC] at this; exact this
  obtain ⟨hv, v1, v2⟩ := virtS g.2
  have kv : Keep hv s₂.heap := fun b o e => g.2 b o ((v2 b).symm.trans e)
  have Iold : ∀ a, I a → a ≠ C ∧ a ≠ D := fun a i => by
    obtain ⟨o, e⟩ := (hI a i).2
    exact ⟨(fun q => by rw [q, nC2] at e; cases e), (fun q => by rw [q, nD2] at e; cases e)⟩
  obtain ⟨hh, tk0, eg⟩ := g.1
  refine h D { (newEnv csc C env.globals [] env.qual none .none (some env) builtinsNs) with scope := relabel csc env } hv _ ⟨⟨relabel_eq eo.scope, ok.kind, eo.globals, eo.builtins⟩, fun x hx => ?_⟩ v2 ?_ k24 Iold hDC nD2 nC2
  · exfalso
    have : ∀ (l : List (Str × NameKind)), (∀ p ∈ l, p.2 ≠ .free) → (∀ p ∈ l, p.2 ≠ .cell) → (l.map fun (n, k) => if (k == .free && sc.kind == .function && sc.names.lookup n == some .cell) then (n, NameKind.cell) else (n, k)).lookup x ≠ some .cell := by
      intro l
      induction l with
      | nil => intro _ _ q; cases q
      | cons p l ih =>
        intro h1 h2 q
        obtain ⟨n, k⟩ := p
        have f1 : (k == NameKind.free) = false := Bool.eq_false_iff.mpr fun q => h1 _ (.head _) (kind_free k q)
        simp only [List.map_cons, f1, Bool.false_and, Bool.false_eq_true, if_false, List.lookup_cons] at q
        split at q
        · cases q; exact h2 _ (.head _) rfl
        · exact ih (fun p hp => h1 p (.tail _ hp)) (fun p hp => h2 p (.tail _ hp)) q
    exact this csc.names ok.free ok.cell hx
  · refine ⟨fun _ => none, fun _ => none, ⟨⟨⟨⟨H4, _, by rw [eg]⟩, C4, fun b o e => k24 _ _ (kv _ _ e), ?_⟩, fun n c e => (nomatch e), List.Pairwise.nil, fun n c e => (nomatch e)⟩, R.gl.keep fun b o e => (v2 b).trans e, fun a x => ?_, fun a x => ?_, fun a x => .inl x, fun a x => ?_, .inr (.inl rfl), fun n c e => (nomatch e), List.length_replicate .., fun k x e => ?_, fun k j x y a e1 e2 o1 => ?_, fun k x a e o1 => ?_, fun a z => ?_⟩, [], 0, D4, .nil, .inl rfl, (v2 D).trans (not_of_keep g.2 nD2)⟩
    · show hv.objs.size ≤ C; rw [v1]; (first | lia | omega)
    · obtain ⟨o, e⟩ := R.dom a x; exact ⟨o, (v2 a).trans e⟩
    · rcases x with x | x | x | x
      · obtain ⟨o, e⟩ := R.dom a x; exact ⟨o, k24 _ _ (g.2 _ _ e)⟩
      · obtain ⟨o, _, _, e, _⟩ := ns_data C4; exact ⟨o, x ▸ e⟩
      · exact ⟨_, x ▸ D4⟩
      · obtain ⟨o, e⟩ := (hI a x).2; exact ⟨o, k24 _ _ e⟩
    · rcases x with x | x | x | x
      · exact .inl x
      · exact .inr ((v2 a).trans (x ▸ not_of_keep g.2 nC2))
      · exact .inr ((v2 a).trans (x ▸ not_of_keep g.2 nD2))
      · exact .inr ((v2 a).trans (hI a x).1)
    · have : (List.replicate names.length LV.unset).getD k .unset = .unset := by
        rw [List.getD_eq_getElem?_getD, List.getElem?_replicate]; split <;> rfl
      rw [this]; trivial
    · have : (List.replicate names.length LV.unset).getD k .unset = .unset := by
        rw [List.getD_eq_getElem?_getD, List.getElem?_replicate]; split <;> rfl
      rw [this] at o1; cases o1
    · have : (List.replicate names.length LV.unset).getD k .unset = .unset := by
        rw [List.getD_eq_getElem?_getD, List.getElem?_replicate]; split <;> rfl
      rw [this] at o1; cases o1
    · refine ⟨?_, ?_, fun n c e => (nomatch e), fun k x e o1 => ?_⟩
      · rcases z with z | z
        · exact .inr (.inr (.inl z))
        · exact .inr (.inr (.inr z))
      · rcases z with z | z
        · exact fun q => hDC (z.symm.trans q)
        · exact (Iold a z).1
      · have : (List.replicate names.length LV.unset).getD k .unset = .unset := by
          rw [List.getD_eq_getElem?_getD, List.getElem?_replicate]; split <;> rfl
        rw [this] at o1; cases o1
end
end Mine
-- R7
set_option maxRecDepth 100000
set_option maxHeartbeats 1000000
set_option linter.unusedVariables false
set_option linter.unusedSimpArgs false
namespace Mine
open PySem PySem.Calls PyProof.Rows PySem.SeqAt PySem.MeetsSeq
def compTL (n : Nat) (We : WE) : List AV → List AV → (List AV → Prop) → Prop
  | [], acc, Q => Q acc
  | y :: r, acc, Q => ∃ as, y = .tup as ∧ as.length = n ∧ acc.length ≤ 100000 ∧ We (as.map .val) fun z => compTL n We r (acc ++ [z]) Q
def inL (We : WE) (pre : Sto) : List AV → List AV → (List AV → Prop) → Prop
  | [], acc, Q => Q acc
  | y :: r, acc, Q => acc.length ≤ 100000 ∧ We (pre ++ [.val y]) fun z => inL We pre r (acc ++ [z]) Q
def compTL2 (n : Nat) (Wi : Sto → (List AV → Prop) → Prop) (We : WE) : List AV → List AV → (List AV → Prop) → Prop
  | [], acc, Q => Q acc
  | y :: r, acc, Q => ∃ as, y = .tup as ∧ as.length = n ∧ Wi (as.map .val ++ [.unset]) fun zs => inL We (as.map .val) zs acc fun acc' => compTL2 n Wi We r acc' Q
theorem setAll_drop (as : List AV) : ∀ (pre σ : Sto), as.length ≤ σ.length → setAll (pre ++ σ) pre.length as = pre ++ as.map .val ++ σ.drop as.length := by
  induction as with
  | nil => intro pre σ _; simp [setAll]
  | cons a as ih =>
    intro pre σ h
    cases σ with
    | nil => simp at h
    | cons x σ =>
      rw [setAll, List.set_append_right _ _ (Nat.le_refl _), Nat.sub_self, List.set_cons_zero]
      have := ih (pre ++ [.val a]) σ (by simpa using h)
      rw [List.append_assoc, List.length_append, List.length_singleton] at this
      rw [show pre ++ LV.val a :: σ = pre ++ ([LV.val a] ++ σ) from rfl, this]
      simp
section
variable {prog : Program} {w : World} {mg mb : Str → Option Value} {pins : List (Addr × Obj)} {l : Lim} {sc : Scope} {nm : List Str}
  {X Y : Addr → Prop} {s s' : Shared} {ce : Env} {σ : Sto} {D : Addr} {Z X' : Addr → Prop} {acc : List AV}
theorem CSt.len (c : CSt mg mb pins nm X s ce D σ acc s' Z X') : σ.length = nm.length := by obtain ⟨m, cm, F, _⟩ := c; exact F.len
theorem CSt.dom (c : CSt mg mb pins nm X s ce D σ acc s' Z X') : ∀ a, X' a → ∃ o, s'.heap.get? a = some o := by obtain ⟨m, cm, F, _⟩ := c; exact F.dom
theorem CSt.forget (c : CSt mg mb pins nm X s ce D σ acc s' Z X') (k : Nat) : CSt mg mb pins nm X s ce D (σ.set k .unset) acc s' Z X' := by
  obtain ⟨m, cm, F, vs, n, lD, r, zD, dD⟩ := c
  have e : ∀ j, ((σ.set k .unset).getD j .unset).owns = true → (σ.set k .unset).getD j .unset = σ.getD j .unset := fun j h => by
    by_cases hj : j = k
    · subst hj
      by_cases hk : j < σ.length
      · rw [getD_same hk] at h; cases h
      · rw [List.set_eq_of_length_le (Nat.not_lt.mp hk)]
    · exact getD_other hj
  refine ⟨m, cm, ⟨F.call, F.gl, F.dom₀, F.dom, F.old, F.new, F.loc, F.cel, by rw [List.length_set]; exact F.len, fun j x hx => ?_, fun i j x y a hx hy h1 h2 => F.apart i j x y a hx hy (e i h1 ▸ h1) (e j h2 ▸ h2), fun j x a hx h1 => F.mine j x a hx (e j h1 ▸ h1), fun a z => ⟨(F.prot a z).1, (F.prot a z).2.1, (F.prot a z).2.2.1, fun j x hx h1 => (F.prot a z).2.2.2 j x hx (e j h1 ▸ h1)⟩⟩, vs, n, lD, r, zD, dD⟩
  by_cases hj : j = k
  · subst hj
    by_cases hk : j < σ.length
    · rw [getD_same hk]; trivial
    · rw [List.set_eq_of_length_le (Nat.not_lt.mp hk)]; exact F.var j x hx
  · rw [getD_other hj]; exact F.var j x hx
theorem CSt.extend (c : CSt mg mb pins nm X s ce D σ acc s' Z X') {s'' : Shared} (g : Grow s' s'') {I : Addr → Prop} (hI : ∀ a, I a → s'.heap.get? a = none ∧ ∃ o, s''.heap.get? a = some o) : CSt mg mb pins nm X s ce D σ acc s'' (fun a => Z a ∨ I a) (fun a => X' a ∨ I a) := by
  obtain ⟨m, cm, F, vs, n, lD, r, zD, dD⟩ := c
  exact ⟨m, cm, F.extend g hI, vs, n, g.2 _ _ lD, (r.reX fun a x => x.imp id fun i => (hI a i).1).keep g.2, .inl zD, dD⟩
theorem CSt.dropI {I : Addr → Prop} (c : CSt mg mb pins nm X s ce D σ acc s' (fun a => Z a ∨ I a) (fun a => X' a ∨ I a)) {s'' : Shared} (g : GrowI I s' s'') (h0 : ∀ a, I a → s.heap.get? a = none) (hZ : ∀ a, Z a → ¬ I a) (hX : ∀ a, X' a → ¬ I a) (zD0 : Z D) : CSt mg mb pins nm X s ce D σ acc s'' Z X' := by
  obtain ⟨m, cm, F, vs, n, lD, r, zD, dD⟩ := c
  have F2 := F.dropI g (fun a i => .inr i) (fun a i => .inr i) h0 (Z' := Z) fun a z => ⟨.inl z, hZ a z⟩
  have e : (fun a => (X' a ∨ I a) ∧ ¬ I a) = X' := by
    funext a; exact propext ⟨fun q => q.1.resolve_right q.2, fun q => ⟨.inl q, hX a q⟩⟩
  rw [e] at F2
  exact ⟨m, cm, F2, vs, n, g.keep _ _ (hZ D zD0) lD, (r.keepX fun b o nx e => g.keep b o (fun i => nx (.inr i)) e).reX fun a x => .inl (.inl x), zD0, dD⟩
/-- how a comprehension's loop ends -/
inductive CFin (X : Addr → Prop) (s0 : Shared) (C D : Addr) (zs : List AV) (s3 : Shared) : Prop
  | mk (h3 : Heap) (tk : Nat) (e : s3 = { s0 with heap := h3, toks := tk }) (k : Keep s0.heap h3) (nD : s0.heap.get? D = none) (nC : s0.heap.get? C = none) (nDC : D ≠ C) (m : Str → Option Value) (ns : h3.Ns C m) (vs : List Value) (n : Nat) (lD : IsL h3 D vs.toArray n) (X' : Addr → Prop) (hX : ∀ a, X a → X' a) (xC : X' C) (xD : X' D) (r : RepL X' h3 vs zs)
theorem comp_fin {s0 : Shared} {hv : Heap} {I : Addr → Prop} {s3 : Shared} (hvs : ∀ b, Heap.get? hv b = s0.heap.get? b) (c : CSt mg mb pins nm X { s0 with heap := hv } ce D σ acc s' Z X') (hXX : ∀ a, X a ∨ a = D → X' a) (g : GrowI I s' s3)
    (hI : ∀ a, I a → s0.heap.get? a = none ∧ X' a ∧ a ≠ ce.locals ∧ a ≠ D) (nDC : D ≠ ce.locals) : CFin X s0 ce.locals D acc s3 := by
  obtain ⟨m, cm, F, vs, n, lD, r, zD, dD⟩ := c
  obtain ⟨o, es, ep, e, rr⟩ := F.call.toInCall.ns
  have e3 := g.keep _ _ (fun i => (hI _ i).2.2.1 rfl) e
  have nC : hv.get? ce.locals = none := Heap.get?_none_of_le F.call.toInCall.fresh
  have k0 : Keep s0.heap s3.heap := fun b ob eb => g.keep b ob (fun i => by rw [(hI b i).1] at eb; cases eb) (F.keep₀ b ob ((hvs b).trans eb))
  have lD3 : IsL s3.heap D vs.toArray n := g.keep _ _ (fun i => (hI _ i).2.2.2 rfl) lD
  have r3 : RepL X' s3.heap vs acc := r.keepX fun b o nx e => g.keep b o (fun i => nx (hI b i).2.1) e
  obtain ⟨h1, t1, e1⟩ := F.call.toInCall.same
  obtain ⟨h2, t2, e2⟩ := g.same
  subst e1
  subst e2
  exact ⟨h2, t2, rfl, k0, (hvs D).symm.trans dD, (hvs _).symm.trans nC, nDC, m, ⟨o, es, ep, e3, rr⟩, vs, n, lD3, X', fun a x => hXX a (.inl x), F.loc, hXX D (.inr rfl), r3⟩
theorem CFin.none {A : Around} {E : Value → Shared → Prop} {s0 s3 : Shared} {C : Addr} {zs : List AV} {P : List AV → Prop} (c : CFin X s0 C D zs s3) (q : P zs) : compPost (model prog w) A E none (FPost X s0 P) (.ref D) C (.ok .next) s3 := by
  obtain ⟨h3, tk, rfl, k, nD, nC, nDC, m, ns, vs, n, lD, X', hX, xC, xD, r⟩ := c
  refine ⟨m, ns, fun h'' sb => ⟨Grow.heap _ fun b ob eb => (sb.2 b fun q => by rw [q, nC] at eb; cases eb).trans (k b ob eb), D, vs.toArray, zs, rfl, nD, ⟨n, (sb.2 D nDC).trans lD⟩, q, ?_⟩⟩
  refine RepL.reX (X := X') ?_ fun a x => .inl (x.elim (hX a) fun e => e ▸ xD)
  exact r.keepX fun b o nx e => (sb.2 b fun q => nx (q ▸ xC)).trans e
/-- one generator -/
inductive CL1 (mg mb : Str → Option Value) (pins : List (Addr × Obj)) (nm : List Str) (X : Addr → Prop) (s : Shared) (ce : Env) (D : Addr) (Z X' : Addr → Prop) (J : (Addr → Prop) → List AV → Heap → Prop) (W : List AV → List AV → Prop) (n : Nat) (s' : Shared) : Prop
  | mk (ys acc : List AV) (σ : Sto) (hn : ys.length = n) (c : CSt mg mb pins nm X s ce D σ acc s' Z X') (j : J X' ys s'.heap) (w : W ys acc)
theorem SemE.evalT {e We} {A : Around} {P : AV → Prop} {E : Value → Shared → Prop} {sc' : Scope} (he : SemE prog w mg mb pins l sc' nm e We) (a : AOk pins l A) (eo : EnvOk sc' ce) (c : CSt mg mb pins nm X s ce D σ acc s' Z X') (h : We σ P) {Q : Value → Shared → Prop}
    (k : ∀ v s'' z, Grow s' s'' → P z → Rep X' s''.heap v z → CSt mg mb pins nm X s ce D σ acc s'' Z X' → Q v s'') : wpAny (model prog w) A (eval e ce) Q E s' :=
  wpAny_mono (he.it A ce X' σ s' P E a eo c.rel h) (fun v s'' ⟨g, z, hz, rz⟩ => k v s'' z g hz rz (c.grow g)) fun _ _ x => x
theorem Step.growT {s' s'' : Shared} (g : Grow s' s'') : Step X' Z s'.heap s''.heap X' := Step.grow g
/-- next, let go, take apart -/
theorem turn_head {A : Around} {E : Value → Shared → Prop} {I : Addr → Prop} {J : (Addr → Prop) → List AV → Heap → Prop} {J1 : Value → (Addr → Prop) → List AV → Heap → Prop} {it : Value} {es : List (Str × Pos)} {k tp} {as r : List AV} {csc : Scope} {Q : Unit → Shared → Prop} {Qn : Option Value → Shared → Prop} (hz : l.z = true)
    (a : AOk pins l A) (eo : FnEnv csc ce) (hnd : nm.Nodup) (hIt : IsItT prog w l pins I J J1 it) (c : CSt mg mb pins nm X s ce D σ acc s' Z X') (IX : ∀ a, I a → X' a) (IZ : ∀ a, I a → Z a) (I0 : ∀ a, I a → s.heap.get? a = none) (ID : ¬ I D) (j : J X' (.tup as :: r) s'.heap) (hlen : as.length = es.length)
    (hx : ∀ i p, es[i]? = some p → nm[0 + i]? = some p.1 ∧ isLoc csc p.1 = true)
    (hq : ∀ s'', CSt mg mb pins nm X s ce D (setAll σ 0 as) acc s'' Z X' → J X' r s''.heap → Q () s'')
    (hQn : ∀ v s'', wpAny (model prog w) A (letOwnedTupleGo (.Tuple (es.map fun p => .Name p.1 p.2) k tp) it v) (fun _ s1 => wpAny (model prog w) A (assign (.Tuple (es.map fun p => .Name p.1 p.2) k tp) ce v) Q E s1) E s'' → Qn (some v) s'') :
    wpAny (model prog w) A (pyNext it) Qn E s' := by
  refine wpAny_mono (hIt.item A X' s' _ r _ a IX c.dom j) (fun o s1 hpat => ?_) fun _ _ x => x
  obtain ⟨v, rfl, g1, rv, j1⟩ := hpat
  refine hQn v s1 ?_
  have c1 := c.growI g1 IZ IX I0 (hIt.alive1 _ _ _ _ j1) ID
  refine hIt.go A X' s1 v r _ _ _ _ _ j1 IX fun s2 g2 j2 => ?_
  have c2 := c1.growI g2 IZ IX I0 (hIt.alive _ _ _ j2) ID
  have rv2 : Rep X' s2.heap v (.tup as) := rv.keepX fun b o nb e => g2.keep b o (fun i => nb (IX b i)) e
  obtain ⟨T, vs, rfl, nT, hT, rl⟩ := rv2.toTup
  have hvl : vs.length = es.length := rl.length.trans hlen
  have hae : ∀ l : List (Str × Pos), (assignEach (l.map fun p => Expr.Name p.1 p.2) ce).length = l.length ∧ (assignEach (l.map fun p => Expr.Name p.1 p.2) ce).findIdx? (·.1) = none := by
    intro l
    induction l with
    | nil => exact ⟨rfl, rfl⟩
    | cons p l ih =>
      have e : assignEach ((p :: l).map fun p => Expr.Name p.1 p.2) ce = (false, fun v => assign (.Name p.1 p.2) ce v) :: assignEach (l.map fun p => Expr.Name p.1 p.2) ce := rfl
      rw [e]
      exact ⟨congrArg (· + 1) ih.1, by rw [List.findIdx?_cons]; simp [ih.2]⟩
  refine assign_Tuple_tuple (items := vs.toArray) (a.none hz) hT.isTup (by rw [(hae es).1, List.size_toArray, hvl]) (hae es).2 fun h3 he => ?_
  have g3 : Grow s2 { s2 with heap := h3 } := Grow.heap _ fun b o e => he b o (Nat.ne_of_lt (Heap.lt_size e)) e
  refine CSt.bindAll eo hnd es 0 vs as σ _ (c2.grow g3) (rl.keep g3.2) hlen hx fun s4 c4 st4 => hq s4 c4 ?_
  exact hIt.stable _ Z _ _ _ _ (hIt.stable _ Z _ _ _ _ j2 IZ (Step.growT g3)) IZ st4
theorem comp_runT {A : Around} {env : Env} {E : Value → Shared → Prop} {csc k tp elt iter pos We} {es : List (Str × Pos)} {it : Value} {xs : List AV} {s₂ : Shared} {I : Addr → Prop} {J : (Addr → Prop) → List AV → Heap → Prop} {J1 : Value → (Addr → Prop) → List AV → Heap → Prop} {P : List AV → Prop} {RR : Value → Addr → Result → Shared → Prop}
    (he : SemE prog w mg mb pins l (relS csc sc) (es.map (·.1)) elt We) (hz : l.z = true) (ok : CompT sc csc (es.map (·.1))) (hnd : (es.map (·.1)).Nodup) (a : AOk pins l A) (eo : EnvOk sc env) (R : Rel mg mb pins nm X env σ s.heap) (g : Grow s s₂) (hJ : J (fun a => X a ∨ I a) xs s₂.heap) (hIt : IsItT prog w l pins I J J1 it)
    (hI : ∀ a, I a → s.heap.get? a = none ∧ ∃ o, s₂.heap.get? a = some o) (hxs : compTL es.length We xs [] P) (hRR : ∀ D C s3 zs, CFin X s C D zs s3 → P zs → RR (.ref D) C (.ok .next) s3) :
    wpAny (model prog w) A (newList []) (fun acc s₃ => wpAny (model prog w) A (newFunctionEnv csc env.globals (closL env.cells csc.names []) [] env.qual none .none (some env)) (fun cenv s₄ =>
      codeAny (model prog w) A (.compStart (.ListComp elt [⟨.Tuple (es.map fun p => .Name p.1 p.2) k tp, iter, [], 0⟩] csc pos) 0 it acc { cenv with scope := relabel csc env }) (RR acc cenv.locals) s₄) E s₃) E s₂ := by
  refine comp_enter (RR := RR) (names := es.map (·.1)) ok eo R g hI fun D ce hv s₄ eoc hvs c k24 Iold hDC nD2 nC2 => ?_
  have IX : ∀ a, I a → (X a ∨ a = ce.locals ∨ a = D ∨ I a) := fun a i => .inr (.inr (.inr i))
  have IZ : ∀ a, I a → (a = D ∨ I a) := fun a i => .inr i
  have I0 : ∀ a, I a → hv.get? a = none := fun a i => (hvs a).trans (hI a i).1
  have ID : ¬ I D := fun i => (Iold D i).2 rfl
  have dead : ∀ a, s.heap.get? a = none → ¬ X a := fun a e x => by obtain ⟨o, q⟩ := R.dom a x; rw [e] at q; cases q
  have j4 : J (fun a => X a ∨ a = ce.locals ∨ a = D ∨ I a) xs s₄.heap := by
    refine hIt.stable _ I _ _ _ _ hJ (fun _ i => i) ⟨fun b o _ e => k24 b o e, fun b q => ?_⟩
    rcases q with q | q | q | q
    · exact .inl (.inl q)
    · exact .inr (q ▸ nC2)
    · exact .inr (q ▸ nD2)
    · exact .inl (.inr q)
  have loop : codeAny (model prog w) A (.compLoop (.ListComp elt [⟨.Tuple (es.map fun p => .Name p.1 p.2) k tp, iter, [], 0⟩] csc pos) 0 it (.ref D) ce) (RR (.ref D) ce.locals) s₄ := by
    refine LCp.codeAny_compLoop_pair (CL1 mg mb pins (es.map (·.1)) X { s with heap := hv } ce D (fun b => b = D ∨ I b) (fun b => X b ∨ b = ce.locals ∨ b = D ∨ I b) J fun ys acc => compTL es.length We ys acc P) ?_ xs.length ⟨xs, [], _, rfl, c, j4, hxs⟩
    rintro n s' ⟨ys, acc, σ', rfl, c', j, hw⟩
    cases ys with
    | nil =>
      refine wpAny_mono (hIt.fin A _ s' _ a j) (fun o s3 hpat => ?_) fun _ _ x => x
      obtain ⟨rfl, gI⟩ := hpat
      exact hRR _ _ _ _ (comp_fin hvs c' (fun a q => q.elim .inl fun e => .inr (.inr (.inl e))) gI (fun a i => ⟨(hI a i).1, IX a i, Iold a i⟩) hDC) hw
    | cons y r =>
      obtain ⟨as, rfl, hlen, hal, hw⟩ := hw
      refine turn_head hz a eoc hnd hIt c' IX IZ I0 ID j hlen (fun i p hp => ?_) (fun s2 c2 j2 => ?_) fun v s'' h => h
      · have h1 : (es.map (·.1))[i]? = some p.1 := by rw [List.getElem?_map, hp]; rfl
        exact ⟨by rw [Nat.zero_add]; exact h1, ok.tgt _ (List.mem_of_getElem? h1)⟩
      · have e : setAll σ' 0 as = as.map .val := by
          have := setAll_drop as [] σ' (by rw [c'.len, List.length_map, hlen]; exact Nat.le_refl _)
          rw [List.nil_append, List.nil_append, List.drop_of_length_le (by rw [c'.len, List.length_map, hlen]; exact Nat.le_refl _), List.append_nil] at this
          exact this
        rw [e] at c2
        refine he.evalT a eoc.toEnvOk c2 hw fun v s3 z g3 hz3 rz c3 => ?_
        refine c3.append hal rz fun _ s5 c5 st5 => ⟨r.length, Nat.lt_succ_self _, r, _, _, rfl, c5, ?_, hz3⟩
        exact hIt.stable _ (fun b => b ≠ D) _ _ _ _ (hIt.stable _ I _ _ _ _ j2 (fun _ i => i) (Step.growT g3)) (fun b i (e : b = D) => ID (e ▸ i)) st5
  exact codeAny_compStart_list loop (hIt.self A _ _ xs _ _ j4 loop)
/-- where the stores are exchanged -/
theorem sem1_assignCompT {y py spos ky csc k tp elt iter pos Wi We} {es : List (Str × Pos)} (hi : SemIT prog w mg mb pins l sc nm iter Wi) (he : SemE prog w mg mb pins l (relS csc sc) (es.map (·.1)) elt We) (hz : l.z = true) (hy : Ix nm ky y) (hn : nm.Nodup := by decide +kernel) (hly : isLoc sc y = true := by decide +kernel) (hsw : swB sc csc y py pos = true := by decide +kernel)
    (ok : compTOk sc csc (es.map (·.1)) = true := by decide +kernel) (hnd : (es.map (·.1)).Nodup := by decide +kernel) (hs : ∀ env x, foldedSetIterable iter env x = pure x := by intros; rfl) :
    Sem1 prog w mg mb pins l sc nm (.Assign [.Name y py] (.ListComp elt [⟨.Tuple (es.map fun p => .Name p.1 p.2) k tp, iter, [], 0⟩] csc pos) spos) (fun σ Q => Wi σ fun xs => compTL es.length We xs [] fun zs => Q .next (σ.set ky (.val (.lst zs)))) := by
  refine .mk ?_
  intro A env X₀ s₀ σ s Z X m₀ cm₀ Q E a eo F hq
  have ok := CompT.of ok
  have R := F.rel
  have eoE := eo.toEnvOk
  rw [exec_Assign_Name_used _ _ _ _ (by rw [swapsWith_eq eoE.scope, hsw])]
  refine wpAny_bind (wpAny_standAt (wpAny_bind ?_))
  generalize hT : (Expr.Tuple (es.map fun p => Expr.Name p.1 p.2) k tp) = T
  show wpAny _ A (do let _ ← comprehension (.ListComp elt [⟨T, iter, [], 0⟩] csc pos) csc env _ (newList []) false (eval iter env) (some (assign (.Name y py) env))) _ _ s
  refine wpAny_bind (wpAny_mono (wpAny_comprehension_free (use := some (assign (.Name y py) env)) (Q := fun _ s' => SPost mg mb pins nm X₀ s₀ env s Z X Q .next s') rfl (hs env) (closureFor_some fun n hn => absurd rfl (ok.free _ hn)) ok.kind ok.loc
    (wpAny_mono (hi.it A env X σ s _ E a eoE R hq) (fun v s₁ h₁ => ?_) fun _ _ x => x)) (fun _ s' hq => wpAny_pure (wpAny_pure hq)) fun _ _ e => e)
  refine wpAny_mono h₁ (fun it s₂ hpat => ?_) fun _ _ x => x
  obtain ⟨g, xs, I, J, J1, hxs, hJ, hIt, hI⟩ := hpat
  subst hT
  refine comp_runT (RR := fun acc C => compPost (model prog w) A E (some (assign (.Name y py) env)) (fun _ s' => SPost mg mb pins nm X₀ s₀ env s Z X Q .next s') acc C) he hz ok hnd a eoE R g hJ hIt hI hxs fun D C s3 zs c hP => ?_
  obtain ⟨h3, tk, rfl, kk, nD, nC, hDC, m, ns, vs, n, lD, X', hX, xC, xD, r⟩ := c
  show wpAny _ A (assign (.Name y py) env (.ref D)) _ _ _
  have g2 : Grow s { s with heap := h3, toks := tk } := Grow.heap _ kk
  obtain ⟨oC, _, _, eC, _⟩ := ns_data ns
  have F1 := F.extend g2 (I := fun a => a = C) fun a e => ⟨e ▸ nC, oC, e ▸ eC⟩
  have nX : ∀ b, s.heap.get? b = none → ¬ X b := fun b e q => by obtain ⟨o, q⟩ := F.dom b q; rw [e] at q; cases q
  have rD : Rep (fun a => X a ∨ a = C) h3 (.ref D) (.lst zs) := .lst (vs := vs) (fun q => q.elim (nX D nD) hDC) ⟨n, lD⟩ (r.reX fun a q => .inl (q.elim (hX a) fun e => e ▸ xC))
  refine wpAny_assign_Name (F1.bindVal eo hy hn hly rD fun s₃ m3 cm3 F3 st3 => ?_)
  refine ⟨m, ?_, fun h'' sb => ?_⟩
  · obtain ⟨o, es, ep, e, q⟩ := ns
    exact ⟨o, es, ep, st3.keep _ _ (.inr (.inr rfl)) e, q⟩
  · have gI : GrowI (fun a => a = C) s₃ { s₃ with heap := h'' } := ⟨⟨_, _, rfl⟩, fun b o nb e => (sb.2 b nb).trans e⟩
    have F4 := F3.dropI gI (Z' := Z) (fun a e => .inr e) (fun a e => .inr e) (fun a e => e ▸ not_of_keep F.keep₀ nC) fun a z => ⟨.inl z, fun e => nX C nC (e ▸ (F.prot a z).1)⟩
    refine ⟨.next, _, _, m3, cm3, hP, trivial, F4, ⟨fun b o hb e => ?_, fun b q => ?_⟩⟩
    · refine (sb.2 b fun e' => by rw [e', nC] at e; cases e).trans (st3.keep b o ?_ (kk b o e))
      rcases hb with hb | hb
      · exact .inl fun q => q.elim hb fun e' => by rw [e', nC] at e; cases e
      · exact .inr (.inl hb)
    · exact .inl (q.1.resolve_right q.2)
end
end Mine
-- R8
set_option maxRecDepth 100000
set_option maxHeartbeats 1000000
set_option linter.unusedVariables false
set_option linter.unusedSimpArgs false
namespace Mine
open PySem PySem.Calls PyProof.Rows PySem.SeqAt PySem.MeetsSeq
theorem compTurn_outer (elt target iter t2 iter2 : Expr) (scope : Scope) (pos : Pos) (it acc : Value) (env : Env) :
    compTurn (.ListComp elt [⟨target, iter, [], 0⟩, ⟨t2, iter2, [], 0⟩] scope pos) 0 it acc env = (standAt iter.pos >>= fun _ => pyNext it >>= fun r => match r with
      | none => pure (.done .next)
      | some v => letOwnedTupleGo target it v >>= fun _ => assign target env v >>= fun _ => eval iter2 env >>= fun x => standAt iter2.pos >>= fun _ => foldedSetIterable iter2 env x >>= fun x => holding [x] (pyIter x) >>= fun it2 =>
        runOwn (.compStart (.ListComp elt [⟨target, iter, [], 0⟩, ⟨t2, iter2, [], 0⟩] scope pos) 1 it2 acc env) env >>= fun _ => again (.compLoop (.ListComp elt [⟨target, iter, [], 0⟩, ⟨t2, iter2, [], 0⟩] scope pos) 0 it acc env)) := by rfl
theorem compTurn_inner (elt t2 iter2 : Expr) (g : Comprehension) (scope : Scope) (pos : Pos) (it acc : Value) (env : Env) :
    compTurn (.ListComp elt [g, ⟨t2, iter2, [], 0⟩] scope pos) 1 it acc env = (standAt iter2.pos >>= fun _ => pyNext it >>= fun r => match r with
      | none => pure (.done .next)
      | some v => letOwnedTupleGo t2 it v >>= fun _ => assign t2 env v >>= fun _ => (eval elt env >>= fun x => call (.builtin "list.append") [acc, x] >>= fun _ => pure ()) >>= fun _ =>
          again (.compLoop (.ListComp elt [g, ⟨t2, iter2, [], 0⟩] scope pos) 1 it acc env)) := by rfl
section
variable {prog : Program} {w : World} {A : Around} {s : Shared} {R : Result → Shared → Prop}
theorem codeAny_compStart_in {elt : Expr} {g : Comprehension} {target iter : Expr} {ifs scope pos it acc env}
    (h0 : codeAny (model prog w) A (.compLoop (.ListComp elt [g, ⟨target, iter, ifs, 0⟩] scope pos) 1 it acc env) R s)
    (h : wpAny (model prog w) A (pyIter it) (fun it' s' => codeAny (model prog w) A (.compLoop (.ListComp elt [g, ⟨target, iter, ifs, 0⟩] scope pos) 1 it' acc env) R s')
      (notedBy (model prog w) A env fun x s' => R (.error x) s') s) :
    codeAny (model prog w) A (.compStart (.ListComp elt [g, ⟨target, iter, ifs, 0⟩] scope pos) 1 it acc env) R s := by
  refine codeAny_of_tree ?_
  show wpAny _ _ ((compStart (.ListComp elt [g, ⟨target, iter, ifs, 0⟩] scope pos) 1 it acc env).onRaise (fun x => do noteFrame x env; standAt theWindowsPlace)) _ _ s
  refine wpAny_notedAt ?_
  unfold compStart
  show wpAny _ _ (ask >>= _) _ _ s
  refine wpAny_bind (wpAny_askSetting (wpAny_ite ?_))
  split
  · first
      | exact wpAny_bind (wpAny_pure (wpAny_pure (And.intro rfl h0)))
      | exact wpAny_pure (And.intro rfl h0)
  · first
      | exact wpAny_bind (wpAny_rule (wpAny_bind (wpAny_standAt (wpAny_bind (wpAny_mono h (fun it' s' h' => wpAny_pure (And.intro rfl h')) fun _ _ x => x)))))
      | (refine wpAny_bind (wpAny_rule ?_); show wpAny _ _ (standAt iter.pos >>= _) _ _ s; exact wpAny_bind (wpAny_standAt (wpAny_bind (wpAny_mono h (fun it' s' h' => wpAny_pure (And.intro rfl h')) fun _ _ x => x))))
theorem codeAny_compLoop_in {elt iter2 : Expr} {g : Comprehension} {x : Str} {px : Pos} {scope : Scope} {pos : Pos} {it acc : Value} {env : Env} (I : Nat → Shared → Prop)
    (turn : ∀ n s, I n s → wpAny (model prog w) A (pyNext it) (fun r s₁ => match r with
      | none => R (.ok .next) s₁
      | some v => wpAny (model prog w) A (assign (.Name x px) env v) (fun _ s₂ => wpAny (model prog w) A (eval elt env) (fun x s₄ =>
              wpAny (model prog w) A (call (.builtin "list.append") [acc, x]) (fun _ s₅ => ∃ m, m < n ∧ I m s₅) (notedBy (model prog w) A env fun e s' => R (.error e) s') s₄) (notedBy (model prog w) A env fun e s' => R (.error e) s') s₂)
          (notedBy (model prog w) A env fun e s' => R (.error e) s') s₁) (notedBy (model prog w) A env fun e s' => R (.error e) s') s)
    (n : Nat) (h : I n s) : codeAny (model prog w) A (.compLoop (.ListComp elt [g, ⟨.Name x px, iter2, [], 0⟩] scope pos) 1 it acc env) R s := by
  refine codeAny_loop rfl I (fun n s hI => ?_) n h
  show wpAny _ A ((compTurn (.ListComp elt [g, ⟨.Name x px, iter2, [], 0⟩] scope pos) 1 it acc env).onRaise (fun x => do noteFrame x env; theTreesLotGoes x)) _ _ s
  refine wpAny_noted ?_
  rw [compTurn_inner]
  refine wpAny_bind (wpAny_standAt (wpAny_bind (wpAny_mono (turn n s hI) (fun r s₁ h₁ => ?_) fun _ _ h' => h')))
  cases r with
  | none => exact wpAny_pure h₁
  | some v =>
    refine wpAny_bind (wpAny_of_eq (a := ()) rfl ?_)
    exact wpAny_bind (wpAny_mono h₁ (fun _ s₂ h₂ => wpAny_bind (wpAny_bind (wpAny_mono h₂ (fun x s₄ h₄ => wpAny_bind (wpAny_mono h₄ (fun _ s₅ h₅ => wpAny_pure (wpAny_pure ⟨rfl, h₅⟩)) fun _ _ h' => h')) fun _ _ h' => h'))) fun _ _ h' => h')
theorem codeAny_compLoop_outer {elt iter t2 iter2 : Expr} {elts : List Expr} {x1} {tp : Pos} {scope : Scope} {pos : Pos} {it acc : Value} {env : Env} (I : Nat → Shared → Prop) (hs : ∀ x, foldedSetIterable iter2 env x = pure x)
    (turn : ∀ n s, I n s → wpAny (model prog w) A (pyNext it) (fun r s₁ => match r with
      | none => R (.ok .next) s₁
      | some v => wpAny (model prog w) A (letOwnedTupleGo (.Tuple elts x1 tp) it v) (fun _ s₁' => wpAny (model prog w) A (assign (.Tuple elts x1 tp) env v) (fun _ s₂ =>
          wpAny (model prog w) A (eval iter2 env) (fun x s₃ => wpAny (model prog w) A (pyIter x) (fun it2 s₄ => codeAny (model prog w) A (.compStart (.ListComp elt [⟨.Tuple elts x1 tp, iter, [], 0⟩, ⟨t2, iter2, [], 0⟩] scope pos) 1 it2 acc env) (fun r s₅ => match r with | .ok _ => ∃ m, m < n ∧ I m s₅ | .error _ => False) s₄)
            (notedBy (model prog w) A env fun e s' => R (.error e) s') s₃) (notedBy (model prog w) A env fun e s' => R (.error e) s') s₂)
          (notedBy (model prog w) A env fun e s' => R (.error e) s') s₁') (notedBy (model prog w) A env fun e s' => R (.error e) s') s₁) (notedBy (model prog w) A env fun e s' => R (.error e) s') s)
    (n : Nat) (h : I n s) : codeAny (model prog w) A (.compLoop (.ListComp elt [⟨.Tuple elts x1 tp, iter, [], 0⟩, ⟨t2, iter2, [], 0⟩] scope pos) 0 it acc env) R s := by
  refine codeAny_loop rfl I (fun n s hI => ?_) n h
  show wpAny _ A ((compTurn (.ListComp elt [⟨.Tuple elts x1 tp, iter, [], 0⟩, ⟨t2, iter2, [], 0⟩] scope pos) 0 it acc env).onRaise (fun x => do noteFrame x env; theTreesLotGoes x)) _ _ s
  refine wpAny_noted ?_
  rw [compTurn_outer]
  refine wpAny_bind (wpAny_standAt (wpAny_bind (wpAny_mono (turn n s hI) (fun r s₁ h₁ => ?_) fun _ _ h' => h')))
  cases r with
  | none => exact wpAny_pure h₁
  | some v =>
    refine wpAny_bind (wpAny_mono h₁ (fun _ s₁' h₁' => wpAny_bind (wpAny_mono h₁' (fun _ s₂ h₂ => wpAny_bind (wpAny_mono h₂ (fun x s₃ h₃ => wpAny_bind (wpAny_standAt (wpAny_bind (wpAny_of_eq (hs x) (wpAny_bind (wpAny_holding (wpAny_mono h₃ (fun it2 s₄ h₄ => wpAny_bind (wpAny_runOwn ?_)) fun _ _ h' => h'))))))) fun _ _ h' => h')) fun _ _ h' => h')) fun _ _ h' => h')
    refine codeAny_mono h₄ fun r s₅ h₅ => ?_
    cases r with
    | ok f => exact wpAny_pure ⟨rfl, h₅⟩
    | error e => exact h₅.elim
end
inductive CL2 (mg mb : Str → Option Value) (pins : List (Addr × Obj)) (nm : List Str) (X : Addr → Prop) (s : Shared) (ce : Env) (D : Addr) (Z X' I : Addr → Prop) (J J2 : (Addr → Prop) → List AV → Heap → Prop) (pre : Sto) (r : List AV) (W : List AV → List AV → Prop) (n : Nat) (s' : Shared) : Prop
  | mk (ys acc : List AV) (lv : LV) (hn : ys.length = n) (c : CSt mg mb pins nm X s ce D (pre ++ [lv]) acc s' (fun a => Z a ∨ I a) (fun a => X' a ∨ I a)) (j2 : J2 (fun a => X' a ∨ I a) ys s'.heap) (j : J (fun a => X' a ∨ I a) r s'.heap) (w : W ys acc)
section
variable {prog : Program} {w : World} {mg mb : Str → Option Value} {pins : List (Addr × Obj)} {l : Lim} {sc : Scope} {nm : List Str}
  {X Y : Addr → Prop} {s s' : Shared} {ce : Env} {σ : Sto} {D : Addr} {Z X' : Addr → Prop} {acc : List AV}
/-- the inner generator -/
theorem comp_in {A : Around} {csc sc' : Scope} {elt iter2 : Expr} {g0 : Comprehension} {x : Str} {px pos : Pos} {I I1 : Addr → Prop} {J J2 : (Addr → Prop) → List AV → Heap → Prop} {it2 : Value} {pre : Sto} {lv : LV} {r zs : List AV} {We : WE} {P : List AV → Prop} {Q : Shared → Prop}
    (a : AOk pins l A) (eo : FnEnv sc' ce) (hnd : nm.Nodup) (he : SemE prog w mg mb pins l sc' nm elt We) (hx : nm[pre.length]? = some x) (hl : isLoc sc' x = true)
    (stJ : ∀ (X Z X' : Addr → Prop) (h h' : Heap) (xs : List AV), J X xs h → (∀ a, I1 a → Z a) → Step X Z h h' X' → J X' xs h') (I1Z : ∀ a, I1 a → Z a) (I1D : ¬ I1 D) (I1I : ∀ a, I1 a → ¬ I a)
    (hIt : IsIt prog w mg mb pins l I J2 it2) (hI0 : ∀ a, I a → s.heap.get? a = none) (hZI : ∀ a, Z a → ¬ I a) (hXI : ∀ a, X' a → ¬ I a) (zD : Z D) (pinI : ∀ p ∈ pins, ¬ I p.1)
    (c : CSt mg mb pins nm X s ce D (pre ++ [lv]) acc s' (fun a => Z a ∨ I a) (fun a => X' a ∨ I a)) (j2 : J2 (fun a => X' a ∨ I a) zs s'.heap) (j : J (fun a => X' a ∨ I a) r s'.heap) (hw : inL We pre zs acc P)
    (hQ : ∀ acc' s'' lv, CSt mg mb pins nm X s ce D (pre ++ [lv]) acc' s'' Z X' → J X' r s''.heap → P acc' → Q s'') :
    codeAny (model prog w) A (.compStart (.ListComp elt [g0, ⟨.Name x px, iter2, [], 0⟩] csc pos) 1 it2 (.ref D) ce) (fun r s₅ => match r with | .ok _ => Q s₅ | .error _ => False) s' := by
  have IX : ∀ a, I a → (X' a ∨ I a) := fun a i => .inr i
  have hIZ : ∀ a, I a → (Z a ∨ I a) := fun a i => .inr i
  have nID : ¬ I D := hZI D zD
  have loop : codeAny (model prog w) A (.compLoop (.ListComp elt [g0, ⟨.Name x px, iter2, [], 0⟩] csc pos) 1 it2 (.ref D) ce) (fun r s₅ => match r with | .ok _ => Q s₅ | .error _ => False) s' := by
    refine codeAny_compLoop_in (CL2 mg mb pins nm X s ce D Z X' I J J2 pre r fun ys acc => inL We pre ys acc P) ?_ zs.length ⟨zs, acc, lv, rfl, c, j2, j, hw⟩
    rintro n s1 ⟨ys, acc1, lv1, rfl, c1, k2, k1, w1⟩
    cases ys with
    | nil =>
      refine wpAny_mono (hIt.fin A _ s1 _ a c1.rel.gl IX pinI k2) (fun o s3 hpat => ?_) fun _ _ x => x
      obtain ⟨rfl, gI⟩ := hpat
      refine hQ acc1 s3 lv1 (c1.dropI gI hI0 hZI hXI zD) ?_ w1
      have st : Step (fun a => X' a ∨ I a) (fun a => Z a ∧ ¬ I a) s1.heap s3.heap X' := ⟨fun b o hb e => gI.keep b o (fun i => hb.elim (fun n => n (.inr i)) fun z => z.2 i) e, fun _ q => .inl (.inl q)⟩
      exact stJ _ _ _ _ _ _ k1 (fun b i => ⟨I1Z b i, I1I b i⟩) st
    | cons y ys =>
      refine wpAny_mono (hIt.item A _ s1 y ys _ a c1.rel.gl IX k2) (fun o s3 hpat => ?_) fun _ _ x => x
      obtain ⟨v, rfl, gI, rv, k3⟩ := hpat
      have c3 := c1.growI gI hIZ IX hI0 (hIt.alive _ _ _ k3) nID
      have st3 : Step (fun a => X' a ∨ I a) (fun a => Z a ∧ ¬ I a) s1.heap s3.heap (fun a => X' a ∨ I a) := ⟨fun b o hb e => gI.keep b o (fun i => hb.elim (fun n => n (.inr i)) fun z => z.2 i) e, fun _ q => .inl q⟩
      have k4 := stJ _ _ _ _ _ _ k1 (fun b i => ⟨I1Z b i, I1I b i⟩) st3
      obtain ⟨hal, w1⟩ := w1
      refine wpAny_assign_Name (c3.bind eo hx hnd hl rv fun s4 c4 st4 => ?_)
      rw [List.set_append_right _ _ (Nat.le_refl _), Nat.sub_self] at c4
      have k5 := stJ _ _ _ _ _ _ k4 (fun b i => .inl (I1Z b i)) st4
      have k6 := hIt.stable _ _ _ _ _ _ k3 hIZ st4
      refine he.evalT a eo.toEnvOk c4 w1 fun u s5 z g5 hz5 rz c5 => ?_
      refine c5.append hal rz fun _ s6 c6 st6 => ⟨ys.length, Nat.lt_succ_self _, ys, _, _, rfl, c6, ?_, ?_, hz5⟩
      · exact hIt.stable _ (fun b => b ≠ D) _ _ _ _ (hIt.stable _ I _ _ _ _ k6 (fun _ i => i) (Step.growT g5)) (fun b i (e : b = D) => nID (e ▸ i)) st6
      · exact stJ _ (fun b => b ≠ D) _ _ _ _ (stJ _ I1 _ _ _ _ k5 (fun _ i => i) (Step.growT g5)) (fun b i (e : b = D) => I1D (e ▸ i)) st6
  exact codeAny_compStart_in loop (hIt.self A _ _ zs _ _ j2 loop)
theorem setAll_one {as : List AV} {σ : Sto} (h : σ.length = as.length + 1) : ∃ lv, setAll σ 0 as = as.map .val ++ [lv] := by
  have := setAll_drop as [] σ (by (first | lia | omega))
  rw [List.nil_append, List.nil_append] at this
  have hl : (σ.drop as.length).length = 1 := by rw [List.length_drop]; (first | lia | omega)
  obtain ⟨lv, e⟩ := List.length_eq_one_iff.mp hl
  exact ⟨lv, by rw [← e]; exact this⟩
theorem semF_compT2 {csc k tp elt iter x px iter2 pos Wi Wj We} {es : List (Str × Pos)} (hi : SemIT prog w mg mb pins l sc nm iter Wi) (hj : SemI prog w mg mb pins l (relS csc sc) (es.map (·.1) ++ [x]) iter2 Wj) (he : SemE prog w mg mb pins l (relS csc sc) (es.map (·.1) ++ [x]) elt We) (hz : l.z = true)
    (ok : compTOk sc csc (es.map (·.1) ++ [x]) = true := by decide +kernel) (hnd : (es.map (·.1) ++ [x]).Nodup := by decide +kernel)
    (hs : ∀ env x, foldedSetIterable iter env x = pure x := by intros; rfl) (hs2 : ∀ env x, foldedSetIterable iter2 env x = pure x := by intros; rfl) :
    SemF prog w mg mb pins l sc nm (.ListComp elt [⟨.Tuple (es.map fun p => .Name p.1 p.2) k tp, iter, [], 0⟩, ⟨.Name x px, iter2, [], 0⟩] csc pos) (fun σ Q => Wi σ fun xs => compTL2 es.length Wj We xs [] Q) := by
  refine .mk fun A env X σ s Q E a eo R hq => ?_
  have ok := CompT.of ok
  rw [eval_ListComp]
  refine wpAny_comprehension_free (use := none) rfl (hs env) (closureFor_some fun n hn => absurd rfl (ok.free _ hn)) ok.kind ok.loc (wpAny_mono (hi.it A env X σ s _ E a eo R hq) (fun v s₁ h₁ => ?_) fun _ _ x => x)
  refine wpAny_mono h₁ (fun it s₂ hpat => ?_) fun _ _ x => x
  obtain ⟨g, xs, I, J, J1, hxs, hJ, hIt, hI⟩ := hpat
  refine comp_enter (RR := fun acc C => compPost (model prog w) A E none _ acc C) (names := es.map (·.1) ++ [x]) ok eo R g hI fun D ce hv s₄ eoc hvs c k24 Iold hDC nD2 nC2 => ?_
  have IX : ∀ a, I a → (X a ∨ a = ce.locals ∨ a = D ∨ I a) := fun a i => .inr (.inr (.inr i))
  have IZ : ∀ a, I a → (a = D ∨ I a) := fun a i => .inr i
  have I0 : ∀ a, I a → hv.get? a = none := fun a i => (hvs a).trans (hI a i).1
  have ID : ¬ I D := fun i => (Iold D i).2 rfl
  have j4 : J (fun a => X a ∨ a = ce.locals ∨ a = D ∨ I a) xs s₄.heap := by
    refine hIt.stable _ I _ _ _ _ hJ (fun _ i => i) ⟨fun b o _ e => k24 b o e, fun b q => ?_⟩
    rcases q with q | q | q | q
    · exact .inl (.inl q)
    · exact .inr (q ▸ nC2)
    · exact .inr (q ▸ nD2)
    · exact .inl (.inr q)
  have loop : codeAny (model prog w) A (.compLoop (.ListComp elt [⟨.Tuple (es.map fun p => .Name p.1 p.2) k tp, iter, [], 0⟩, ⟨.Name x px, iter2, [], 0⟩] csc pos) 0 it (.ref D) ce) (compPost (model prog w) A E none (FPost X s Q) (.ref D) ce.locals) s₄ := by
    refine codeAny_compLoop_outer (CL1 mg mb pins (es.map (·.1) ++ [x]) X { s with heap := hv } ce D (fun b => b = D ∨ I b) (fun b => X b ∨ b = ce.locals ∨ b = D ∨ I b) J fun ys acc => compTL2 es.length Wj We ys acc Q) (hs2 ce) ?_ xs.length ⟨xs, [], _, rfl, c, j4, hxs⟩
    rintro n s' ⟨ys, acc, σ', rfl, c', j, hw⟩
    cases ys with
    | nil =>
      refine wpAny_mono (hIt.fin A _ s' _ a j) (fun o s3 hpat => ?_) fun _ _ x => x
      obtain ⟨rfl, gI⟩ := hpat
      exact (comp_fin hvs c' (fun a q => q.elim .inl fun e => .inr (.inr (.inl e))) gI (fun a i => ⟨(hI a i).1, IX a i, Iold a i⟩) hDC).none hw
    | cons y r =>
      obtain ⟨as, rfl, hlen, hw⟩ := hw
      refine turn_head hz a eoc hnd hIt c' IX IZ I0 ID j hlen (fun i p hp => ?_) (fun s2 c2 j2 => ?_) fun v s'' h => h
      · have h1 : (es.map (·.1) ++ [x])[i]? = some p.1 := by
          rw [List.getElem?_append_left (by rw [List.length_map]; exact (List.getElem?_eq_some_iff.mp hp).1), List.getElem?_map, hp]; rfl
        exact ⟨by rw [Nat.zero_add]; exact h1, ok.tgt _ (List.mem_of_getElem? h1)⟩
      · obtain ⟨lv, e⟩ := setAll_one (as := as) (σ := σ') (by rw [c'.len, List.length_append, List.length_map, hlen]; rfl)
        rw [e] at c2
        have c3 := c2.forget (as.map LV.val).length
        rw [List.set_append_right _ _ (Nat.le_refl _), Nat.sub_self] at c3
        refine wpAny_mono (hj.it A ce _ _ s2 _ _ a eoc.toEnvOk c3.rel hw) (fun v s3 h3 => ?_) fun _ _ x => x
        refine wpAny_mono h3 (fun it2 s5 hpat => ?_) fun _ _ x => x
        obtain ⟨g5, zs, I2, K2, hzs, k2, hIt2, hI2⟩ := hpat
        have c5 := c3.extend g5 hI2
        have al : ∀ a, (X a ∨ a = ce.locals ∨ a = D ∨ I a) → ¬ I2 a := fun a x i => by
          obtain ⟨o, e⟩ := c3.dom a x; rw [(hI2 a i).1] at e; cases e
        have zl : ∀ a, (a = D ∨ I a) → ¬ I2 a := fun a z => al a (z.elim (fun e => .inr (.inr (.inl e))) fun i => IX a i)
        refine comp_in (Q := fun s₅ => ∃ m, m < (AV.tup as :: r).length ∧ CL1 mg mb pins (es.map (·.1) ++ [x]) X { s with heap := hv } ce D (fun b => b = D ∨ I b) (fun b => X b ∨ b = ce.locals ∨ b = D ∨ I b) J (fun ys acc => compTL2 es.length Wj We ys acc Q) m s₅) a eoc hnd he ?_ ?_ hIt.stable IZ ID (fun a i => al a (IX a i)) hIt2 (fun a i => ?_) zl al (.inl rfl) (fun p hp i => ?_) c5 k2 ?_ hzs fun acc' s'' lv' c'' j'' hp => ⟨r.length, Nat.lt_succ_self _, r, acc', _, rfl, c'', j'', hp⟩
        · rw [List.length_map, hlen]
          rw [List.getElem?_append_right (by rw [List.length_map]; exact Nat.le_refl _), List.length_map, Nat.sub_self]; rfl
        · exact ok.tgt x (List.mem_append_right _ (.head _))
        · obtain ⟨m, cm, F, _⟩ := c3
          exact not_of_keep F.keep₀ (hI2 a i).1
        · have := c3.rel.gl.pin p hp
          rw [(hI2 _ i).1] at this; cases this
        · exact hIt.stable _ I _ _ _ _ j2 (fun _ i => i) ⟨fun b o _ e => g5.2 b o e, fun b q => q.imp id fun i => (hI2 b i).1⟩
  exact codeAny_compStart_list loop (hIt.self A _ _ xs _ _ j4 loop)
end
end Mine
-- Q6
set_option maxRecDepth 100000
set_option maxHeartbeats 1000000
set_option linter.unusedVariables false
namespace Mine
open PySem PySem.Calls PyProof.Rows
/-- the numbers of a tape, from the end on, and the next sign's weight -/
def addHead (x : Nat) : List Nat → List Nat
  | [] => [x]
  | n :: ns => (n + x) :: ns
def numsR : List Nat → List Nat × Nat
  | [] => ([], 1)
  | c :: r => if c / 64 % 2 = 0 then (c % 64 :: (numsR r).1, 64) else (addHead (c % 64 * (numsR r).2) (numsR r).1, (numsR r).2 * 64)
/-- the last sign ends a number -/
def Ended : List Nat → Prop
  | [] => False
  | [c] => c / 64 % 2 = 0
  | _ :: c :: r => Ended (c :: r)
theorem and_64 (c : Nat) : Builtin.bitAnd (c : Int) 64 = 0 ↔ c / 64 % 2 = 0 := by
  have : Builtin.bitAnd (c : Int) 64 = ((c &&& 64 : Nat) : Int) := by
    rw [show (64 : Int) = ((64 : Nat) : Int) from rfl, bitAnd_pp (Int.natCast_nonneg _) (Int.natCast_nonneg _)]; rfl
  rw [this]
  have t : c.testBit 6 = decide (c / 64 % 2 = 1) := Nat.testBit_eq_decide_div_mod_eq
  have e : c &&& 64 = 0 ↔ c.testBit 6 = false := by
    constructor
    · intro h
      have := congrArg (fun n => Nat.testBit n 6) h
      rw [show (64 : Nat) = 2 ^ 6 from rfl] at this
      simpa only [Nat.testBit_and, Nat.testBit_two_pow_self, Bool.and_true, Nat.zero_testBit] using this
    · intro h
      refine Nat.eq_of_testBit_eq fun k => ?_
      rw [show (64 : Nat) = 2 ^ 6 from rfl, Nat.testBit_and, Nat.testBit_two_pow, Nat.zero_testBit]
      by_cases q : 6 = k
      · rw [← q, h]; rfl
      · rw [decide_eq_false q, Bool.and_false]
  rw [t] at e
  constructor
  · intro h
    have := of_decide_eq_false (e.mp (by (first | lia | omega)))
    (first | lia | omega)
  · intro h
    have := e.mpr (decide_eq_false (by (first | lia | omega)))
    (first | lia | omega)
theorem and_63 (c : Nat) : Builtin.bitAnd (c : Int) 63 = ((c % 64 : Nat) : Int) := by
  have : Builtin.bitAnd (c : Int) 63 = ((c &&& 63 : Nat) : Int) := by
    rw [show (63 : Int) = ((63 : Nat) : Int) from rfl, bitAnd_pp (Int.natCast_nonneg _) (Int.natCast_nonneg _)]; rfl
  rw [this, show (63 : Nat) = 2 ^ 6 - 1 from rfl, Nat.and_two_pow_sub_one_eq_mod]
theorem or_low (v c : Nat) (hc : c < 64) : Builtin.bitOr ((v : Int) * 64) (c : Int) = ((v * 64 + c : Nat) : Int) := by
  have h0 : (v * 64) &&& c = 0 := by
    apply Nat.eq_of_testBit_eq
    intro j
    rw [Nat.testBit_and, Nat.zero_testBit]
    by_cases hj : j < 6
    · have : (v * 64).testBit j = false := by
        rw [show v * 64 = 2 ^ 6 * v by (first | lia | omega), Nat.testBit_two_pow_mul]
        simp; (first | lia | omega)
      rw [this]; rfl
    · have : c.testBit j = false := Nat.testBit_lt_two_pow (Nat.lt_of_lt_of_le hc (by
        have : 2 ^ 6 ≤ 2 ^ j := Nat.pow_le_pow_right (by decide) (by (first | lia | omega))
        simpa using this))
      rw [this]; simp
  have e : (v : Int) * 64 = ((v * 64 : Nat) : Int) := by (first | lia | omega)
  rw [bitOr_and, e, show Builtin.bitAnd ((v * 64 : Nat) : Int) (c : Int) = ((v * 64 &&& c : Nat) : Int) by rw [bitAnd_pp (Int.natCast_nonneg _) (Int.natCast_nonneg _)]; rfl, h0]
  (first | lia | omega)
theorem Ended.tail {c : Nat} {r : List Nat} (h : Ended (c :: r)) (hc : ¬ c / 64 % 2 = 0) : Ended r := by
  cases r with
  | nil => exact absurd h hc
  | cons d r => exact h
theorem pvGo_end {r : List Int} {b val : Int} (h : Builtin.bitAnd b 64 = 0) : pvGo r b val = some (val, r) := by
  unfold pvGo; rw [if_pos h]
theorem pvGo_on {r : List Int} {b b' val : Int} (h : Builtin.bitAnd b 64 ≠ 0) : pvGo (b' :: r) b val = pvGo r b' (Builtin.bitOr (val * 64) (Builtin.bitAnd b' 63)) := by
  conv => lhs; unfold pvGo
  rw [if_neg h]
/-- a number that goes on -/
inductive Reads1 (r : List Nat) (b : Int) (v : Nat) : Prop
  | mk (n : Nat) (ns : List Nat) (k : Nat) (pre rest : List Nat) (e : numsR r = (n :: ns, 64 ^ k)) (p : pvGo (r.map fun (c : Nat) => (c : Int)) b (v : Int) = some (((v * 64 ^ k + n : Nat) : Int), rest.map fun (c : Nat) => (c : Int))) (s : r = pre ++ rest) (z : (numsR rest).1 = ns) (d : rest = [] ∨ Ended rest)
theorem reads1 (r : List Nat) : ∀ (b : Int) (v : Nat), Ended r → Builtin.bitAnd b 64 ≠ 0 → Reads1 r b v := by
  induction r with
  | nil => intro b v h _; exact h.elim
  | cons c r ih =>
    intro b v h hb
    have step : pvGo ((c :: r).map fun (c : Nat) => (c : Int)) b (v : Int) = pvGo (r.map fun (c : Nat) => (c : Int)) (c : Int) ((v * 64 + c % 64 : Nat) : Int) := by
      rw [List.map_cons, pvGo_on hb]
      show pvGo (r.map fun (c : Nat) => (c : Int)) (c : Int) (Builtin.bitOr ((v : Int) * 64) (Builtin.bitAnd (c : Int) 63)) = _
      rw [and_63, or_low v (c % 64) (Nat.mod_lt _ (by decide))]
    by_cases hc : c / 64 % 2 = 0
    · refine ⟨c % 64, (numsR r).1, 1, [c], r, by rw [numsR, if_pos hc, Nat.pow_one], ?_, rfl, rfl, ?_⟩
      · rw [step, pvGo_end ((and_64 c).mpr hc), Nat.pow_one]
      · cases r with
        | nil => exact .inl rfl
        | cons d r => exact .inr h
    · obtain ⟨n, ns, k, pre, rest, e, p, s, z, d⟩ := ih (c : Int) (v * 64 + c % 64) (h.tail hc) fun q => hc ((and_64 c).mp q)
      refine ⟨n + c % 64 * 64 ^ k, ns, k + 1, c :: pre, rest, by rw [numsR, if_neg hc, e, Nat.pow_succ]; rfl, ?_, by rw [s]; rfl, z, d⟩
      rw [step, p]
      congr 3
      rw [Nat.add_mul, Nat.pow_succ, Nat.mul_assoc, Nat.mul_comm 64 (64 ^ k)]
      (first | lia | omega)
/-- the first number of a tape -/
theorem read_first {c : Nat} {r : List Nat} (h : Ended (c :: r)) : ∃ n ns rest, (numsR (c :: r)).1 = n :: ns ∧ pv ((c :: r).map fun (c : Nat) => (c : Int)) = some (((n : Nat) : Int), rest.map fun (c : Nat) => (c : Int)) ∧ (numsR rest).1 = ns ∧ (rest = [] ∨ Ended rest) ∧ rest.length ≤ r.length := by
  have step : pv ((c :: r).map fun (c : Nat) => (c : Int)) = pvGo (r.map fun (c : Nat) => (c : Int)) (c : Int) ((c % 64 : Nat) : Int) := by
    rw [List.map_cons, pv, and_63]
  by_cases hc : c / 64 % 2 = 0
  · refine ⟨c % 64, (numsR r).1, r, by rw [numsR, if_pos hc], ?_, rfl, ?_, Nat.le_refl _⟩
    · rw [step, pvGo_end ((and_64 c).mpr hc)]
    · cases r with
      | nil => exact .inl rfl
      | cons d r => exact .inr h
  · obtain ⟨n, ns, k, pre, rest, e, p, s, z, d⟩ := reads1 r (c : Int) (c % 64) (h.tail hc) fun q => hc ((and_64 c).mp q)
    refine ⟨n + c % 64 * 64 ^ k, ns, rest, by rw [numsR, if_neg hc, e]; rfl, ?_, z, d, by rw [s, List.length_append]; exact Nat.le_add_left _ _⟩
    rw [step, p, Nat.add_comm n]
theorem pvSm_ok (r : List Nat) : ∀ (b : Int) (v : Nat), (v + 1) * 64 ^ r.length ≤ 2 ^ 63 → pvSm (r.map fun (c : Nat) => (c : Int)) b (v : Int) := by
  induction r with
  | nil =>
    intro b v hs
    unfold pvSm
    rw [List.length_nil, Nat.pow_zero, Nat.mul_one] at hs
    split
    · trivial
    · exact ⟨by unfold Small; (first | lia | omega), trivial⟩
  | cons c r ih =>
    intro b v hs
    rw [List.length_cons, Nat.pow_succ] at hs
    have hp : 1 ≤ 64 ^ r.length := Nat.pow_pos (by decide)
    have hm : c % 64 < 64 := Nat.mod_lt _ (by decide)
    have hs' : (v * 64 + c % 64 + 1) * 64 ^ r.length ≤ 2 ^ 63 := by
      refine Nat.le_trans ?_ hs
      rw [Nat.mul_comm (64 ^ r.length) 64, ← Nat.mul_assoc]
      exact Nat.mul_le_mul_right _ (by (first | lia | omega))
    have hv : v + 1 ≤ 2 ^ 63 := by
      have : (v + 1) * 1 ≤ (v + 1) * (64 ^ r.length * 64) := Nat.mul_le_mul_left _ (by (first | lia | omega))
      (first | lia | omega)
    have h := ih (c : Int) (v * 64 + c % 64) hs'
    rw [List.map_cons]
    conv => unfold pvSm
    split
    · trivial
    · refine ⟨by unfold Small; (first | lia | omega), ?_⟩
      show pvSm (r.map fun (c : Nat) => (c : Int)) (c : Int) (Builtin.bitOr ((v : Int) * 64) (Builtin.bitAnd (c : Int) 63))
      rw [and_63, or_low v (c % 64) hm]
      exact h
theorem pvSmall_ok {l : List Nat} (h : l.length ≤ 10) : pvSmall (l.map fun (c : Nat) => (c : Int)) := by
  cases l with
  | nil => trivial
  | cons c r =>
    show pvSm (r.map fun (c : Nat) => (c : Int)) (c : Int) (Builtin.bitAnd (c : Int) 63)
    rw [and_63]
    refine pvSm_ok r _ _ ?_
    have hm : c % 64 + 1 ≤ 64 := Nat.mod_lt _ (by decide)
    have hl : r.length ≤ 9 := by rw [List.length_cons] at h; (first | lia | omega)
    have : 64 ^ r.length ≤ 64 ^ 9 := Nat.pow_le_pow_right (by decide) hl
    exact Nat.le_trans (Nat.mul_le_mul hm this) (by decide)
end Mine
-- ZG1
set_option maxRecDepth 100000
set_option maxHeartbeats 2000000
set_option linter.unusedVariables false
namespace Mine
open PySem PySem.Calls PyProof.Rows PySem.SeqAt PySem.MeetsSeq
theorem itemW_tup {xs : List AV} {k : Int} {Q : AV → Prop} {x : AV} (h0 : 0 ≤ k) (hl : xs.length ≤ 100000) (hx : xs[k.toNat]? = some x) (h : Q x) : itemW (.tup xs) (.int k) Q := by
  obtain ⟨n, rfl⟩ := Int.eq_ofNat_of_zero_le h0
  obtain ⟨hn, e⟩ := List.getElem?_eq_some_iff.mp hx
  refine ⟨hl, ?_⟩
  rw [Int.toNat_natCast] at hn
  rw [getA_nat hn]
  exact e ▸ h
/-- an item of a tuple of plain things -/
theorem item_tmap {α : Type} {f : α → AV} {d : α} {row : List α} {k : Int} {n : Nat} {Q : AV → Prop} (h0 : 0 ≤ k) (hk : k < (n : Nat)) (hn : row.length = n) (hl : n ≤ 100000) (h : Q (f (row.getD k.toNat d))) : itemW (.tup (row.map f)) (.int k) Q := by
  have hk' : k.toNat < row.length := by (first | lia | omega)
  refine itemW_tup h0 (by rw [List.length_map]; (first | lia | omega)) (x := f (row.getD k.toNat d)) ?_ h
  rw [List.getElem?_map, List.getD_eq_getElem?_getD, List.getElem?_eq_getElem hk']; rfl
theorem item_lmap {α : Type} {f : α → AV} {d : α} {row : List α} {k : Int} {n : Nat} {Q : AV → Prop} (h0 : 0 ≤ k) (hk : k < (n : Nat)) (hn : row.length = n) (hl : n ≤ 100000) (h : Q (f (row.getD k.toNat d))) : itemW (.lst (row.map f)) (.int k) Q := item_tmap h0 hk hn hl h
/-- a comprehension over written-out items -/
theorem compL_on {α : Type} {f : α → AV} {Wf : Sto → (Bool → Prop) → Prop} {We : WE} {σ : Sto} {Q : List AV → Prop} (p : α → Bool) (g : α → AV) (is : List α) : ∀ (acc : List AV),
    (∀ i ∈ is, ∀ K : Bool → Prop, K (p i) → Wf (σ ++ [.val (f i)]) K) → (∀ i ∈ is, p i = true → ∀ K : AV → Prop, K (g i) → We (σ ++ [.val (f i)]) K) → Q (acc ++ (is.filter p).map g) → compL Wf We σ (is.map f) acc Q := by
  induction is with
  | nil => intro acc _ _ h; rw [List.filter_nil, List.map_nil, List.append_nil] at h; exact h
  | cons i r ih =>
    intro acc h1 h2 h
    refine h1 i (.head _) _ ?_
    have t1 := fun z hz => h1 z (List.mem_cons_of_mem i hz)
    have t2 := fun z hz => h2 z (List.mem_cons_of_mem i hz)
    cases hp : p i with
    | true =>
      rw [List.filter_cons, if_pos hp, List.map_cons] at h
      exact if_t rfl (h2 i (.head _) hp _ (ih _ t1 t2 (by rw [List.append_assoc]; exact h)))
    | false =>
      rw [List.filter_cons, hp, if_neg Bool.false_ne_true] at h
      exact if_f rfl (ih _ t1 t2 h)
theorem ffT {P R : Prop} (h : R) : truW (.bool false) (fun c => if c = true then P else R) := by
  show if false = true then P else R
  rw [if_neg Bool.false_ne_true]; exact h
/-- without a test -/
theorem compL_all {α : Type} {f : α → AV} {Wf : Sto → (Bool → Prop) → Prop} {We : WE} {σ : Sto} {Q : List AV → Prop} (g : α → AV) (is : List α)
    (h1 : ∀ y, ∀ K : Bool → Prop, K true → Wf (σ ++ [.val y]) K) (h2 : ∀ i ∈ is, ∀ K : AV → Prop, K (g i) → We (σ ++ [.val (f i)]) K) (h : Q (is.map g)) : compL Wf We σ (is.map f) [] Q :=
  compL_on (fun _ => true) g is [] (fun i _ K k => h1 _ K k) (fun i hi _ => h2 i hi) (by rw [List.filter_eq_self.mpr fun _ _ => rfl, List.nil_append]; exact h)
theorem compL_at {Wf : Sto → (Bool → Prop) → Prop} {We : WE} {σ : Sto} {Q : List AV → Prop} {xs ys acc : List AV} (e : xs = ys) (h : compL Wf We σ ys acc Q) : compL Wf We σ xs acc Q := e ▸ h
theorem rangeL01 (n : Nat) : rangeL 0 1 n = (List.range n).map fun (i : Nat) => AV.int (i : Nat) := by
  unfold rangeL
  refine List.map_congr_left fun i _ => ?_
  rw [Int.mul_one, Int.zero_add]
theorem range_n (n : Nat) : rangeL 0 1 (cntR 0 n 1) = (List.range n).map fun (i : Nat) => AV.int (i : Nat) := by rw [cntR_one, rangeL01]
theorem intsA_map (xs : List Int) : intsA (xs.map .int) = some xs := by
  induction xs with
  | nil => rfl
  | cons x r ih => show (intsA (r.map .int)).map _ = _; rw [ih]; rfl
theorem anyO_strs (x : List Nat) (ys : List (List Nat)) : anyO (fun z => eqA 2 z (.str x)) (ys.map .str) = some (decide (x ∈ ys)) := by
  induction ys with
  | nil => simp [anyO]
  | cons y ys ih =>
    simp only [List.map_cons, anyO, ih]
    show some ((y == x) || decide (x ∈ ys)) = _
    congr 1
    rw [Bool.eq_iff_iff, Bool.or_eq_true, beq_iff_eq, decide_eq_true_eq, decide_eq_true_eq, List.mem_cons, eq_comm]
theorem inW_strs {x : List Nat} {ys : List (List Nat)} {Q : AV → Prop} (h : Q (.bool (decide (x ∈ ys)))) : inW (.str x) (.lst (ys.map .str)) Q := by
  unfold inW inA
  simp only [anyO_strs]
  exact h
end Mine
-- S1
set_option maxRecDepth 100000
set_option linter.unusedVariables false
set_option linter.unusedSimpArgs false
namespace Mine
open PySem PySem.Calls PyProof.Rows PySem.StrLaws PySem.Builtin PySem.Builtin.Str

def jn : List (List Nat) → List Nat
  | [] => []
  | [p] => p
  | p :: r => p ++ 44 :: 32 :: jn r
def cs : Str := ", "
theorem cs_list : cs.cps.toList = [44, 32] := by decide +kernel
theorem cs_len : cs.length = 2 := by decide +kernel
theorem at_iff {x : Str} {i : Nat} : At x cs x.length i ↔ (x.cps.toList.drop i).take 2 = [44, 32] := by
  unfold At
  rw [subAt_eq, cs_len, cs_list]
  constructor
  · exact fun h => eq_of_beq h.2
  · intro h
    refine ⟨?_, by rw [h]; rfl⟩
    have := congrArg List.length h
    simp [Str.length] at this ⊢
    (first | lia | omega)
theorem at_head {x : Str} {i : Nat} (h : At x cs x.length i) : ∃ t, x.cps.toList.drop i = 44 :: 32 :: t := by
  have := at_iff.mp h
  match e : x.cps.toList.drop i, this with
  | a :: b :: t, h => simp at h; exact ⟨t, by rw [h.1, h.2]⟩
theorem parts_jn (x : Str) : ∀ (names : List (List Nat)) (a f : Nat) (cuts : List Nat), names ≠ [] → (∀ p ∈ names, 44 ∉ p) → x.cps.toList.drop a = jn names → a ≤ x.length → ChainG x cs x.length a cuts f → (∀ k, f ≤ k → ¬ At x cs x.length k) →
    (partsFrom x 2 a cuts).map strL = names
  | [], _, _, _, h, _, _, _, _, _ => absurd rfl h
  | [p], a, f, cuts, _, hp, hd, ha, hc, hf => by
    have hno : ∀ k, a ≤ k → ¬ At x cs x.length k := fun k hk h => by
      obtain ⟨t, e⟩ := at_head h
      have : x.cps.toList.drop k = p.drop (k - a) := by
        rw [show jn [p] = p from rfl] at hd
        rw [← hd, List.drop_drop]; congr 1; (first | lia | omega)
      rw [this] at e
      have : (44 : Nat) ∈ p.drop (k - a) := by rw [e]; exact .head _
      exact hp p (.head _) (List.mem_of_mem_drop this)
    cases cuts with
    | nil =>
      show [strL (strSub x a x.length)] = [p]
      congr 1
      unfold strL
      rw [strSub_toList, hd]
      apply List.take_of_length_le
      have := congrArg List.length hd
      simp [Str.length] at this ⊢
      simp [jn] at this ⊢
      (first | lia | omega)
    | cons c r => exact absurd hc.2.1 (hno c hc.1)
  | p :: q :: r, a, f, cuts, _, hp, hd, ha, hc, hf => by
    have hd' : x.cps.toList.drop a = p ++ 44 :: 32 :: jn (q :: r) := hd
    have hat : At x cs x.length (a + p.length) := by
      rw [at_iff, ← List.drop_drop, hd']
      simp
    have hbefore : ∀ k, a ≤ k → k < a + p.length → ¬ At x cs x.length k := fun k hk hk2 h => by
      obtain ⟨t, e⟩ := at_head h
      have : x.cps.toList.drop k = (p ++ 44 :: 32 :: jn (q :: r)).drop (k - a) := by
        rw [← hd', List.drop_drop]; congr 1; (first | lia | omega)
      rw [this, List.drop_append_of_le_length (by (first | lia | omega))] at e
      have hne : p.drop (k - a) ≠ [] := by simp; (first | lia | omega)
      obtain ⟨y, ys, ey⟩ := List.exists_cons_of_ne_nil hne
      rw [ey] at e
      simp at e
      have : (44 : Nat) ∈ p.drop (k - a) := by rw [ey, e.1]; exact .head _
      exact hp p (.head _) (List.mem_of_mem_drop this)
    cases cuts with
    | nil =>
      have : f = a := hc
      exact absurd hat (hf _ (by (first | lia | omega)))
    | cons c cr =>
      obtain ⟨h1, h2, h3, h4⟩ := hc
      have ec : c = a + p.length := by
        rcases Nat.lt_trichotomy c (a + p.length) with q | q | q
        · exact absurd h2 (hbefore c h1 q)
        · exact q
        · exact absurd hat (h3 _ (by (first | lia | omega)) q)
      subst ec
      have hlen := h2.1
      rw [cs_len] at h4 hlen
      have hd2 : x.cps.toList.drop (a + p.length + 2) = jn (q :: r) := by
        rw [Nat.add_assoc, ← List.drop_drop, hd']
        simp
      have ih := parts_jn x (q :: r) (a + p.length + 2) f cr (by simp) (fun y hy => hp y (.tail _ hy)) hd2 hlen h4 hf
      show strL (strSub x a (a + p.length)) :: (partsFrom x 2 (a + p.length + 2) cr).map strL = _
      rw [ih]
      congr 1
      unfold strL
      rw [strSub_toList, hd']
      simp
theorem strJoin_jn : ∀ (names : List (List Nat)), (Str.join cs (names.map fun x => ⟨x.toArray⟩)).cps.toList = jn names
  | [] => rfl
  | [p] => rfl
  | p :: q :: r => by
    have ih := strJoin_jn (q :: r)
    show ((⟨p.toArray⟩ : Str) ++ cs ++ Str.join cs ((q :: r).map fun x => ⟨x.toArray⟩)).cps.toList = _
    rw [Str.cps_append, Array.toList_append, ih, Str.cps_append, Array.toList_append, cs_list]
    simp [jn]
theorem joinL_jn (names : List (List Nat)) : joinL (strL ", ") names = jn names := by
  unfold joinL
  have : (⟨(strL ", ").toArray⟩ : Str) = cs := mk_strL _
  rw [this]
  unfold Txt.join
  rw [glued_eq_join]
  exact strJoin_jn names
theorem strJoin_nil : ∀ (ys : List (List Nat)), (Str.join ⟨#[]⟩ (ys.map fun x => ⟨x.toArray⟩)).cps.toList = ys.flatten
  | [] => rfl
  | [p] => by simp [Str.join]
  | p :: q :: r => by
    have ih := strJoin_nil (q :: r)
    show ((⟨p.toArray⟩ : Str) ++ ⟨#[]⟩ ++ Str.join ⟨#[]⟩ ((q :: r).map fun x => ⟨x.toArray⟩)).cps.toList = _
    rw [Str.cps_append, Array.toList_append, ih, Str.cps_append, Array.toList_append]
    simp
theorem joinL_nil (ys : List (List Nat)) : joinL (strL "") ys = ys.flatten := by
  unfold joinL
  have : (⟨(strL "").toArray⟩ : Str) = ⟨#[]⟩ := by decide +kernel
  rw [this]
  unfold Txt.join
  rw [glued_eq_join]
  exact strJoin_nil ys
theorem parts_len (names : List (List Nat)) (hne : names ≠ []) (hp : ∀ p ∈ names, 44 ∉ p) : (partsBetween ⟨(jn names).toArray⟩ (occurrences ⟨(jn names).toArray⟩ ⟨(strL ", ").toArray⟩ 0 (jn names).length ((jn names).length + 1)) (strL ", ").length).length = names.length := by
  have e : (⟨(strL ", ").toArray⟩ : Str) = cs := mk_strL _
  have e2 : (strL ", ").length = 2 := by decide +kernel
  rw [e, e2]
  generalize hx : (⟨(jn names).toArray⟩ : Str) = x
  have hxl : x.cps.toList = jn names := by rw [← hx]
  have hn : (jn names).length = x.length := by rw [← hx]; simp [Str.length]
  rw [hn]
  obtain ⟨f, hc, hf⟩ := occ_tight x cs (by rw [cs_len]; decide)
  have := parts_jn x names 0 f _ hne hp (by simpa using hxl) (Nat.zero_le _) hc hf
  rw [partsBetween_eq, ← List.length_map (f := strL), this]
theorem split_jn (names : List (List Nat)) (hne : names ≠ []) (hp : ∀ p ∈ names, 44 ∉ p) : splitL (jn names) (strL ", ") = names := by
  unfold splitL
  have e : (⟨(strL ", ").toArray⟩ : Str) = cs := mk_strL _
  rw [e]
  generalize hx : (⟨(jn names).toArray⟩ : Str) = x
  have hxl : x.cps.toList = jn names := by rw [← hx]
  obtain ⟨f, hc, hf⟩ := occ_tight x cs (by rw [cs_len]; decide)
  have hT : Txt.split x cs = partsFrom x 2 0 (occurrences x cs 0 x.length (x.length + 1)) := by
    unfold Txt.split
    have whole : occurrences x cs 0 x.length (x.length + 1) = [] → [x] = partsFrom x 2 0 (occurrences x cs 0 x.length (x.length + 1)) := fun q => by
      rw [q]; show [x] = [strSub x 0 x.length]; rw [sub_whole]
    split
    · rename_i hs
      apply whole
      have hk : ¬ Builtin.Str.strKind x < Builtin.Str.strKind cs := by
        have : Builtin.Str.strKind cs = 1 := by decide +kernel
        rw [this]
        unfold Builtin.Str.strKind
        split
        · (first | lia | omega)
        · split <;> (first | lia | omega)
      have hs' : x.length < cs.length := by
        simp only [Bool.or_eq_true, decide_eq_true_eq] at hs
        exact hs.resolve_right hk
      cases q : occurrences x cs 0 x.length (x.length + 1) with
      | nil => rfl
      | cons c r => rw [q] at hc; have := hc.2.1.1; (first | lia | omega)
    · split
      · rename_i hs
        exact whole (by simpa using hs)
      · rw [partsBetween_eq, cs_len]
  rw [hT]
  exact parts_jn x names 0 f _ hne hp (by simpa using hxl) (Nat.zero_le _) hc hf
end Mine
-- D0
set_option maxRecDepth 100000
set_option linter.unusedVariables false
set_option linter.unusedSimpArgs false
namespace Mine
open PySem PySem.Calls PyProof.Rows PySem.SeqAt PySem.MeetsSeq
theorem consW_of {f : WE} {g : Sto → (List AV → Prop) → Prop} {σ : Sto} {Q : List AV → Prop} (h : f σ fun a => g σ fun as => Q (a :: as)) : consW f g σ Q := h
theorem varW_at {k : Nat} {σ : Sto} {a : AV} {Q : AV → Prop} (e : σ.getD k .unset = .val a) (h : Q a) : varW k σ Q := by
  unfold varW; rw [e]; exact h
theorem and_nat (a b : Nat) : Builtin.bitAnd (a : Int) (b : Int) = ((a &&& b : Nat) : Int) := by
  rw [bitAnd_pp (Int.natCast_nonneg a) (Int.natCast_nonneg b)]; rfl
theorem joinE {ys : List (List Nat)} {C : AV → Prop} (hlen : ys.flatten.length ≤ 4000) (hC : C (.str ys.flatten)) (hn : ys.length ≤ 4000) : joinW [AV.str (strL ""), AV.lst (ys.map .str)] C := by
  refine ⟨ys, strsA_map ys, ?_, by rw [joinL_nil]; exact hC⟩
  have e0 : (strL "").length = 0 := by decide +kernel
  rw [List.length_flatten] at hlen
  rw [e0, Nat.mul_zero]
  exact Nat.le_trans hlen (by decide)
theorem joinM {α : Type} {ps : List α} (g : α → List Nat) {C : AV → Prop} (hlen : (ps.map g).flatten.length ≤ 4000) (hC : C (.str (ps.map g).flatten)) (hn : ps.length ≤ 4000) : joinW [AV.str (strL ""), AV.lst (ps.map fun p => AV.str (g p))] C := by
  have := joinE (ys := ps.map g) hlen hC (by rw [List.length_map]; exact hn)
  rwa [List.map_map] at this
/-- the bits of a number, and its words -/
theorem and_tp (n i : Nat) : n &&& 2 ^ i = (n.testBit i).toNat * 2 ^ i := by
  apply Nat.eq_of_testBit_eq
  intro j
  rw [Nat.testBit_and, Nat.testBit_two_pow]
  cases h : n.testBit i with
  | true =>
    simp only [Bool.toNat_true, Nat.one_mul, Nat.testBit_two_pow]
    by_cases q : i = j
    · subst q; simp [h]
    · simp [q]
  | false =>
    simp only [Bool.toNat_false, Nat.zero_mul, Nat.zero_testBit]
    by_cases q : i = j
    · subst q; simp [h]
    · simp [q]
theorem bitAnd_two (n i : Nat) : Builtin.bitAnd (n : Int) (2 ^ i) = ((n.testBit i).toNat * 2 ^ i : Nat) := by
  have h : ((2 : Int) ^ i) = ((2 ^ i : Nat) : Int) := by simp
  rw [h, and_nat, and_tp]
theorem bitXor_two (n i : Nat) (h : n.testBit i = true) : Builtin.bitXor (n : Int) (2 ^ i) = ((n - 2 ^ i : Nat) : Int) := by
  have e : ((2 : Int) ^ i) = ((2 ^ i : Nat) : Int) := by simp
  have hle : 2 ^ i ≤ n := Nat.ge_two_pow_of_testBit h
  unfold Builtin.bitXor
  rw [bitOr_and, e, and_nat, and_tp, h]
  simp only [Bool.toNat_true, Nat.one_mul]
  (first | lia | omega)
/-- n without its bits below i -/
theorem low_false {n i : Nat} (h : n % 2 ^ i = 0) (t : n.testBit i = false) : n % 2 ^ (i + 1) = 0 := by
  rw [Nat.testBit_eq_decide_div_mod_eq] at t
  have := of_decide_eq_false t
  rw [Nat.pow_succ, Nat.mod_mul, h]
  have h2 : n / 2 ^ i % 2 = 0 := by (first | lia | omega)
  rw [h2]; simp
theorem low_true {n i : Nat} (h : n % 2 ^ i = 0) (t : n.testBit i = true) : (n - 2 ^ i) % 2 ^ (i + 1) = 0 ∧ ∀ j, i < j → (n - 2 ^ i).testBit j = n.testBit j := by
  rw [Nat.testBit_eq_decide_div_mod_eq] at t
  have t := of_decide_eq_true t
  have h1 : n % 2 ^ (i + 1) = 2 ^ i := by rw [Nat.pow_succ, Nat.mod_mul, h, t]; simp
  have h2 : n = 2 ^ (i + 1) * (n / 2 ^ (i + 1)) + 2 ^ i := by have := Nat.div_add_mod n (2 ^ (i + 1)); (first | lia | omega)
  have h3 : n - 2 ^ i = 2 ^ (i + 1) * (n / 2 ^ (i + 1)) := by (first | lia | omega)
  refine ⟨by rw [h3]; exact Nat.mul_mod_right _ _, fun j hj => ?_⟩
  have hlt : 2 ^ i < 2 ^ (i + 1) := Nat.pow_lt_pow_right (by decide) (by (first | lia | omega))
  rw [h3]
  conv => rhs; rw [h2]
  rw [Nat.testBit_two_pow_mul, Nat.testBit_two_pow_mul_add _ hlt, if_neg (by (first | lia | omega))]
  simp; (first | lia | omega)
theorem bits_zero {n : Nat} (d i : Nat) (h : ∀ j, i ≤ j → n.testBit j = false) : (List.range' i d).filter n.testBit = [] := by
  rw [List.filter_eq_nil_iff]
  intro j hj
  rw [h j (List.mem_range'_1.mp hj).1]; simp
theorem pf_go (flagT : Int → Option (List Nat)) : ∀ (d i n : Nat) (acc : List (List Nat)), i + d = 32 → n % 2 ^ i = 0 → n ≠ 0 → n < 2 ^ 32 →
    pfGo flagT (List.range' i d) (n : Int) acc = acc ++ ((List.range' i d).filter n.testBit).map (fun b => flName flagT (2 ^ b)) ∧ pfHex (List.range' i d) (n : Int)
  | 0, i, n, acc, e, h, h0, hn => by
    have : i = 32 := by (first | lia | omega)
    subst this
    rw [Nat.mod_eq_of_lt hn] at h
    exact absurd h h0
  | d + 1, i, n, acc, e, h, h0, hn => by
    rw [List.range'_succ, List.filter_cons]
    unfold pfGo pfHex
    cases t : n.testBit i with
    | false =>
      have e0 : Builtin.bitAnd (n : Int) (2 ^ i) = 0 := by rw [bitAnd_two, t]; simp
      rw [if_pos e0, if_pos e0, if_neg Bool.false_ne_true]
      exact pf_go flagT d (i + 1) n acc (by (first | lia | omega)) (low_false h t) h0 hn
    | true =>
      have e0 : ¬ Builtin.bitAnd (n : Int) (2 ^ i) = 0 := by
        rw [bitAnd_two, t]
        have := Nat.two_pow_pos i
        simp only [Bool.toNat_true, Nat.one_mul]; (first | lia | omega)
      obtain ⟨k1, k2⟩ := low_true h t
      have ef : (List.range' (i + 1) d).filter n.testBit = (List.range' (i + 1) d).filter (n - 2 ^ i).testBit :=
        List.filter_congr fun j hj => (k2 j (by have := (List.mem_range'_1.mp hj).1; (first | lia | omega))).symm
      rw [if_neg e0, if_neg e0, bitXor_two _ _ t, if_pos rfl, List.map_cons, ef]
      by_cases hz : n - 2 ^ i = 0
      · rw [hz, if_pos (by rfl), if_pos (by rfl), bits_zero _ _ fun j _ => Nat.zero_testBit j]
        exact ⟨rfl, trivial⟩
      · have hz' : ¬ ((n - 2 ^ i : Nat) : Int) = 0 := by (first | lia | omega)
        rw [if_neg hz', if_neg hz']
        have := pf_go flagT d (i + 1) (n - 2 ^ i) (acc ++ [flName flagT (2 ^ i)]) (by (first | lia | omega)) k1 hz (by (first | lia | omega))
        rw [this.1, List.append_assoc]
        exact ⟨rfl, this.2⟩
end Mine
-- D3
set_option maxRecDepth 100000
set_option maxHeartbeats 4000000
set_option linter.unusedVariables false
set_option linter.unusedSimpArgs false
namespace Mine
open PySem PySem.Calls PyProof.Rows PySem.SeqAt PySem.MeetsSeq
abbrev natI (l : List Nat) : List Int := l.map fun (c : Nat) => (c : Int)
/-- where the reading from behind stands -/
inductive NumSt (r : List Nat) (t p : LV) : Prop
  | start (e : r = []) (h1 : t = .own ([] : List AV)) (h2 : p = .unset)
  | on (e : Ended r) (h1 : t = .own ((numsR r).1.reverse.map fun (n : Nat) => AV.int (n : Nat))) (h2 : p = .val (.int ((numsR r).2 : Nat)))
inductive NumInv (cs : List Nat) (xs : List AV) (σ : Sto) : Prop
  | mk (pre r : List Nat) (t p c : LV) (e : cs = pre ++ r) (g : xs = pre.reverse.map fun (n : Nat) => AV.int (n : Nat)) (s : σ = [.val (.lst ((natI cs).map .int)), t, c, p]) (st : NumSt r t p)
theorem Ended.last {pre : List Nat} {c : Nat} : Ended (pre ++ [c]) → c / 64 % 2 = 0 := by
  induction pre with
  | nil => exact id
  | cons x pre ih =>
    intro h
    cases pre with
    | nil => exact h
    | cons y pre => exact ih h
theorem Ended.ne {r : List Nat} (h : Ended r) : r ≠ [] := fun e => by rw [e] at h; exact h
theorem numsR_ne {r : List Nat} (h : Ended r) : ∃ n ns, (numsR r).1 = n :: ns := by
  cases r with
  | nil => exact h.elim
  | cons c r => obtain ⟨n, ns, _, e, _⟩ := read_first h; exact ⟨n, ns, e⟩
theorem Ended.cons {c : Nat} {r : List Nat} (h : Ended r) : Ended (c :: r) := by
  cases r with
  | nil => exact h.elim
  | cons d r => exact h
theorem numsR_len (r : List Nat) : (numsR r).1.length ≤ r.length := by
  induction r with
  | nil => exact Nat.le_refl 0
  | cons c r ih =>
    rw [numsR, List.length_cons]
    split
    · rw [List.length_cons]; (first | lia | omega)
    · show (addHead _ (numsR r).1).length ≤ _
      cases e : (numsR r).1 with
      | nil => simp [addHead]
      | cons n ns => rw [e] at ih; simp only [addHead, List.length_cons] at ih ⊢; (first | lia | omega)
theorem seq_last {n : Nat} : seqIndex? (-1) (n + 1) = some n := by
  unfold seqIndex?
  have h1 : (-1 : Int) < 0 := by decide
  simp [h1]; (first | lia | omega)
theorem getA_last {ns : List Nat} {n : Nat} : getA ((n :: ns).reverse.map fun (n : Nat) => AV.int (n : Nat)) (-1) = some (.int (n : Nat)) := by
  unfold getA
  have hl : ((n :: ns).reverse.map fun (n : Nat) => AV.int (n : Nat)).length = ns.length + 1 := by simp
  rw [hl, seq_last, Option.bind_some, List.getElem?_map, List.reverse_cons, List.getElem?_append_right (by simp)]
  simp
theorem setA_last {ns : List Nat} {n m : Nat} : setA ((n :: ns).reverse.map fun (n : Nat) => AV.int (n : Nat)) (-1) (.int (m : Nat)) = some ((m :: ns).reverse.map fun (n : Nat) => AV.int (n : Nat)) := by
  unfold setA
  have hl : ((n :: ns).reverse.map fun (n : Nat) => AV.int (n : Nat)).length = ns.length + 1 := by simp
  rw [hl, seq_last, Option.map_some, List.reverse_cons, List.reverse_cons, List.map_append, List.map_append]
  congr 1
  rw [List.set_append_right _ _ (by simp)]
  simp
theorem ttB {b : Bool} {P R : Prop} (e : b = true) (h : P) : truW (.bool b) (fun c => if c = true then P else R) := by
  subst e
  show if true = true then P else R
  rw [if_pos rfl]; exact h
theorem ffB {b : Bool} {P R : Prop} (e : b = false) (h : R) : truW (.bool b) (fun c => if c = true then P else R) := by
  subst e
  show if false = true then P else R
  rw [if_neg Bool.false_ne_true]; exact h
theorem last_aug {K : Fl → Sto → Prop} {s0 c p : LV} {ns : List Nat} {n m pl : Nat} (hl : ns.length ≤ 1000)
    (hK : K .next [s0, .own (((n + m % 64 * pl) :: ns).reverse.map fun (n : Nat) => AV.int (n : Nat)), c, p]) :
    itemW (.lst ((n :: ns).reverse.map fun (n : Nat) => AV.int (n : Nat))) (.int (-1)) fun old => modW (.int (m : Nat)) (.int 64) fun a => mulW a (.int (pl : Nat)) fun b => ipW addW old b fun a => storeW [s0, .own ((n :: ns).reverse.map fun (n : Nat) => AV.int (n : Nat)), c, p] 1 ((n :: ns).reverse.map fun (n : Nat) => AV.int (n : Nat)) (.int (-1)) a (K .next) := by
  have hlen : ((n :: ns).reverse.map fun (n : Nat) => AV.int (n : Nat)).length ≤ 100000 := by simp; (first | lia | omega)
  refine ⟨hlen, ?_⟩
  rw [getA_last]
  refine ⟨by decide, .inl (by unfold Small; (first | lia | omega)), ?_⟩
  refine ⟨hlen, ?_⟩
  have e : ((n : Int) + (m : Int) % 64 * (pl : Int)) = ((n + m % 64 * pl : Nat) : Int) := by rw [Int.natCast_add, Int.natCast_mul, Int.natCast_emod]; rfl
  show match setA _ (-1) (AV.int ((n : Int) + (m : Int) % 64 * (pl : Int))) with | some ys => _ | none => False
  rw [e, setA_last]
  exact hK
inductive NumStep (c : Nat) (r : List Nat) (t p : LV) : Prop
  | mk (n : Nat) (ns : List Nat) (pl : Nat) (h1 : Ended (c :: r)) (h2 : numsR (c :: r) = ((n + c % 64 * pl) :: ns, pl * 64)) (h3 : ns.length ≤ 1000) (h4 : (c / 64 % 2 = 0 ∧ n = 0 ∧ pl = 1 ∧ t = .own (ns.reverse.map fun (n : Nat) => AV.int (n : Nat))) ∨ (¬ c / 64 % 2 = 0 ∧ t = .own ((n :: ns).reverse.map fun (n : Nat) => AV.int (n : Nat)) ∧ p = .val (.int (pl : Nat))))
section
variable {prog : Program} {w : World} {mg mb : Str → Option Value} {pins : List (Addr × Obj)} {flagT b3T : Int → Option (List Nat)} {b1S : Int → Bool}
inductive numbersW (as : List AV) (Q : AV → Prop) : Prop
  | mk (cs : List Nat) (e : as = [.lst ((natI cs).map .int)]) (h : Ended cs) (hl : cs.length ≤ 1000) (q : Q (.lst ((natI (numsR cs).1).map .int)))
theorem numbers_ok (B : Base prog w mg mb pins flagT b3T b1S) (hRev : BI mg mb "reversed" (.type "reversed")) (P : FnPin mg pins "_law_numbers" (stmtAt PW 18) ["codes"]) : FnOk prog w mg mb pins ⟨1, true⟩ "_law_numbers" numbersW := by
  refine FnOk.of_sem (n := 0) (nm := ["codes", "told", "code", "place"]) P (semS_cons (sem1_assignOwn (semF_list semA_nil) (.tail .head))
 (semS_cons (sem1_for (semI_rev hRev (semE_var .head) rfl (by decide +kernel))
 (semS_cons (sem1_if (semT_cmp (semE_bin (semE_bin (semE_var (.tail (.tail .head))) semE_int div_ok) semE_int mod_ok) semE_int eq_ok)
 (semS_cons (sem1_append semE_int (.tail .head))
 (semS_cons (sem1_assign semE_int (.tail (.tail (.tail .head))))
 semS_nil))
 semS_nil)
 (semS_cons (sem1_augStore (semE_neg semE_int) (semE_bin (semE_bin (semE_var (.tail (.tail .head))) semE_int mod_ok) (semE_var (.tail (.tail (.tail .head)))) mul_ok) iadd_ok (.tail .head))
 (semS_cons (sem1_aug semE_int imul_ok (.tail (.tail (.tail .head))))
 semS_nil)))
 semS_nil (.tail (.tail .head)))
 (semS_freeze 1 (semS_cons (sem1_return (semE_rev (semE_var (.tail .head))))
 semS_nil)))) ?_ ⟨["told", "code", "place"], rfl⟩ (by decide +kernel) (by decide +kernel) rfl rfl rfl
  rintro as Q ⟨cs, rfl, hE, hl, hq⟩
  refine ⟨rfl, ?_⟩
  refine seqW_of (σ1 := [.val (.lst ((natI cs).map .int)), .own ([] : List AV), .unset, .unset]) (fun K hK => hK) ?_
  have e0 : ((natI cs).map AV.int).reverse = cs.reverse.map fun (n : Nat) => AV.int (n : Nat) := by
    rw [← List.map_reverse, ← List.map_reverse, List.map_map]; rfl
  refine seqW_mk (varW_at rfl (forW_at e0 (forW_inv (NumInv cs) ?_ ?_ _ _ ⟨cs, [], _, _, _, (List.append_nil cs).symm, rfl, rfl, .start rfl rfl rfl⟩)))
  · rintro y xs σ ⟨pre, r, t, p, c0, e, g, rfl, st⟩ K hK
    rcases List.eq_nil_or_concat pre with rfl | ⟨pre, c, rfl⟩
    · exact nomatch g
    rw [List.concat_eq_append] at e g
    rw [List.reverse_append, List.reverse_singleton, List.singleton_append, List.map_cons] at g
    obtain ⟨rfl, g2⟩ := List.cons.inj g
    have e' : cs = pre ++ (c :: r) := by rw [e, List.append_assoc]; rfl
    have hr : r.length ≤ 1000 := by rw [e', List.length_append, List.length_cons] at hl; (first | lia | omega)
    have hnl := numsR_len r
    have e1 : (c : Int) / 64 % 2 = ((c / 64 % 2 : Nat) : Int) := by (first | lia | omega)
    have key : NumStep c r t p := by
      by_cases hc : c / 64 % 2 = 0
      · refine ⟨0, (numsR r).1, 1, ?_, by rw [numsR, if_pos hc, Nat.zero_add, Nat.mul_one, Nat.one_mul], by (first | lia | omega), .inl ⟨hc, rfl, rfl, ?_⟩⟩
        · cases st with
          | start e => rw [e]; exact hc
          | on e => exact e.cons
        · cases st with
          | start e h1 => rw [e, h1]; rfl
          | on e h1 => exact h1
      · have he : Ended r := by
          cases st with
          | start e => rw [e'] at hE; subst e; exact absurd hE.last hc
          | on e => exact e
        obtain ⟨n, ns, en⟩ := numsR_ne he
        refine ⟨n, ns, (numsR r).2, he.cons, by rw [numsR, if_neg hc, en]; rfl, by rw [en, List.length_cons] at hnl; (first | lia | omega), .inr ⟨hc, ?_, ?_⟩⟩
        · cases st with
          | start e => exact absurd e he.ne
          | on e h1 => rw [h1, en]
        · cases st with
          | start e => exact absurd e he.ne
          | on e h1 h2 => exact h2
    obtain ⟨n, ns, pl, h1, h2, h3, h4⟩ := key
    refine seqW_of (σ1 := [.val (.lst ((natI cs).map .int)), .own ((n :: ns).reverse.map fun (n : Nat) => AV.int (n : Nat)), .val (.int (c : Nat)), .val (.int (pl : Nat))]) (fun K hK => ⟨by decide, by decide, by decide, ?_⟩) ?_
    · rw [e1]
      rcases h4 with ⟨hc, rfl, rfl, rfl⟩ | ⟨hc, rfl, rfl⟩
      · refine ttB (b := ((c / 64 % 2 : Nat) : Int) == 0) (by rw [hc]; rfl) ?_
        refine (seqW_of (σ1 := [.val (.lst ((natI cs).map .int)), .own ((0 :: ns).reverse.map fun (n : Nat) => AV.int (n : Nat)), .val (.int (c : Nat)), p]) (fun K hK => ⟨_, rfl, by simp; (first | lia | omega), ?_⟩) hK)
        rw [List.reverse_cons, List.map_append] at hK; exact hK
      · exact ffB (b := ((c / 64 % 2 : Nat) : Int) == 0) (by rw [beq_eq_false_iff_ne]; exact fun q => hc (Int.ofNat.inj q)) hK
    refine seqW_of (σ1 := [.val (.lst ((natI cs).map .int)), .own (((n + c % 64 * pl) :: ns).reverse.map fun (n : Nat) => AV.int (n : Nat)), .val (.int (c : Nat)), .val (.int (pl : Nat))]) (fun K hK => ⟨_, rfl, ?_⟩) ?_
    · exact last_aug (s0 := .val (.lst ((natI cs).map .int))) (c := .val (.int (c : Nat))) (p := .val (.int (pl : Nat))) (n := n) (m := c) (pl := pl) h3 hK
    · refine ⟨.inr (by unfold Small; decide), hK _ ⟨pre, c :: r, _, _, _, e', g2, rfl, .on h1 (by rw [h2]) (by rw [h2]; rfl)⟩⟩
  · rintro σ ⟨pre, r, t, p, c0, e, g, rfl, st⟩
    have : pre = [] := by
      cases pre with
      | nil => rfl
      | cons x pre => rw [List.reverse_cons, List.map_append] at g; exact absurd g.symm (by simp)
    subst this
    rw [List.nil_append] at e
    subst e
    have et : t = .own ((numsR cs).1.reverse.map fun (n : Nat) => AV.int (n : Nat)) := by
      cases st with
      | start e => exact absurd e hE.ne
      | on e h1 => exact h1
    subst et
    have hnl := numsR_len cs
    refine seqN (seqW_mk (σ := [.val (.lst ((natI cs).map .int)), .val (.lst ((numsR cs).1.reverse.map fun (n : Nat) => AV.int (n : Nat))), c0, p]) (varW_at rfl ⟨by simp; (first | lia | omega), ?_⟩))
    rw [← List.map_reverse, List.reverse_reverse]
    rw [List.map_map] at hq
    exact hq
end
end Mine
-- Q7
set_option maxRecDepth 100000
set_option maxHeartbeats 4000000
set_option linter.unusedVariables false
set_option linter.unusedSimpArgs false
namespace Mine
open PySem PySem.Calls PyProof.Rows
def keepN (c : Nat) : Bool := !lostN c
theorem sub_two {x y : Nat} (h : x ≠ y) (h' : lowerL [x] ≠ lowerL [y]) : 2 ≤ subCost [x] [y] := by
  unfold subCost
  rw [if_neg (by simpa using h), if_neg (by simpa using h')]
  exact Int.le_refl _
theorem keep_iff {c : Nat} : keepN c = true ↔ lostN c = false := by unfold keepN; cases lostN c <;> simp
theorem turn_h1 {y z : Nat} (hy : y ∈ SL) (ky : keepN y = true) (hz : z ∈ SL) (kz : keepN z = true) : turnC foldN y ≤ subCost [foldN z] [y] := by
  have hT := (turnC_le foldN y).2
  have hid := n_idem z hz
  unfold subCost
  by_cases e : foldN z = y
  · subst e
    unfold turnC
    rw [hid, subCost_self, if_pos (beq_self_eq_true _)]
    exact Int.le_refl _
  · rw [if_neg (by simpa using e)]
    by_cases e2 : lowerL [foldN z] = lowerL [y]
    · rw [if_pos (by simpa using e2)]
      have hl := n_low z hz (keep_iff.mp kz)
      have h2 := n_two y hy (keep_iff.mp ky)
      rw [← e2, hl] at h2
      have h3 : turnC foldN y ≠ 2 := fun q => h2 q (by show [foldN z] = [foldN (foldN z)]; rw [hid])
      (first | lia | omega)
    · rw [if_neg (by simpa using e2)]; exact hT
theorem lost_mem {c : Nat} (h : lostN c = true) : c ∈ nothingL := by unfold lostN at h; simpa using h
theorem turn_h2 {y z : Nat} (ky : keepN y = false) (hz : z ∈ SL) (kz : keepN z = true) : 2 ≤ subCost [y] [foldN z] := by
  have hy : lostN y = true := by unfold keepN at ky; simpa using ky
  have hk := n_kept z hz (keep_iff.mp kz)
  have hne : y ≠ foldN z := fun e => by rw [← e, hy] at hk; cases hk
  refine sub_two hne ?_
  rw [n_lost y (lost_mem hy), n_low z hz (keep_iff.mp kz)]
  exact fun e => hne (List.cons.inj e).1
theorem turn_h3 {z : Nat} (hz : z ∈ SL) (kz : keepN z = true) : 2 ≤ subCost [8364] [foldN z] := by
  refine sub_two (fun e => n_euro z hz e.symm) ?_
  rw [n_signs.2.1, n_low z hz (keep_iff.mp kz)]
  exact fun e => n_euro z hz (List.cons.inj e).1.symm
theorem turn_h4 {x : Nat} (hx : x = 8364 ∨ x ∈ SL) : 2 ≤ subCost [x] [8365] := by
  rcases hx with rfl | hx
  · refine sub_two (by decide) ?_
    rw [n_signs.2.1, n_signs.2.2.1]; decide
  · have := n_kip x hx
    refine sub_two this.1 ?_
    rw [n_signs.2.2.1]; exact this.2
/-- the tape's prices -/
structure Tape (l : List Nat) : Prop where
  mem : ∀ c ∈ l, c ∈ SL
  len : l.length = 9
  last : ∃ l', l = l' ++ [55]
def lostI (l : List Nat) : Int := 2 * ((l.length : Int) - (l.filter keepN).length)
def turnI (l : List Nat) : Int := sumI (turnC foldN) (l.filter keepN)
variable {l : List Nat}
theorem Tape.kept (T : Tape l) : ∀ c ∈ l.filter keepN, c ∈ SL ∧ keepN c = true := fun c hc => ⟨T.mem c (List.mem_filter.mp hc).1, (List.mem_filter.mp hc).2⟩
theorem Tape.klen (T : Tape l) : (l.filter keepN).length ≤ 9 := T.len ▸ List.length_filter_le _ _
theorem Tape.dist1 (T : Tape l) {mx : Int} (h : mx = lostI l ∨ mx = lostI l - 1) : levD l (l.filter keepN) mx = lostI l :=
  levD_exact (by rw [T.len]; decide) (by have := T.klen; (first | lia | omega)) (least_lost keepN l) h
theorem Tape.dist2 (T : Tape l) {mx : Int} (h : mx = turnI l ∨ mx = turnI l - 1) : levD ((l.filter keepN).map foldN) (l.filter keepN) mx = turnI l :=
  levD_exact (by have := T.klen; rw [List.length_map]; (first | lia | omega)) (by have := T.klen; (first | lia | omega)) (least_folded _ fun y hy z hz => turn_h1 (T.kept y hy).1 (T.kept y hy).2 (T.kept z hz).1 (T.kept z hz).2) h
theorem Tape.dist3 (T : Tape l) {mx : Int} (h : mx = lostI l + turnI l + 4 ∨ mx = lostI l + turnI l + 4 - 1) : levD (8364 :: l) ((l.filter keepN).map foldN ++ [8365]) mx = lostI l + turnI l + 4 := by
  obtain ⟨l', hl⟩ := T.last
  refine levD_exact (by rw [List.length_cons, T.len]; decide) (by have := T.klen; rw [List.length_append, List.length_map, List.length_singleton]; (first | lia | omega))
    (least_both (fun y hy ky z hz kz => turn_h1 (T.mem y hy) ky (T.mem z hz) kz) (fun y hy ky z hz kz => turn_h2 ky (T.mem z hz) kz) (fun z hz kz => turn_h3 (T.mem z hz) kz) (fun x hx => turn_h4 ((List.mem_cons.mp hx).imp id (T.mem x))) (fun q => n_signs.1 (T.mem _ q)) hl (keep_iff.mpr n_signs.2.2.2.1) n_signs.2.2.2.2.1) h
theorem Tape.split (T : Tape l) : ∃ k', l.filter keepN = k' ++ [55] ∧ (l.filter keepN).map foldN = k'.map foldN ++ [55] := by
  obtain ⟨l', hl⟩ := T.last
  refine ⟨l'.filter keepN, ?_, ?_⟩
  · rw [hl, List.filter_append, List.filter_cons, if_pos (keep_iff.mpr n_signs.2.2.2.1), List.filter_nil]
  · rw [hl, List.filter_append, List.filter_cons, if_pos (keep_iff.mpr n_signs.2.2.2.1), List.filter_nil, List.map_append]
    have : foldN 55 = 55 := by decide +kernel
    rw [List.map_cons, List.map_nil, this]
theorem Tape.dist4 (T : Tape l) : levD (8364 :: l) ((l.filter keepN).map foldN ++ [8365]) 0 = 1 := by
  obtain ⟨l', hl⟩ := T.last
  have hk := T.klen
  have hlen : ((l.filter keepN).map foldN ++ [8365]).length ≤ 40 := by rw [List.length_append, List.length_map, List.length_singleton]; (first | lia | omega)
  have hmem : ∀ x ∈ (l.filter keepN).map foldN ++ [8365], 8364 ≠ x := fun x hx => by
    rcases List.mem_append.mp hx with hx | hx
    · obtain ⟨c, hc, rfl⟩ := List.mem_map.mp hx
      exact fun e => n_euro c (T.kept c hc).1 e.symm
    · rw [List.mem_singleton.mp hx]; decide
  have hs : sufN (8364 :: l) ((l.filter keepN).map foldN ++ [8365]) = 0 := by
    unfold sufN
    rw [hl, ← List.cons_append, List.reverse_append, List.reverse_append]
    show preN (55 :: _) (8365 :: _) = 0
    unfold preN; rw [if_neg (by decide)]
  cases e : (l.filter keepN).map foldN ++ [8365] with
  | nil => simp at e
  | cons y b =>
    rw [e] at hlen hs hmem
    exact levD_zero (hmem y (.head _)) hs (by rw [List.length_cons, T.len]; decide) hlen
theorem ended_snoc (l : List Nat) : Ended (l ++ [55]) := by
  induction l with
  | nil => exact rfl
  | cons c l ih =>
    cases l with
    | nil => exact rfl
    | cons d l => exact ih
theorem Tape.ended (T : Tape l) : Ended l ∧ Ended (l.filter keepN) ∧ Ended ((l.filter keepN).map foldN) := by
  obtain ⟨l', hl⟩ := T.last
  obtain ⟨k', h1, h2⟩ := T.split
  exact ⟨hl ▸ ended_snoc _, h1 ▸ ended_snoc _, h2 ▸ ended_snoc _⟩
theorem low_len : ∀ c ∈ SL, (lowerL [c]).length ≤ 1000000 ∧ (lowerL [foldN c]).length ≤ 1000000 := by decide +kernel
theorem low_two : (lowerL [8364]).length ≤ 1000000 ∧ (lowerL [8365]).length ≤ 1000000 := by decide +kernel
end Mine
-- D2
set_option maxRecDepth 100000
set_option maxHeartbeats 4000000
set_option linter.unusedVariables false
set_option linter.unusedSimpArgs false
namespace Mine
open PySem PySem.Calls PyProof.Rows PySem.SeqAt PySem.MeetsSeq
def nameL : List (List Nat) := (["OPTIMIZED", "NEWLOCALS", "VARARGS", "VARKEYWORDS", "NESTED", "GENERATOR", "NOFREE", "COROUTINE", "ITERABLE_COROUTINE", "ASYNC_GENERATOR"] : List Str).map strL
def wordN (k : Nat) : List Nat := flName FT (2 ^ k)
def bitsL (n : Nat) : List Nat := (List.range 30).filter n.testBit
def wordsL (n : Nat) : List (List Nat) := if bitsL n = [] then [strL "0x0"] else (bitsL n).map wordN
theorem words_k : ∀ k < 30, (if k < 10 then nameL.getD k [] else (strL "0x" ++ [(strL "1248").getD (k % 4) 0]) ++ (List.replicate (k / 4) (strL "0")).flatten) = wordN k ∧ (wordN k).length ≤ 1000 := by decide +kernel
theorem word_bit (n k : Nat) : (Builtin.bitAnd ((n : Int) / 2 ^ k) 1 != 0) = n.testBit k := by
  have e : (n : Int) / 2 ^ k = ((n / 2 ^ k : Nat) : Int) := by rw [Int.natCast_ediv, Int.natCast_pow]; rfl
  rw [e, show (1 : Int) = ((1 : Nat) : Int) from rfl, and_nat, Nat.and_one_is_mod, Nat.testBit_eq_decide_div_mod_eq]
  generalize n / 2 ^ k = m
  rcases Nat.mod_two_eq_zero_or_one m with h | h <;> rw [h] <;> rfl
theorem bit_ifW {n k : Nat} {R : Bool → Prop} (h : R (n.testBit k)) : shrW (.int (n : Nat)) (.int (k : Nat)) fun a => andW a (.int 1) fun a => truW a R := by
  refine ⟨Int.natCast_nonneg k, ?_⟩
  show R (Builtin.bitAnd ((n : Int) / 2 ^ k) 1 != 0)
  rw [word_bit]; exact h
theorem or_words {n : Nat} {K : AV → Prop} (h : K (.lst ((wordsL n).map .str))) : (([] : List AV) ++ (bitsL n).map fun k => AV.str (wordN k)).length ≤ 1000000 ∧ (if (!(([] : List AV) ++ (bitsL n).map fun k => AV.str (wordN k)).isEmpty) = true then K (.lst (([] : List AV) ++ (bitsL n).map fun k => AV.str (wordN k))) else K (.lst [.str (strL "0x0")])) := by
  refine ⟨?_, ?_⟩
  · rw [List.nil_append, List.length_map]
    exact Nat.le_trans (List.length_filter_le _ _) (by rw [List.length_range]; decide)
  · unfold wordsL at h
    cases e : bitsL n with
    | nil => rw [e, if_pos rfl] at h; exact h
    | cons k r =>
      rw [e, if_neg (List.cons_ne_nil _ _), List.map_map] at h
      exact h
section
variable {prog : Program} {w : World} {mg mb : Str → Option Value} {pins : List (Addr × Obj)} {flagT b3T : Int → Option (List Nat)} {b1S : Int → Bool}
inductive wordsW (as : List AV) (Q : AV → Prop) : Prop
  | mk (n : Nat) (e : as = [.int (n : Nat)]) (q : Q (.lst ((wordsL n).map .str)))
theorem words_ok (B : Base prog w mg mb pins flagT b3T b1S) (P : FnPin mg pins "_law_words" (stmtAt PW 17) ["number"]) : FnOk prog w mg mb pins ⟨1, true⟩ "_law_words" wordsW := by
  refine FnOk.of_sem (n := 0) (nm := ["number", "names"]) P (semS_cons (sem1_assign (semE_list semA_const) (.tail .head))
 (semS_cons (sem1_return (semE_or (semE_ofF (semF_comp (caps := [(0, "number"), (1, "names")]) (semI_rng (semA_cons semE_int semA_nil) (by decide +kernel) B.range.m B.range.b) (semC_one (semT_of (semE_bin (semE_bin (semE_var .head) (semE_var (.tail (.tail .head))) shr_ok) semE_int and_ok))) (semE_ite (semT_cmp (semE_var (.tail (.tail .head))) semE_int lt_ok) (semE_sub (semE_var (.tail .head)) (semE_var (.tail (.tail .head)))) (semE_bin (semE_bin semE_str (semE_sub semE_str (semE_bin (semE_var (.tail (.tail .head))) semE_int mod_ok)) add_ok) (semE_bin semE_str (semE_bin (semE_var (.tail (.tail .head))) semE_int div_ok) mulS_ok) add_ok)))) (semE_list (semA_cons semE_str semA_nil))))
 semS_nil)) ?_ ⟨["names"], rfl⟩ (by decide +kernel) (by decide +kernel) rfl rfl rfl
  rintro as Q ⟨n, rfl, hq⟩
  refine ⟨rfl, ?_⟩
  refine seqW_of (σ1 := [.val (.int (n : Nat)), .val (.lst (nameL.map .str))]) (fun K hK => hK) ?_
  refine seqW_mk ⟨rfl, by decide, by decide, by decide, compL_at (range_n 30) (compL_on (f := fun (i : Nat) => AV.int (i : Nat)) (fun k => n.testBit k) (fun k => .str (wordN k)) (List.range 30) [] (fun k hk K hK => ?_) (fun k hk _ K hK => ?_) (or_words hq))⟩
  · exact bit_ifW hK
  · have hk30 := List.mem_range.mp hk
    have hw := words_k k hk30
    by_cases h10 : k < 10
    · refine if_t (decide_eq_true (Int.ofNat_lt.mpr h10)) ?_
      rw [if_pos h10] at hw
      exact item_lmap (f := AV.str) (d := []) (row := nameL) (n := 10) (Int.natCast_nonneg k) (Int.ofNat_lt.mpr h10) (by decide) (by decide) (by rw [Int.toNat_natCast, hw.1]; exact hK)
    · refine if_f (decide_eq_false fun q => h10 (Int.ofNat_lt.mp q)) ?_
      rw [if_neg h10] at hw
      have e1 : ((k : Int) % 4) = ((k % 4 : Nat) : Int) := by (first | lia | omega)
      have e2 : ((k : Int) / 4) = ((k / 4 : Nat) : Int) := by (first | lia | omega)
      have hm : k % 4 < (strL "1248").length := by
        have : (strL "1248").length = 4 := by decide +kernel
        rw [this]; (first | lia | omega)
      refine ⟨by decide, ?_⟩
      rw [e1]
      refine ⟨by decide +kernel, ?_⟩
      rw [getA_nat hm]
      have g : (strL "1248")[k % 4] = (strL "1248").getD (k % 4) 0 := by rw [List.getD_eq_getElem?_getD, List.getElem?_eq_getElem hm]; rfl
      rw [g]
      refine ⟨?_, by decide, by decide, ?_⟩
      · have : (strL "0x").length = 2 := by decide +kernel
        rw [this, List.length_singleton]; decide
      rw [e2]
      refine ⟨Int.natCast_nonneg _, by (first | lia | omega), by decide +kernel, ?_⟩
      rw [Int.toNat_natCast]
      have hl := congrArg List.length hw.1
      rw [List.length_append] at hl
      refine ⟨by rw [hl]; exact Nat.le_trans hw.2 (by decide), ?_⟩
      rw [hw.1]; exact hK
end
end Mine
-- D5a
set_option maxRecDepth 100000
set_option maxHeartbeats 4000000
set_option linter.unusedVariables false
set_option linter.unusedSimpArgs false
namespace Mine
open PySem PySem.Calls PyProof.Rows PySem.SeqAt PySem.MeetsSeq
def popN (m b a : Nat) : Nat := ((List.range m).filter fun k => b.testBit k != a.testBit k).length
theorem popN_add (m n b a : Nat) : popN (m + n) b a = popN m (b % 2 ^ m) (a % 2 ^ m) + popN n (b / 2 ^ m) (a / 2 ^ m) := by
  unfold popN
  rw [List.range_add, List.filter_append, List.length_append, List.filter_map, List.length_map]
  congr 2
  · refine List.filter_congr fun k hk => ?_
    rw [Nat.testBit_mod_two_pow, Nat.testBit_mod_two_pow, decide_eq_true (List.mem_range.mp hk), Bool.true_and, Bool.true_and]
  · refine List.filter_congr fun k hk => ?_
    rw [Nat.testBit_div_two_pow, Nat.testBit_div_two_pow, Function.comp_apply, Nat.add_comm]
theorem popN_same (m b : Nat) : popN m b b = 0 := by
  unfold popN
  rw [List.length_eq_zero_iff, List.filter_eq_nil_iff]
  intro k _; simp
theorem word_all : ((List.range 30).map wordN).Nodup ∧ strL "0x0" ∉ (List.range 30).map wordN ∧ hexL 0 = strL "0x0" ∧ pfGo FT (List.range 32) 0 [] = [strL "0x0"] ∧ (hexL 0).length ≤ 1000 := by decide +kernel
theorem word_ne {k : Nat} (h : k < 30) : wordN k ≠ strL "0x0" := fun e => word_all.2.1 (e ▸ List.mem_map_of_mem (List.mem_range.mpr h))
theorem word_inj {j k : Nat} (hj : j < 30) (hk : k < 30) (e : wordN j = wordN k) : j = k := by
  have hn := word_all.1
  have h1 : ((List.range 30).map wordN)[j]? = some (wordN j) := by rw [List.getElem?_map, List.getElem?_range hj]; rfl
  have h2 : ((List.range 30).map wordN)[k]? = some (wordN j) := by rw [List.getElem?_map, List.getElem?_range hk, e]; rfl
  exact nodup_get hn h1 h2
theorem bits_mem {n k : Nat} : k ∈ bitsL n ↔ k < 30 ∧ n.testBit k = true := by unfold bitsL; rw [List.mem_filter, List.mem_range]
theorem word_mem {n k : Nat} (hk : k < 30) : wordN k ∈ wordsL n ↔ n.testBit k = true := by
  unfold wordsL
  split
  · rename_i e
    refine ⟨fun h => absurd (List.mem_singleton.mp h) (word_ne hk), fun h => ?_⟩
    have : k ∈ bitsL n := bits_mem.mpr ⟨hk, h⟩
    rw [e] at this; cases this
  · refine ⟨fun h => ?_, fun h => List.mem_map_of_mem (bits_mem.mpr ⟨hk, h⟩)⟩
    obtain ⟨j, hj, e⟩ := List.mem_map.mp h
    obtain ⟨h1, h2⟩ := bits_mem.mp hj
    rw [← word_inj h1 hk e]; exact h2
def pickW (L R : List (List Nat)) (w : List Nat) : Bool := !(w == strL "0x0") && !(decide (w ∈ L) == decide (w ∈ R))
theorem pick_word {b a k : Nat} (hk : k < 30) : pickW (wordsL b) (wordsL a) (wordN k) = (b.testBit k != a.testBit k) := by
  unfold pickW
  have h1 : (wordN k == strL "0x0") = false := beq_eq_false_iff_ne.mpr (word_ne hk)
  have h2 : decide (wordN k ∈ wordsL b) = b.testBit k := by rw [Bool.eq_iff_iff, decide_eq_true_eq]; exact word_mem hk
  have h3 : decide (wordN k ∈ wordsL a) = a.testBit k := by rw [Bool.eq_iff_iff, decide_eq_true_eq]; exact word_mem hk
  rw [h1, h2, h3]; rfl
theorem pick_one (b a n : Nat) : ((wordsL n).filter (pickW (wordsL b) (wordsL a))).length = ((List.range 30).filter fun k => n.testBit k && (b.testBit k != a.testBit k)).length := by
  have key : ((bitsL n).map wordN).filter (pickW (wordsL b) (wordsL a)) = ((List.range 30).filter fun k => n.testBit k && (b.testBit k != a.testBit k)).map wordN := by
    rw [List.filter_map]
    congr 1
    unfold bitsL
    rw [List.filter_filter]
    refine List.filter_congr fun k hk => ?_
    rw [Function.comp_apply, pick_word (List.mem_range.mp hk), Bool.and_comm]
  by_cases e : bitsL n = []
  · have h1 : wordsL n = [strL "0x0"] := by unfold wordsL; rw [if_pos e]
    rw [e, List.map_nil, List.filter_nil] at key
    rw [h1, List.filter_cons, if_neg (by unfold pickW; simp), List.filter_nil, List.map_eq_nil_iff.mp key.symm]; rfl
  · have h1 : wordsL n = (bitsL n).map wordN := by unfold wordsL; rw [if_neg e]
    rw [h1, key, List.length_map]
theorem filter_two {α : Type} (p q : α → Bool) (l : List α) : (l.filter fun x => p x && (p x != q x)).length + (l.filter fun x => q x && (p x != q x)).length = (l.filter fun x => p x != q x).length := by
  induction l with
  | nil => rfl
  | cons x l ih =>
    rw [List.filter_cons, List.filter_cons, List.filter_cons]
    cases p x <;> cases q x <;> simp <;> (first | lia | omega)
theorem pick_count (b a : Nat) : ((wordsL b ++ wordsL a).filter (pickW (wordsL b) (wordsL a))).length = popN 30 b a := by
  rw [List.filter_append, List.length_append, pick_one, pick_one]
  exact filter_two _ _ _
theorem words_len (n : Nat) : (wordsL n).length ≤ 30 := by
  unfold wordsL
  split
  · decide
  · rw [List.length_map]; unfold bitsL
    exact Nat.le_trans (List.length_filter_le _ _) (by rw [List.length_range]; decide)
theorem words_ne (n : Nat) : wordsL n ≠ [] := by
  unfold wordsL
  split
  · exact List.cons_ne_nil _ _
  · rename_i h; exact fun e => h (List.map_eq_nil_iff.mp e)
theorem word_comma : (∀ k < 30, 44 ∉ wordN k) ∧ 44 ∉ strL "0x0" ∧ (strL "0x0").length = 3 := by decide +kernel
theorem words_all {n : Nat} {w : List Nat} (h : w ∈ wordsL n) : 44 ∉ w ∧ w.length ≤ 1000 := by
  unfold wordsL at h
  split at h
  · rw [List.mem_singleton.mp h]; exact ⟨word_comma.2.1, by rw [word_comma.2.2]; decide⟩
  · obtain ⟨k, hk, rfl⟩ := List.mem_map.mp h
    have := (bits_mem.mp hk).1
    exact ⟨word_comma.1 k this, (words_k k this).2⟩
theorem fl_len : ∀ i < 32, (flName FT (2 ^ i)).length ≤ 1000 := by decide +kernel
theorem pfHex_zero : pfHex (List.range 32) 0 := by
  have : ∀ l : List Nat, pfHex l 0 := by
    intro l
    induction l with
    | nil => exact word_all.2.2.2.2
    | cons i r ih =>
      unfold pfHex
      have e : Builtin.bitAnd 0 (2 ^ i) = 0 := by
        have := bitAnd_two 0 i
        rw [Nat.zero_testBit] at this
        simpa using this
      rw [if_pos e]; exact ih
  exact this _
/-- the flags' words -/
theorem pretty_words {n : Nat} (h : n < 2 ^ 30) : pfGo FT (List.range 32) (n : Int) [] = wordsL n ∧ pfHex (List.range 32) (n : Int) := by
  by_cases h0 : n = 0
  · subst h0
    refine ⟨?_, pfHex_zero⟩
    have e : bitsL 0 = [] := by unfold bitsL; rw [List.filter_eq_nil_iff]; intro k _; rw [Nat.zero_testBit]; exact Bool.false_ne_true
    unfold wordsL
    rw [if_pos e]; exact word_all.2.2.2.1
  · have hlt : n < 2 ^ 32 := Nat.lt_of_lt_of_le h (by decide)
    obtain ⟨e, hx⟩ := pf_go FT 32 0 n [] rfl (by rw [Nat.pow_zero, Nat.mod_one]) h0 hlt
    rw [← List.range_eq_range'] at e hx
    have eb : (List.range 32).filter n.testBit = bitsL n := by
      rw [show (32 : Nat) = 30 + 2 from rfl, List.range_add, List.filter_append]
      have : ((List.range 2).map (30 + ·)).filter n.testBit = [] := by
        rw [List.filter_eq_nil_iff]
        intro k hk
        obtain ⟨j, _, rfl⟩ := List.mem_map.mp hk
        rw [Nat.testBit_lt_two_pow (Nat.lt_of_lt_of_le h (Nat.pow_le_pow_right (by decide) (by (first | lia | omega))))]
        exact Bool.false_ne_true
      rw [this, List.append_nil]; rfl
    have en : bitsL n ≠ [] := by
      intro e
      refine h0 (Nat.eq_of_testBit_eq fun k => ?_)
      rw [Nat.zero_testBit]
      by_cases hk : k < 30
      · cases t : n.testBit k with
        | false => rfl
        | true => have := bits_mem.mpr ⟨hk, t⟩; rw [e] at this; cases this
      · exact Nat.testBit_lt_two_pow (Nat.lt_of_lt_of_le h (Nat.pow_le_pow_right (by decide) (by (first | lia | omega))))
    rw [e, eb, List.nil_append]
    unfold wordsL
    rw [if_neg en]
    exact ⟨rfl, hx⟩
end Mine
-- Q8
set_option maxRecDepth 100000
set_option maxHeartbeats 4000000
set_option linter.unusedVariables false
set_option linter.unusedSimpArgs false
namespace Mine
open PySem PySem.Calls PyProof.Rows
inductive PairOk : List Nat → List Nat → Nat → Prop
  | nil : PairOk [] [] 0
  | cons {n n' : Nat} {ns ns' : List Nat} {s : Nat} : n < 2 ^ 60 → n' < 2 ^ 60 → PairOk ns ns' s → PairOk (n :: ns) (n' :: ns') (popN 60 n n' + s)
def sumB (r : List Nat) : Nat := (r.map fun c => bits6 (c % 64 ^^^ foldN c % 64)).sum
theorem popN_small {j m n n' : Nat} (h : n < 2 ^ j) (h' : n' < 2 ^ j) : popN (j + m) n n' = popN j n n' := by
  rw [popN_add, Nat.mod_eq_of_lt h, Nat.mod_eq_of_lt h', Nat.div_eq_of_lt h, Nat.div_eq_of_lt h', popN_same, Nat.add_zero]
theorem pop6 {x y : Nat} : popN 6 x y = bits6 (x ^^^ y) := by
  unfold popN bits6
  congr 1
  refine List.filter_congr fun k _ => ?_
  rw [Nat.testBit_xor]
theorem pop_one {x y : Nat} (h : x < 64) (h' : y < 64) : popN 60 x y = bits6 (x ^^^ y) := by
  rw [show (60 : Nat) = 6 + 54 from rfl, popN_small (j := 6) h h', pop6]
theorem pop_digit {i n n' x x' : Nat} (hi : i ≤ 9) (h : n < 64 ^ i) (h' : n' < 64 ^ i) (hx : x < 64) (hx' : x' < 64) : popN 60 (n + x * 64 ^ i) (n' + x' * 64 ^ i) = bits6 (x ^^^ x') + popN 60 n n' := by
  have e : 64 ^ i = 2 ^ (6 * i) := by rw [show (64 : Nat) = 2 ^ 6 from rfl, ← Nat.pow_mul]
  rw [e] at h h' ⊢
  have e60 : (60 : Nat) = 6 * i + (6 + (54 - 6 * i)) := by (first | lia | omega)
  have hp : 0 < 2 ^ (6 * i) := Nat.two_pow_pos _
  have m1 : ∀ {a b : Nat}, a < 2 ^ (6 * i) → (a + b * 2 ^ (6 * i)) % 2 ^ (6 * i) = a ∧ (a + b * 2 ^ (6 * i)) / 2 ^ (6 * i) = b := fun {a b} ha => ⟨by rw [Nat.add_mul_mod_self_right, Nat.mod_eq_of_lt ha], by rw [Nat.add_mul_div_right _ _ hp, Nat.div_eq_of_lt ha, Nat.zero_add]⟩
  conv => lhs; rw [e60, popN_add, (m1 h).1, (m1 h).2, (m1 h').1, (m1 h').2, popN_small (j := 6) hx hx', pop6]
  conv => rhs; rw [e60, popN_small h h']
  exact Nat.add_comm _ _
inductive NumP (r : List Nat) : Prop
  | mk (j n n' s : Nat) (ns ns' : List Nat) (hj : j ≤ r.length) (e1 : (numsR r).2 = 64 ^ j) (e2 : (numsR (r.map foldN)).2 = 64 ^ j) (h1 : (numsR r).1 = n :: ns) (h2 : (numsR (r.map foldN)).1 = n' :: ns') (b1 : n < 64 ^ j) (b2 : n' < 64 ^ j) (p : PairOk ns ns' s) (t : popN 60 n n' + s = sumB r)
theorem pow_lt60 {j n : Nat} (hj : j ≤ 9) (h : n < 64 ^ j) : n < 2 ^ 60 := by
  have : 64 ^ j ≤ 64 ^ 9 := Nat.pow_le_pow_right (by decide) hj
  exact Nat.lt_of_lt_of_le h (Nat.le_trans this (by decide))
theorem num_pairs : ∀ (r : List Nat), (∀ c ∈ r, foldN c / 64 % 2 = c / 64 % 2) → r.length ≤ 9 → Ended r → NumP r
  | [], _, _, h => h.elim
  | c :: r, hf, hl, hE => by
    have hc := hf c (.head _)
    have m64 : c % 64 < 64 := Nat.mod_lt _ (by decide)
    have m64' : foldN c % 64 < 64 := Nat.mod_lt _ (by decide)
    have hs : sumB (c :: r) = bits6 (c % 64 ^^^ foldN c % 64) + sumB r := by unfold sumB; rw [List.map_cons, List.sum_cons]
    rw [List.length_cons] at hl
    by_cases h0 : c / 64 % 2 = 0
    · have h0' : foldN c / 64 % 2 = 0 := by rw [hc]; exact h0
      have e1 : numsR (c :: r) = (c % 64 :: (numsR r).1, 64) := by rw [numsR, if_pos h0]
      have e2 : numsR ((c :: r).map foldN) = (foldN c % 64 :: (numsR (r.map foldN)).1, 64) := by rw [List.map_cons, numsR, if_pos h0']
      have tail : ∃ s, PairOk (numsR r).1 (numsR (r.map foldN)).1 s ∧ s = sumB r := by
        cases r with
        | nil => exact ⟨0, .nil, rfl⟩
        | cons d r =>
          obtain ⟨j, n, n', s, ns, ns', hj, _, _, h1, h2, b1, b2, p, t⟩ := num_pairs (d :: r) (fun x hx => hf x (.tail _ hx)) (by (first | lia | omega)) hE
          rw [h1, h2]
          have hj9 : j ≤ 9 := by (first | lia | omega)
          exact ⟨_, .cons (pow_lt60 hj9 b1) (pow_lt60 hj9 b2) p, t⟩
      obtain ⟨s, p, es⟩ := tail
      exact ⟨1, _, _, s, _, _, by rw [List.length_cons]; (first | lia | omega), by rw [e1], by rw [e2], by rw [e1], by rw [e2], m64, m64', p, by rw [hs, pop_one m64 m64', es]⟩
    · have h0' : ¬ foldN c / 64 % 2 = 0 := by rw [hc]; exact h0
      obtain ⟨j, n, n', s, ns, ns', hj, q1, q2, h1, h2, b1, b2, p, t⟩ := num_pairs r (fun x hx => hf x (.tail _ hx)) (by (first | lia | omega)) (hE.tail h0)
      have e1 : numsR (c :: r) = ((n + c % 64 * 64 ^ j) :: ns, 64 ^ j * 64) := by rw [numsR, if_neg h0, h1, q1]; rfl
      have e2 : numsR ((c :: r).map foldN) = ((n' + foldN c % 64 * 64 ^ j) :: ns', 64 ^ j * 64) := by rw [List.map_cons, numsR, if_neg h0', h2, q2]; rfl
      have hb : ∀ {a x : Nat}, a < 64 ^ j → x < 64 → a + x * 64 ^ j < 64 ^ (j + 1) := fun {a x} ha hx => by
        have : (x + 1) * 64 ^ j ≤ 64 * 64 ^ j := Nat.mul_le_mul_right _ hx
        rw [Nat.add_mul, Nat.one_mul] at this
        rw [Nat.pow_succ, Nat.mul_comm (64 ^ j) 64]; (first | lia | omega)
      refine ⟨j + 1, _, _, s, _, _, by rw [List.length_cons]; (first | lia | omega), by rw [e1, Nat.pow_succ], by rw [e2, Nat.pow_succ], by rw [e1], by rw [e2], hb b1 m64, hb b2 m64', p, ?_⟩
      rw [hs, pop_digit (by (first | lia | omega)) b1 b2 m64 m64', Nat.add_assoc, t]
theorem sumB_turn : ∀ (r : List Nat), (∀ c ∈ r, c ∈ SL ∧ keepN c = true) → (sumB r : Int) = sumI (turnC foldN) r
  | [], _ => rfl
  | c :: r, h => by
    have hc := h c (.head _)
    have := (n_bits c hc.1 (keep_iff.mp hc.2)).1
    have ih := sumB_turn r fun x hx => h x (.tail _ hx)
    unfold sumB at ih ⊢
    rw [List.map_cons, List.sum_cons, sumI_cons, Int.natCast_add, ih, this]
/-- the numbers before and behind, two by two -/
theorem Tape.pairs {l : List Nat} (T : Tape l) : ∃ s, PairOk (numsR (l.filter keepN)).1 (numsR ((l.filter keepN).map foldN)).1 s ∧ (s : Int) = turnI l := by
  obtain ⟨j, n, n', s, ns, ns', hj, _, _, h1, h2, b1, b2, p, t⟩ := num_pairs (l.filter keepN) (fun c hc => (n_bits c (T.kept c hc).1 (keep_iff.mp (T.kept c hc).2)).2) T.klen T.ended.2.1
  have hj9 : j ≤ 9 := Nat.le_trans hj T.klen
  rw [h1, h2]
  exact ⟨_, .cons (pow_lt60 hj9 b1) (pow_lt60 hj9 b2) p, by rw [t]; exact sumB_turn _ T.kept⟩
end Mine
-- D1
set_option maxRecDepth 100000
set_option maxHeartbeats 4000000
set_option linter.unusedVariables false
set_option linter.unusedSimpArgs false
namespace Mine
open PySem PySem.Calls PyProof.Rows PySem.SeqAt PySem.MeetsSeq
theorem inL_all {We : WE} {pre : Sto} {h : AV → AV} {Q : List AV → Prop} : ∀ (ys acc : List AV), (∀ y ∈ ys, ∀ K : AV → Prop, K (h y) → We (pre ++ [.val y]) K) → acc.length + ys.length ≤ 100000 → Q (acc ++ ys.map h) → inL We pre ys acc Q
  | [], acc, _, _, hq => by rw [List.map_nil, List.append_nil] at hq; exact hq
  | y :: ys, acc, hw, hl, hq => by
    rw [List.length_cons] at hl
    refine ⟨by (first | lia | omega), hw y (.head _) _ (inL_all ys _ (fun z hz => hw z (.tail _ hz)) (by rw [List.length_append, List.length_singleton]; (first | lia | omega)) ?_)⟩
    rw [List.append_assoc]; exact hq
theorem compTL2_all {α : Type} {n : Nat} {Wi : Sto → (List AV → Prop) → Prop} {We : WE} {Q : List AV → Prop} (f g : α → List AV) (h : α → AV → AV) : ∀ (rs : List α) (acc : List AV), (∀ r ∈ rs, (f r).length = n) → (∀ r ∈ rs, ∀ K : List AV → Prop, K (g r) → Wi ((f r).map .val ++ [.unset]) K) →
    (∀ r ∈ rs, ∀ y ∈ g r, ∀ K : AV → Prop, K (h r y) → We ((f r).map .val ++ [.val y]) K) → acc.length + (rs.map fun r => (g r).length).sum ≤ 100000 → Q (acc ++ (rs.map fun r => (g r).map (h r)).flatten) → compTL2 n Wi We (rs.map fun r => .tup (f r)) acc Q
  | [], acc, _, _, _, _, hq => by rw [List.map_nil, List.flatten_nil, List.append_nil] at hq; exact hq
  | r :: rs, acc, h1, h2, h3, h4, hq => by
    rw [List.map_cons, List.sum_cons] at h4
    refine ⟨f r, rfl, h1 r (.head _), h2 r (.head _) _ (inL_all (h := h r) _ _ (h3 r (.head _)) (by (first | lia | omega)) (compTL2_all f g h rs _ (fun x hx => h1 x (.tail _ hx)) (fun x hx => h2 x (.tail _ hx)) (fun x hx => h3 x (.tail _ hx)) (by rw [List.length_append, List.length_map]; (first | lia | omega)) ?_))⟩
    rw [List.append_assoc]; exact hq
theorem itemsTW_at {xs : List AV} {Q : List AV → Prop} (h : Q xs) : itemsTW (.tup xs) Q := h
def pairsI : List (Int × Int) := pairsL.map fun p => ((p.1 : Int), (p.2 : Int))
def runF (r : Nat × Nat × Nat × Nat) : List AV := [.int (r.1 : Nat), .int (r.2.1 : Nat), .int (r.2.2.1 : Nat), .int (r.2.2.2 : Nat)]
def runG (r : Nat × Nat × Nat × Nat) : List AV := (stepL r.2.1 r.2.2.1).map fun (k : Nat) => .int (k : Nat)
def runH (r : Nat × Nat × Nat × Nat) : AV → AV
  | .int k => .tup [.int ((r.1 : Nat) + k), .int ((r.2.2.2 : Nat) + k)]
  | _ => .none
theorem run_rng : ∀ r ∈ runsL, (0 < r.2.2.1 ∧ r.2.2.1 < 1000 ∧ r.2.1 < 1000) ∧ (List.range (cntR 0 (r.2.1 : Nat) (r.2.2.1 : Nat))).map (fun (i : Nat) => (0 + (i : Int) * (r.2.2.1 : Nat) : Int)) = (stepL r.2.1 r.2.2.1).map (fun (k : Nat) => (k : Int)) := by decide +kernel
theorem run_items {r : Nat × Nat × Nat × Nat} (h : r ∈ runsL) : rangeL 0 (r.2.2.1 : Nat) (cntR 0 (r.2.1 : Nat) (r.2.2.1 : Nat)) = runG r := by
  have := congrArg (List.map AV.int) (run_rng r h).2
  rw [List.map_map, List.map_map] at this
  exact this
theorem run_len : ([] : List AV).length + (runsL.map fun r => (runG r).length).sum ≤ 100000 := by
  have : (runsL.map fun r => (stepL r.2.1 r.2.2.1).length).sum ≤ 100000 := by decide +kernel
  simpa [runG] using this
theorem runs_all : (runsL.map fun r => (runG r).map (runH r)).flatten = prs pairsI := by
  unfold prs pairsI pairsL
  rw [List.map_map, List.map_flatten, List.map_map]
  congr 1
section
variable {prog : Program} {w : World} {mg mb : Str → Option Value} {pins : List (Addr × Obj)} {flagT b3T : Int → Option (List Nat)} {b1S : Int → Bool}
def pairsW (as : List AV) (Q : AV → Prop) : Prop := as = [] ∧ Q (.lst (prs pairsI))
theorem pairs_ok (B : Base prog w mg mb pins flagT b3T b1S) (P : FnPin mg pins "_law_pairs" (stmtAt PW 16) []) : FnOk prog w mg mb pins ⟨1, true⟩ "_law_pairs" pairsW := by
  refine FnOk.of_sem (n := 0) (nm := ["runs"]) P (semS_cons (sem1_assign (semE_tuple semA_const) .head)
 (semS_cons (sem1_return (semE_ofF (semF_compT2 (es := [("first", _), ("size", _), ("step", _), ("small", _)]) (semIT_tup (semE_var .head) rfl) (semI_rng (semA_cons semE_int (semA_cons (semE_var (.tail .head)) (semA_cons (semE_var (.tail (.tail .head))) semA_nil))) (by decide +kernel) B.range.m B.range.b) (semE_tuple (semA_cons (semE_bin (semE_var .head) (semE_var (.tail (.tail (.tail (.tail .head))))) add_ok) (semA_cons (semE_bin (semE_var (.tail (.tail (.tail .head)))) (semE_var (.tail (.tail (.tail (.tail .head))))) add_ok) semA_nil))) rfl)))
 semS_nil)) ?_ ⟨["runs"], rfl⟩ (by decide +kernel) (by decide +kernel) rfl rfl rfl
  rintro as Q ⟨rfl, hq⟩
  refine ⟨rfl, ?_⟩
  refine seqW_of (σ1 := [.val (.tup (runsL.map fun r => .tup (runF r)))]) (fun K hK => hK) ?_
  refine seqW_mk (varW_at rfl (itemsTW_at (compTL2_all runF runG runH runsL [] (fun _ _ => rfl) (fun r hr K hK => ?_) (fun r hr y hy K hK => ?_) run_len ?_)))
  · obtain ⟨⟨h1, h2, h3⟩, _⟩ := run_rng r hr
    refine ⟨by (first | lia | omega), by (first | lia | omega), by (first | lia | omega), by (first | lia | omega), by (first | lia | omega), by (first | lia | omega), ?_⟩
    show K (rangeL 0 (r.2.2.1 : Nat) (cntR 0 (r.2.1 : Nat) (r.2.2.1 : Nat)))
    rw [run_items hr]; exact hK
  · obtain ⟨k, _, rfl⟩ := List.mem_map.mp hy
    exact hK
  · rw [List.nil_append, runs_all]; exact hq
end
end Mine
-- Q9
set_option maxRecDepth 100000
set_option maxHeartbeats 4000000
set_option linter.unusedVariables false
set_option linter.unusedSimpArgs false
namespace Mine
open PySem PySem.Calls PyProof.Rows PySem.SeqAt PySem.MeetsSeq
def dfl2 : List Int := [262, 0, 794, 4, 1, 81, 362, 29]
def num2 (ns : List Int) (k : Nat) : Int := if k < ns.length then ns.getD k 0 else dfl2.getD k 0
def nothI (x : Int) : Nat := nothingL.getD (x / 4 % 27).toNat 0
def pairI (x : Int) : Nat := (pairsL.getD (x / 4 % 69).toNat (0, 0)).1
def lowI (x : Int) : Nat := (x / 4 % 256).toNat
def rawI (x : Int) : Nat := if x % 4 = 0 then nothI x else if x % 4 = 1 then pairI x else lowI x
def octI (x : Int) : Nat := if rawI x = 223 then 222 else rawI x
def tape8 (ns : List Int) : List Nat := (List.range 8).map fun k => octI (num2 ns k)
def tape9 (ns : List Int) : List Nat := tape8 ns ++ [55]
theorem modI {x m : Int} (h : 0 < m) : 0 ≤ x % m ∧ x % m < m := ⟨Int.emod_nonneg _ (Int.ne_of_gt h), Int.emod_lt_of_pos _ h⟩
theorem lt_of_mod {x : Int} {m : Nat} (h : 0 < m) : (x % (m : Int)).toNat < m := by
  have := modI (x := x) (m := m) (by (first | lia | omega)); (first | lia | omega)
theorem noth_len : nothingL.length = 27 := by decide +kernel
theorem oct_mem (x : Int) : octI x ∈ SL := by
  have key : (∀ c ∈ nothingL, c ∈ SL ∧ c ≠ 223) ∧ (∀ k < 69, (pairsL.getD k (0, 0)).1 ∈ SL ∧ (pairsL.getD k (0, 0)).1 ≠ 223) ∧ (∀ c < 256, c ≠ 223 → c ∈ SL) := by decide +kernel
  unfold octI rawI
  by_cases h0 : x % 4 = 0
  · simp only [if_pos h0]
    have hm : nothI x ∈ nothingL := by
      unfold nothI
      have hk : (x / 4 % 27).toNat < nothingL.length := by rw [noth_len]; exact lt_of_mod (m := 27) (by decide)
      rw [List.getD_eq_getElem?_getD, List.getElem?_eq_getElem hk]; exact List.getElem_mem _
    have := key.1 _ hm
    rw [if_neg this.2]; exact this.1
  · simp only [if_neg h0]
    by_cases h1 : x % 4 = 1
    · simp only [if_pos h1]
      have hk : (x / 4 % 69).toNat < 69 := lt_of_mod (m := 69) (by decide)
      have := key.2.1 _ hk
      unfold pairI
      rw [if_neg this.2]; exact this.1
    · simp only [if_neg h1]
      have hk : lowI x < 256 := lt_of_mod (m := 256) (by decide)
      by_cases e : lowI x = 223
      · rw [if_pos e]; exact key.2.2 222 (by decide) (by decide)
      · rw [if_neg e]; exact key.2.2 _ hk e
theorem tape_ok (ns : List Int) : Tape (tape9 ns) := by
  refine ⟨fun c hc => ?_, ?_, ⟨_, rfl⟩⟩
  · rcases List.mem_append.mp hc with hc | hc
    · obtain ⟨k, _, rfl⟩ := List.mem_map.mp hc
      exact oct_mem _
    · rw [List.mem_singleton.mp hc]; exact n_signs.2.2.2.2.2
  · unfold tape9 tape8; rw [List.length_append, List.length_map, List.length_range]; rfl
/-- small.get(c, c) -/
theorem look_pairs (c : Nat) : ∀ l : List (Nat × Nat), lookI (l.map fun p => ((p.1 : Int), (p.2 : Int))) c = (l.lookup c).map fun (n : Nat) => (n : Int)
  | [] => rfl
  | (a, b) :: l => by
    have ih := look_pairs c l
    unfold lookI at ih ⊢
    rw [List.map_cons, List.find?_cons, List.lookup_cons]
    by_cases h : a = c
    · subst h
      simp
    · have h1 : ((a : Int) = (c : Int)) = False := by simp; (first | lia | omega)
      have h2 : (c == a) = false := beq_eq_false_iff_ne.mpr fun e => h e.symm
      simp only [h1, decide_false, h2]
      exact ih
theorem look_fold (c : Nat) : (lookI pairsI c).getD (c : Int) = (foldN c : Int) := by
  unfold pairsI foldN
  rw [look_pairs]
  cases pairsL.lookup c <;> rfl
theorem pairsI_keys : (pairsI.map (·.1)).Nodup ∧ pairsI.length ≤ 100000 := by decide +kernel
/-- code not in nothing -/
theorem anyO_nats (c : Nat) : ∀ l : List Nat, anyO (fun z => eqA 2 z (.int (c : Nat))) (l.map fun (n : Nat) => AV.int (n : Nat)) = some (l.contains c)
  | [] => rfl
  | a :: l => by
    have ih := anyO_nats c l
    simp only [List.map_cons, anyO, ih]
    show some (((a : Int) == (c : Int)) || l.contains c) = _
    congr 1
    rw [List.contains_cons]
    congr 1
    rw [Bool.eq_iff_iff, beq_iff_eq, beq_iff_eq]
    (first | lia | omega)
theorem notIn_nats {c : Nat} {l : List Nat} {Q : AV → Prop} (h : Q (.bool (!l.contains c))) : notInW (.int (c : Nat)) (.lst (l.map fun (n : Nat) => AV.int (n : Nat))) Q := by
  unfold notInW inA
  simp only [anyO_nats]; exact h
theorem minus_one {l : List Int} {Q : AV → Prop} (h : ∀ x ∈ l, 0 ≤ x) (q : Q (.bool false)) : inW (.int (-1)) (.lst (l.map .int)) Q := by
  have key : anyO (fun z => eqA 2 z (.int (-1))) (l.map AV.int) = some false := by
    induction l with
    | nil => rfl
    | cons a l ih =>
      have ih := ih fun x hx => h x (.tail _ hx)
      simp only [List.map_cons, anyO, ih]
      show some ((a == (-1)) || false) = _
      have : (a == (-1)) = false := by have := h a (.head _); simp; (first | lia | omega)
      rw [this]; rfl
  unfold inW inA
  simp only [key]; exact q
/-- the parts -/
def partsL (ns ns' : List Nat) : List Int := List.zipWith (fun b a => (popN 60 b a : Int)) ns ns'
theorem popN_le (m b a : Nat) : popN m b a ≤ m := by
  unfold popN
  exact Nat.le_trans (List.length_filter_le _ _) (by rw [List.length_range]; exact Nat.le_refl _)
theorem parts_ok {ns ns' : List Nat} {s : Nat} (p : PairOk ns ns' s) : (partsL ns ns').sum = (s : Int) ∧ (∀ x ∈ partsL ns ns', 0 ≤ x) ∧ ∀ c : Int, 0 ≤ c → c + 60 * ns.length ≤ 2 ^ 40 → sumOk c (partsL ns ns') := by
  induction p with
  | nil => exact ⟨rfl, fun _ h => (nomatch h), fun _ _ _ => trivial⟩
  | @cons n n' ns ns' s h1 h2 p ih =>
    obtain ⟨i1, i2, i3⟩ := ih
    have hp := popN_le 60 n n'
    refine ⟨?_, fun x hx => ?_, fun c hc hb => ?_⟩
    · show (_ :: partsL ns ns').sum = _
      rw [List.sum_cons, i1, Int.natCast_add]
    · rcases List.mem_cons.mp hx with rfl | hx
      · exact Int.natCast_nonneg _
      · exact i2 x hx
    · rw [List.length_cons] at hb
      show InLong (popN 60 n n' : Int) ∧ InLong (c + (popN 60 n n' : Int)) ∧ sumOk (c + (popN 60 n n' : Int)) (partsL ns ns')
      refine ⟨⟨by (first | lia | omega), by (first | lia | omega)⟩, ⟨by (first | lia | omega), by (first | lia | omega)⟩, i3 _ (by (first | lia | omega)) (by (first | lia | omega))⟩
theorem parts_comp {We : WE} {Q : List AV → Prop} {ns ns' : List Nat} {s : Nat} (p : PairOk ns ns' s) (hWe : ∀ n n' : Nat, n < 2 ^ 60 → n' < 2 ^ 60 → ∀ K : AV → Prop, K (.int (popN 60 n n' : Nat)) → We ([AV.int (n : Nat), .int (n' : Nat)].map .val) K) : ∀ acc : List AV, acc.length + ns.length ≤ 1000 → Q (acc ++ (partsL ns ns').map .int) →
    compTL 2 We (zipA ((natI ns).map .int) ((natI ns').map .int)) acc Q := by
  induction p with
  | nil => intro acc _ h; rw [show partsL [] [] = [] from rfl, List.map_nil, List.append_nil] at h; exact h
  | @cons n n' ns ns' s h1 h2 p ih =>
    intro acc hl h
    rw [List.length_cons] at hl
    refine ⟨_, rfl, rfl, by (first | lia | omega), hWe n n' h1 h2 _ (ih _ (by rw [List.length_append, List.length_singleton]; (first | lia | omega)) ?_)⟩
    rw [List.append_assoc]; exact h
end Mine
-- D4
set_option maxRecDepth 100000
set_option maxHeartbeats 4000000
set_option linter.unusedVariables false
set_option linter.unusedSimpArgs false
namespace Mine
open PySem PySem.Calls PyProof.Rows PySem.SeqAt PySem.MeetsSeq
inductive readW (as : List AV) (Q : List Int → Prop) : Prop
  | mk (l : List Nat) (e : as = [.str l]) (h : Ended l) (hl : l.length ≤ 10) (q : Q (natI (numsR l).1))
/-- one turn of the reading -/
def tryW : WS := fun σ Q => ∃ xs, σ.getD 2 .unset = .own xs ∧ pvM 1 σ (fun a σ' => ∃ ys, σ'.getD 2 .unset = .own ys ∧ ys.length ≤ 100000 ∧ Q .next (σ'.set 2 (.own (ys ++ [a])))) (varW 2 (freeze 2 (σ.set 1 .unset)) fun a => Q (.ret a) (freeze 2 (σ.set 1 .unset)))
theorem whT {Wb : WS} {n : Nat} {σ : Sto} {Q : Fl → Sto → Prop} (h : Wb σ (fun f σ' => match f with
      | .next => whW (fun _ Q => truW (.bool true) Q) Wb n σ' Q
      | .cont => whW (fun _ Q => truW (.bool true) Q) Wb n σ' Q
      | .brk => Q .next σ'
      | .ret a => Q (.ret a) σ')) : whW (fun _ Q => truW (.bool true) Q) Wb (n + 1) σ Q := by
  have ht : ∀ K : Bool → Prop, K true → truW (.bool true) K := fun K h => h
  unfold whW
  refine ht _ ?_
  rw [if_pos rfl]; exact h
theorem read_loop {s0 : LV} {q : Addr} {R : List Int} {Q : Fl → Sto → Prop} (hQ : ∀ σ, Q (.ret (.lst (R.map .int))) σ) : ∀ (len : Nat) (rest : List Nat) (acc : List Int), rest.length ≤ len → rest.length ≤ 10 → (rest = [] ∨ Ended rest) → acc ++ natI (numsR rest).1 = R → acc.length + rest.length ≤ 1000 →
    whW (fun _ Q => truW (.bool true) Q) (seqW tryW fun σ Q => Q .next σ) (len + 1) [s0, .itr q ((natI rest).map .int), .own (acc.map .int)] Q := by
  intro len
  induction len with
  | zero =>
    intro rest acc h1 _ _ h3 _
    have : rest = [] := List.length_eq_zero_iff.mp (by (first | lia | omega))
    subst this
    rw [show natI (numsR []).1 = [] from rfl, List.append_nil] at h3
    subst h3
    exact whT ⟨_, rfl, q, [], rfl, trivial, hQ _⟩
  | succ len ih =>
    intro rest acc h1 h10 h2 h3 h4
    cases rest with
    | nil =>
      rw [show natI (numsR []).1 = [] from rfl, List.append_nil] at h3
      subst h3
      exact whT ⟨_, rfl, q, [], rfl, trivial, hQ _⟩
    | cons c r =>
      obtain ⟨n, ns, rest', e1, e2, e3, e4, e5⟩ := read_first (h2.resolve_left (List.cons_ne_nil _ _))
      rw [List.length_cons] at h1 h10 h4
      have fin := ih rest' (acc ++ [(n : Int)]) (by (first | lia | omega)) (by (first | lia | omega)) e4 (by rw [← h3, e1, e3, List.append_assoc]; rfl) (by rw [List.length_append, List.length_singleton]; (first | lia | omega))
      rw [List.map_append] at fin
      refine whT ⟨_, rfl, q, natI (c :: r), rfl, pvSmall_ok (by rw [List.length_cons]; (first | lia | omega)), ?_⟩
      rw [e2]
      exact ⟨_, rfl, by rw [List.length_map]; (first | lia | omega), fin⟩
section
variable {prog : Program} {w : World} {mg mb : Str → Option Value} {pins : List (Addr × Obj)} {flagT b3T : Int → Option (List Nat)} {b1S : Int → Bool}
theorem read_ok (B : Base prog w mg mb pins flagT b3T b1S) (P8 : FnPin mg pins "_parse_varint" (stmtAt PW 8) ["iterator"]) (hStop : BI mg mb "StopIteration" (.type "StopIteration")) (P : FnPin mg pins "_law_read" (stmtAt PW 19) ["text"]) : KFnOk prog w mg mb pins ⟨2, true⟩ "_law_read" readW := by
  refine KFnOk.of_sem (n := 1) (nm := ["text", "stream", "told"]) P (semKS_cons (semK_lift (sem1_iter B.iter (semE_ofF (semF_comp (caps := []) (semI_of (semE_var .head) rfl) semC_nil (semE_bf B.ord (semA_cons (semE_var .head) semA_nil) ord_ok))) (.tail .head) (by decide +kernel)))
    (semKS_cons (semK_lift (sem1_assignOwn (semF_list semA_nil) (.tail (.tail .head))))
    (semKS_cons (semK_while (semT_of semE_bool) (semKS_cons (semK_tryF 2 (.tail .head) hStop (semY_append (semM_pv B P8 (.tail .head) (by decide +kernel) rfl) (.tail (.tail .head))) (fun ea oe q => semE_var (.tail (.tail .head))) (by decide +kernel)) semKS_nil)) semKS_nil))) ?_ ⟨["stream", "told"], rfl⟩ (by decide +kernel) (by decide +kernel) rfl rfl rfl
  rintro as Q ⟨l, rfl, hE, hl, hq⟩
  refine ⟨rfl, ?_⟩
  refine seqW_mk ⟨rfl, ?_, compL_all (f := fun (c : Nat) => AV.str [c]) (fun (c : Nat) => .int (c : Nat)) l (fun _ _ h => h) (fun c _ K hK => hK) fun q => ?_⟩
  · show (l.map fun c => AV.str [c]).length ≤ 100000
    rw [List.length_map]; (first | lia | omega)
  refine seqN (seqW_of (σ1 := [.val (.str l), .itr q ((natI l).map .int), .own (([] : List Int).map .int)]) (fun K hK => ?_) ?_)
  · rw [List.map_map] at hK; exact hK
  · exact ⟨l.length + 1, read_loop (R := natI (numsR l).1) (fun σ => ⟨_, rfl, hq⟩) l.length l [] (Nat.le_refl _) hl (.inr hE) rfl (by simp; (first | lia | omega))⟩
end
end Mine
-- D5
set_option maxRecDepth 100000
set_option maxHeartbeats 4000000
set_option linter.unusedVariables false
set_option linter.unusedSimpArgs false
namespace Mine
open PySem PySem.Calls PyProof.Rows PySem.SeqAt PySem.MeetsSeq
theorem jn_len : ∀ (xs : List (List Nat)), (∀ x ∈ xs, x.length ≤ 1000) → (jn xs).length ≤ 1002 * xs.length
  | [], _ => by simp [jn]
  | [p], h => by have := h p (.head _); simp [jn]; (first | lia | omega)
  | p :: q :: r, h => by
    have h1 := h p (.head _)
    have h2 := jn_len (q :: r) fun x hx => h x (.tail _ hx)
    have : (jn (p :: q :: r)).length = p.length + (2 + (jn (q :: r)).length) := by
      show (p ++ 44 :: 32 :: jn (q :: r)).length = _
      simp; (first | lia | omega)
    rw [this, List.length_cons]
    (first | lia | omega)
theorem pow30 {Q : AV → Prop} (h : Q (.int 1073741824)) : powW (.int 2) (.int 30) Q := ⟨by decide, by decide, by unfold Small; decide, h⟩
/-- pretty_flags(x % 2 ** 30).split(', ') -/
theorem split_pretty {n : Nat} {K : AV → Prop} (h : K (.lst ((wordsL (n % 2 ^ 30)).map .str))) : powW (.int 2) (.int 30) fun b => modW (.int (n : Nat)) b fun a => prettyW FT [a] fun o => isStr o ∧ splitW [o, .str (strL ", ")] K := by
  refine pow30 ⟨by decide, ?_⟩
  have e : (n : Int) % 1073741824 = ((n % 2 ^ 30 : Nat) : Int) := by (first | lia | omega)
  rw [e]
  have hlt : n % 2 ^ 30 < 2 ^ 30 := Nat.mod_lt _ (by decide)
  obtain ⟨p1, p2⟩ := pretty_words hlt
  refine ⟨_, rfl, fl_len, p2, ?_⟩
  rw [p1, joinL_jn]
  generalize n % 2 ^ 30 = m at *
  have hnc : ∀ x ∈ wordsL m, 44 ∉ x := fun x hx => (words_all hx).1
  have hl := words_len m
  refine ⟨trivial, by decide +kernel, ?_, by rw [parts_len _ (words_ne m) hnc]; (first | lia | omega), ?_⟩
  · have := jn_len (wordsL m) fun x hx => (words_all hx).2; (first | lia | omega)
  rw [split_jn _ (words_ne m) hnc]; exact h
theorem neW_two {x y : List (List Nat)} {Q : AV → Prop} (h : Q (.bool false)) : neW (.lst [.lst (x.map .str), .lst (y.map .str)]) (.lst [.lst (x.map .str), .lst (y.map .str)]) Q := by
  have e : ∀ z : List (List Nat), eqA 2 (.lst (z.map .str)) (.lst (z.map .str)) = some true := fun z => by
    show (if (z.map AV.str).length = (z.map AV.str).length then allO (List.zipWith (eqA 1) (z.map .str) (z.map .str)) else some false) = _
    rw [if_pos rfl]
    induction z with
    | nil => rfl
    | cons w z ih =>
      show (match eqA 1 (.str w) (.str w) with | some a => (allO (List.zipWith (eqA 1) (z.map .str) (z.map .str))).map (a && ·) | none => none) = _
      rw [ih]
      show some ((w == w) && true) = _
      rw [beq_self_eq_true]; rfl
  have : eqA 3 (.lst [.lst (x.map .str), .lst (y.map .str)]) (.lst [.lst (x.map .str), .lst (y.map .str)]) = some true := by
    show allO [eqA 2 (.lst (x.map .str)) (.lst (x.map .str)), eqA 2 (.lst (y.map .str)) (.lst (y.map .str))] = some true
    rw [e, e]; rfl
  unfold neW
  rw [this]; exact h
theorem neW_bool {x y : Bool} {Q : AV → Prop} (h : Q (.bool (!(x == y)))) : neW (.bool x) (.bool y) Q := h
theorem or_test {b a : Nat} {σ : Sto} {K : Bool → Prop} (h1 : (b ≠ 0 ∨ a ≠ 0) → K true) (h2 : b = 0 → a = 0 → K false) : varW 0 (.val (.int (b : Nat)) :: .val (.int (a : Nat)) :: σ) fun x => truW x fun c => if c = true then K true else varW (0 + 1) (.val (.int (b : Nat)) :: .val (.int (a : Nat)) :: σ) fun x => truW x fun c => if c = true then K true else K false := by
  show if (((b : Nat) : Int) != 0) = true then _ else if (((a : Nat) : Int) != 0) = true then _ else _
  by_cases hb : b = 0
  · rw [if_neg (by rw [hb]; decide)]
    by_cases ha : a = 0
    · rw [if_neg (by rw [ha]; decide)]; exact h2 hb ha
    · rw [if_pos (by simpa using ha)]; exact h1 (.inr ha)
  · rw [if_pos (by simpa using hb)]; exact h1 (.inl hb)
theorem read_at {lv : LV} {a : AV} {Q : AV → Prop} (e : lv = .val a) (h : Q a) : lv.read Q := by subst e; exact h
theorem pick_test {L R : List (List Nat)} {w : List Nat} {K : Bool → Prop} (h : K (pickW L R w)) : varW (0 + 1 + 1) [.val (.lst (L.map .str)), .val (.lst (R.map .str)), .val (.str w)] fun a => neW a (.str (strL "0x0")) fun c => truW c fun c => if c = true then varW (0 + 1 + 1) [.val (.lst (L.map .str)), .val (.lst (R.map .str)), .val (.str w)] fun a => varW 0 [.val (.lst (L.map .str)), .val (.lst (R.map .str)), .val (.str w)] fun b => inW a b fun x => varW (0 + 1 + 1) [.val (.lst (L.map .str)), .val (.lst (R.map .str)), .val (.str w)] fun a => varW (0 + 1) [.val (.lst (L.map .str)), .val (.lst (R.map .str)), .val (.str w)] fun b => inW a b fun y => neW x y fun c => truW c fun c => if c = true then K true else K false else K false := by
  show if (!(w == strL "0x0")) = true then _ else _
  unfold pickW at h
  cases e : !(w == strL "0x0") with
  | false => rw [e, Bool.false_and] at h; rw [if_neg Bool.false_ne_true]; exact h
  | true =>
    rw [e, Bool.true_and] at h
    rw [if_pos rfl]
    refine varW_at rfl (varW_at rfl (inW_strs (varW_at rfl (varW_at rfl (inW_strs (neW_bool ?_))))))
    show if (!(decide (w ∈ L) == decide (w ∈ R))) = true then _ else _
    cases e2 : !(decide (w ∈ L) == decide (w ∈ R)) with
    | false => rw [e2] at h; rw [if_neg Bool.false_ne_true]; exact h
    | true => rw [e2] at h; rw [if_pos rfl]; exact h
theorem words_of {n : Nat} {Q : AV → Prop} (h : Q (.lst ((wordsL (n % 2 ^ 30)).map .str))) : powW (.int 2) (.int 30) fun b => modW (.int (n : Nat)) b fun a => wordsW [a] Q := by
  refine pow30 ⟨by decide, n % 2 ^ 30, ?_, h⟩
  have e : (n : Int) % 1073741824 = ((n % 2 ^ 30 : Nat) : Int) := by (first | lia | omega)
  rw [e]
theorem div_of {n : Nat} {Q : AV → Prop} (h : Q (.int ((n / 2 ^ 30 : Nat) : Int))) : powW (.int 2) (.int 30) fun b => ipW divW (.int (n : Nat)) b Q := by
  refine pow30 ⟨by decide, by decide, ?_⟩
  have e : (n : Int) / 1073741824 = ((n / 2 ^ 30 : Nat) : Int) := by (first | lia | omega)
  rw [e]; exact h
section
variable {prog : Program} {w : World} {mg mb : Str → Option Value} {pins : List (Addr × Obj)} {b3T : Int → Option (List Nat)} {b1S : Int → Bool}
inductive turnedW (as : List AV) (Q : AV → Prop) : Prop
  | mk (b a : Nat) (e : as = [.int (b : Nat), .int (a : Nat)]) (hb : b < 2 ^ 60) (ha : a < 2 ^ 60) (q : Q (.int (popN 60 b a : Nat)))
inductive TurnInv (R : Nat) (f : Nat) (σ : Sto) : Prop
  | mk (b a t : Nat) (l r : LV) (e : σ = [.val (.int (b : Nat)), .val (.int (a : Nat)), .val (.int (t : Nat)), l, r]) (hb : b < 2 ^ (30 * f)) (ha : a < 2 ^ (30 * f)) (ht : t + popN (30 * f) b a = R)
theorem turned_ok (B : Base prog w mg mb pins FT b3T b1S) (P : FnPin mg pins "_law_turned" (stmtAt PW 20) ["before", "after"]) (hp : FnOk prog w mg mb pins ⟨1, true⟩ "pretty_flags" (prettyW FT)) (hw : FnOk prog w mg mb pins ⟨1, true⟩ "_law_words" wordsW) : FnOk prog w mg mb pins ⟨2, true⟩ "_law_turned" turnedW := by
  refine FnOk.of_sem (n := 1) (nm := ["before", "after", "turned", "left", "right"]) P (semS_cons (sem1_assign semE_int (.tail (.tail .head)))
 (semS_cons (sem1_while (semT_bool (semL_or (semT_of (semE_var .head)) (semL_or (semT_of (semE_var (.tail .head))) semL_or_nil)))
 (semS_cons (sem1_assign (semE_meth (semE_fn (semA_cons (semE_bin (semE_var .head) (semE_bin semE_int semE_int pow_ok) mod_ok) semA_nil) hp (by decide +kernel)) (semA_cons semE_str semA_nil) tyStr F.plainAttrs_str F.slot_str_split F.type_str_split split_ok) (.tail (.tail (.tail .head))))
 (semS_cons (sem1_assign (semE_meth (semE_fn (semA_cons (semE_bin (semE_var (.tail .head)) (semE_bin semE_int semE_int pow_ok) mod_ok) semA_nil) hp (by decide +kernel)) (semA_cons semE_str semA_nil) tyStr F.plainAttrs_str F.slot_str_split F.type_str_split split_ok) (.tail (.tail (.tail (.tail .head)))))
 (semS_cons (sem1_if (semT_cmp (semE_list (semA_cons (semE_var (.tail (.tail (.tail .head)))) (semA_cons (semE_var (.tail (.tail (.tail (.tail .head))))) semA_nil))) (semE_list (semA_cons (semE_fn (semA_cons (semE_bin (semE_var .head) (semE_bin semE_int semE_int pow_ok) mod_ok) semA_nil) hw (by decide +kernel)) (semA_cons (semE_fn (semA_cons (semE_bin (semE_var (.tail .head)) (semE_bin semE_int semE_int pow_ok) mod_ok) semA_nil) hw (by decide +kernel)) semA_nil))) ne_ok)
 (semS_cons (sem1_return (semE_neg semE_int))
 semS_nil)
 semS_nil)
 (semS_cons (sem1_aug (semE_bf B.len (semA_cons (semE_ofF (semF_comp (caps := [(3, "left"), (4, "right")]) (semI_of (semE_bin (semE_var (.tail (.tail (.tail .head)))) (semE_var (.tail (.tail (.tail (.tail .head))))) add_ok) rfl) (semC_one (semT_bool (semL_and (semT_cmp (semE_var (.tail (.tail .head))) semE_str ne_ok) (semL_and (semT_cmp (semE_cmp (semE_var (.tail (.tail .head))) (semE_var .head) in_ok) (semE_cmp (semE_var (.tail (.tail .head))) (semE_var (.tail .head)) in_ok) ne_ok) semL_and_nil)))) (semE_var (.tail (.tail .head))))) semA_nil) len_ok) iadd_ok (.tail (.tail .head)))
 (semS_cons (sem1_aug (semE_bin semE_int semE_int pow_ok) idiv_ok .head)
 (semS_cons (sem1_aug (semE_bin semE_int semE_int pow_ok) idiv_ok (.tail .head))
 semS_nil)))))))
 (semS_cons (sem1_return (semE_var (.tail (.tail .head))))
 semS_nil))) ?_ ⟨["turned", "left", "right"], rfl⟩ (by decide +kernel) (by decide +kernel) rfl rfl rfl
  rintro as Q ⟨b, a, rfl, hb, ha, hq⟩
  refine ⟨rfl, ?_⟩
  refine seqW_of (σ1 := [.val (.int (b : Nat)), .val (.int (a : Nat)), .val (.int ((0 : Nat) : Int)), .unset, .unset]) (fun K hK => hK) ?_
  refine seqW_mk ⟨3, whW_inv (TurnInv (popN 60 b a)) ?_ 3 2 _ (by decide) ⟨b, a, 0, _, _, rfl, hb, ha, Nat.zero_add _⟩⟩
  rintro f σ ⟨b, a, t, l, r, rfl, hb, ha, ht⟩ K hK
  refine or_test (K := fun c => if c = true then _ else _) (fun hne => ?_) fun hb0 ha0 => ?_
  · cases f with
    | zero =>
      rw [Nat.mul_zero, Nat.pow_zero] at hb ha
      (first | lia | omega)
    | succ f =>
      refine if_t rfl ?_
      refine seqW_of (σ1 := [.val (.int (b : Nat)), .val (.int (a : Nat)), .val (.int (t : Nat)), .val (.lst ((wordsL (b % 2 ^ 30)).map .str)), r]) (fun K hK => consW_of (varW_at rfl (split_pretty hK))) ?_
      refine seqW_of (σ1 := [.val (.int (b : Nat)), .val (.int (a : Nat)), .val (.int (t : Nat)), .val (.lst ((wordsL (b % 2 ^ 30)).map .str)), .val (.lst ((wordsL (a % 2 ^ 30)).map .str))]) (fun K hK => consW_of (varW_at rfl (split_pretty hK))) ?_
      refine seqW_mk (consW_of (varW_at rfl (consW_of (varW_at rfl ?_))))
      refine consW_of (consW_of (varW_at rfl (words_of ?_)))
      refine consW_of (consW_of (varW_at rfl (words_of ?_)))
      refine neW_two (ffT (seqN ?_))
      have hlb := words_len (b % 2 ^ 30)
      have hla := words_len (a % 2 ^ 30)
      have hpc := pick_count (b % 2 ^ 30) (a % 2 ^ 30)
      refine seqW_of (σ1 := [.val (.int (b : Nat)), .val (.int (a : Nat)), .val (.int ((t + popN 30 (b % 2 ^ 30) (a % 2 ^ 30) : Nat) : Int)), .val (.lst ((wordsL (b % 2 ^ 30)).map .str)), .val (.lst ((wordsL (a % 2 ^ 30)).map .str))]) (fun K hK => ?_) ?_
      · refine read_at rfl (consW_of ?_)
        refine ⟨rfl, varW_at rfl (varW_at rfl ⟨by rw [List.length_map, List.length_map]; (first | lia | omega), by rw [List.length_append, List.length_map, List.length_map]; (first | lia | omega), ?_⟩)⟩
        refine compL_at List.map_append.symm (compL_on (f := AV.str) (pickW (wordsL (b % 2 ^ 30)) (wordsL (a % 2 ^ 30))) AV.str _ [] (fun x _ K hK => pick_test hK) (fun x _ _ K hK => hK) ?_)
        refine ⟨by rw [List.nil_append, List.length_map, hpc]; unfold popN; exact Nat.le_trans (List.length_filter_le _ _) (by rw [List.length_range]; decide), ?_⟩
        rw [List.nil_append, List.length_map, hpc]
        exact hK
      refine seqW_of (σ1 := [.val (.int ((b / 2 ^ 30 : Nat) : Int)), .val (.int (a : Nat)), .val (.int ((t + popN 30 (b % 2 ^ 30) (a % 2 ^ 30) : Nat) : Int)), .val (.lst ((wordsL (b % 2 ^ 30)).map .str)), .val (.lst ((wordsL (a % 2 ^ 30)).map .str))]) (fun K hK => div_of hK) ?_
      refine seqW_of (σ1 := [.val (.int ((b / 2 ^ 30 : Nat) : Int)), .val (.int ((a / 2 ^ 30 : Nat) : Int)), .val (.int ((t + popN 30 (b % 2 ^ 30) (a % 2 ^ 30) : Nat) : Int)), .val (.lst ((wordsL (b % 2 ^ 30)).map .str)), .val (.lst ((wordsL (a % 2 ^ 30)).map .str))]) (fun K hK => div_of hK) ?_
      refine hK f _ (Nat.lt_succ_self f) ⟨_, _, _, _, _, rfl, ?_, ?_, ?_⟩
      · exact Nat.div_lt_of_lt_mul (by rw [← Nat.pow_add, Nat.add_comm]; exact hb)
      · exact Nat.div_lt_of_lt_mul (by rw [← Nat.pow_add, Nat.add_comm]; exact ha)
      · rw [← ht, show 30 * (f + 1) = 30 + 30 * f by (first | lia | omega), popN_add, Nat.add_assoc]
  · subst hb0
    subst ha0
    rw [popN_same, Nat.add_zero] at ht
    subst ht
    exact if_f rfl (seqN hq)
end
end Mine
-- D6a
set_option maxRecDepth 100000
set_option maxHeartbeats 8000000
set_option linter.unusedVariables false
set_option linter.unusedSimpArgs false
namespace Mine
open PySem PySem.Calls PyProof.Rows PySem.SeqAt PySem.MeetsSeq
theorem noth_item {x : Int} {Q : AV → Prop} (h : Q (.int (nothI x : Nat))) : itemW (.lst (nothingL.map fun (n : Nat) => AV.int (n : Nat))) (.int (x / 4 % 27)) Q :=
  have m := modI (x := x / 4) (m := 27) (by decide)
  item_lmap (f := fun (n : Nat) => AV.int (n : Nat)) (d := 0) (row := nothingL) (n := 27) m.1 m.2 noth_len (by decide) h
theorem pairsI_len : pairsI.length = 125 := by decide +kernel
theorem pair_item {x : Int} {Q : AV → Prop} (h : Q (.int (pairI x : Nat))) : itemW (.lst (prs pairsI)) (.int (x / 4 % 69)) fun a => itemW a (.int 0) Q := by
  have m := modI (x := x / 4) (m := 69) (by decide)
  refine item_lmap (f := fun (p : Int × Int) => AV.tup [.int p.1, .int p.2]) (d := (0, 0)) (row := pairsI) (n := 125) m.1 (by (first | lia | omega)) pairsI_len (by decide) ?_
  have e : (pairsI.getD (x / 4 % 69).toNat (0, 0)).1 = (pairI x : Int) := by
    have hk : (x / 4 % 69).toNat < pairsL.length := by have := pairs_len.1; have := m.2; (first | lia | omega)
    unfold pairI pairsI
    rw [List.getD_eq_getElem?_getD, List.getElem?_map, List.getD_eq_getElem?_getD, List.getElem?_eq_getElem hk]; rfl
  refine itemW_tup (by decide) (show 2 ≤ 100000 by decide) (x := .int (pairI x : Nat)) ?_ h
  rw [e]; rfl
theorem raw_item {x : Int} {Q : AV → Prop} (h : Q (.int (rawI x : Nat))) : itemW (.tup [.int (nothI x : Nat), .int (pairI x : Nat), .int (x / 4 % 256), .int (x / 4 % 256)]) (.int (x % 4)) Q := by
  have m := modI (x := x) (m := 4) (by decide)
  have m2 := modI (x := x / 4) (m := 256) (by decide)
  have el : (x / 4 % 256) = ((lowI x : Nat) : Int) := by unfold lowI; (first | lia | omega)
  refine itemW_tup m.1 (show 4 ≤ 100000 by decide) (x := .int (rawI x : Nat)) ?_ h
  unfold rawI
  by_cases h0 : x % 4 = 0
  · rw [if_pos h0, h0]; rfl
  · rw [if_neg h0]
    by_cases h1 : x % 4 = 1
    · rw [if_pos h1, h1]; rfl
    · rw [if_neg h1]
      have : x % 4 = 2 ∨ x % 4 = 3 := by (first | lia | omega)
      rcases this with q | q <;> rw [q, el] <;> rfl
theorem num2_item {ns : List Int} {i : Nat} {K : AV → Prop} (hn : ns.length ≤ 63) (hi : i < 8) (hK : K (.int (num2 ns i))) :
    lenW [.lst (ns.map .int)] fun a => ltW (.int (i : Nat)) a fun c => truW c fun c => if c = true then itemW (.lst (ns.map .int)) (.int (i : Nat)) K else itemW (.tup (dfl2.map .int)) (.int (i : Nat)) K := by
  have hl : (ns.map AV.int).length = ns.length := List.length_map ..
  refine ⟨by (first | lia | omega), ?_⟩
  rw [hl]
  show if decide (((i : Nat) : Int) < ((ns.length : Nat) : Int)) = true then _ else _
  unfold num2 at hK
  by_cases h : i < ns.length
  · rw [if_pos h] at hK
    exact if_t (decide_eq_true (Int.ofNat_lt.mpr h)) (item_lmap (f := AV.int) (d := 0) (row := ns) (n := ns.length) (Int.natCast_nonneg i) (Int.ofNat_lt.mpr h) rfl (by (first | lia | omega)) hK)
  · rw [if_neg h] at hK
    exact if_f (decide_eq_false fun q => h (Int.ofNat_lt.mp q)) (item_tmap (f := AV.int) (d := 0) (row := dfl2) (n := 8) (Int.natCast_nonneg i) (Int.ofNat_lt.mpr hi) rfl (by decide) hK)
theorem oct_if {x : Int} {K : AV → Prop} (h : K (.int (octI x : Nat))) : eqW (.int (rawI x : Nat)) (.int 223) fun c => truW c fun c => if c = true then K (.int 222) else K (.int (rawI x : Nat)) := by
  show if (((rawI x : Nat) : Int) == 223) = true then _ else _
  unfold octI at h
  by_cases e : rawI x = 223
  · rw [if_pos e] at h
    rw [e, if_pos (by decide)]; exact h
  · rw [if_neg e] at h
    rw [if_neg (by simp; (first | lia | omega))]; exact h
theorem noth_eq : ([173, 847, 6150, 6155, 6156, 6157, 8203, 8204, 8205, 8288, 65279] : List Int).map AV.int ++ rangeL 65024 1 (cntR 65024 65040 1) = nothingL.map fun (n : Nat) => AV.int (n : Nat) := by
  have h : ([173, 847, 6150, 6155, 6156, 6157, 8203, 8204, 8205, 8288, 65279] : List Int) ++ (List.range (cntR 65024 65040 1)).map (fun (i : Nat) => 65024 + (i : Int) * 1) = nothingL.map fun (n : Nat) => (n : Int) := by decide +kernel
  have := congrArg (List.map AV.int) h
  rw [List.map_append, List.map_map, List.map_map] at this
  exact this
theorem int_eqs : ∀ l : List Int, allO (List.zipWith (eqA 2) (l.map .int) (l.map .int)) = some true := by
  intro l
  induction l with
  | nil => rfl
  | cons x l ih =>
    show (match eqA 2 (.int x) (.int x) with | some a => (allO (List.zipWith (eqA 2) (l.map .int) (l.map .int))).map (a && ·) | none => none) = _
    rw [ih]
    show some ((x == x) && true) = _
    rw [beq_self_eq_true]; rfl
theorem neW_ints {l : List Int} {Q : AV → Prop} (h : Q (.bool false)) : neW (.lst (l.map .int)) (.lst (l.map .int)) Q := by
  have : eqA 3 (.lst (l.map .int)) (.lst (l.map .int)) = some true := by
    show (if (l.map AV.int).length = (l.map AV.int).length then allO (List.zipWith (eqA 2) (l.map .int) (l.map .int)) else some false) = _
    rw [if_pos rfl, int_eqs]
  unfold neW
  rw [this]; exact h
theorem int_eqs1 : ∀ l : List Int, eqA 2 (.lst (l.map .int)) (.lst (l.map .int)) = some true := by
  intro l
  show (if (l.map AV.int).length = (l.map AV.int).length then allO (List.zipWith (eqA 1) (l.map .int) (l.map .int)) else some false) = _
  rw [if_pos rfl]
  induction l with
  | nil => rfl
  | cons x l ih =>
    show (match eqA 1 (.int x) (.int x) with | some a => (allO (List.zipWith (eqA 1) (l.map .int) (l.map .int))).map (a && ·) | none => none) = _
    rw [ih]
    show some ((x == x) && true) = _
    rw [beq_self_eq_true]; rfl
theorem neW_three {a b c : List Int} {Q : AV → Prop} (h : Q (.bool false)) : neW (.lst [.lst (a.map .int), .lst (b.map .int), .lst (c.map .int)]) (.lst [.lst (a.map .int), .lst (b.map .int), .lst (c.map .int)]) Q := by
  have : eqA 3 (.lst [.lst (a.map .int), .lst (b.map .int), .lst (c.map .int)]) (.lst [.lst (a.map .int), .lst (b.map .int), .lst (c.map .int)]) = some true := by
    show allO [eqA 2 (.lst (a.map .int)) (.lst (a.map .int)), eqA 2 (.lst (b.map .int)) (.lst (b.map .int)), eqA 2 (.lst (c.map .int)) (.lst (c.map .int))] = some true
    rw [int_eqs1, int_eqs1, int_eqs1]; rfl
  unfold neW
  rw [this]; exact h
theorem flat_one (l : List Nat) : (l.map fun c => [c]).flatten = l := by
  induction l with
  | nil => rfl
  | cons c l ih => rw [List.map_cons, List.flatten_cons, ih]; rfl
theorem joinS {l : List Nat} {C : AV → Prop} (hl : l.length ≤ 1000) (hC : C (.str l)) : joinW [AV.str (strL ""), AV.lst (l.map fun c => AV.str [c])] C :=
  joinM (fun c : Nat => [c]) (by rw [flat_one]; (first | lia | omega)) (by rw [flat_one]; exact hC) (by (first | lia | omega))
abbrev nI : Nat → AV := fun n => .int (n : Nat)
theorem natI_map (l : List Nat) : (natI l).map AV.int = l.map nI := by rw [List.map_map]; rfl
theorem natI_snoc (l : List Nat) (c : Nat) : (natI (l ++ [c])).map AV.int = (natI l).map AV.int ++ [.int (c : Nat)] := by rw [natI_map, natI_map, List.map_append]; rfl
theorem neW_nats {l : List Nat} {Q : AV → Prop} (h : Q (.bool false)) : neW (.lst (l.map nI)) (.lst ((natI l).map .int)) Q := by rw [← natI_map]; exact neW_ints h
theorem neI {x : Int} {Q : AV → Prop} (h : Q (.bool false)) : neW (.int x) (.int x) Q := by
  show Q (.bool (!(x == x)))
  rw [beq_self_eq_true]; exact h
theorem eqI {x : Int} {Q : AV → Prop} (h : Q (.bool true)) : eqW (.int x) (.int x) Q := by
  show Q (.bool (x == x))
  rw [beq_self_eq_true]; exact h
theorem zipW_at {xs ys : List AV} {Q : List AV → Prop} (h : Q (zipA xs ys)) : zipW [.lst xs, .lst ys] Q := h
theorem chr_le : ∀ c ∈ SL, c ≤ 1114111 := by decide +kernel
theorem chr_at {c : Nat} {Q : AV → Prop} (h : c ≤ 1114111) (q : Q (.str [c])) : chrW [.int (c : Nat)] Q := ⟨Int.natCast_nonneg _, Int.ofNat_le.mpr h, by rw [Int.toNat_natCast]; exact q⟩
theorem b3_at {c : Nat} {Q : AV → Prop} (h : c ∈ SL) (k : keepN c = true) (q : Q (.str [foldN c])) : mapB3W BT [.str [c]] Q := ⟨c, rfl, (low_len c h).1, by rw [n_b3 c h (keep_iff.mp k)]; exact q⟩
theorem b1_at {c : Nat} {K : Bool → Prop} (h : c ∈ SL) (q : K (keepN c)) : inB1W b1F [.str [c]] fun a => truW a fun b => K (!b) := ⟨c, rfl, by
  show K (!b1F (c : Nat))
  rw [n_b1 c h]; exact q⟩
theorem get_at {c : Nat} {Q : AV → Prop} (q : Q (.int (foldN c : Nat))) : dctGetW [.dct pairsI, .int (c : Nat), .int (c : Nat)] Q := by
  show Q (.int ((lookI pairsI c).getD (c : Int)))
  rw [look_fold]; exact q
end Mine
-- D6
set_option maxRecDepth 100000
set_option maxHeartbeats 8000000
set_option linter.unusedVariables false
set_option linter.unusedSimpArgs false
namespace Mine
open PySem PySem.Calls PyProof.Rows PySem.SeqAt PySem.MeetsSeq
theorem tru_t {P R : Prop} (h : P) : truW (.bool true) (fun c => if c = true then P else R) := by
  show if true = true then P else R
  rw [if_pos rfl]; exact h
inductive Tap2 (ns : List Int) (st : LV → LV → LV → LV → Sto) (xs : List AV) (σ : Sto) : Prop
  | mk (ks done : List Nat) (a5 a6 a7 : LV) (h1 : ∀ k ∈ ks, k < 8) (h2 : xs = ks.map fun (i : Nat) => AV.int (i : Nat)) (h3 : σ = st (.own ((natI done).map .int)) a5 a6 a7) (h4 : done ++ ks.map (fun k => octI (num2 ns k)) = tape8 ns) (h5 : done.length + ks.length ≤ 8)
section
variable {prog : Program} {w : World} {mg mb : Str → Option Value} {pins : List (Addr × Obj)}
theorem law_walk (B : Base prog w mg mb pins FT BT b1F) (P21 : FnPin mg pins "law" (stmtAt PW 21) ["script"]) (hDict : BI mg mb "dict" (.type "dict")) (hZip : BI mg mb "zip" (.type "zip")) (h_law_pairs : FnOk prog w mg mb pins ⟨1, true⟩ "_law_pairs" pairsW) (h_in_table_b1 : FnOk prog w mg mb pins ⟨1, true⟩ "in_table_b1" (inB1W b1F)) (h_map_table_b3 : FnOk prog w mg mb pins ⟨1, true⟩ "map_table_b3" (mapB3W BT))
  (h_law_numbers : FnOk prog w mg mb pins ⟨1, true⟩ "_law_numbers" numbersW) (h_law_turned : FnOk prog w mg mb pins ⟨2, true⟩ "_law_turned" turnedW) (h_levenshtein_distance : FnOk prog w mg mb pins ⟨2, true⟩ "_levenshtein_distance" levW) (hread : KFnOk prog w mg mb pins ⟨2, true⟩ "_law_read" readW)
  {A : Around} {vs : List Value} {s : Shared} {ns : List Int} {E : Value → Shared → Prop} (a : AOk pins ⟨3, true⟩ A) (hfr : A.frames = some []) (G : Gl mg mb pins s.heap) (r : RepL (fun _ => False) s.heap vs [.lst (ns.map .int)]) (hn : ns.length ≤ 63) :
    ∃ fa, mg "law" = some (.ref fa) ∧ wpAny (model prog w) A (call (.ref fa) vs) (fun v s' => Grow s s' ∧ ∃ c, c = AV.bool true ∧ Rep (fun _ => False) s'.heap v c) E s := by
  refine lawRun (n := 2) (nm := ["script", "nothing", "pairs", "small", "tape", "k", "x", "octet", "kept", "folded", "text", "bare", "prepared", "first", "second", "third", "parts", "lost", "turned", "less", "due", "ahead", "behind"]) (names := ["script"]) (Q := fun c => c = .bool true) P21 ((semKS_cons (semK_lift (sem1_assign (semE_bin (semE_list semA_const) (semE_ofF <| semF_listRange rfl (semA_cons semE_int (semA_cons semE_int semA_nil)) (by decide +kernel) B.list.m B.list.b (by decide +kernel) B.range.m B.range.b) add_ok) (.tail .head)))
 (semKS_cons (semK_lift (sem1_assign (semE_fn0 h_law_pairs (by decide +kernel)) (.tail (.tail .head))))
 (semKS_cons (semK_lift (sem1_assign (semE_dict hDict (semE_var (.tail (.tail .head))) rfl (by decide +kernel)) (.tail (.tail (.tail .head)))))
 (semKS_cons (semK_lift (sem1_assignOwn (semF_list semA_nil) (.tail (.tail (.tail (.tail .head))))))
 (semKS_cons (semK_lift (sem1_for (semI_rng (semA_cons semE_int semA_nil) (by decide +kernel) B.range.m B.range.b)
 (semS_cons (sem1_assign (semE_ite (semT_cmp (semE_var (.tail (.tail (.tail (.tail (.tail .head)))))) (semE_bf B.len (semA_cons (semE_var .head) semA_nil) len_ok) lt_ok) (semE_sub (semE_var .head) (semE_var (.tail (.tail (.tail (.tail (.tail .head))))))) (semE_sub (semE_tuple semA_const) (semE_var (.tail (.tail (.tail (.tail (.tail .head)))))))) (.tail (.tail (.tail (.tail (.tail (.tail .head)))))))
 (semS_cons (sem1_assign (semE_sub (semE_tuple (semA_cons (semE_sub (semE_var (.tail .head)) (semE_bin (semE_bin (semE_var (.tail (.tail (.tail (.tail (.tail (.tail .head))))))) semE_int div_ok) semE_int mod_ok)) (semA_cons (semE_sub (semE_sub (semE_var (.tail (.tail .head))) (semE_bin (semE_bin (semE_var (.tail (.tail (.tail (.tail (.tail (.tail .head))))))) semE_int div_ok) semE_int mod_ok)) semE_int) (semA_cons (semE_bin (semE_bin (semE_var (.tail (.tail (.tail (.tail (.tail (.tail .head))))))) semE_int div_ok) semE_int mod_ok) (semA_cons (semE_bin (semE_bin (semE_var (.tail (.tail (.tail (.tail (.tail (.tail .head))))))) semE_int div_ok) semE_int mod_ok) semA_nil))))) (semE_bin (semE_var (.tail (.tail (.tail (.tail (.tail (.tail .head))))))) semE_int mod_ok)) (.tail (.tail (.tail (.tail (.tail (.tail (.tail .head))))))))
 (semS_cons (sem1_append (semE_ite (semT_cmp (semE_var (.tail (.tail (.tail (.tail (.tail (.tail (.tail .head)))))))) semE_int eq_ok) semE_int (semE_var (.tail (.tail (.tail (.tail (.tail (.tail (.tail .head))))))))) (.tail (.tail (.tail (.tail .head)))))
 semS_nil)))
 semS_nil (.tail (.tail (.tail (.tail (.tail .head)))))))
 (semKS_cons (semK_lift (sem1_append semE_int (.tail (.tail (.tail (.tail .head))))))
 (semKS_freeze 4 (semKS_cons (semK_lift (sem1_assignComp (caps := [(1, "nothing")]) (semI_of (semE_var (.tail (.tail (.tail (.tail .head))))) rfl) (semC_one (semT_cmp (semE_var (.tail .head)) (semE_var .head) notIn_ok)) (semE_var (.tail .head)) (.tail (.tail (.tail (.tail (.tail (.tail (.tail (.tail .head))))))))))
 (semKS_cons (semK_lift (sem1_assignComp (caps := [(3, "small")]) (semI_of (semE_var (.tail (.tail (.tail (.tail (.tail (.tail (.tail (.tail .head))))))))) rfl) semC_nil (semE_meth (semE_var .head) (semA_cons (semE_var (.tail .head)) (semA_cons (semE_var (.tail .head)) semA_nil)) tyDct F.plainAttrs_dict F.slot_dict_get F.type_dict_get dctGet_ok) (.tail (.tail (.tail (.tail (.tail (.tail (.tail (.tail (.tail .head)))))))))))
 (semKS_cons (semK_lift (sem1_assign (semE_meth semE_str (semA_cons (semE_ofF (semF_comp (caps := []) (semI_of (semE_var (.tail (.tail (.tail (.tail .head))))) rfl) semC_nil (semE_bf B.chr (semA_cons (semE_var .head) semA_nil) chr_ok))) semA_nil) tyStr F.plainAttrs_str F.slot_str_join F.type_str_join join_ok) (.tail (.tail (.tail (.tail (.tail (.tail (.tail (.tail (.tail (.tail .head))))))))))))
 (semKS_cons (semK_lift (sem1_assign (semE_meth semE_str (semA_cons (semE_ofF (semF_comp (caps := []) (semI_of (semE_var (.tail (.tail (.tail (.tail (.tail (.tail (.tail (.tail (.tail (.tail .head))))))))))) rfl) (semC_one (semT_not (semT_of (semE_fn (semA_cons (semE_var .head) semA_nil) h_in_table_b1 (by decide +kernel))))) (semE_var .head))) semA_nil) tyStr F.plainAttrs_str F.slot_str_join F.type_str_join join_ok) (.tail (.tail (.tail (.tail (.tail (.tail (.tail (.tail (.tail (.tail (.tail .head)))))))))))))
 (semKS_cons (semK_lift (sem1_assign (semE_meth semE_str (semA_cons (semE_ofF (semF_comp (caps := []) (semI_of (semE_var (.tail (.tail (.tail (.tail (.tail (.tail (.tail (.tail (.tail (.tail (.tail .head)))))))))))) rfl) semC_nil (semE_fn (semA_cons (semE_var .head) semA_nil) h_map_table_b3 (by decide +kernel)))) semA_nil) tyStr F.plainAttrs_str F.slot_str_join F.type_str_join join_ok) (.tail (.tail (.tail (.tail (.tail (.tail (.tail (.tail (.tail (.tail (.tail (.tail .head))))))))))))))
 (semKS_cons (semK_lift (sem1_if (semT_bool (semL_or (semT_cmp (semE_ofF (semF_comp (caps := []) (semI_of (semE_var (.tail (.tail (.tail (.tail (.tail (.tail (.tail (.tail (.tail (.tail (.tail .head)))))))))))) rfl) semC_nil (semE_bf B.ord (semA_cons (semE_var .head) semA_nil) ord_ok))) (semE_var (.tail (.tail (.tail (.tail (.tail (.tail (.tail (.tail .head))))))))) ne_ok) (semL_or (semT_cmp (semE_ofF (semF_comp (caps := []) (semI_of (semE_var (.tail (.tail (.tail (.tail (.tail (.tail (.tail (.tail (.tail (.tail (.tail (.tail .head))))))))))))) rfl) semC_nil (semE_bf B.ord (semA_cons (semE_var .head) semA_nil) ord_ok))) (semE_var (.tail (.tail (.tail (.tail (.tail (.tail (.tail (.tail (.tail .head)))))))))) ne_ok) semL_or_nil)))
 (semS_cons (sem1_return semE_bool)
 semS_nil)
 semS_nil))
 (semKS_cons (semK_assignK (semE_var (.tail (.tail (.tail (.tail (.tail (.tail (.tail (.tail (.tail (.tail .head))))))))))) hread (by decide +kernel) (.tail (.tail (.tail (.tail (.tail (.tail (.tail (.tail (.tail (.tail (.tail (.tail (.tail .head))))))))))))))
 (semKS_cons (semK_assignK (semE_var (.tail (.tail (.tail (.tail (.tail (.tail (.tail (.tail (.tail (.tail (.tail .head)))))))))))) hread (by decide +kernel) (.tail (.tail (.tail (.tail (.tail (.tail (.tail (.tail (.tail (.tail (.tail (.tail (.tail (.tail .head)))))))))))))))
 (semKS_cons (semK_assignK (semE_var (.tail (.tail (.tail (.tail (.tail (.tail (.tail (.tail (.tail (.tail (.tail (.tail .head))))))))))))) hread (by decide +kernel) (.tail (.tail (.tail (.tail (.tail (.tail (.tail (.tail (.tail (.tail (.tail (.tail (.tail (.tail (.tail .head))))))))))))))))
 (semKS_cons (semK_lift (sem1_if (semT_cmp (semE_list (semA_cons (semE_var (.tail (.tail (.tail (.tail (.tail (.tail (.tail (.tail (.tail (.tail (.tail (.tail (.tail .head)))))))))))))) (semA_cons (semE_var (.tail (.tail (.tail (.tail (.tail (.tail (.tail (.tail (.tail (.tail (.tail (.tail (.tail (.tail .head))))))))))))))) (semA_cons (semE_var (.tail (.tail (.tail (.tail (.tail (.tail (.tail (.tail (.tail (.tail (.tail (.tail (.tail (.tail (.tail .head)))))))))))))))) semA_nil)))) (semE_list (semA_cons (semE_fn (semA_cons (semE_var (.tail (.tail (.tail (.tail .head))))) semA_nil) h_law_numbers (by decide +kernel)) (semA_cons (semE_fn (semA_cons (semE_var (.tail (.tail (.tail (.tail (.tail (.tail (.tail (.tail .head))))))))) semA_nil) h_law_numbers (by decide +kernel)) (semA_cons (semE_fn (semA_cons (semE_var (.tail (.tail (.tail (.tail (.tail (.tail (.tail (.tail (.tail .head)))))))))) semA_nil) h_law_numbers (by decide +kernel)) semA_nil)))) ne_ok)
 (semS_cons (sem1_return semE_bool)
 semS_nil)
 semS_nil))
 (semKS_cons (semK_lift (sem1_assignCompT (es := [("before", _), ("after", _)]) (semIT_zip hZip (semA_cons (semE_var (.tail (.tail (.tail (.tail (.tail (.tail (.tail (.tail (.tail (.tail (.tail (.tail (.tail (.tail .head))))))))))))))) (semA_cons (semE_var (.tail (.tail (.tail (.tail (.tail (.tail (.tail (.tail (.tail (.tail (.tail (.tail (.tail (.tail (.tail .head)))))))))))))))) semA_nil)) rfl (by decide +kernel)) (semE_fn (semA_cons (semE_var .head) (semA_cons (semE_var (.tail .head)) semA_nil)) h_law_turned (by decide +kernel)) rfl (.tail (.tail (.tail (.tail (.tail (.tail (.tail (.tail (.tail (.tail (.tail (.tail (.tail (.tail (.tail (.tail .head))))))))))))))))))
 (semKS_cons (semK_lift (sem1_if (semT_cmp (semE_neg semE_int) (semE_var (.tail (.tail (.tail (.tail (.tail (.tail (.tail (.tail (.tail (.tail (.tail (.tail (.tail (.tail (.tail (.tail .head))))))))))))))))) in_ok)
 (semS_cons (sem1_return semE_bool)
 semS_nil)
 semS_nil))
 (semKS_cons (semK_lift (sem1_assign (semE_bin semE_int (semE_bin (semE_bf B.len (semA_cons (semE_var (.tail (.tail (.tail (.tail .head))))) semA_nil) len_ok) (semE_bf B.len (semA_cons (semE_var (.tail (.tail (.tail (.tail (.tail (.tail (.tail (.tail .head))))))))) semA_nil) len_ok) sub_ok) mul_ok) (.tail (.tail (.tail (.tail (.tail (.tail (.tail (.tail (.tail (.tail (.tail (.tail (.tail (.tail (.tail (.tail (.tail .head)))))))))))))))))))
 (semKS_cons (semK_lift (sem1_assign (semE_bf B.sum (semA_cons (semE_var (.tail (.tail (.tail (.tail (.tail (.tail (.tail (.tail (.tail (.tail (.tail (.tail (.tail (.tail (.tail (.tail .head))))))))))))))))) semA_nil) (sum_ok rfl)) (.tail (.tail (.tail (.tail (.tail (.tail (.tail (.tail (.tail (.tail (.tail (.tail (.tail (.tail (.tail (.tail (.tail (.tail .head))))))))))))))))))))
 (semKS_cons (semK_lift (sem1_assign (semE_bin (semE_bf B.len (semA_cons (semE_var .head) semA_nil) len_ok) semE_int mod_ok) (.tail (.tail (.tail (.tail (.tail (.tail (.tail (.tail (.tail (.tail (.tail (.tail (.tail (.tail (.tail (.tail (.tail (.tail (.tail .head)))))))))))))))))))))
 (semKS_cons (semK_lift (sem1_if (semT_bool (semL_or (semT_cmp (semE_fn (semA_cons (semE_var (.tail (.tail (.tail (.tail (.tail (.tail (.tail (.tail (.tail (.tail .head))))))))))) (semA_cons (semE_var (.tail (.tail (.tail (.tail (.tail (.tail (.tail (.tail (.tail (.tail (.tail .head)))))))))))) (semA_cons (semE_bin (semE_var (.tail (.tail (.tail (.tail (.tail (.tail (.tail (.tail (.tail (.tail (.tail (.tail (.tail (.tail (.tail (.tail (.tail .head)))))))))))))))))) (semE_var (.tail (.tail (.tail (.tail (.tail (.tail (.tail (.tail (.tail (.tail (.tail (.tail (.tail (.tail (.tail (.tail (.tail (.tail (.tail .head)))))))))))))))))))) sub_ok) semA_nil))) h_levenshtein_distance (by decide +kernel)) (semE_var (.tail (.tail (.tail (.tail (.tail (.tail (.tail (.tail (.tail (.tail (.tail (.tail (.tail (.tail (.tail (.tail (.tail .head)))))))))))))))))) ne_ok) (semL_or (semT_cmp (semE_fn (semA_cons (semE_var (.tail (.tail (.tail (.tail (.tail (.tail (.tail (.tail (.tail (.tail (.tail (.tail .head))))))))))))) (semA_cons (semE_var (.tail (.tail (.tail (.tail (.tail (.tail (.tail (.tail (.tail (.tail (.tail .head)))))))))))) (semA_cons (semE_bin (semE_var (.tail (.tail (.tail (.tail (.tail (.tail (.tail (.tail (.tail (.tail (.tail (.tail (.tail (.tail (.tail (.tail (.tail (.tail .head))))))))))))))))))) (semE_var (.tail (.tail (.tail (.tail (.tail (.tail (.tail (.tail (.tail (.tail (.tail (.tail (.tail (.tail (.tail (.tail (.tail (.tail (.tail .head)))))))))))))))))))) sub_ok) semA_nil))) h_levenshtein_distance (by decide +kernel)) (semE_var (.tail (.tail (.tail (.tail (.tail (.tail (.tail (.tail (.tail (.tail (.tail (.tail (.tail (.tail (.tail (.tail (.tail (.tail .head))))))))))))))))))) ne_ok) semL_or_nil)))
 (semS_cons (sem1_return semE_bool)
 semS_nil)
 semS_nil))
 (semKS_cons (semK_lift (sem1_assign (semE_bin (semE_bin (semE_var (.tail (.tail (.tail (.tail (.tail (.tail (.tail (.tail (.tail (.tail (.tail (.tail (.tail (.tail (.tail (.tail (.tail .head)))))))))))))))))) (semE_var (.tail (.tail (.tail (.tail (.tail (.tail (.tail (.tail (.tail (.tail (.tail (.tail (.tail (.tail (.tail (.tail (.tail (.tail .head))))))))))))))))))) add_ok) semE_int add_ok) (.tail (.tail (.tail (.tail (.tail (.tail (.tail (.tail (.tail (.tail (.tail (.tail (.tail (.tail (.tail (.tail (.tail (.tail (.tail (.tail .head))))))))))))))))))))))
 (semKS_cons (semK_lift (sem1_assign (semE_bin (semE_bf B.chr (semA_cons semE_int semA_nil) chr_ok) (semE_var (.tail (.tail (.tail (.tail (.tail (.tail (.tail (.tail (.tail (.tail .head))))))))))) add_ok) (.tail (.tail (.tail (.tail (.tail (.tail (.tail (.tail (.tail (.tail (.tail (.tail (.tail (.tail (.tail (.tail (.tail (.tail (.tail (.tail (.tail .head)))))))))))))))))))))))
 (semKS_cons (semK_lift (sem1_assign (semE_bin (semE_var (.tail (.tail (.tail (.tail (.tail (.tail (.tail (.tail (.tail (.tail (.tail (.tail .head))))))))))))) (semE_bf B.chr (semA_cons semE_int semA_nil) chr_ok) add_ok) (.tail (.tail (.tail (.tail (.tail (.tail (.tail (.tail (.tail (.tail (.tail (.tail (.tail (.tail (.tail (.tail (.tail (.tail (.tail (.tail (.tail (.tail .head))))))))))))))))))))))))
 (semKS_cons (semK_lift (sem1_return (semE_and (semE_cmp (semE_fn (semA_cons (semE_var (.tail (.tail (.tail (.tail (.tail (.tail (.tail (.tail (.tail (.tail (.tail (.tail (.tail (.tail (.tail (.tail (.tail (.tail (.tail (.tail (.tail .head)))))))))))))))))))))) (semA_cons (semE_var (.tail (.tail (.tail (.tail (.tail (.tail (.tail (.tail (.tail (.tail (.tail (.tail (.tail (.tail (.tail (.tail (.tail (.tail (.tail (.tail (.tail (.tail .head))))))))))))))))))))))) (semA_cons (semE_bin (semE_var (.tail (.tail (.tail (.tail (.tail (.tail (.tail (.tail (.tail (.tail (.tail (.tail (.tail (.tail (.tail (.tail (.tail (.tail (.tail (.tail .head))))))))))))))))))))) (semE_var (.tail (.tail (.tail (.tail (.tail (.tail (.tail (.tail (.tail (.tail (.tail (.tail (.tail (.tail (.tail (.tail (.tail (.tail (.tail .head)))))))))))))))))))) sub_ok) semA_nil))) h_levenshtein_distance (by decide +kernel)) (semE_var (.tail (.tail (.tail (.tail (.tail (.tail (.tail (.tail (.tail (.tail (.tail (.tail (.tail (.tail (.tail (.tail (.tail (.tail (.tail (.tail .head))))))))))))))))))))) eq_ok) (semE_cmp (semE_fn (semA_cons (semE_var (.tail (.tail (.tail (.tail (.tail (.tail (.tail (.tail (.tail (.tail (.tail (.tail (.tail (.tail (.tail (.tail (.tail (.tail (.tail (.tail (.tail .head)))))))))))))))))))))) (semA_cons (semE_var (.tail (.tail (.tail (.tail (.tail (.tail (.tail (.tail (.tail (.tail (.tail (.tail (.tail (.tail (.tail (.tail (.tail (.tail (.tail (.tail (.tail (.tail .head))))))))))))))))))))))) (semA_cons semE_int semA_nil))) h_levenshtein_distance (by decide +kernel)) semE_int eq_ok))))
 semKS_nil))))))))))))))))))))))))))))
   a hfr G r rfl ?_ ⟨["nothing", "pairs", "small", "tape", "k", "x", "octet", "kept", "folded", "text", "bare", "prepared", "first", "second", "third", "parts", "lost", "turned", "less", "due", "ahead", "behind"], rfl⟩ (by decide +kernel) (by decide +kernel) rfl rfl rfl
  have T9 := tape_ok ns
  refine seqW_of (σ1 := [.val (.lst (ns.map .int)), .val (.lst (nothingL.map fun (n : Nat) => AV.int (n : Nat))), .unset, .unset, .unset, .unset, .unset, .unset, .unset, .unset, .unset, .unset, .unset, .unset, .unset, .unset, .unset, .unset, .unset, .unset, .unset, .unset, .unset]) (fun K hK => ⟨by decide, by decide, by decide, by decide, by rw [List.length_map]; decide +kernel, by rw [← noth_eq] at hK; exact hK⟩) ?_
  refine seqW_of (σ1 := [.val (.lst (ns.map .int)), .val (.lst (nothingL.map fun (n : Nat) => AV.int (n : Nat))), .val (.lst (prs pairsI)), .unset, .unset, .unset, .unset, .unset, .unset, .unset, .unset, .unset, .unset, .unset, .unset, .unset, .unset, .unset, .unset, .unset, .unset, .unset, .unset]) (fun K hK => ⟨rfl, hK⟩) ?_
  refine seqW_of (σ1 := [.val (.lst (ns.map .int)), .val (.lst (nothingL.map fun (n : Nat) => AV.int (n : Nat))), .val (.lst (prs pairsI)), .val (.dct pairsI), .unset, .unset, .unset, .unset, .unset, .unset, .unset, .unset, .unset, .unset, .unset, .unset, .unset, .unset, .unset, .unset, .unset, .unset, .unset]) (fun K hK => varW_at rfl ⟨pairsI, rfl, pairsI_keys.1, pairsI_keys.2, hK⟩) ?_
  refine seqW_of (σ1 := [.val (.lst (ns.map .int)), .val (.lst (nothingL.map fun (n : Nat) => AV.int (n : Nat))), .val (.lst (prs pairsI)), .val (.dct pairsI), .own ((natI []).map .int), .unset, .unset, .unset, .unset, .unset, .unset, .unset, .unset, .unset, .unset, .unset, .unset, .unset, .unset, .unset, .unset, .unset, .unset]) (fun K hK => hK) ?_
  refine seqW_mk ⟨by decide, by decide, forW_at (range_n 8) (forW_inv (Tap2 ns (fun t a5 a6 a7 => [.val (.lst (ns.map .int)), .val (.lst (nothingL.map fun (n : Nat) => AV.int (n : Nat))), .val (.lst (prs pairsI)), .val (.dct pairsI), t, a5, a6, a7, .unset, .unset, .unset, .unset, .unset, .unset, .unset, .unset, .unset, .unset, .unset, .unset, .unset, .unset, .unset])) ?_ ?_ _ _ ⟨List.range 8, [], _, _, _, fun k hk => List.mem_range.mp hk, rfl, rfl, rfl, by decide⟩)⟩
  · rintro y xs σ ⟨ks, done, a5, a6, a7, h1, h2, rfl, h4, h5⟩ K hK
    cases ks with
    | nil => exact nomatch h2
    | cons k ks =>
      obtain ⟨rfl, e2⟩ := List.cons.inj h2
      have hk := h1 k (.head _)
      rw [List.length_cons] at h5
      have fin := hK _ ⟨ks, done ++ [octI (num2 ns k)], .val (.int (k : Nat)), .val (.int (num2 ns k)), .val (.int (rawI (num2 ns k) : Nat)), fun j hj => h1 j (.tail _ hj), e2, rfl, by rw [List.append_assoc]; exact h4, by rw [List.length_append, List.length_singleton]; (first | lia | omega)⟩
      rw [natI_snoc] at fin
      refine seqW_of (σ1 := [.val (.lst (ns.map .int)), .val (.lst (nothingL.map fun (n : Nat) => AV.int (n : Nat))), .val (.lst (prs pairsI)), .val (.dct pairsI), .own ((natI done).map .int), .val (.int (k : Nat)), .val (.int (num2 ns k)), a7, .unset, .unset, .unset, .unset, .unset, .unset, .unset, .unset, .unset, .unset, .unset, .unset, .unset, .unset, .unset]) (fun K hK => num2_item hn hk hK) ?_
      generalize num2 ns k = x at *
      refine seqW_of (σ1 := [.val (.lst (ns.map .int)), .val (.lst (nothingL.map fun (n : Nat) => AV.int (n : Nat))), .val (.lst (prs pairsI)), .val (.dct pairsI), .own ((natI done).map .int), .val (.int (k : Nat)), .val (.int x), .val (.int (rawI x : Nat)), .unset, .unset, .unset, .unset, .unset, .unset, .unset, .unset, .unset, .unset, .unset, .unset, .unset, .unset, .unset]) (fun K hK => ?_) ?_
      · refine consW_of (varW_at rfl (varW_at rfl ⟨by decide, by decide, by decide, noth_item ?_⟩))
        refine consW_of (varW_at rfl (varW_at rfl ⟨by decide, by decide, by decide, pair_item ?_⟩))
        refine consW_of (varW_at rfl ⟨by decide, by decide, by decide, consW_of (varW_at rfl ⟨by decide, by decide, by decide, ?_⟩)⟩)
        exact varW_at rfl ⟨by decide, raw_item hK⟩
      refine seqW_mk ⟨_, rfl, by rw [List.length_map, List.length_map]; (first | lia | omega), varW_at rfl ?_⟩
      exact oct_if (x := x) (K := fun v => K [.val (.lst (ns.map .int)), .val (.lst (nothingL.map fun (n : Nat) => AV.int (n : Nat))), .val (.lst (prs pairsI)), .val (.dct pairsI), .own ((natI done).map .int ++ [v]), .val (.int (k : Nat)), .val (.int x), .val (.int (rawI x : Nat)), .unset, .unset, .unset, .unset, .unset, .unset, .unset, .unset, .unset, .unset, .unset, .unset, .unset, .unset, .unset]) fin
  · rintro σ ⟨ks, done, a5, a6, a7, h1, h2, rfl, h4, h5⟩
    cases ks with
    | cons => exact nomatch h2
    | nil =>
    rw [List.map_nil, List.append_nil] at h4
    subst h4
    refine seqN ?_
    refine seqW_of (σ1 := [.val (.lst (ns.map .int)), .val (.lst (nothingL.map fun (n : Nat) => AV.int (n : Nat))), .val (.lst (prs pairsI)), .val (.dct pairsI), .own ((natI (tape8 ns)).map AV.int ++ [AV.int ((55 : Nat) : Int)]), a5, a6, a7, .unset, .unset, .unset, .unset, .unset, .unset, .unset, .unset, .unset, .unset, .unset, .unset, .unset, .unset, .unset]) (fun K hK => ⟨_, rfl, by rw [List.length_map, List.length_map]; (first | lia | omega), hK⟩) ?_
    rw [← natI_snoc, show tape8 ns ++ [55] = tape9 ns from rfl]
    generalize tape9 ns = T at *
    obtain ⟨tE, kE, fE⟩ := T9.ended
    obtain ⟨sT, pT, eT⟩ := T9.pairs
    have hk9 := T9.klen
    have hK2 := T9.kept
    have hT9 := T9.len
    have hmT := T9.mem
    have d1 := fun mx h => T9.dist1 (mx := mx) h
    have d2 := fun mx h => T9.dist2 (mx := mx) h
    have d3 := fun mx h => T9.dist3 (mx := mx) h
    have d4 := T9.dist4
    have hlost : lostI T = 2 * ((T.length : Int) - (T.filter keepN).length) := rfl
    generalize hC : T.filter keepN = C at *
    generalize hD : C.map foldN = D at *
    obtain ⟨p1, p2, p3⟩ := parts_ok pT
    generalize hP : partsL (numsR C).1 (numsR D).1 = P at *
    have hD9 : D.length ≤ 9 := by rw [← hD, List.length_map]; exact hk9
    have hnC := numsR_len C
    refine seqW_of (σ := [.val (.lst (ns.map .int)), .val (.lst (nothingL.map fun (n : Nat) => AV.int (n : Nat))), .val (.lst (prs pairsI)), .val (.dct pairsI), .val (.lst ((natI T).map .int)), a5, a6, a7, .unset, .unset, .unset, .unset, .unset, .unset, .unset, .unset, .unset, .unset, .unset, .unset, .unset, .unset, .unset]) (σ1 := [.val (.lst (ns.map .int)), .val (.lst (nothingL.map fun (n : Nat) => AV.int (n : Nat))), .val (.lst (prs pairsI)), .val (.dct pairsI), .val (.lst ((natI T).map .int)), a5, a6, a7, .val (.lst ((natI C).map .int)), .unset, .unset, .unset, .unset, .unset, .unset, .unset, .unset, .unset, .unset, .unset, .unset, .unset, .unset]) (fun K hK => ⟨rfl, varW_at rfl ⟨by rw [List.length_map, List.length_map]; (first | lia | omega), compL_at (natI_map T) (compL_on (f := nI) keepN nI T [] (fun c _ K hK => varW_at rfl (varW_at rfl (notIn_nats hK))) (fun c _ _ K hK => hK) ?_)⟩⟩) ?_
    · rw [natI_map C] at hK; rw [List.nil_append, hC]; exact hK
    refine seqW_of (σ1 := [.val (.lst (ns.map .int)), .val (.lst (nothingL.map fun (n : Nat) => AV.int (n : Nat))), .val (.lst (prs pairsI)), .val (.dct pairsI), .val (.lst ((natI T).map .int)), a5, a6, a7, .val (.lst ((natI C).map .int)), .val (.lst ((natI D).map .int)), .unset, .unset, .unset, .unset, .unset, .unset, .unset, .unset, .unset, .unset, .unset, .unset, .unset]) (fun K hK => ⟨rfl, varW_at rfl ⟨by rw [List.length_map, List.length_map]; (first | lia | omega), compL_at (natI_map C) (compL_all (f := nI) (fun c => .int (foldN c : Nat)) C (fun _ _ h => h) (fun c _ K hK => ⟨trivial, get_at hK⟩) ?_)⟩⟩) ?_
    · have e : D.map nI = C.map fun c => AV.int (foldN c : Nat) := by rw [← hD, List.map_map]; rfl
      rw [natI_map D, e] at hK; exact hK
    refine seqW_of (σ1 := [.val (.lst (ns.map .int)), .val (.lst (nothingL.map fun (n : Nat) => AV.int (n : Nat))), .val (.lst (prs pairsI)), .val (.dct pairsI), .val (.lst ((natI T).map .int)), a5, a6, a7, .val (.lst ((natI C).map .int)), .val (.lst ((natI D).map .int)), .val (.str T), .unset, .unset, .unset, .unset, .unset, .unset, .unset, .unset, .unset, .unset, .unset, .unset]) (fun K hK => ⟨trivial, rfl, varW_at rfl ⟨by rw [List.length_map, List.length_map]; (first | lia | omega), compL_at (natI_map T) (compL_all (f := nI) (fun c => .str [c]) T (fun _ _ h => h) (fun c hc K hK => chr_at (chr_le c (hmT c hc)) hK) (joinS (by (first | lia | omega)) hK))⟩⟩) ?_
    refine seqW_of (σ1 := [.val (.lst (ns.map .int)), .val (.lst (nothingL.map fun (n : Nat) => AV.int (n : Nat))), .val (.lst (prs pairsI)), .val (.dct pairsI), .val (.lst ((natI T).map .int)), a5, a6, a7, .val (.lst ((natI C).map .int)), .val (.lst ((natI D).map .int)), .val (.str T), .val (.str C), .unset, .unset, .unset, .unset, .unset, .unset, .unset, .unset, .unset, .unset, .unset]) (fun K hK => ⟨trivial, rfl, varW_at rfl ⟨by rw [chrs, List.length_map]; (first | lia | omega), compL_on (f := fun c => AV.str [c]) keepN (fun c => .str [c]) T [] (fun c hc K hK => b1_at (hmT c hc) hK) (fun c _ _ K hK => hK) ?_⟩⟩) ?_
    · rw [List.nil_append, hC]; exact joinS (by (first | lia | omega)) hK
    refine seqW_of (σ1 := [.val (.lst (ns.map .int)), .val (.lst (nothingL.map fun (n : Nat) => AV.int (n : Nat))), .val (.lst (prs pairsI)), .val (.dct pairsI), .val (.lst ((natI T).map .int)), a5, a6, a7, .val (.lst ((natI C).map .int)), .val (.lst ((natI D).map .int)), .val (.str T), .val (.str C), .val (.str D), .unset, .unset, .unset, .unset, .unset, .unset, .unset, .unset, .unset, .unset]) (fun K hK => ⟨trivial, rfl, varW_at rfl ⟨by rw [chrs, List.length_map]; (first | lia | omega), compL_all (f := fun c => AV.str [c]) (fun c => .str [foldN c]) C (fun _ _ h => h) (fun c hc K hK => b3_at (hK2 c hc).1 (hK2 c hc).2 hK) ?_⟩⟩) ?_
    · have e : (C.map fun c => AV.str [foldN c]) = D.map fun c => AV.str [c] := by rw [← hD, List.map_map]; rfl
      rw [e]; exact joinS (by (first | lia | omega)) hK
    refine seqW_mk ⟨rfl, by rw [chrs, List.length_map]; (first | lia | omega), compL_all (f := fun c => AV.str [c]) nI C (fun _ _ h => h) (fun c _ K hK => hK) (varW_at rfl (neW_nats (ffT ?_)))⟩
    refine ⟨rfl, by rw [chrs, List.length_map]; (first | lia | omega), compL_all (f := fun c => AV.str [c]) nI D (fun _ _ h => h) (fun c _ K hK => hK) (varW_at rfl (neW_nats (ffT (ff (seqN ?_)))))⟩
    refine seqW_of (σ1 := [.val (.lst (ns.map .int)), .val (.lst (nothingL.map fun (n : Nat) => AV.int (n : Nat))), .val (.lst (prs pairsI)), .val (.dct pairsI), .val (.lst ((natI T).map .int)), a5, a6, a7, .val (.lst ((natI C).map .int)), .val (.lst ((natI D).map .int)), .val (.str T), .val (.str C), .val (.str D), .val (.lst ((natI (numsR T).1).map .int)), .unset, .unset, .unset, .unset, .unset, .unset, .unset, .unset, .unset]) (fun K hK => varW_at rfl ⟨T, rfl, tE, by (first | lia | omega), hK⟩) ?_
    refine seqW_of (σ1 := [.val (.lst (ns.map .int)), .val (.lst (nothingL.map fun (n : Nat) => AV.int (n : Nat))), .val (.lst (prs pairsI)), .val (.dct pairsI), .val (.lst ((natI T).map .int)), a5, a6, a7, .val (.lst ((natI C).map .int)), .val (.lst ((natI D).map .int)), .val (.str T), .val (.str C), .val (.str D), .val (.lst ((natI (numsR T).1).map .int)), .val (.lst ((natI (numsR C).1).map .int)), .unset, .unset, .unset, .unset, .unset, .unset, .unset, .unset]) (fun K hK => varW_at rfl ⟨C, rfl, kE, by (first | lia | omega), hK⟩) ?_
    refine seqW_of (σ1 := [.val (.lst (ns.map .int)), .val (.lst (nothingL.map fun (n : Nat) => AV.int (n : Nat))), .val (.lst (prs pairsI)), .val (.dct pairsI), .val (.lst ((natI T).map .int)), a5, a6, a7, .val (.lst ((natI C).map .int)), .val (.lst ((natI D).map .int)), .val (.str T), .val (.str C), .val (.str D), .val (.lst ((natI (numsR T).1).map .int)), .val (.lst ((natI (numsR C).1).map .int)), .val (.lst ((natI (numsR D).1).map .int)), .unset, .unset, .unset, .unset, .unset, .unset, .unset]) (fun K hK => varW_at rfl ⟨D, rfl, fE, by (first | lia | omega), hK⟩) ?_
    refine seqW_mk (consW_of (varW_at rfl (consW_of (varW_at rfl (consW_of (varW_at rfl ?_))))))
    refine consW_of (consW_of (varW_at rfl ⟨T, rfl, tE, by (first | lia | omega), ?_⟩))
    refine consW_of (consW_of (varW_at rfl ⟨C, rfl, kE, by (first | lia | omega), ?_⟩))
    refine consW_of (consW_of (varW_at rfl ⟨D, rfl, fE, by (first | lia | omega), neW_three (ffT (seqN ?_))⟩))
    refine seqW_of (σ1 := [.val (.lst (ns.map .int)), .val (.lst (nothingL.map fun (n : Nat) => AV.int (n : Nat))), .val (.lst (prs pairsI)), .val (.dct pairsI), .val (.lst ((natI T).map .int)), a5, a6, a7, .val (.lst ((natI C).map .int)), .val (.lst ((natI D).map .int)), .val (.str T), .val (.str C), .val (.str D), .val (.lst ((natI (numsR T).1).map .int)), .val (.lst ((natI (numsR C).1).map .int)), .val (.lst ((natI (numsR D).1).map .int)), .val (.lst (P.map .int)), .unset, .unset, .unset, .unset, .unset, .unset]) (fun K hK => consW_of (varW_at rfl (consW_of (varW_at rfl (zipW_at (parts_comp pT (fun n n2 h1 h2 K hK => consW_of (varW_at rfl (consW_of (varW_at rfl ⟨n, n2, rfl, h1, h2, hK⟩)))) [] (by rw [List.length_nil]; (first | lia | omega)) ?_)))))) ?_
    · rw [List.nil_append, hP]; exact hK
    refine seqW_mk (varW_at rfl (minus_one p2 (ffT (seqN ?_))))
    refine seqW_of (σ1 := [.val (.lst (ns.map .int)), .val (.lst (nothingL.map fun (n : Nat) => AV.int (n : Nat))), .val (.lst (prs pairsI)), .val (.dct pairsI), .val (.lst ((natI T).map .int)), a5, a6, a7, .val (.lst ((natI C).map .int)), .val (.lst ((natI D).map .int)), .val (.str T), .val (.str C), .val (.str D), .val (.lst ((natI (numsR T).1).map .int)), .val (.lst ((natI (numsR C).1).map .int)), .val (.lst ((natI (numsR D).1).map .int)), .val (.lst (P.map .int)), .val (.int (lostI T)), .unset, .unset, .unset, .unset, .unset]) (fun K hK => consW_of (varW_at rfl ⟨by rw [List.length_map, List.length_map]; (first | lia | omega), consW_of (varW_at rfl ⟨by rw [List.length_map, List.length_map]; (first | lia | omega), .inl (by unfold Small; decide), ?_⟩)⟩)) ?_
    · rw [hlost] at hK; rw [List.length_map, List.length_map, List.length_map, List.length_map]; exact hK
    refine seqW_of (σ1 := [.val (.lst (ns.map .int)), .val (.lst (nothingL.map fun (n : Nat) => AV.int (n : Nat))), .val (.lst (prs pairsI)), .val (.dct pairsI), .val (.lst ((natI T).map .int)), a5, a6, a7, .val (.lst ((natI C).map .int)), .val (.lst ((natI D).map .int)), .val (.str T), .val (.str C), .val (.str D), .val (.lst ((natI (numsR T).1).map .int)), .val (.lst ((natI (numsR C).1).map .int)), .val (.lst ((natI (numsR D).1).map .int)), .val (.lst (P.map .int)), .val (.int (lostI T)), .val (.int (turnI T)), .unset, .unset, .unset, .unset]) (fun K hK => consW_of (varW_at rfl ⟨P, intsA_map P, p3 0 (Int.le_refl _) (by (first | lia | omega)), ?_⟩)) ?_
    · rw [p1, eT]; exact hK
    obtain ⟨e, he, h01⟩ : ∃ e : Int, (((ns.map AV.int).length : Nat) : Int) % 2 = e ∧ (e = 0 ∨ e = 1) := ⟨_, rfl, Int.emod_two_eq _⟩
    refine seqW_of (σ1 := [.val (.lst (ns.map .int)), .val (.lst (nothingL.map fun (n : Nat) => AV.int (n : Nat))), .val (.lst (prs pairsI)), .val (.dct pairsI), .val (.lst ((natI T).map .int)), a5, a6, a7, .val (.lst ((natI C).map .int)), .val (.lst ((natI D).map .int)), .val (.str T), .val (.str C), .val (.str D), .val (.lst ((natI (numsR T).1).map .int)), .val (.lst ((natI (numsR C).1).map .int)), .val (.lst ((natI (numsR D).1).map .int)), .val (.lst (P.map .int)), .val (.int (lostI T)), .val (.int (turnI T)), .val (.int e), .unset, .unset, .unset]) (fun K hK => consW_of (varW_at rfl ⟨by rw [List.length_map]; (first | lia | omega), by decide, by rw [he]; exact hK⟩)) ?_
    have lT : ∀ c ∈ T, (lowerL [c]).length ≤ 1000000 := fun c hc => (low_len c (hmT c hc)).1
    have lC : ∀ c ∈ C, (lowerL [c]).length ≤ 1000000 := fun c hc => (low_len c (hK2 c hc).1).1
    have lD : ∀ c ∈ D, (lowerL [c]).length ≤ 1000000 := fun c hc => by
      rw [← hD] at hc
      obtain ⟨x, hx, rfl⟩ := List.mem_map.mp hc
      exact (low_len x (hK2 x hx).1).2
    refine seqW_mk (consW_of (varW_at rfl (consW_of (varW_at rfl (consW_of (varW_at rfl (varW_at rfl ⟨T, C, lostI T - e, rfl, by (first | lia | omega), by (first | lia | omega), lT, lC, ?_⟩)))))))
    rw [d1 _ (by (first | lia | omega))]
    refine varW_at rfl (neI (ffT ?_))
    refine consW_of (varW_at rfl (consW_of (varW_at rfl (consW_of (varW_at rfl (varW_at rfl ⟨D, C, turnI T - e, rfl, by (first | lia | omega), by (first | lia | omega), lD, lC, ?_⟩))))))
    rw [d2 _ (by (first | lia | omega))]
    refine varW_at rfl (neI (ffT (ff (seqN ?_))))
    refine seqW_of (σ1 := [.val (.lst (ns.map .int)), .val (.lst (nothingL.map fun (n : Nat) => AV.int (n : Nat))), .val (.lst (prs pairsI)), .val (.dct pairsI), .val (.lst ((natI T).map .int)), a5, a6, a7, .val (.lst ((natI C).map .int)), .val (.lst ((natI D).map .int)), .val (.str T), .val (.str C), .val (.str D), .val (.lst ((natI (numsR T).1).map .int)), .val (.lst ((natI (numsR C).1).map .int)), .val (.lst ((natI (numsR D).1).map .int)), .val (.lst (P.map .int)), .val (.int (lostI T)), .val (.int (turnI T)), .val (.int e), .val (.int (lostI T + turnI T + 4)), .unset, .unset]) (fun K hK => varW_at rfl (varW_at rfl hK)) ?_
    refine seqW_of (σ1 := [.val (.lst (ns.map .int)), .val (.lst (nothingL.map fun (n : Nat) => AV.int (n : Nat))), .val (.lst (prs pairsI)), .val (.dct pairsI), .val (.lst ((natI T).map .int)), a5, a6, a7, .val (.lst ((natI C).map .int)), .val (.lst ((natI D).map .int)), .val (.str T), .val (.str C), .val (.str D), .val (.lst ((natI (numsR T).1).map .int)), .val (.lst ((natI (numsR C).1).map .int)), .val (.lst ((natI (numsR D).1).map .int)), .val (.lst (P.map .int)), .val (.int (lostI T)), .val (.int (turnI T)), .val (.int e), .val (.int (lostI T + turnI T + 4)), .val (.str (8364 :: T)), .unset]) (fun K hK => consW_of (chr_at (c := 8364) (by decide) (varW_at rfl ⟨by rw [List.length_singleton]; (first | lia | omega), hK⟩))) ?_
    refine seqW_of (σ1 := [.val (.lst (ns.map .int)), .val (.lst (nothingL.map fun (n : Nat) => AV.int (n : Nat))), .val (.lst (prs pairsI)), .val (.dct pairsI), .val (.lst ((natI T).map .int)), a5, a6, a7, .val (.lst ((natI C).map .int)), .val (.lst ((natI D).map .int)), .val (.str T), .val (.str C), .val (.str D), .val (.lst ((natI (numsR T).1).map .int)), .val (.lst ((natI (numsR C).1).map .int)), .val (.lst ((natI (numsR D).1).map .int)), .val (.lst (P.map .int)), .val (.int (lostI T)), .val (.int (turnI T)), .val (.int e), .val (.int (lostI T + turnI T + 4)), .val (.str (8364 :: T)), .val (.str (D ++ [8365]))]) (fun K hK => varW_at rfl (consW_of (chr_at (c := 8365) (by decide) ⟨by rw [List.length_singleton]; (first | lia | omega), hK⟩))) ?_
    have lA : ∀ c ∈ 8364 :: T, (lowerL [c]).length ≤ 1000000 := fun c hc => (List.mem_cons.mp hc).elim (fun q => by rw [q]; exact low_two.1) (lT c)
    have lB : ∀ c ∈ D ++ [8365], (lowerL [c]).length ≤ 1000000 := fun c hc => (List.mem_append.mp hc).elim (lD c) fun q => by rw [List.mem_singleton.mp q]; exact low_two.2
    have hA9 : (8364 :: T).length ≤ 1000 := by rw [List.length_cons]; (first | lia | omega)
    have hB9 : (D ++ [8365]).length ≤ 1000 := by rw [List.length_append, List.length_singleton]; (first | lia | omega)
    refine seqW_mk (consW_of (varW_at rfl (consW_of (varW_at rfl (consW_of (varW_at rfl (varW_at rfl ⟨_, _, lostI T + turnI T + 4 - e, rfl, hA9, hB9, lA, lB, ?_⟩)))))))
    rw [d3 _ (by (first | lia | omega))]
    refine varW_at rfl (eqI ?_)
    refine tru_t ?_
    refine consW_of (varW_at rfl (consW_of (varW_at rfl (consW_of ⟨_, _, 0, rfl, hA9, hB9, lA, lB, ?_⟩))))
    rw [d4]
    exact eqI rfl
end
end Mine
-- E2
set_option maxRecDepth 100000
set_option linter.unusedVariables false
namespace Mine
open PySem PySem.Calls PyProof.Rows PySem.W
theorem repL_intsF {X : Addr → Prop} {h : Heap} {vs : List Value} {ns : List Int} (r : IntsAre vs ns) : RepL X h vs (ns.map .int) := by
  induction r with
  | nil => exact .nil
  | cons _ _ _ ih => exact .cons (.int _ _) ih
theorem call1 : ∀ w mb mg pins, Left w mb mg pins → ∀ (s : Shared) (a : Addr) (vs : List Value) (ns : List Int), Gl mg mb pins s.heap → ns.length ≤ 63 → IsL s.heap a vs.toArray 0 → IntsAre vs ns → ∃ fa, mg "law" = some (.ref fa) ∧
      wpAny (model PW w) callerA (PySem.call (.ref fa) [.ref a]) (fun v s' => Grow s s' ∧ v = .bool true) (fun _ _ => False) s := by
  intro w mb mg pins Lf s a vs ns G hn hl hi
  have B := Lf.base
  have hStop := Lf.bi "StopIteration" (.type "StopIteration") (by decide +kernel) (by decide +kernel) PyProof.Rows.Boot.«StopIteration»
  have hDict := Lf.bi "dict" (.type "dict") (by decide +kernel) (by decide +kernel) PyProof.Rows.Boot.«dict»
  have hZip := Lf.bi "zip" (.type "zip") (by decide +kernel) (by decide +kernel) PyProof.Rows.Boot.«zip»
  have hRev := Lf.bi "reversed" (.type "reversed") (by decide +kernel) (by decide +kernel) PyProof.Rows.Boot.«reversed»
  have hA : AOk pins ⟨3, true⟩ callerA := ⟨by decide, by decide, .inl rfl⟩
  obtain ⟨fa, e, hw⟩ := law_walk (E := fun _ _ => False) B Lf.f21 hDict hZip (pairs_ok B Lf.f16) (inB1_ok B Lf.f2) (mapB3_ok B Lf.f4) (numbers_ok B hRev Lf.f18) (turned_ok B Lf.f20 (pretty_ok B Lf.f7) (words_ok B Lf.f17)) (lev_ok B (subCost_ok B Lf.f13) Lf.f14) (read_ok B Lf.f8 hStop Lf.f19)
    hA rfl G (vs := [.ref a]) (.cons (.lst (vs := vs) (fun h => h) ⟨0, hl⟩ (repL_intsF hi)) .nil) hn
  refine ⟨fa, e, wpAny_mono hw (fun v s' ⟨g, c, hc, r⟩ => ⟨g, ?_⟩) fun _ _ x => x⟩
  subst hc
  exact r.toBool
end Mine
-- E3
set_option maxRecDepth 100000
set_option linter.unusedVariables false
namespace Mine
open PySem PySem.Calls PyProof.Rows PySem.W
abbrev LW := PySem.Challenge.rw_rl0114_02
theorem lawPin : ∀ w mb mg pins, Left w mb mg pins → LawPinned LW mg pins := by
  intro w mb mg pins h
  obtain ⟨a, pm, c', h1, h2⟩ := h.law
  refine ⟨a, _, _, argsOf (stmtAt PW 21), bodyOf (stmtAt PW 21), scopeOf (stmtAt PW 21), h1, h2, rfl, ?_, rfl, rfl, rfl, rfl, rfl, rfl, rfl, rfl, rfl, rfl, rfl, rfl⟩
  kernel_rfl!
theorem law_call : ∀ w mb mg pins, Left w mb mg pins → ∀ (s : Shared) (a : Addr) (vs : List Value) (ns : List Int), Gl mg mb pins s.heap → ns.length ≤ 63 → IsL s.heap a vs.toArray 0 → IntsAre vs ns → ∃ fa, mg LW.name = some (.ref fa) ∧
      wpAny (model LW.prog w) callerA (PySem.call (.ref fa) [.ref a]) (fun v s' => Grow s s' ∧ v = .bool true) (fun _ _ => False) s := call1
theorem lawSaid : LW.wellSaid = true := by
  unfold LW
  unfold OpenLaw.wellSaid
  repeat' (with_reducible refine look_both ?_ ?_)
  all_goals decide +kernel
end Mine
open PySem PySem.W PyProof.Rows Mine
set_option Elab.async false
set_option maxHeartbeats 8000000 in
theorem PySem.Challenge.cw_rl0114_02_holds : PySem.Challenge.rw_rl0114_02.Holds := by
  w_on
  refine holds_law lawSaid fun said => ?_
  refine ⟨said, ?_, ?_⟩
  · exact ⟨[.list []], by decide +kernel, by decide +kernel⟩
  · exact law_open (Fi := Left) rfl rfl rfl ⟨rfl, rfl, rfl, rfl, rfl, by decide +kernel⟩ (by kernel_rfl!) ⟨[.list []], by decide +kernel, by decide +kernel⟩ rfl rfl (fun s => rfl) (by kernel_rfl!) (by kernel_rfl!) topWalk lawPin law_call
