import PyProof.Rows.All
import Wide.All
import OpenK.AllK
import Wide.FinOn
import PySem.Challenge.RW_pa0011_01
open PySem PySem.W PyProof.Rows
set_option Elab.async false
set_option maxRecDepth 100000
set_option autoImplicit false
set_option linter.unusedVariables false

/-! text M1 -/
namespace Mine

/-! ## the frozen part of a heap, growth -/
abbrev Part := Addr → Option Obj
def Sub (g g' : Part) : Prop := ∀ a o, g a = some o → g' a = some o
def Inn (g : Part) (h : Heap) : Prop := ∀ a o, g a = some o → h.get? a = some o
def Keep (h h' : Heap) : Prop := ∀ a o, h.get? a = some o → h'.get? a = some o
theorem Sub.refl (g : Part) : Sub g g := fun _ _ e => e
theorem Sub.trans {g₁ g₂ g₃ : Part} (x : Sub g₁ g₂) (y : Sub g₂ g₃) : Sub g₁ g₃ := fun a o e => y a o (x a o e)
theorem Keep.refl (h : Heap) : Keep h h := fun _ _ e => e
theorem Keep.trans {h₁ h₂ h₃ : Heap} (x : Keep h₁ h₂) (y : Keep h₂ h₃) : Keep h₁ h₃ := fun a o e => y a o (x a o e)
theorem Keep.none {h h' : Heap} (x : Keep h h') {a : Addr} (e : h'.get? a = none) : h.get? a = none := by
  cases q : h.get? a with
  | none => rfl
  | some o => rw [x a o q] at e; cases e
theorem Keep.push (h : Heap) (o : Obj) : Keep h (h.push o) := fun _ _ e => Heap.get?_push_of_some o e
theorem get?_size_none (h : Heap) : h.get? h.objs.size = none := by
  cases q : h.get? h.objs.size with
  | none => rfl
  | some o => exact absurd (Heap.lt_size q) (Nat.lt_irrefl _)

structure Grow (g : Part) (h : Heap) (g' : Part) (h' : Heap) : Prop where
  sub : Sub g g'
  inn : Inn g' h'
  keep : Keep h h'
  new : ∀ a o, g' a = some o → g a = some o ∨ h.get? a = none
theorem Grow.refl {g : Part} {h : Heap} (x : Inn g h) : Grow g h g h := ⟨Sub.refl g, x, Keep.refl h, fun _ _ e => .inl e⟩
theorem Grow.trans {g₁ g₂ g₃ : Part} {h₁ h₂ h₃ : Heap} (x : Grow g₁ h₁ g₂ h₂) (y : Grow g₂ h₂ g₃ h₃) : Grow g₁ h₁ g₃ h₃ :=
  ⟨x.sub.trans y.sub, y.inn, x.keep.trans y.keep, fun a o e => (y.new a o e).elim (x.new a o) fun n => .inr (x.keep.none n)⟩
theorem Grow.ofKeep {g : Part} {h h' : Heap} (x : Inn g h) (k : Keep h h') : Grow g h g h' := ⟨Sub.refl g, fun a o e => k a o (x a o e), k, fun _ _ e => .inl e⟩

/-- one more object is frozen -/
def Part.put (g : Part) (a : Addr) (o : Obj) : Part := fun b => if b = a then some o else g b
theorem put_self (g : Part) (a : Addr) (o : Obj) : (g.put a o) a = some o := by simp [Part.put]
theorem put_ne {g : Part} {a b : Addr} {o : Obj} (h : b ≠ a) : (g.put a o) b = g b := by simp [Part.put, h]
theorem put_sub {g : Part} {a : Addr} {o : Obj} (h : g a = none) : Sub g (g.put a o) := fun b o' e => by
  by_cases hb : b = a
  · subst hb; rw [h] at e; cases e
  · rw [put_ne hb]; exact e
theorem Grow.put {g : Part} {h h' : Heap} {a : Addr} {o : Obj} (x : Inn g h) (k : Keep h h') (hn : h.get? a = none) (ho : h'.get? a = some o) : Grow g h (g.put a o) h' := by
  have hg : g a = none := by
    cases q : g a with
    | none => rfl
    | some o' => rw [x a o' q] at hn; cases hn
  refine ⟨put_sub hg, fun b o' e => ?_, k, fun b o' e => ?_⟩
  · by_cases hb : b = a
    · subst hb; rw [put_self] at e; cases e; exact ho
    · rw [put_ne hb] at e; exact k b o' (x b o' e)
  · by_cases hb : b = a
    · subst hb; exact .inr hn
    · rw [put_ne hb] at e; exact .inl e
theorem Inn.none {g : Part} {h : Heap} (x : Inn g h) {a : Addr} (hn : h.get? a = none) : g a = none := by
  cases q : g a with
  | none => rfl
  | some o' => rw [x a o' q] at hn; cases hn

/-! ## plain data -/
inductive D where
  | none | bool (b : Bool) | int (i : Int) | str (s : Str) | bytes (b : Array UInt8) | ty (n : String)
  | list (xs : List D) | tuple (xs : List D) | addr (a : Addr)

def Lst (g : Part) (a : Addr) (vs : List Value) : Prop := ∃ o n, g a = some o ∧ o.cls = .type "list" ∧ o.data = .seq vs.toArray n
def Tup (g : Part) (a : Addr) (vs : List Value) : Prop := ∃ o n, g a = some o ∧ o.cls = .type "tuple" ∧ o.data = .seq vs.toArray n
theorem Lst.sub {g g' : Part} {a : Addr} {vs : List Value} (x : Lst g a vs) (s : Sub g g') : Lst g' a vs := let ⟨o, n, e, r⟩ := x; ⟨o, n, s _ _ e, r⟩
theorem Tup.sub {g g' : Part} {a : Addr} {vs : List Value} (x : Tup g a vs) (s : Sub g g') : Tup g' a vs := let ⟨o, n, e, r⟩ := x; ⟨o, n, s _ _ e, r⟩
theorem Lst.inn {g : Part} {h : Heap} {a : Addr} {vs : List Value} (x : Lst g a vs) (s : Inn g h) : h.IsList a vs.toArray := let ⟨o, n, e, c, d⟩ := x; ⟨o, s _ _ e, c, n, d⟩
theorem Tup.inn {g : Part} {h : Heap} {a : Addr} {vs : List Value} (x : Tup g a vs) (s : Inn g h) : h.IsTuple a vs.toArray := let ⟨o, n, e, c, d⟩ := x; ⟨o, s _ _ e, c, n, d⟩

mutual
inductive Is (g : Part) : Value → D → Prop
  | none : Is g .none .none
  | bool (b : Bool) : Is g (.bool b) (.bool b)
  | int (i : Int) (t : Tok) : Is g (.int i t) (.int i)
  | str (s : Str) (t : Tok) : Is g (.str s t) (.str s)
  | bytes (b : Array UInt8) (t : Tok) : Is g (.bytes b t) (.bytes b)
  | ty (n : String) : Is g (.type n) (.ty n)
  | list {a : Addr} {vs : List Value} {ds : List D} : Lst g a vs → Isl g vs ds → Is g (.ref a) (.list ds)
  | tuple {a : Addr} {vs : List Value} {ds : List D} : Tup g a vs → Isl g vs ds → Is g (.ref a) (.tuple ds)
  | addr (a : Addr) : Is g (.ref a) (.addr a)
inductive Isl (g : Part) : List Value → List D → Prop
  | nil : Isl g [] []
  | cons {v : Value} {d : D} {vs : List Value} {ds : List D} : Is g v d → Isl g vs ds → Isl g (v :: vs) (d :: ds)
end

mutual
theorem Is.sub {g g' : Part} (s : Sub g g') : ∀ {v : Value} {d : D}, Is g v d → Is g' v d
  | _, _, .none => .none
  | _, _, .bool b => .bool b
  | _, _, .int i t => .int i t
  | _, _, .str x t => .str x t
  | _, _, .bytes b t => .bytes b t
  | _, _, .ty n => .ty n
  | _, _, .list l r => .list (l.sub s) (Isl.sub s r)
  | _, _, .tuple l r => .tuple (l.sub s) (Isl.sub s r)
  | _, _, .addr a => .addr a
theorem Isl.sub {g g' : Part} (s : Sub g g') : ∀ {vs : List Value} {ds : List D}, Isl g vs ds → Isl g' vs ds
  | _, _, .nil => .nil
  | _, _, .cons x y => .cons (Is.sub s x) (Isl.sub s y)
end

theorem Isl.length {g : Part} : ∀ {vs : List Value} {ds : List D}, Isl g vs ds → vs.length = ds.length
  | _, _, .nil => rfl
  | _, _, .cons _ y => by simp [Isl.length y]
theorem Isl.get {g : Part} : ∀ {vs : List Value} {ds : List D}, Isl g vs ds → ∀ (i : Nat) (v : Value), vs[i]? = some v → ∃ d, ds[i]? = some d ∧ Is g v d
  | _, _, .nil, i, v, e => by simp at e
  | _, _, .cons x y, 0, v, e => by simp at e; subst e; exact ⟨_, rfl, x⟩
  | _, _, .cons x y, i + 1, v, e => by simp at e; simpa using Isl.get y i v e
theorem Isl.getD {g : Part} : ∀ {vs : List Value} {ds : List D}, Isl g vs ds → ∀ (i : Nat) (d : D), ds[i]? = some d → ∃ v, vs[i]? = some v ∧ Is g v d
  | _, _, .nil, i, v, e => by simp at e
  | _, _, .cons x y, 0, v, e => by simp at e; subst e; exact ⟨_, rfl, x⟩
  | _, _, .cons x y, i + 1, v, e => by simp at e; simpa using Isl.getD y i v e
theorem Isl.append {g : Part} : ∀ {vs vs' : List Value} {ds ds' : List D}, Isl g vs ds → Isl g vs' ds' → Isl g (vs ++ vs') (ds ++ ds')
  | _, _, _, _, .nil, z => z
  | _, _, _, _, .cons x y, z => .cons x (Isl.append y z)
theorem Isl.take {g : Part} : ∀ {vs : List Value} {ds : List D} (n : Nat), Isl g vs ds → Isl g (vs.take n) (ds.take n)
  | _, _, 0, _ => by simpa using Isl.nil
  | _, _, n + 1, .nil => by simpa using Isl.nil
  | _, _, n + 1, .cons x y => by simpa using Isl.cons x (Isl.take n y)
theorem Isl.drop {g : Part} : ∀ {vs : List Value} {ds : List D} (n : Nat), Isl g vs ds → Isl g (vs.drop n) (ds.drop n)
  | _, _, 0, z => by simpa using z
  | _, _, n + 1, .nil => by simpa using Isl.nil
  | _, _, n + 1, .cons x y => by simpa using Isl.drop n y
theorem Isl.reverse {g : Part} : ∀ {vs : List Value} {ds : List D}, Isl g vs ds → Isl g vs.reverse ds.reverse
  | _, _, .nil => by simpa using Isl.nil
  | _, _, .cons x y => by simpa using Isl.append (Isl.reverse y) (.cons x .nil)
theorem Isl.ints {g : Part} : ∀ {vs : List Value} {ns : List Int}, Isl g vs (ns.map .int) → IntsAre vs ns
  | _, [], .nil => by first | exact IntsAre.nil | simp [IntsAre] | constructor
  | _, n :: ns, .cons x y => by
    cases x
    have := Isl.ints (ns := ns) y
    first | exact IntsAre.cons this | (constructor <;> assumption)

end Mine

/-! text M2 -/
namespace Mine

/-! ## the program's defs, by their place in the text -/
def fnPart (i : Nat) : Str × Arguments × List Stmt × Scope := match PySem.Challenge.pw_pa0011_01.main.body.drop i with
  | .FunctionDef n a b _ _ _ sc _ _ _ :: _ => (n, a, b, sc)
  | _ => (Str.empty, ⟨[], [], none, [], [], none, []⟩, [], ⟨.function, [], false, false, []⟩)
def fnName (i : Nat) : Str := (fnPart i).1
def fnArgs (i : Nat) : Arguments := (fnPart i).2.1
def fnBody (i : Nat) : List Stmt := (fnPart i).2.2.1
def fnScope (i : Nat) : Scope := (fnPart i).2.2.2

def fnObj (i : Nat) (dV kV doc pm : Value) (an : Option Addr) (cd ct : Value) : FuncData := fnX (fnName i) (fnName i) (fnArgs i) (fnBody i) (fnScope i) [] dV kV doc pm an cd ct

/-- the defaults of def i: a tuple for b64encode and b64decode, none else -/
def DefOk (h : Heap) (i : Nat) (dV : Value) : Prop :=
  if i = 16 then ∃ T o n, dV = .ref T ∧ h.get? T = some o ∧ o.data = .seq #[.none] n
  else if i = 17 then ∃ T o n, dV = .ref T ∧ h.get? T = some o ∧ o.data = .seq #[.none, .bool false] n
  else dV = .none
theorem DefOk.keep {h h' : Heap} {i : Nat} {dV : Value} (x : DefOk h i dV) (k : Keep h h') : DefOk h' i dV := by
  unfold DefOk at *
  split at x
  · obtain ⟨T, o, n, e1, e2, e3⟩ := x; rw [if_pos (by assumption)]; exact ⟨T, o, n, e1, k _ _ e2, e3⟩
  · split at x
    · obtain ⟨T, o, n, e1, e2, e3⟩ := x; rw [if_neg (by assumption), if_pos (by assumption)]; exact ⟨T, o, n, e1, k _ _ e2, e3⟩
    · rw [if_neg (by assumption), if_neg (by assumption)]; exact x

structure FnAt (mg : Str → Option Value) (h : Heap) (i : Nat) (f : Addr) (dV kV : Value) : Prop where
  g : mg (fnName i) = some (.ref f)
  dfl : DefOk h i dV
  o : ∃ o doc pm an cd ct, h.get? f = some o ∧ o.data = .func (fnObj i dV kV doc pm an cd ct) ∧ h.CodeRec cd (fnName i)
theorem FnAt.keep {mg : Str → Option Value} {h h' : Heap} {i : Nat} {f : Addr} {dV kV : Value} (x : FnAt mg h i f dV kV) (k : Keep h h') : FnAt mg h' i f dV kV :=
  ⟨x.g, x.dfl.keep k, let ⟨o, doc, pm, an, cd, ct, h1, h2, h3⟩ := x.o; ⟨o, doc, pm, an, cd, ct, k _ _ h1, h2, h3.keeps k⟩⟩

/-- the built-in names that the defs read -/
def bltNames : List Str := ["isinstance", "str", "UnicodeEncodeError", "ValueError", "memoryview", "TypeError", "type", "bytes", "bytearray", "bool", "int", "float", "complex", "list", "tuple", "dict", "set", "frozenset", "range", "len", "repr", "enumerate", "zip", "sum"]
/-- the plain defs' places in the text -/
def defIdx : List Nat := [2, 5, 8, 9, 10, 12, 13, 14, 16, 17, 19, 20, 21, 22, 23, 24, 25, 26]

/-- the class Error -/
def ErrAt (mg : Str → Option Value) (h : Heap) : Prop :=
  ∃ (C N : Addr) (nm q : Str) (bs bm : List Value) (hdct : Bool) (sn : List Str) (sub : List Value) (ab : Bool) (col : Option Bool) (dd : Option Addr) (k0 k1 k2 k3 k5 : Option Value) (newId initId B : String) (mN : Str → Option Value),
    mg "Error" = some (.ref C) ∧ h.get? C = some (excClassObj nm q C N bs bm hdct sn sub ab col dd k0 k1 k2 k3 k5 newId) ∧ h.Ns N mN ∧ mN "__init__" = none ∧ ExcBaseFacts B newId initId bm ∧
    bm.contains (.type "BaseException") = true ∧ bm.contains (.type "ValueError") = true
theorem ErrAt.keep {mg : Str → Option Value} {h h' : Heap} (x : ErrAt mg h) (k : Keep h h') : ErrAt mg h' := by
  obtain ⟨C, N, nm, q, bs, bm, hdct, sn, sub, ab, col, dd, k0, k1, k2, k3, k5, newId, initId, B, mN, e1, e2, e3, e4⟩ := x
  exact ⟨C, N, nm, q, bs, bm, hdct, sn, sub, ab, col, dd, k0, k1, k2, k3, k5, newId, initId, B, mN, e1, k _ _ e2, e3.keeps k, e4⟩
def b64Signs : List Nat := "ABCDEFGHIJKLMNOPQRSTUVWXYZabcdefghijklmnopqrstuvwxyz0123456789+/".toList.map (·.toNat)
def b64Bytes : List UInt8 := b64Signs.map fun n => n.toUInt8

structure Glb (mg mb : Str → Option Value) (h : Heap) : Prop where
  g : h.Ns mainGlobals mg
  b : h.Ns builtinsNs mb
  blt : ∀ x : Str, x ≠ "__name__" → mb x = bootBuiltins x
  lim : h.NoLimit
  fn : ∀ i ∈ defIdx, ∃ f dV kV, FnAt mg h i f dV kV
  free : ∀ x ∈ bltNames, mg x = none
  b64 : ∃ t, mg "_B64" = some (.bytes b64Bytes.toArray t)
  bt : ∃ T, mg "bytes_types" = some (.ref T) ∧ h.get? T = some { cls := .type "tuple", data := .seq [.type "bytes", .type "bytearray"].toArray }
  err : ErrAt mg h
theorem Glb.keep {mg mb : Str → Option Value} {h h' : Heap} (x : Glb mg mb h) (k : Keep h h') : Glb mg mb h' :=
  ⟨x.g.keeps k, x.b.keeps k, x.blt, x.lim.keeps k, fun i hi => let ⟨f, dV, kV, q⟩ := x.fn i hi; ⟨f, dV, kV, q.keep k⟩, x.free, x.b64, let ⟨T, e1, e2⟩ := x.bt; ⟨T, e1, k _ _ e2⟩, x.err.keep k⟩

/-! ## the context of a frame -/
structure Cx where
  prog : Program
  w : World
  A : Around
  room : Nat
  mg : Str → Option Value
  mb : Str → Option Value
  env : Env
  h₀ : Heap
  g₀ : Part
  W : Bool

structure Room (A : Around) (n : Nat) : Prop where
  hand : A.handled = none
  depth : A.depth + n < recursionLimit
  units : A.units + 8 * n + 100 < cLine
theorem Room.le {A : Around} {n k : Nat} (x : Room A n) (h : k ≤ n) : Room A k := ⟨x.hand, by have := x.depth; omega, by have := x.units; omega⟩

structure CxOK (c : Cx) : Prop where
  kind : c.env.scope.kind = .function
  glo : c.env.globals = mainGlobals
  bns : c.env.builtins = builtinsNs
  glb : Glb c.mg c.mb c.h₀
  rm : Room c.A c.room

abbrev Vars := Str → Option D
abbrev Own := List (Addr × List D)
def Vars.set (ρ : Vars) (x : Str) (d : D) : Vars := fun y => if y = x then some d else ρ y

structure Fm (c : Cx) (ρ : Vars) (own : Own) (g : Part) (h : Heap) : Prop where
  ok : CxOK c
  inn : Inn g h
  keep₀ : Keep c.h₀ h
  sub₀ : Sub c.g₀ g
  new₀ : ∀ a o, g a = some o → c.g₀ a = some o ∨ c.h₀.get? a = none
  loc : ∃ m, h.Ns c.env.locals m ∧ ∀ x d, ρ x = some d → c.env.kindOf x = some .local → ∃ v, m x = some v ∧ Is g v d
  offL : g c.env.locals = none
  newL : c.h₀.get? c.env.locals = none
  cel : ∀ x a, c.env.cells.lookup x = some a → g a = none ∧ (c.W = true → c.h₀.get? a = none) ∧ ∃ v, h.IsCell a v ∧ ∀ d, ρ x = some d → (c.env.kindOf x = some .cell ∨ c.env.kindOf x = some .free) → ∃ u, v = some u ∧ Is g u d
  celAt : ∀ x d, ρ x = some d → (c.env.kindOf x = some .cell ∨ c.env.kindOf x = some .free) → ∃ a, c.env.cells.lookup x = some a
  celInj : ∀ x y a, c.env.cells.lookup x = some a → c.env.cells.lookup y = some a → x = y
  owns : ∀ p ∈ own, g p.1 = none ∧ c.h₀.get? p.1 = none ∧ ∃ vs n, h.get? p.1 = some { cls := .type "list", data := .seq vs.toArray n } ∧ Isl g vs p.2
  nd : (own.map (·.1)).Nodup

theorem off_grow {g g' : Part} {h h' : Heap} (G : Grow g h g' h') {a : Addr} (hg : g a = none) (hh : h.get? a ≠ none) : g' a = none := by
  cases q : g' a with
  | none => rfl
  | some o => rcases G.new a o q with e | e
              · rw [hg] at e; cases e
              · exact absurd e hh

theorem Fm.grow {c : Cx} {ρ : Vars} {own : Own} {g g' : Part} {h h' : Heap} (F : Fm c ρ own g h) (G : Grow g h g' h') : Fm c ρ own g' h' where
  ok := F.ok
  inn := G.inn
  keep₀ := F.keep₀.trans G.keep
  sub₀ := F.sub₀.trans G.sub
  new₀ := fun a o e => (G.new a o e).elim (F.new₀ a o) fun n => .inr (F.keep₀.none n)
  loc := let ⟨m, n, q⟩ := F.loc; ⟨m, n.keeps G.keep, fun x d e k => let ⟨v, a, b⟩ := q x d e k; ⟨v, a, b.sub G.sub⟩⟩
  offL := off_grow G F.offL (by obtain ⟨m, ⟨o, _, _, e, _⟩, _⟩ := F.loc; rw [e]; intro q; cases q)
  newL := F.newL
  cel := fun x a e => by
    obtain ⟨h1, h2, v, h3, h4⟩ := F.cel x a e
    refine ⟨off_grow G h1 ?_, h2, v, h3.keeps G.keep, fun d q k => ?_⟩
    · obtain ⟨o, ho, _⟩ := h3; rw [ho]; intro q; cases q
    · obtain ⟨u, e1, e2⟩ := h4 d q k; exact ⟨u, e1, e2.sub G.sub⟩
  celAt := F.celAt
  celInj := F.celInj
  owns := fun p hp => by
    obtain ⟨h1, h2, vs, n, h3, h4⟩ := F.owns p hp
    exact ⟨off_grow G h1 (by rw [h3]; intro q; cases q), h2, vs, n, G.keep _ _ h3, h4.sub G.sub⟩
  nd := F.nd

/-! ## judgements -/
abbrev Cx.M (c : Cx) : Model := model c.prog c.w

/-- a tree gives d, only adding objects; no frame is asked -/
def Gp (c : Cx) (g : Part) (t : Sem Value) (d : D) : Prop :=
  ∀ (s : Shared) (Q E : Value → Shared → Prop), CxOK c → Keep c.h₀ s.heap → Inn g s.heap →
    (∀ v g' h' k, Grow g s.heap g' h' → Is g' v d → Q v { s with heap := h', toks := k }) → wpAny c.M c.A t Q E s
def Gpb (c : Cx) (g : Part) (t : Sem Bool) (b : Bool) : Prop :=
  ∀ (s : Shared) (Q : Bool → Shared → Prop) (E : Value → Shared → Prop), CxOK c → Keep c.h₀ s.heap → Inn g s.heap →
    (∀ g' h' k, Grow g s.heap g' h' → Q b { s with heap := h', toks := k }) → wpAny c.M c.A t Q E s
/-- a tree in a frame -/
def Gv (c : Cx) (ρ : Vars) (own : Own) (t : Sem Value) (d : D) : Prop :=
  ∀ (g : Part) (s : Shared) (Q E : Value → Shared → Prop), Fm c ρ own g s.heap →
    (∀ v g' h' k, Grow g s.heap g' h' → Is g' v d → Q v { s with heap := h', toks := k }) → wpAny c.M c.A t Q E s
def Gb (c : Cx) (ρ : Vars) (own : Own) (t : Sem Bool) (b : Bool) : Prop :=
  ∀ (g : Part) (s : Shared) (Q : Bool → Shared → Prop) (E : Value → Shared → Prop), Fm c ρ own g s.heap →
    (∀ g' h' k, Grow g s.heap g' h' → Q b { s with heap := h', toks := k }) → wpAny c.M c.A t Q E s
/-- a list of trees, one behind the other -/
def Gvs (c : Cx) (ρ : Vars) (own : Own) (t : Sem (List Value)) (ds : List D) : Prop :=
  ∀ (g : Part) (s : Shared) (Q : List Value → Shared → Prop) (E : Value → Shared → Prop), Fm c ρ own g s.heap →
    (∀ vs g' h' k, Grow g s.heap g' h' → Isl g' vs ds → Q vs { s with heap := h', toks := k }) → wpAny c.M c.A t Q E s
abbrev Ev (c : Cx) (ρ : Vars) (own : Own) (e : Expr) (d : D) : Prop := Gv c ρ own (eval e c.env) d
abbrev Et (c : Cx) (ρ : Vars) (own : Own) (e : Expr) (b : Bool) : Prop := Gb c ρ own (isTrue e c.env (eval e c.env)) b

section
variable {c : Cx} {ρ : Vars} {own : Own}

theorem Gp.gv {t : Sem Value} {d : D} (h : ∀ g, Gp c g t d) : Gv c ρ own t d := fun g s Q E F hQ => h g s Q E F.ok F.keep₀ F.inn hQ

theorem Gv.bind1 {t : Sem Value} {f : Value → Sem Value} {a d : D} (ht : Gv c ρ own t a) (hf : ∀ g v, Is g v a → Gp c g (f v) d) : Gv c ρ own (t >>= f) d := fun g s Q E F hQ => by
  refine wpAny_bind (ht g s _ E F fun v g₁ h₁ k₁ G₁ I₁ => ?_)
  have F₁ := F.grow G₁
  exact hf g₁ v I₁ _ _ _ F₁.ok F₁.keep₀ F₁.inn fun v' g₂ h₂ k₂ G₂ I₂ => hQ v' g₂ h₂ k₂ (G₁.trans G₂) I₂

theorem Ev.eq {e : Expr} {d d' : D} (h : Ev c ρ own e d) (q : d = d') : Ev c ρ own e d' := q ▸ h
theorem Et.eq {e : Expr} {b b' : Bool} (h : Et c ρ own e b) (q : b = b') : Et c ρ own e b' := q ▸ h

theorem Ev.int {i : Int} {k : Nat} {pos : Pos} : Ev c ρ own (.Constant (.int i) k pos) (.int i) := fun g s Q E F hQ =>
  wpAny_Constant_int (hQ _ g s.heap _ (Grow.refl F.inn) (.int i _))
theorem Ev.cbool {b : Bool} {k : Nat} {pos : Pos} : Ev c ρ own (.Constant (.bool b) k pos) (.bool b) := fun g s Q E F hQ =>
  Constant_bool (hQ _ g s.heap _ (Grow.refl F.inn) (.bool b))
theorem Ev.cnone {k : Nat} {pos : Pos} : Ev c ρ own (.Constant .none k pos) .none := fun g s Q E F hQ =>
  Constant_none (hQ _ g s.heap _ (Grow.refl F.inn) .none)
theorem Ev.cstr {x : Str} {k : Nat} {pos : Pos} : Ev c ρ own (.Constant (.str x) k pos) (.str x) := fun g s Q E F hQ => by
  intro Γ p hΓ
  exact (hQ (.str x s.toks) g s.heap (s.toks + 1) (Grow.refl F.inn) (.str x _))
theorem Ev.cbytes {b : List UInt8} {k : Nat} {pos : Pos} : Ev c ρ own (.Constant (.bytes b) k pos) (.bytes b.toArray) := fun g s Q E F hQ => by
  intro Γ p hΓ
  exact (hQ (.bytes b.toArray s.toks) g s.heap (s.toks + 1) (Grow.refl F.inn) (.bytes _ _))

theorem Gv.load {x : Str} {d : D} (hx : ρ x = some d) (hk : (match c.env.kindOf x with | some .local | some .cell | some .free => true | _ => false) = true)
    (hc : (x == ("__classdict__" : Str)) = false) : Gv c ρ own (loadName c.env x) d := fun g s Q E F hQ => by
  cases hkind : c.env.kindOf x with
  | none => rw [hkind] at hk; cases hk
  | some kd =>
    rw [hkind] at hk
    cases kd with
    | «local» =>
      obtain ⟨m, hn, hm⟩ := F.loc
      obtain ⟨v, hv, hI⟩ := hm x d hx hkind
      exact wpAny_loadName_local F.ok.kind hkind hn hv (hQ v g s.heap s.toks (Grow.refl F.inn) hI)
    | cell =>
      obtain ⟨a, ha⟩ := F.celAt x d hx (.inl hkind)
      obtain ⟨_, _, v, hv, hd⟩ := F.cel x a ha
      obtain ⟨u, rfl, hI⟩ := hd d hx (.inl hkind)
      exact wpAny_loadName_cell F.ok.kind hkind ha hv (hQ u g s.heap s.toks (Grow.refl F.inn) hI)
    | free =>
      obtain ⟨a, ha⟩ := F.celAt x d hx (.inr hkind)
      obtain ⟨_, _, v, hv, hd⟩ := F.cel x a ha
      obtain ⟨u, rfl, hI⟩ := hd d hx (.inr hkind)
      exact wpAny_loadName_free F.ok.kind hkind ha hv (hQ u g s.heap s.toks (Grow.refl F.inn) hI) hc
    | globalExplicit => cases hk
    | globalImplicit => cases hk
theorem Ev.name {x : Str} {d : D} {pos : Pos} (hx : ρ x = some d) (hk : (match c.env.kindOf x with | some .local | some .cell | some .free => true | _ => false) = true := by rfl)
    (hc : (x == ("__classdict__" : Str)) = false := by rfl) (hd : (x == ("__debug__" : Str)) = false := by rfl) : Ev c ρ own (.Name x pos) d :=
  fun g s Q E F hQ => wpAny_Name (Gv.load hx hk hc g s Q E F hQ) hd

theorem Ev.binop {l r : Expr} {op : Operator} {pos : Pos} {a b d : D} (hl : Ev c ρ own l a) (hr : Ev c ρ own r b)
    (ho : ∀ g va vb, Is g va a → Is g vb b → Gp c g (binaryOp op va vb) d) : Ev c ρ own (.BinOp l op r pos) d := fun g s Q E F hQ => by
  refine wpAny_BinOp (hl g s _ E F fun va g₁ h₁ k₁ G₁ I₁ => ?_)
  have F₁ := F.grow G₁
  refine hr g₁ _ _ E F₁ fun vb g₂ h₂ k₂ G₂ I₂ => ?_
  have F₂ := F₁.grow G₂
  exact ho g₂ va vb (I₁.sub G₂.sub) I₂ _ _ _ F₂.ok F₂.keep₀ F₂.inn fun v g₃ h₃ k₃ G₃ I₃ => hQ v g₃ h₃ k₃ ((G₁.trans G₂).trans G₃) I₃
theorem Ev.unary {x : Expr} {op : UnaryOp} {pos : Pos} {a d : D} (hl : Ev c ρ own x a) (ho : ∀ g va, Is g va a → Gp c g (unaryOp op va) d) : Ev c ρ own (.UnaryOp op x pos) d := fun g s Q E F hQ => by
  refine UnaryOp_ (hl g s _ E F fun va g₁ h₁ k₁ G₁ I₁ => ?_)
  have F₁ := F.grow G₁
  exact ho g₁ va I₁ _ _ _ F₁.ok F₁.keep₀ F₁.inn fun v g₃ h₃ k₃ G₃ I₃ => hQ v g₃ h₃ k₃ (G₁.trans G₃) I₃
theorem Ev.compare {l r : Expr} {op : CmpOp} {pos : Pos} {a b d : D} (hl : Ev c ρ own l a) (hr : Ev c ρ own r b)
    (ho : ∀ g va vb, Is g va a → Is g vb b → Gp c g (compareOp op va vb) d) (hm : behindInMarks op r = false := by with_unfolding_all rfl) : Ev c ρ own (.Compare l [op] [r] pos) d := fun g s Q E F hQ => by
  refine wpAny_Compare1 (hl g s _ E F fun va g₁ h₁ k₁ G₁ I₁ => ?_) hm
  have F₁ := F.grow G₁
  refine hr g₁ _ _ E F₁ fun vb g₂ h₂ k₂ G₂ I₂ => ?_
  have F₂ := F₁.grow G₂
  exact ho g₂ va vb (I₁.sub G₂.sub) I₂ _ _ _ F₂.ok F₂.keep₀ F₂.inn fun v g₃ h₃ k₃ G₃ I₃ => hQ v g₃ h₃ k₃ ((G₁.trans G₂).trans G₃) I₃
theorem Et.compare {l r : Expr} {op : CmpOp} {pos : Pos} {a b : D} {t : Bool} (hl : Ev c ρ own l a) (hr : Ev c ρ own r b)
    (ho : ∀ g va vb, Is g va a → Is g vb b → Gp c g (compareOp op va vb) (.bool t)) (hm : behindInMarks op r = false := by with_unfolding_all rfl) : Et c ρ own (.Compare l [op] [r] pos) t := fun g s Q E F hQ => by
  refine wpAny_isTrue_Compare1 (hl g s _ E F fun va g₁ h₁ k₁ G₁ I₁ => ?_) hm
  have F₁ := F.grow G₁
  refine hr g₁ _ _ E F₁ fun vb g₂ h₂ k₂ G₂ I₂ => ?_
  have F₂ := F₁.grow G₂
  refine ho g₂ va vb (I₁.sub G₂.sub) I₂ _ _ _ F₂.ok F₂.keep₀ F₂.inn fun v g₃ h₃ k₃ G₃ I₃ => ?_
  cases I₃
  exact wpAny_truthy_bool (hQ g₃ h₃ k₃ ((G₁.trans G₂).trans G₃))
/-- the test of a plain expression -/
theorem Et.plain {e : Expr} {d : D} {t : Bool} (h : Ev c ρ own e d) (ht : ∀ g v, Is g v d → Gpb c g (truthy v) t)
    (he : ∀ env whole, isTrue e env whole = (do let v ← whole; standAt e.pos; holding [v] (truthy v)) := by intro _ _; rfl) : Et c ρ own e t := fun g s Q E F hQ => by
  refine isTrue_plain (h g s _ E F fun v g₁ h₁ k₁ G₁ I₁ => ?_) (he _ _)
  have F₁ := F.grow G₁
  exact ht g₁ v I₁ _ _ _ F₁.ok F₁.keep₀ F₁.inn fun g₂ h₂ k₂ G₂ => hQ g₂ h₂ k₂ (G₁.trans G₂)
theorem Et.not {x : Expr} {pos : Pos} {t : Bool} (h : Et c ρ own x t) : Et c ρ own (.UnaryOp .Not x pos) (!t) := fun g s Q E F hQ =>
  isTrue_not (h g s _ E F fun g₁ h₁ k₁ G₁ => hQ g₁ h₁ k₁ G₁)
theorem Et.ands1 {x : Expr} {pos : Pos} {t : Bool} (h : Et c ρ own x t) : Et c ρ own (.BoolOp .And [x] pos) t := fun g s Q E F hQ => by
  refine isTrue_and (h g s _ E F fun g₁ h₁ k₁ G₁ => ?_)
  cases t with
  | true => exact isTrue_and_nil (hQ g₁ h₁ k₁ G₁)
  | false => exact hQ g₁ h₁ k₁ G₁
theorem Et.ands {x : Expr} {xs : List Expr} {pos : Pos} {t u : Bool} (h : Et c ρ own x t) (h' : t = true → Et c ρ own (.BoolOp .And xs pos) u) : Et c ρ own (.BoolOp .And (x :: xs) pos) (t && u) := fun g s Q E F hQ => by
  refine isTrue_and (h g s _ E F fun g₁ h₁ k₁ G₁ => ?_)
  cases t with
  | true => exact h' rfl g₁ _ _ E (F.grow G₁) fun g₂ h₂ k₂ G₂ => hQ g₂ h₂ k₂ (G₁.trans G₂)
  | false => exact hQ g₁ h₁ k₁ G₁
theorem Et.ors1 {x : Expr} {pos : Pos} {t : Bool} (h : Et c ρ own x t) : Et c ρ own (.BoolOp .Or [x] pos) t := fun g s Q E F hQ => by
  refine isTrue_or (h g s _ E F fun g₁ h₁ k₁ G₁ => ?_)
  cases t with
  | false => exact isTrue_or_nil (hQ g₁ h₁ k₁ G₁)
  | true => exact hQ g₁ h₁ k₁ G₁
theorem Et.ors {x : Expr} {xs : List Expr} {pos : Pos} {t u : Bool} (h : Et c ρ own x t) (h' : t = false → Et c ρ own (.BoolOp .Or xs pos) u) : Et c ρ own (.BoolOp .Or (x :: xs) pos) (t || u) := fun g s Q E F hQ => by
  refine isTrue_or (h g s _ E F fun g₁ h₁ k₁ G₁ => ?_)
  cases t with
  | false => exact h' rfl g₁ _ _ E (F.grow G₁) fun g₂ h₂ k₂ G₂ => hQ g₂ h₂ k₂ (G₁.trans G₂)
  | true => exact hQ g₁ h₁ k₁ G₁
theorem Ev.ifexp {test body orelse : Expr} {pos : Pos} {t : Bool} {d₁ d₂ : D} (h : Et c ρ own test t) (h₁ : t = true → Ev c ρ own body d₁) (h₂ : t = false → Ev c ρ own orelse d₂) :
    Ev c ρ own (.IfExp test body orelse pos) (if t then d₁ else d₂) := fun g s Q E F hQ => by
  refine IfExp_ (h g s _ E F fun g₁ k₁ h₁' G₁ => ?_)
  cases t with
  | true => exact h₁ rfl g₁ _ _ E (F.grow G₁) fun v g₂ k₂ h₂ G₂ I₂ => hQ v g₂ k₂ h₂ (G₁.trans G₂) I₂
  | false => exact h₂ rfl g₁ _ _ E (F.grow G₁) fun v g₂ k₂ h₂ G₂ I₂ => hQ v g₂ k₂ h₂ (G₁.trans G₂) I₂
/-- `or`, `and` as values: bools -/
theorem Ev.or2 {x y : Expr} {pos : Pos} {t u : Bool} (h : Ev c ρ own x (.bool t)) (h' : t = false → Ev c ρ own y (.bool u)) : Ev c ρ own (.BoolOp .Or [x, y] pos) (.bool (t || u)) := fun g s Q E F hQ => by
  refine BoolOp_or (h g s _ E F fun v g₁ h₁ k₁ G₁ I₁ => ?_)
  cases I₁
  refine wpAny_truthy_bool ?_
  cases t with
  | true => exact hQ _ g₁ h₁ k₁ G₁ (.bool true)
  | false => exact BoolOp_one (h' rfl g₁ _ _ E (F.grow G₁) fun v g₂ h₂ k₂ G₂ I₂ => hQ v g₂ h₂ k₂ (G₁.trans G₂) I₂)
theorem Ev.and2 {x y : Expr} {pos : Pos} {t u : Bool} (h : Ev c ρ own x (.bool t)) (h' : t = true → Ev c ρ own y (.bool u)) : Ev c ρ own (.BoolOp .And [x, y] pos) (.bool (t && u)) := fun g s Q E F hQ => by
  refine BoolOp_and (h g s _ E F fun v g₁ h₁ k₁ G₁ I₁ => ?_)
  cases I₁
  refine wpAny_truthy_bool ?_
  cases t with
  | false => exact hQ _ g₁ h₁ k₁ G₁ (.bool false)
  | true => exact BoolOp_one (h' rfl g₁ _ _ E (F.grow G₁) fun v g₂ h₂ k₂ G₂ I₂ => hQ v g₂ h₂ k₂ (G₁.trans G₂) I₂)

/-! ### several expressions one behind the other -/
inductive Evs (c : Cx) (ρ : Vars) (own : Own) : List Expr → List D → Prop
  | nil : Evs c ρ own [] []
  | cons {e : Expr} {es : List Expr} {d : D} {ds : List D} : Ev c ρ own e d → (∀ x p, e ≠ .Starred x p) → Evs c ρ own es ds → Evs c ρ own (e :: es) (d :: ds)

theorem starEach_plain {e : Expr} {es : List Expr} {env : Env} (h : ∀ x p, e ≠ .Starred x p) : starEach (e :: es) env = (false, eval e env) :: starEach es env := by
  cases e <;> first | rfl | exact absurd rfl (h _ _)

theorem wpAny_spliced_cons {M : Model} {A : Around} {x : Sem Value} {rest : List (Bool × Sem Value)} {Q : List Value → Shared → Prop} {E : Value → Shared → Prop} {s : Shared}
    (h : wpAny M A x (fun v s₁ => wpAny M A (spliced rest) (fun vs s₂ => Q (v :: vs) s₂) E s₁) E s) : wpAny M A (spliced ((false, x) :: rest)) Q E s := by
  rw [spliced]
  refine wpAny_bind (wpAny_mono h (fun v s₁ h₁ => ?_) fun _ _ e => e)
  refine wpAny_bind (wpAny_pure ?_)
  exact wpAny_bind (wpAny_holding (wpAny_mono h₁ (fun vs s₂ h₂ => wpAny_pure h₂) fun _ _ e => e))

theorem Evs.spliced {pos : Pos} {es : List Expr} {ds : List D} (h : Evs c ρ own es ds) : Gvs c ρ own (spliced (backTo pos (starEach es c.env))) ds := by
  induction h with
  | nil => exact fun g s Q E F hQ => wpAny_pure (hQ [] g s.heap s.toks (Grow.refl F.inn) .nil)
  | @cons e es d ds he hs _ ih =>
    intro g s Q E F hQ
    rw [starEach_plain hs]
    refine wpAny_spliced_cons (he g s _ E F fun v g₁ h₁ k₁ G₁ I₁ => ?_)
    exact ih g₁ _ _ E (F.grow G₁) fun vs g₂ h₂ k₂ G₂ I₂ => hQ (v :: vs) g₂ h₂ k₂ (G₁.trans G₂) (.cons (I₁.sub G₂.sub) I₂)

theorem newSeq_gp {T : String} {g : Part} {vs : List Value} {s : Shared} {Q E : Value → Shared → Prop} (hI : Inn g s.heap) (hz : vs.length ≤ sizeLine)
    (hQ : Q (.ref s.heap.objs.size) { s with heap := s.heap.push { cls := .type T, data := .seq vs.toArray } }) : wpAny c.M c.A (newObj (.type T) (.seq vs.toArray)) Q E s :=
  wpAny_newObj_type hQ (by show vs.toArray.size ≤ sizeLine; rw [List.size_toArray]; exact hz)

theorem Ev.list {es : List Expr} {pos : Pos} {ds : List D} (h : Evs c ρ own es ds) (hz : ds.length ≤ 16000000 := by simp) : Ev c ρ own (.List es pos) (.list ds) := fun g s Q E F hQ => by
  refine List_ (h.spliced g s _ E F fun vs g₁ h₁ k₁ G₁ I₁ => ?_)
  refine newSeq_gp (c := c) G₁.inn (by rw [I₁.length, sizeLine_eq]; omega) ?_
  have ho : (h₁.push { cls := .type "list", data := .seq vs.toArray }).get? h₁.objs.size = some { cls := .type "list", data := .seq vs.toArray } := Heap.get?_push_size _ rfl
  have G₂ := Grow.put G₁.inn (Keep.push h₁ _) (get?_size_none h₁) ho
  exact hQ _ _ _ k₁ (G₁.trans G₂) (.list ⟨_, _, put_self _ _ _, rfl, rfl⟩ (I₁.sub G₂.sub))
theorem Ev.tuple {es : List Expr} {k : Nat} {pos : Pos} {ds : List D} (h : Evs c ρ own es ds) (hz : ds.length ≤ 16000000 := by simp) : Ev c ρ own (.Tuple es k pos) (.tuple ds) := fun g s Q E F hQ => by
  refine Tuple_ (h.spliced g s _ E F fun vs g₁ h₁ k₁ G₁ I₁ => ?_)
  refine newSeq_gp (c := c) G₁.inn (by rw [I₁.length, sizeLine_eq]; omega) ?_
  have ho : (h₁.push { cls := .type "tuple", data := .seq vs.toArray }).get? h₁.objs.size = some { cls := .type "tuple", data := .seq vs.toArray } := Heap.get?_push_size _ rfl
  have G₂ := Grow.put G₁.inn (Keep.push h₁ _) (get?_size_none h₁) ho
  exact hQ _ _ _ k₁ (G₁.trans G₂) (.tuple ⟨_, _, put_self _ _ _, rfl, rfl⟩ (I₁.sub G₂.sub))
end
end Mine

/-! text M3 -/
namespace Mine

/-! ## ints -/
theorem Gp.val {c : Cx} {g : Part} {t : Sem Value} {d : D}
    (h : ∀ (s : Shared) (Q E : Value → Shared → Prop), CxOK c → Keep c.h₀ s.heap → Inn g s.heap → (∀ v k, Is g v d → Q v { s with toks := k }) → wpAny c.M c.A t Q E s) : Gp c g t d :=
  fun s Q E ok kp inn hQ => h s Q E ok kp inn fun v k I => hQ v g s.heap k (Grow.refl inn) I
theorem Gpb.val {c : Cx} {g : Part} {t : Sem Bool} {b : Bool}
    (h : ∀ (s : Shared) (Q : Bool → Shared → Prop) (E : Value → Shared → Prop), CxOK c → Keep c.h₀ s.heap → Inn g s.heap → (∀ k, Q b { s with toks := k }) → wpAny c.M c.A t Q E s) : Gpb c g t b :=
  fun s Q E ok kp inn hQ => h s Q E ok kp inn fun k => hQ g s.heap k (Grow.refl inn)

section
variable {c : Cx} {ρ : Vars} {own : Own} {l r : Expr} {pos : Pos} {a b : Int}
theorem fdiv_pos {a b : Int} (h : 0 < b) : a.fdiv b = a / b := Int.fdiv_eq_ediv_of_nonneg _ (Int.le_of_lt h)
theorem fmod_pos {a b : Int} (h : 0 < b) : a.fmod b = a % b := Int.fmod_eq_emod_of_nonneg _ (Int.le_of_lt h)

theorem gp_add {g : Part} {va vb : Value} (ha : Is g va (.int a)) (hb : Is g vb (.int b)) : Gp c g (binaryOp .Add va vb) (.int (a + b)) := by
  cases ha; cases hb; exact Gp.val fun s Q E _ _ _ hQ => add_int (hQ _ _ (.int _ _))
theorem gp_sub {g : Part} {va vb : Value} (ha : Is g va (.int a)) (hb : Is g vb (.int b)) : Gp c g (binaryOp .Sub va vb) (.int (a - b)) := by
  cases ha; cases hb; exact Gp.val fun s Q E _ _ _ hQ => sub_int (hQ _ _ (.int _ _))
theorem gp_mul (hm : IntMulOk a b) {g : Part} {va vb : Value} (ha : Is g va (.int a)) (hb : Is g vb (.int b)) : Gp c g (binaryOp .Mult va vb) (.int (a * b)) := by
  cases ha; cases hb; exact Gp.val fun s Q E _ _ _ hQ => mul_int (hQ _ _ (.int _ _)) hm
theorem gp_mod (hp : 0 < b) {g : Part} {va vb : Value} (ha : Is g va (.int a)) (hb : Is g vb (.int b)) : Gp c g (binaryOp .Mod va vb) (.int (a % b)) := by
  cases ha; cases hb; exact Gp.val fun s Q E _ _ _ hQ => mod_int' (by omega) (by rw [fmod_pos hp]; exact hQ _ _ (.int _ _))
theorem gp_div (hp : 0 < b) (hl : b.natAbs.log2 < 8900) {g : Part} {va vb : Value} (ha : Is g va (.int a)) (hb : Is g vb (.int b)) : Gp c g (binaryOp .FloorDiv va vb) (.int (a / b)) := by
  cases ha; cases hb
  refine Gp.val fun s Q E _ _ _ hQ => floordiv_int (by omega) (by rw [fdiv_pos hp]; exact hQ _ _ (.int _ _)) (.inl ?_)
  unfold Builtin.divisionGoesByPylong
  simp only [Bool.and_eq_false_iff, decide_eq_false_iff_not]
  left
  split <;> omega
theorem gp_idiv (hp : 0 < b) (hl : b.natAbs.log2 < 8900) {g : Part} {va vb : Value} (ha : Is g va (.int a)) (hb : Is g vb (.int b)) : Gp c g (inplaceOp .FloorDiv va vb) (.int (a / b)) := by
  cases ha; cases hb
  refine Gp.val fun s Q E _ _ _ hQ => ifloordiv_int (by omega) (by rw [fdiv_pos hp]; exact hQ _ _ (.int _ _)) (.inl ?_)
  unfold Builtin.divisionGoesByPylong
  simp only [Bool.and_eq_false_iff, decide_eq_false_iff_not]
  left
  split <;> omega
theorem gp_imul (hm : IntMulOk a b) {g : Part} {va vb : Value} (ha : Is g va (.int a)) (hb : Is g vb (.int b)) : Gp c g (inplaceOp .Mult va vb) (.int (a * b)) := by
  cases ha; cases hb; exact Gp.val fun s Q E _ _ _ hQ => imul_int (hQ _ _ (.int _ _)) hm
theorem gp_iadd {g : Part} {va vb : Value} (ha : Is g va (.int a)) (hb : Is g vb (.int b)) : Gp c g (inplaceOp .Add va vb) (.int (a + b)) := by
  cases ha; cases hb; exact Gp.val fun s Q E _ _ _ hQ => iadd_int (hQ _ _ (.int _ _))
theorem gp_pow (hn : 0 ≤ b) (hn2 : b ≤ 1000000) (hs : a.natAbs < 2 ^ 64) {g : Part} {va vb : Value} (ha : Is g va (.int a)) (hb : Is g vb (.int b)) : Gp c g (binaryOp .Pow va vb) (.int (a ^ b.toNat)) := by
  cases ha; cases hb; exact Gp.val fun s Q E _ _ _ hQ => pow_int_small hn hn2 hs (hQ _ _ (.int _ _))
theorem gp_shl (hn : 0 ≤ b) (hn2 : b ≤ 1000000) (hs : a.natAbs < 2 ^ 64) {g : Part} {va vb : Value} (ha : Is g va (.int a)) (hb : Is g vb (.int b)) : Gp c g (binaryOp .LShift va vb) (.int (a * 2 ^ b.toNat)) := by
  cases ha; cases hb; exact Gp.val fun s Q E _ _ _ hQ => lshift_int_small hn hn2 hs (hQ _ _ (.int _ _))
theorem gp_shr (hn : 0 ≤ b) {g : Part} {va vb : Value} (ha : Is g va (.int a)) (hb : Is g vb (.int b)) : Gp c g (binaryOp .RShift va vb) (.int (a / 2 ^ b.toNat)) := by
  cases ha; cases hb
  have hp : (0 : Int) < 2 ^ b.toNat := Int.pow_pos (by decide)
  exact Gp.val fun s Q E _ _ _ hQ => rshift_int hn (by rw [fdiv_pos hp]; exact hQ _ _ (.int _ _))
theorem bitAnd_nat (a b : Nat) : Builtin.bitAnd (a : Int) (b : Int) = ((a &&& b : Nat) : Int) := by
  unfold Builtin.bitAnd; simp
theorem bitOr_nat (a b : Nat) : Builtin.bitOr (a : Int) (b : Int) = ((a ||| b : Nat) : Int) := by
  have h1 : (decide ((0:Int) ≤ Builtin.bitNot (a : Int))) = false := by unfold Builtin.bitNot; simp; omega
  have h2 : (decide ((0:Int) ≤ Builtin.bitNot (b : Int))) = false := by unfold Builtin.bitNot; simp; omega
  have h3 : Builtin.bitNot (Builtin.bitNot (a : Int)) = a := by unfold Builtin.bitNot; omega
  have h4 : Builtin.bitNot (Builtin.bitNot (b : Int)) = b := by unfold Builtin.bitNot; omega
  unfold Builtin.bitOr Builtin.bitAnd
  rw [h1, h2]
  simp only [h3, h4, Int.toNat_natCast]
  unfold Builtin.bitNot; omega
theorem gp_and {a b : Nat} {g : Part} {va vb : Value} (ha : Is g va (.int a)) (hb : Is g vb (.int b)) : Gp c g (binaryOp .BitAnd va vb) (.int ((a &&& b : Nat) : Int)) := by
  cases ha; cases hb; exact Gp.val fun s Q E _ _ _ hQ => and_int (by rw [bitAnd_nat]; exact hQ _ _ (.int _ _))
theorem gp_or {a b : Nat} {g : Part} {va vb : Value} (ha : Is g va (.int a)) (hb : Is g vb (.int b)) : Gp c g (binaryOp .BitOr va vb) (.int ((a ||| b : Nat) : Int)) := by
  cases ha; cases hb; exact Gp.val fun s Q E _ _ _ hQ => or_int (by rw [bitOr_nat]; exact hQ _ _ (.int _ _))

theorem Ev.add (hl : Ev c ρ own l (.int a)) (hr : Ev c ρ own r (.int b)) : Ev c ρ own (.BinOp l .Add r pos) (.int (a + b)) := Ev.binop hl hr fun _ _ _ x y => gp_add x y
theorem Ev.sub (hl : Ev c ρ own l (.int a)) (hr : Ev c ρ own r (.int b)) : Ev c ρ own (.BinOp l .Sub r pos) (.int (a - b)) := Ev.binop hl hr fun _ _ _ x y => gp_sub x y
theorem Ev.mul (hl : Ev c ρ own l (.int a)) (hr : Ev c ρ own r (.int b)) (hm : IntMulOk a b) : Ev c ρ own (.BinOp l .Mult r pos) (.int (a * b)) := Ev.binop hl hr fun _ _ _ x y => gp_mul hm x y
theorem Ev.mod (hl : Ev c ρ own l (.int a)) (hr : Ev c ρ own r (.int b)) (hp : 0 < b) : Ev c ρ own (.BinOp l .Mod r pos) (.int (a % b)) := Ev.binop hl hr fun _ _ _ x y => gp_mod hp x y
theorem Ev.div (hl : Ev c ρ own l (.int a)) (hr : Ev c ρ own r (.int b)) (hp : 0 < b) (hs : b.natAbs.log2 < 8900) : Ev c ρ own (.BinOp l .FloorDiv r pos) (.int (a / b)) := Ev.binop hl hr fun _ _ _ x y => gp_div hp hs x y
theorem Ev.pow (hl : Ev c ρ own l (.int a)) (hr : Ev c ρ own r (.int b)) (hn : 0 ≤ b) (hn2 : b ≤ 1000000) (hs : a.natAbs < 2 ^ 64) : Ev c ρ own (.BinOp l .Pow r pos) (.int (a ^ b.toNat)) := Ev.binop hl hr fun _ _ _ x y => gp_pow hn hn2 hs x y
theorem Ev.shl (hl : Ev c ρ own l (.int a)) (hr : Ev c ρ own r (.int b)) (hn : 0 ≤ b) (hn2 : b ≤ 1000000) (hs : a.natAbs < 2 ^ 64) : Ev c ρ own (.BinOp l .LShift r pos) (.int (a * 2 ^ b.toNat)) := Ev.binop hl hr fun _ _ _ x y => gp_shl hn hn2 hs x y
theorem Ev.shr (hl : Ev c ρ own l (.int a)) (hr : Ev c ρ own r (.int b)) (hn : 0 ≤ b) : Ev c ρ own (.BinOp l .RShift r pos) (.int (a / 2 ^ b.toNat)) := Ev.binop hl hr fun _ _ _ x y => gp_shr hn x y
theorem Ev.band {a b : Nat} (hl : Ev c ρ own l (.int a)) (hr : Ev c ρ own r (.int b)) : Ev c ρ own (.BinOp l .BitAnd r pos) (.int ((a &&& b : Nat) : Int)) := Ev.binop hl hr fun _ _ _ x y => gp_and x y
theorem Ev.bor {a b : Nat} (hl : Ev c ρ own l (.int a)) (hr : Ev c ρ own r (.int b)) : Ev c ρ own (.BinOp l .BitOr r pos) (.int ((a ||| b : Nat) : Int)) := Ev.binop hl hr fun _ _ _ x y => gp_or x y
theorem Ev.neg (hl : Ev c ρ own l (.int a)) : Ev c ρ own (.UnaryOp .USub l pos) (.int (-a)) := Ev.unary hl fun g va x => by
  cases x; exact Gp.val fun s Q E _ _ _ hQ => neg_int (hQ _ _ (.int _ _))
theorem Ev.notb {b : Bool} (hl : Ev c ρ own l (.bool b)) : Ev c ρ own (.UnaryOp .Not l pos) (.bool (!b)) := Ev.unary hl fun g va x => by
  cases x; exact Gp.val fun s Q E _ _ _ hQ => not_of (wpAny_truthy_bool (hQ _ _ (.bool _)))

/-! comparisons -/
def D.isNone : D → Bool
  | .none => true
  | _ => false
theorem gp_lt {g : Part} {va vb : Value} (ha : Is g va (.int a)) (hb : Is g vb (.int b)) : Gp c g (compareOp .Lt va vb) (.bool (decide (a < b))) := by
  cases ha; cases hb; exact Gp.val fun s Q E _ _ _ hQ => lt_int (hQ _ _ (.bool _))
theorem gp_gt {g : Part} {va vb : Value} (ha : Is g va (.int a)) (hb : Is g vb (.int b)) : Gp c g (compareOp .Gt va vb) (.bool (decide (b < a))) := by
  cases ha; cases hb; exact Gp.val fun s Q E _ _ _ hQ => gt_int (hQ _ _ (.bool _))
theorem gp_le {g : Part} {va vb : Value} (ha : Is g va (.int a)) (hb : Is g vb (.int b)) : Gp c g (compareOp .LtE va vb) (.bool (decide (a ≤ b))) := by
  cases ha; cases hb; exact Gp.val fun s Q E _ _ _ hQ => le_int (hQ _ _ (.bool _))
theorem gp_ge {g : Part} {va vb : Value} (ha : Is g va (.int a)) (hb : Is g vb (.int b)) : Gp c g (compareOp .GtE va vb) (.bool (decide (b ≤ a))) := by
  cases ha; cases hb; exact Gp.val fun s Q E _ _ _ hQ => ge_int (hQ _ _ (.bool _))
theorem gp_eq {g : Part} {va vb : Value} (ha : Is g va (.int a)) (hb : Is g vb (.int b)) : Gp c g (compareOp .Eq va vb) (.bool (a == b)) := by
  cases ha; cases hb; exact Gp.val fun s Q E _ _ _ hQ => eq_int (hQ _ _ (.bool _))
theorem gp_ne {g : Part} {va vb : Value} (ha : Is g va (.int a)) (hb : Is g vb (.int b)) : Gp c g (compareOp .NotEq va vb) (.bool (a != b)) := by
  cases ha; cases hb; exact Gp.val fun s Q E _ _ _ hQ => ne_int (hQ _ _ (.bool _))
theorem gp_isNone {g : Part} {va vb : Value} {d : D} (ha : Is g va d) (hb : Is g vb .none) : Gp c g (compareOp .Is va vb) (.bool (d.isNone)) := by
  cases hb
  refine Gp.val fun s Q E _ _ _ hQ => is_none_gen ?_
  cases ha <;> exact hQ _ _ (.bool _)
theorem gp_isNotNone {g : Part} {va vb : Value} {d : D} (ha : Is g va d) (hb : Is g vb .none) : Gp c g (compareOp .IsNot va vb) (.bool (!d.isNone)) := by
  cases hb
  refine Gp.val fun s Q E _ _ _ hQ => isnot_none_gen ?_
  cases ha <;> exact hQ _ _ (.bool _)

theorem Et.lt (hl : Ev c ρ own l (.int a)) (hr : Ev c ρ own r (.int b)) (hm : behindInMarks .Lt r = false := by with_unfolding_all rfl) : Et c ρ own (.Compare l [.Lt] [r] pos) (decide (a < b)) := Et.compare hl hr (fun _ _ _ x y => gp_lt x y) hm
theorem Et.gt (hl : Ev c ρ own l (.int a)) (hr : Ev c ρ own r (.int b)) (hm : behindInMarks .Gt r = false := by with_unfolding_all rfl) : Et c ρ own (.Compare l [.Gt] [r] pos) (decide (b < a)) := Et.compare hl hr (fun _ _ _ x y => gp_gt x y) hm
theorem Et.le (hl : Ev c ρ own l (.int a)) (hr : Ev c ρ own r (.int b)) (hm : behindInMarks .LtE r = false := by with_unfolding_all rfl) : Et c ρ own (.Compare l [.LtE] [r] pos) (decide (a ≤ b)) := Et.compare hl hr (fun _ _ _ x y => gp_le x y) hm
theorem Et.ge (hl : Ev c ρ own l (.int a)) (hr : Ev c ρ own r (.int b)) (hm : behindInMarks .GtE r = false := by with_unfolding_all rfl) : Et c ρ own (.Compare l [.GtE] [r] pos) (decide (b ≤ a)) := Et.compare hl hr (fun _ _ _ x y => gp_ge x y) hm
theorem Et.eqi (hl : Ev c ρ own l (.int a)) (hr : Ev c ρ own r (.int b)) (hm : behindInMarks .Eq r = false := by with_unfolding_all rfl) : Et c ρ own (.Compare l [.Eq] [r] pos) (a == b) := Et.compare hl hr (fun _ _ _ x y => gp_eq x y) hm
theorem Et.nei (hl : Ev c ρ own l (.int a)) (hr : Ev c ρ own r (.int b)) (hm : behindInMarks .NotEq r = false := by with_unfolding_all rfl) : Et c ρ own (.Compare l [.NotEq] [r] pos) (a != b) := Et.compare hl hr (fun _ _ _ x y => gp_ne x y) hm
theorem Ev.eqi (hl : Ev c ρ own l (.int a)) (hr : Ev c ρ own r (.int b)) (hm : behindInMarks .Eq r = false := by with_unfolding_all rfl) : Ev c ρ own (.Compare l [.Eq] [r] pos) (.bool (a == b)) := Ev.compare hl hr (fun _ _ _ x y => gp_eq x y) hm
theorem Et.isNone {d : D} (hl : Ev c ρ own l d) (hr : Ev c ρ own r .none) (hm : behindInMarks .Is r = false := by with_unfolding_all rfl) : Et c ρ own (.Compare l [.Is] [r] pos) (d.isNone) := Et.compare hl hr (fun _ _ _ x y => gp_isNone x y) hm
theorem Et.isNotNone {d : D} (hl : Ev c ρ own l d) (hr : Ev c ρ own r .none) (hm : behindInMarks .IsNot r = false := by with_unfolding_all rfl) : Et c ρ own (.Compare l [.IsNot] [r] pos) (!d.isNone) := Et.compare hl hr (fun _ _ _ x y => gp_isNotNone x y) hm

/-- is, between types -/
theorem gp_isTy {g : Part} {va vb : Value} {m n : String} (ha : Is g va (.ty m)) (hb : Is g vb (.ty n)) : Gp c g (compareOp .Is va vb) (.bool (m == n)) := by
  cases ha; cases hb
  refine Gp.val fun s Q E _ _ _ hQ => ?_
  refine wpAny_is_plain rfl ?_
  have e : (Value.type m == Value.type n) = (m == n) := by
    by_cases q : m = n
    · subst q; simp
    · have h1 : Value.type m ≠ Value.type n := fun x => q (by injection x)
      rw [beq_eq_false_iff_ne.mpr h1, beq_eq_false_iff_ne.mpr q]
  rw [e]; exact hQ _ _ (.bool _)
theorem Et.isTy {m n : String} (hl : Ev c ρ own l (.ty m)) (hr : Ev c ρ own r (.ty n)) (hm : behindInMarks .Is r = false := by with_unfolding_all rfl) : Et c ρ own (.Compare l [.Is] [r] pos) (m == n) := Et.compare hl hr (fun _ _ _ x y => gp_isTy x y) hm

/-! truth -/
theorem gpb_bool {g : Part} {v : Value} {b : Bool} (h : Is g v (.bool b)) : Gpb c g (truthy v) b := by
  cases h; exact Gpb.val fun s Q E _ _ _ hQ => wpAny_truthy_bool (hQ _)
theorem gpb_int {g : Part} {v : Value} (h : Is g v (.int a)) : Gpb c g (truthy v) (a != 0) := by
  cases h; exact Gpb.val fun s Q E _ _ _ hQ => truthy_int (hQ _)
theorem gpb_none {g : Part} {v : Value} (h : Is g v .none) : Gpb c g (truthy v) false := by
  cases h; exact Gpb.val fun s Q E _ _ _ hQ => truthy_none (hQ _)
theorem Et.bool {e : Expr} {b : Bool} (h : Ev c ρ own e (.bool b)) (he : ∀ env whole, isTrue e env whole = (do let v ← whole; standAt e.pos; holding [v] (truthy v)) := by intro _ _; rfl) : Et c ρ own e b := Et.plain h (fun _ _ x => gpb_bool x) he
theorem Et.int {e : Expr} (h : Ev c ρ own e (.int a)) (he : ∀ env whole, isTrue e env whole = (do let v ← whole; standAt e.pos; holding [v] (truthy v)) := by intro _ _; rfl) : Et c ρ own e (a != 0) := Et.plain h (fun _ _ x => gpb_int x) he
end
end Mine

/-! text M4 -/
namespace Mine

/-! ## statements -/
inductive Fl where
  | next | cont | brk | ret (d : D)
inductive FlIs (g : Part) : Flow → Fl → Prop
  | next : FlIs g .next .next
  | cont : FlIs g .cont .cont
  | brk : FlIs g .brk .brk
  | ret {v : Value} {d : D} : Is g v d → FlIs g (.ret v) (.ret d)

/-- what a statement leaves alone; ex: objects that are excepted -/
structure Evo (c : Cx) (ex : List Addr) (g : Part) (own : Own) (h : Heap) (g' : Part) (own' : Own) (h' : Heap) : Prop where
  sub : Sub g g'
  kept : ∀ b o, h.get? b = some o → b ≠ c.env.locals → (∀ x, c.env.cells.lookup x ≠ some b) → b ∉ own.map (·.1) → b ∉ ex → h'.get? b = some o
  news : ∀ b ∈ own'.map (·.1), b ∈ own.map (·.1) ∨ h.get? b = none
  live : ∀ b, h'.get? b = none → h.get? b = none
  gnew : ∀ a o, g' a = some o → g a = some o ∨ a ∈ own.map (·.1) ∨ h.get? a = none
theorem Evo.ofGrow {c : Cx} {ex : List Addr} {own : Own} {g g' : Part} {h h' : Heap} (G : Grow g h g' h') : Evo c ex g own h g' own h' :=
  ⟨G.sub, fun b o e _ _ _ _ => G.keep b o e, fun b hb => .inl hb, fun b e => G.keep.none e, fun a o e => (G.new a o e).elim .inl fun n => .inr (.inr n)⟩
theorem Evo.refl {c : Cx} {ex : List Addr} {own : Own} {g : Part} {h : Heap} : Evo c ex g own h g own h :=
  ⟨Sub.refl g, fun b o e _ _ _ _ => e, fun b hb => .inl hb, fun b e => e, fun a o e => .inl e⟩
theorem Evo.trans {c : Cx} {ex : List Addr} {g₁ g₂ g₃ : Part} {o₁ o₂ o₃ : Own} {h₁ h₂ h₃ : Heap} (x : Evo c ex g₁ o₁ h₁ g₂ o₂ h₂) (y : Evo c ex g₂ o₂ h₂ g₃ o₃ h₃) : Evo c ex g₁ o₁ h₁ g₃ o₃ h₃ where
  sub := x.sub.trans y.sub
  kept := fun b o e hL hc ho hx => y.kept b o (x.kept b o e hL hc ho hx) hL hc (fun hb => (x.news b hb).elim ho fun n => by rw [n] at e; cases e) hx
  news := fun b hb => (y.news b hb).elim (x.news b) fun n => .inr (x.live b n)
  live := fun b e => x.live b (y.live b e)
  gnew := fun a o e => (y.gnew a o e).elim (x.gnew a o) fun q => .inr (q.elim (x.news a) fun n => .inr (x.live a n))
theorem Evo.ex {c : Cx} {ex : List Addr} {g g' : Part} {own own' : Own} {h h' : Heap} (x : Evo c [] g own h g' own' h') : Evo c ex g own h g' own' h' :=
  ⟨x.sub, fun b o e hL hc ho _ => x.kept b o e hL hc ho (fun q => nomatch q), x.news, x.live, x.gnew⟩
theorem Evo.unex {c : Cx} {ex : List Addr} {g g' : Part} {own own' : Own} {h h' : Heap} (x : Evo c ex g own h g' own' h') (hx : ∀ b ∈ ex, h.get? b = none) : Evo c [] g own h g' own' h' :=
  ⟨x.sub, fun b o e hL hc ho _ => x.kept b o e hL hc ho (fun q => by rw [hx b q] at e; cases e), x.news, x.live, x.gnew⟩

def Post (c : Cx) (Φ : Fl → Vars → Own → Prop) (own : Own) (g : Part) (s : Shared) (f : Flow) (s' : Shared) : Prop :=
  ∃ fl g' h' k ρ' own', s' = { s with heap := h', toks := k } ∧ Evo c [] g own s.heap g' own' h' ∧ Fm c ρ' own' g' h' ∧ FlIs g' f fl ∧ Φ fl ρ' own'
def Ex (c : Cx) (ρ : Vars) (own : Own) (ss : List Stmt) (Φ : Fl → Vars → Own → Prop) : Prop :=
  ∀ (g : Part) (s : Shared) (E : Value → Shared → Prop), Fm c ρ own g s.heap → wpAny c.M c.A (execs ss c.env) (Post c Φ own g s) E s
def Ex1 (c : Cx) (ρ : Vars) (own : Own) (st : Stmt) (Φ : Fl → Vars → Own → Prop) : Prop :=
  ∀ (g : Part) (s : Shared) (E : Value → Shared → Prop), Fm c ρ own g s.heap → wpAny c.M c.A (exec st c.env) (Post c Φ own g s) E s
/-- a statement, then the rest -/
def Then (c : Cx) (rest : List Stmt) (Φ : Fl → Vars → Own → Prop) : Fl → Vars → Own → Prop
  | .next, ρ, own => Ex c ρ own rest Φ
  | fl, ρ, own => Φ fl ρ own

section
variable {c : Cx} {ρ : Vars} {own : Own} {Φ : Fl → Vars → Own → Prop} {rest : List Stmt}

theorem Post.lift {own₀ own₁ : Own} {g₀ g₁ : Part} {s₀ : Shared} {h₁ : Heap} {k₁ : Nat} (he : Evo c [] g₀ own₀ s₀.heap g₁ own₁ h₁) {f : Flow} {s' : Shared}
    (p : Post c Φ own₁ g₁ { s₀ with heap := h₁, toks := k₁ } f s') : Post c Φ own₀ g₀ s₀ f s' := by
  obtain ⟨fl, g', h', k, ρ', own', rfl, a2, a3, a4, a5⟩ := p
  exact ⟨fl, g', h', k, ρ', own', rfl, he.trans a2, a3, a4, a5⟩
theorem Post.mono {Ψ : Fl → Vars → Own → Prop} {own : Own} {g : Part} {s s' : Shared} {f : Flow} (p : Post c Φ own g s f s') (h : ∀ fl ρ' own', Φ fl ρ' own' → Ψ fl ρ' own') : Post c Ψ own g s f s' := by
  obtain ⟨fl, g', h', k, ρ', own', rfl, a2, a3, a4, a5⟩ := p
  exact ⟨fl, g', h', k, ρ', own', rfl, a2, a3, a4, h _ _ _ a5⟩
theorem Ex.mono {ss : List Stmt} {Ψ : Fl → Vars → Own → Prop} (h : Ex c ρ own ss Φ) (hm : ∀ fl ρ' own', Φ fl ρ' own' → Ψ fl ρ' own') : Ex c ρ own ss Ψ :=
  fun g s E F => wpAny_mono (h g s E F) (fun _ _ p => p.mono hm) fun _ _ e => e

theorem Ex.cons {st : Stmt} (h : Ex1 c ρ own st (Then c rest Φ)) : Ex c ρ own (st :: rest) Φ := fun g s E F => by
  refine wpAny_execs_cons (wpAny_mono (h g s E F) (fun f s' p => ?_) fun _ _ e => e)
  obtain ⟨fl, g', h', k, ρ', own', rfl, a2, a3, a4, a5⟩ := p
  cases a4 with
  | next => exact wpAny_mono (a5 g' _ E a3) (fun f s' p => p.lift a2) fun _ _ e => e
  | cont => exact ⟨.cont, g', h', k, ρ', own', rfl, a2, a3, .cont, a5⟩
  | brk => exact ⟨.brk, g', h', k, ρ', own', rfl, a2, a3, .brk, a5⟩
  | ret hI => exact ⟨.ret _, g', h', k, ρ', own', rfl, a2, a3, .ret hI, a5⟩
theorem Ex.nil (h : Φ .next ρ own) : Ex c ρ own [] Φ := fun g s E F =>
  wpAny_execs_nil ⟨.next, g, s.heap, s.toks, ρ, own, rfl, Evo.refl, F, .next, h⟩
theorem Ex.cont {pos : Pos} (h : Φ .cont ρ own) : Ex c ρ own (.Continue pos :: rest) Φ := Ex.cons fun g s E F => by
  intro Γ p hΓ
  exact ⟨.cont, g, s.heap, s.toks, ρ, own, rfl, Evo.refl, F, .cont, h⟩
theorem Ex.pass {pos : Pos} (h : Ex c ρ own rest Φ) : Ex c ρ own (.Pass pos :: rest) Φ := Ex.cons fun g s E F =>
  wpAny_Pass ⟨.next, g, s.heap, s.toks, ρ, own, rfl, Evo.refl, F, .next, h⟩
theorem Ex.ret {e : Expr} {pos : Pos} {d : D} (h : Ev c ρ own e d) (hΦ : Φ (.ret d) ρ own) : Ex c ρ own (.Return (some e) pos :: rest) Φ := Ex.cons fun g s E F => by
  refine wpAny_Return_some (h g s _ E F fun v g₁ h₁ k₁ G₁ I₁ => ?_)
  exact ⟨.ret d, g₁, h₁, k₁, ρ, own, rfl, Evo.ofGrow G₁, F.grow G₁, .ret I₁, hΦ⟩

/-- an assignment to a name -/
theorem ns_ne_cell {h : Heap} {L a : Addr} {m : Str → Option Value} {v : Option Value} (hn : h.Ns L m) (hc : h.IsCell a v) : L ≠ a := by
  rintro rfl
  obtain ⟨o, es, ep, e1, e2, _⟩ := hn
  obtain ⟨o', e3, e4⟩ := hc
  rw [e1] at e3; cases e3
  rw [e2] at e4; cases e4
theorem ns_ne_list {h : Heap} {L a : Addr} {m : Str → Option Value} {o : Obj} {vs : Array Value} {n : Nat} (hn : h.Ns L m) (hc : h.get? a = some o) (hd : o.data = .seq vs n) : L ≠ a := by
  rintro rfl
  obtain ⟨o', es, ep, e1, e2, _⟩ := hn
  rw [e1] at hc; cases hc
  rw [e2] at hd; cases hd
theorem cell_ne_list {h : Heap} {L a : Addr} {v : Option Value} {o : Obj} {vs : Array Value} {n : Nat} (hn : h.IsCell L v) (hc : h.get? a = some o) (hd : o.data = .seq vs n) : L ≠ a := by
  rintro rfl
  obtain ⟨o', e1, e2⟩ := hn
  rw [e1] at hc; cases hc
  rw [e2] at hd; cases hd

def mayStore (c : Cx) (x : Str) : Bool := match c.env.kindOf x with
  | some .local => true
  | some .cell => c.W && (c.env.cells.lookup x).isSome
  | _ => false

theorem Fm.store {x : Str} {d : D} {v : Value} {g : Part} {s : Shared} {Q : Unit → Shared → Prop} {E : Value → Shared → Prop} (F : Fm c ρ own g s.heap) (hI : Is g v d) (hk : mayStore c x = true)
    (hQ : ∀ h' k, Evo c [] g own s.heap g own h' → Fm c (ρ.set x d) own g h' → Q () { s with heap := h', toks := k }) : wpAny c.M c.A (storeName c.env x v) Q E s := by
  obtain ⟨m, hn, hm⟩ := F.loc
  unfold mayStore at hk
  cases hkind : c.env.kindOf x with
  | none => rw [hkind] at hk; cases hk
  | some kd =>
    rw [hkind] at hk
    cases kd with
    | globalExplicit => cases hk
    | globalImplicit => cases hk
    | free => cases hk
    | «local» =>
      refine wpAny_storeName_local hkind hn (fun h' hn' hs => hQ h' _ ⟨Sub.refl g, fun b o e hL _ _ _ => (hs.2 b hL).trans e, fun b hb => .inl hb, fun b e => ?_, fun a o e => .inl e⟩ ?_) (by rw [F.ok.kind]; rfl)
      · by_cases hb : b = c.env.locals
        · subst hb; obtain ⟨o, _, _, q, _⟩ := hn'; rw [q] at e; cases e
        · rw [hs.2 b hb] at e; exact e
      · refine ⟨F.ok, fun a o e => ?_, fun a o e => ?_, F.sub₀, F.new₀, ⟨_, hn', fun y e hy ky => ?_⟩, F.offL, F.newL, fun y a ha => ?_, fun y e hy ky => ?_, F.celInj, fun p hp => ?_, F.nd⟩
        · exact (hs.2 a (by rintro rfl; rw [F.offL] at e; cases e)).trans (F.inn a o e)
        · exact (hs.2 a (by rintro rfl; rw [F.newL] at e; cases e)).trans (F.keep₀ a o e)
        · by_cases hyx : y = x
          · subst hyx; simp only [Vars.set, if_true] at hy; cases hy; exact ⟨v, by simp, hI⟩
          · simp only [Vars.set, hyx, if_false] at hy; obtain ⟨u, h1, h2⟩ := hm y e hy ky; exact ⟨u, by simp [hyx, h1], h2⟩
        · obtain ⟨h1, h2, u, h3, h4⟩ := F.cel y a ha
          refine ⟨h1, h2, u, h3.sameBut hs (Ne.symm (ns_ne_cell hn h3)), fun e hy ky => ?_⟩
          have hyx : y ≠ x := by rintro rfl; rw [hkind] at ky; rcases ky with q | q <;> cases q
          simp only [Vars.set, hyx, if_false] at hy
          exact h4 e hy ky
        · have hyx : y ≠ x := by rintro rfl; rw [hkind] at ky; rcases ky with q | q <;> cases q
          simp only [Vars.set, hyx, if_false] at hy
          exact F.celAt y e hy ky
        · obtain ⟨h1, h2, vs, n, h3, h4⟩ := F.owns p hp
          exact ⟨h1, h2, vs, n, (hs.2 p.1 (Ne.symm (ns_ne_list hn h3 rfl))).trans h3, h4⟩
    | cell =>
      obtain ⟨hW, ha⟩ := Bool.and_eq_true_iff.mp hk
      obtain ⟨a, ha⟩ := Option.isSome_iff_exists.mp ha
      obtain ⟨hga, hnew, v₀, hc, _⟩ := F.cel x a ha
      have hLa : c.env.locals ≠ a := ns_ne_cell hn hc
      refine wpAny_storeName_cell F.ok.kind hkind ha hc fun h' hc' hs => hQ h' _ ⟨Sub.refl g, fun b o e hL hcl _ _ => (hs.2 b (fun q => hcl x (q ▸ ha))).trans e, fun b hb => .inl hb, fun b e => ?_, fun a o e => .inl e⟩ ?_
      · by_cases hb : b = a
        · subst hb; obtain ⟨o, q, _⟩ := hc'; rw [q] at e; cases e
        · rw [hs.2 b hb] at e; exact e
      · refine ⟨F.ok, fun b o e => ?_, fun b o e => ?_, F.sub₀, F.new₀, ⟨m, hn.sameBut hs hLa, fun y e hy ky => ?_⟩, F.offL, F.newL, fun y b hb => ?_, fun y e hy ky => ?_, F.celInj, fun p hp => ?_, F.nd⟩
        · exact (hs.2 b (by rintro rfl; rw [hga] at e; cases e)).trans (F.inn b o e)
        · exact (hs.2 b (by rintro rfl; rw [hnew hW] at e; cases e)).trans (F.keep₀ b o e)
        · have hyx : y ≠ x := by rintro rfl; rw [hkind] at ky; cases ky
          simp only [Vars.set, hyx, if_false] at hy
          exact hm y e hy ky
        · obtain ⟨h1, h2, u, h3, h4⟩ := F.cel y b hb
          by_cases hyx : y = x
          · subst hyx
            rw [ha] at hb; cases hb
            refine ⟨h1, h2, some v, hc', fun e hy _ => ?_⟩
            simp only [Vars.set, if_true] at hy; cases hy; exact ⟨v, rfl, hI⟩
          · have hba : b ≠ a := by rintro rfl; exact hyx (F.celInj y x _ hb ha)
            refine ⟨h1, h2, u, h3.sameBut hs hba, fun e hy ky => ?_⟩
            simp only [Vars.set, hyx, if_false] at hy
            exact h4 e hy ky
        · by_cases hyx : y = x
          · subst hyx; exact ⟨a, ha⟩
          · simp only [Vars.set, hyx, if_false] at hy
            exact F.celAt y e hy ky
        · obtain ⟨h1, h2, vs, n, h3, h4⟩ := F.owns p hp
          exact ⟨h1, h2, vs, n, (hs.2 p.1 (Ne.symm (cell_ne_list hc h3 rfl))).trans h3, h4⟩

theorem Ex.assign {x : Str} {p' pos : Pos} {value : Expr} {d : D} (h : Ev c ρ own value d) (hr : Ex c (ρ.set x d) own rest Φ) (hk : mayStore c x = true := by rfl)
    (hs : swapsWith value (some (.Name x p')) pos.line c.env = pure false := by rfl) : Ex c ρ own (.Assign [.Name x p'] value pos :: rest) Φ := Ex.cons fun g s E F => by
  refine wpAny_Assign_Name (h g s _ E F fun v g₁ h₁ k₁ G₁ I₁ => ?_) hs
  refine (F.grow G₁).store I₁ hk fun h₂ k₂ e₂ F₂ => ?_
  exact ⟨.next, g₁, h₂, k₂, ρ.set x d, own, rfl, (Evo.ofGrow G₁).trans e₂, F₂, .next, hr⟩
theorem Ex.assign2 {x y : Str} {p₁ p₂ pos : Pos} {value : Expr} {d : D} (h : Ev c ρ own value d) (hr : Ex c ((ρ.set x d).set y d) own rest Φ) (hx : mayStore c x = true := by rfl) (hy : mayStore c y = true := by rfl)
    (hs : swappedStores [.Name x p₁, .Name y p₂] value c.env = pure none := by rfl) : Ex c ρ own (.Assign [.Name x p₁, .Name y p₂] value pos :: rest) Φ := Ex.cons fun g s E F => by
  refine wpAny_Assign_two (h g s _ E F fun v g₁ h₁ k₁ G₁ I₁ => ?_) rfl hs
  refine wpAny_assign_Name ((F.grow G₁).store I₁ hx fun h₂ k₂ e₂ F₂ => ?_)
  refine wpAny_assign_Name (F₂.store I₁ hy fun h₃ k₃ e₃ F₃ => ?_)
  exact ⟨.next, g₁, h₃, k₃, _, own, rfl, ((Evo.ofGrow G₁).trans e₂).trans e₃, F₃, .next, hr⟩
theorem Ex.aug {x : Str} {p' pos : Pos} {op : Operator} {value : Expr} {a b d : D} (hx : ρ x = some a) (h : Ev c ρ own value b) (ho : ∀ g va vb, Is g va a → Is g vb b → Gp c g (inplaceOp op va vb) d)
    (hr : Ex c (ρ.set x d) own rest Φ) (hk : mayStore c x = true := by rfl)
    (hl : (match c.env.kindOf x with | some .local | some .cell | some .free => true | _ => false) = true := by rfl) (hcd : (x == ("__classdict__" : Str)) = false := by rfl) :
    Ex c ρ own (.AugAssign (.Name x p') op value pos :: rest) Φ := Ex.cons fun g s E F => by
  refine wpAny_AugAssign_Name (Gv.load hx hl hcd g s _ E F fun va g₁ h₁ k₁ G₁ I₁ => ?_)
  have F₁ := F.grow G₁
  refine h g₁ _ _ E F₁ fun vb g₂ h₂ k₂ G₂ I₂ => ?_
  have F₂ := F₁.grow G₂
  refine ho g₂ va vb (I₁.sub G₂.sub) I₂ _ _ _ F₂.ok F₂.keep₀ F₂.inn fun v g₃ h₃ k₃ G₃ I₃ => ?_
  refine (F₂.grow G₃).store I₃ hk fun h₄ k₄ e₄ F₄ => ?_
  exact ⟨.next, g₃, h₄, k₄, _, own, rfl, (Evo.ofGrow ((G₁.trans G₂).trans G₃)).trans e₄, F₄, .next, hr⟩
theorem Ex.ite {test : Expr} {body orelse : List Stmt} {pos : Pos} {t : Bool} (h : Et c ρ own test t) (h₁ : t = true → Ex c ρ own body (Then c rest Φ)) (h₂ : t = false → Ex c ρ own orelse (Then c rest Φ)) :
    Ex c ρ own (.If test body orelse pos :: rest) Φ := Ex.cons fun g s E F => by
  refine wpAny_If (h g s _ E F fun g₁ k₁ h₁' G₁ => ?_)
  cases t with
  | true => exact wpAny_mono (h₁ rfl g₁ _ E (F.grow G₁)) (fun f s' p => p.lift (Evo.ofGrow G₁)) fun _ _ e => e
  | false => exact wpAny_mono (h₂ rfl g₁ _ E (F.grow G₁)) (fun f s' p => p.lift (Evo.ofGrow G₁)) fun _ _ e => e
theorem Ex.assert {test : Expr} {msg : Option Expr} {pos : Pos} (h : Et c ρ own test true) (hr : Ex c ρ own rest Φ) : Ex c ρ own (.Assert test msg pos :: rest) Φ := Ex.cons fun g s E F => by
  show wpAny c.M c.A (do standAt pos; if ← isTrue test c.env (eval test c.env) then pure .next else assertFails test.pos (evalOpt msg c.env)) _ E s
  refine wpAny_bind (wpAny_standAt (wpAny_bind (h g s _ E F fun g₁ h₁ k₁ G₁ => ?_)))
  exact wpAny_pure ⟨.next, g₁, h₁, k₁, ρ, own, rfl, Evo.ofGrow G₁, F.grow G₁, .next, hr⟩

/-- while: by an invariant over names and owned lists, and a measure -/
theorem Ex.while {test : Expr} {body : List Stmt} {pos : Pos} (J : Nat → Vars → Own → Prop) (n : Nat) (h0 : J n ρ own)
    (step : ∀ k ρ₁ own₁, J k ρ₁ own₁ → ∃ t, Et c ρ₁ own₁ test t ∧ (t = true → Ex c ρ₁ own₁ body fun fl ρ₂ own₂ => match fl with
      | .next | .cont => ∃ k', k' < k ∧ J k' ρ₂ own₂
      | .brk => Ex c ρ₂ own₂ rest Φ
      | .ret d => Φ (.ret d) ρ₂ own₂) ∧ (t = false → Ex c ρ₁ own₁ rest Φ)) :
    Ex c ρ own (.While test body [] pos :: rest) Φ := Ex.cons fun g s E F => by
  refine wpAny_While (codeAny_whileLoop (fun k s' => ∃ g' h' tk ρ' own', s' = { s with heap := h', toks := tk } ∧ Evo c [] g own s.heap g' own' h' ∧ Fm c ρ' own' g' h' ∧ J k ρ' own') ?_ n
    ⟨g, s.heap, s.toks, ρ, own, rfl, Evo.refl, F, h0⟩)
  rintro k s' ⟨g', h', tk, ρ', own', rfl, a2, F', hJ⟩
  obtain ⟨t, hT, hb, he⟩ := step k ρ' own' hJ
  refine hT g' _ _ _ F' fun g₁ h₁ k₁ G₁ => ?_
  have F₁ := F'.grow G₁
  have A2 := a2.trans (Evo.ofGrow G₁)
  cases t with
  | false =>
    refine wpAny_execs_nil ⟨.next, g₁, h₁, k₁, ρ', own', rfl, A2, F₁, .next, he rfl⟩
  | true =>
    refine wpAny_mono (hb rfl g₁ _ _ F₁) (fun f s₃ p => ?_) fun _ _ e => e
    obtain ⟨fl, g₂, h₂, k₂, ρ₂, own₂, rfl, b2, b3, b4, b5⟩ := p
    cases b4 with
    | next => obtain ⟨k', hk', hJ'⟩ := b5; exact ⟨k', hk', g₂, h₂, k₂, ρ₂, own₂, rfl, A2.trans b2, b3, hJ'⟩
    | cont => obtain ⟨k', hk', hJ'⟩ := b5; exact ⟨k', hk', g₂, h₂, k₂, ρ₂, own₂, rfl, A2.trans b2, b3, hJ'⟩
    | brk => exact ⟨.next, g₂, h₂, k₂, ρ₂, own₂, rfl, A2.trans b2, b3, .next, b5⟩
    | ret hI => exact ⟨.ret _, g₂, h₂, k₂, ρ₂, own₂, rfl, A2.trans b2, b3, .ret hI, b5⟩

/-! ## sources of loops -/
/-- an iterator with n turns -/
structure Itr (c : Cx) (target : Expr) (n : Nat) (It : Part → Nat → Value → Heap → Prop) (I : Addr) (g : Part) (h₁ h : Heap) (wr : List Addr) (St : Nat → Heap → Prop) : Prop where
  turns : ∃ fp P Md, KTurns c.prog c.w c.A target I fp wr n P Md St ∧ (∀ b ∈ fp, (∃ o, g b = some o) ∨ h₁.get? b = none) ∧ (∀ b ∈ fp, h.get? b ≠ none) ∧ (∀ i v k, P i v k → It g i v k)
  st : St 0 h
  wrN : ∀ b ∈ wr, h₁.get? b = none ∧ g b = none
  live : ∀ i k, St i k → ∀ b ∈ wr, k.get? b ≠ none
  self : ∀ i (s₁ : Shared) (Q₁ E₁ : Value → Shared → Prop), St i s₁.heap → Q₁ (.ref I) s₁ → wpAny c.M c.A (pyIter (.ref I)) Q₁ E₁ s₁

/-- evaluating `iter` and taking its iterator gives n turns, the i-th item as It says -/
def ItSrc (c : Cx) (ρ : Vars) (own : Own) (iter target : Expr) (n : Nat) (It : Part → Nat → Value → Heap → Prop) : Prop :=
  ∀ (g : Part) (s : Shared) (Q E : Value → Shared → Prop), Fm c ρ own g s.heap →
    (∀ I g' h' k wr St, Grow g s.heap g' h' → Itr c target n It I g' s.heap h' wr St → Q (.ref I) { s with heap := h', toks := k }) →
    wpAny c.M c.A (eval iter c.env) (fun x s₁ => wpAny c.M c.A (pyIter x) Q E s₁) E s

/-- binding the target of a loop or comprehension: names set one by one -/
def Bind (c : Cx) (own : Own) (target : Expr) (v : Value) (g : Part) (h : Heap) (f : Vars → Vars) : Prop :=
  ∀ (ρ : Vars) (s : Shared) (Q : Unit → Shared → Prop) (E : Value → Shared → Prop), s.heap = h → Fm c ρ own g h →
    (∀ g' h' k, Evo c [] g own h g' own h' → Fm c (f ρ) own g' h' → Q () { s with heap := h', toks := k }) → wpAny c.M c.A (assign target c.env v) Q E s

/-- what a written-over iterator leaves of the frame -/
theorem Fm.turn {g : Part} {h h' : Heap} {wr : List Addr} (F : Fm c ρ own g h) (hk : ∀ b o, b ∉ wr → h.get? b = some o → h'.get? b = some o) (hw : ∀ b ∈ wr, g b = none ∧ c.h₀.get? b = none ∧ b ≠ c.env.locals ∧ (∀ x, c.env.cells.lookup x ≠ some b) ∧ b ∉ own.map (·.1)) : Fm c ρ own g h' where
  ok := F.ok
  inn := fun a o e => hk a o (fun q => by rw [(hw a q).1] at e; cases e) (F.inn a o e)
  keep₀ := fun a o e => hk a o (fun q => by rw [(hw a q).2.1] at e; cases e) (F.keep₀ a o e)
  sub₀ := F.sub₀
  new₀ := F.new₀
  loc := let ⟨m, n, q⟩ := F.loc; ⟨m, n.at' fun o e => hk _ o (fun q => (hw _ q).2.2.1 rfl) e, q⟩
  offL := F.offL
  newL := F.newL
  cel := fun x a e => by
    obtain ⟨h1, h2, v, ⟨o, h3, h3'⟩, h4⟩ := F.cel x a e
    exact ⟨h1, h2, v, ⟨o, hk a o (fun q => (hw a q).2.2.2.1 x e) h3, h3'⟩, h4⟩
  celAt := F.celAt
  celInj := F.celInj
  owns := fun p hp => by
    obtain ⟨h1, h2, vs, n, h3, h4⟩ := F.owns p hp
    exact ⟨h1, h2, vs, n, hk _ _ (fun q => (hw _ q).2.2.2.2 (List.mem_map_of_mem hp)) h3, h4⟩
  nd := F.nd
end

section
variable {c : Cx} {ρ : Vars} {own : Own} {Φ : Fl → Vars → Own → Prop} {rest : List Stmt}
/-- a for loop, by an invariant over the turn's number, the names and the owned lists -/
theorem Ex.for {target iter : Expr} {body : List Stmt} {pos : Pos} {n : Nat} {It : Part → Nat → Value → Heap → Prop} (src : ItSrc c ρ own iter target n It) (J : Nat → Vars → Own → Prop) (h0 : J 0 ρ own)
    (step : ∀ i ρ₁ own₁, i < n → J i ρ₁ own₁ → ∃ f : Vars → Vars, (∀ g v h g', Sub g g' → It g i v h → Inn g' h → Bind c own₁ target v g' h f) ∧ Ex c (f ρ₁) own₁ body fun fl ρ₂ own₂ => match fl with
      | .next | .cont => J (i + 1) ρ₂ own₂
      | .brk => Ex c ρ₂ own₂ rest Φ
      | .ret d => Φ (.ret d) ρ₂ own₂)
    (done : ∀ ρ₁ own₁, J n ρ₁ own₁ → Ex c ρ₁ own₁ rest Φ)
    (hs : ∀ x, foldedSetIterable iter c.env x = pure x := by intro _; rfl) :
    Ex c ρ own (.For target iter body [] pos :: rest) Φ := Ex.cons fun g s E F => by
  refine wpAny_For (src g s _ E F fun I g₁ h₁ k₁ wr St G₁ T => ?_) hs
  obtain ⟨fp, P, Md, W, hfp, hfl, hP⟩ := T.turns
  have F₁ := F.grow G₁
  have L₀ : s.heap.get? c.env.locals ≠ none := by obtain ⟨m, ⟨o, _, _, e, _⟩, _⟩ := F.loc; rw [e]; intro q; cases q
  have cl₀ : ∀ x b, c.env.cells.lookup x = some b → s.heap.get? b ≠ none := fun x b e => by obtain ⟨_, _, v, ⟨o, h3, _⟩, _⟩ := F.cel x b e; rw [h3]; intro q; cases q
  have ow₀ : ∀ b ∈ own.map (·.1), s.heap.get? b ≠ none := fun b hb => by
    obtain ⟨p, hp, rfl⟩ := List.mem_map.mp hb
    obtain ⟨_, _, vs, n, h3, _⟩ := F.owns p hp; rw [h3]; intro q; cases q
  -- what the iterator's objects are not
  have off : ∀ b, b ∈ fp → b ≠ c.env.locals ∧ (∀ x, c.env.cells.lookup x ≠ some b) ∧ b ∉ own.map (·.1) := fun b hb => by
    rcases hfp b hb with ⟨o, e⟩ | e
    · refine ⟨fun q => (by rw [q, F₁.offL] at e; cases e), fun x q => ?_, fun q => ?_⟩
      · rw [(F₁.cel x b q).1] at e; cases e
      · obtain ⟨p, hp, rfl⟩ := List.mem_map.mp q
        rw [(F₁.owns p hp).1] at e; cases e
    · exact ⟨fun q => L₀ (q ▸ e), fun x q => cl₀ x b q e, fun q => ow₀ b q e⟩
  refine codeAny_forLoop_any (fun k s' => ∃ i g' h' tk ρ' own', s' = { s with heap := h', toks := tk } ∧ k = n + 1 - i ∧ i ≤ n ∧ Evo c wr g₁ own h₁ g' own' h' ∧ Fm c ρ' own' g' h' ∧ St i h' ∧ J i ρ' own') ?_ (n + 1)
    ⟨0, g₁, h₁, k₁, ρ, own, rfl, rfl, Nat.zero_le _, Evo.refl, F₁, T.st, h0⟩
  rintro k s' ⟨i, g', h', tk, ρ', own', rfl, rfl, hi, a2, F', hst, hJ⟩
  have hwf : ∀ b ∈ wr, g' b = none ∧ c.h₀.get? b = none ∧ b ≠ c.env.locals ∧ (∀ x, c.env.cells.lookup x ≠ some b) ∧ b ∉ own'.map (·.1) := fun b hb => by
    have hbf := W.sub b hb
    obtain ⟨o1, o2, o3⟩ := off b hbf
    have ex : h₁.get? b ≠ none := hfl b hbf
    refine ⟨?_, ?_, o1, o2, fun q => (a2.news b q).elim o3 ex⟩
    · cases q : g' b with
      | none => rfl
      | some o => rcases a2.gnew b o q with e | e | e
                  · rw [(T.wrN b hb).2] at e; cases e
                  · exact absurd e o3
                  · exact absurd e ex
    · exact F.keep₀.none (T.wrN b hb).1
  by_cases hlt : i < n
  · refine W.item i _ _ _ hlt hst fun v h₂ tk₂ hMd hk₂ => ?_
    refine W.go i v _ _ _ hMd fun h₃ hPi hst₃ hk₃ => ?_
    have hk : ∀ b o, b ∉ wr → h'.get? b = some o → h₃.get? b = some o := fun b o hb e => hk₃ b o hb (hk₂ b o hb e)
    have F₃ := F'.turn hk hwf
    have lv₃ : ∀ b, h₃.get? b = none → h'.get? b = none ∨ b ∈ wr := fun b e => by
      by_cases hb : b ∈ wr
      · exact .inr hb
      · left
        cases q : h'.get? b with
        | none => rfl
        | some o => rw [hk b o hb q] at e; cases e
    have fp₃ : ∀ b ∈ wr, h₃.get? b ≠ none := fun b hb => T.live _ _ hst₃ b hb
    have a3 : Evo c wr g₁ own h₁ g' own' h₃ := ⟨a2.sub, fun b o e hL hc ho hx => hk b o hx (a2.kept b o e hL hc ho hx), a2.news, fun b e => (lv₃ b e).elim (a2.live b) fun hb => absurd e (fp₃ b hb), a2.gnew⟩
    obtain ⟨f, hf, hb⟩ := step i ρ' own' hlt hJ
    refine hf g₁ v h₃ g' a2.sub (hP i v h₃ hPi) F₃.inn ρ' _ _ _ rfl F₃ fun g₄ h₄ k₄ e₄ F₄ => ?_
    refine wpAny_mono (hb g₄ _ _ F₄) (fun fl s₅ p => ?_) fun _ _ e => e
    obtain ⟨fl, g₅, h₅, k₅, ρ₅, own₅, rfl, b2, b3, b4, b5⟩ := p
    have e5 : Evo c [] g' own' h₃ g₅ own₅ h₅ := e₄.trans b2
    have a5 := a3.trans e5.ex
    have hst₅ : St (i + 1) h₅ := W.frame _ _ _ hst₃ fun b hb o e => by
      obtain ⟨o1, o2, o3⟩ := off b hb
      exact e5.kept b o e o1 o2 (fun q => (a2.news b q).elim o3 (hfl b hb)) (fun q => nomatch q)
    have fin : Evo c [] g own s.heap g₅ own₅ h₅ := ((Evo.ofGrow G₁).trans a5).unex fun b hb => (T.wrN b hb).1
    cases b4 with
    | next => exact ⟨n + 1 - (i + 1), by omega, i + 1, g₅, h₅, k₅, ρ₅, own₅, rfl, rfl, hlt, a5, b3, hst₅, b5⟩
    | cont => exact ⟨n + 1 - (i + 1), by omega, i + 1, g₅, h₅, k₅, ρ₅, own₅, rfl, rfl, hlt, a5, b3, hst₅, b5⟩
    | brk => exact ⟨.next, g₅, h₅, k₅, ρ₅, own₅, rfl, fin, b3, .next, b5⟩
    | ret hI => exact ⟨.ret _, g₅, h₅, k₅, ρ₅, own₅, rfl, fin, b3, .ret hI, b5⟩
  · have hin : i = n := by omega
    subst hin
    refine W.done _ _ _ hst fun h₂ tk₂ hk₂ => wpAny_execs_nil ?_
    have F₂ := F'.turn hk₂ hwf
    have e₀ : Evo c wr g own s.heap g' own' h' := (Evo.ofGrow G₁).trans a2
    refine ⟨.next, g', h₂, tk₂, ρ', own', rfl, ⟨e₀.sub, fun b o e hL hc ho _ => ?_, e₀.news, fun b e => ?_, e₀.gnew⟩, F₂, .next, done ρ' own' hJ⟩
    · have hb : b ∉ wr := fun q => by rw [(T.wrN b q).1] at e; cases e
      exact hk₂ b o hb (e₀.kept b o e hL hc ho hb)
    · by_cases hb : b ∈ wr
      · exact (T.wrN b hb).1
      · refine e₀.live b ?_
        cases q : h'.get? b with
        | none => rfl
        | some o => rw [hk₂ b o hb q] at e; cases e
end
end Mine

/-! text M5 -/
namespace Mine

section
variable {c : Cx} {ρ : Vars} {own : Own}

/-! ## global names, calls -/
theorem load_blt {x : Str} {v : Value} {g : Part} {s : Shared} {Q E : Value → Shared → Prop} {pos : Pos} (F : Fm c ρ own g s.heap) (hk : c.env.kindOf x = some .globalImplicit) (hf : x ∈ bltNames) (hv : bootBuiltins x = some v)
    (hn : x ≠ "__name__") (hd : (x == ("__debug__" : Str)) = false) (h : Q v s) : wpAny c.M c.A (eval (.Name x pos) c.env) Q E s := by
  have G := F.ok.glb.keep F.keep₀
  exact Calls.Name_function_global F.ok.kind hk (Calls.loadGlobal_builtin (by rw [F.ok.glo]; exact G.g) (G.free x hf) (by rw [F.ok.bns]; exact G.b) ((G.blt x hn).trans hv) h) hd
theorem load_glb {x : Str} {v : Value} {g : Part} {s : Shared} {Q E : Value → Shared → Prop} {pos : Pos} (F : Fm c ρ own g s.heap) (hk : c.env.kindOf x = some .globalImplicit) (hv : c.mg x = some v)
    (hd : (x == ("__debug__" : Str)) = false) (h : Q v s) : wpAny c.M c.A (eval (.Name x pos) c.env) Q E s := by
  have G := F.ok.glb.keep F.keep₀
  exact Calls.Name_function_global F.ok.kind hk (Calls.loadGlobal_global (by rw [F.ok.glo]; exact G.g) hv h) hd
/-- a built-in type's name -/
theorem Ev.tyName {x : Str} {T : String} {pos : Pos} (hv : bootBuiltins x = some (.type T)) (hf : x ∈ bltNames := by decide) (hk : c.env.kindOf x = some .globalImplicit := by rfl) (hn : x ≠ "__name__" := by decide)
    (hd : (x == ("__debug__" : Str)) = false := by rfl) : Ev c ρ own (.Name x pos) (.ty T) := fun g s Q E F hQ =>
  load_blt F hk hf hv hn hd (hQ _ g s.heap s.toks (Grow.refl F.inn) (.ty T))

theorem Evs.any {es : List Expr} {ds : List D} {pos : Pos} (h : Evs c ρ own es ds) : (backTo pos (starEach es c.env)).any (·.1) = false := by
  induction h with
  | nil => rfl
  | cons he hs _ ih => rw [starEach_plain hs]; show (false || _) = false; rw [Bool.false_or]; exact ih

theorem Evs.evalArgs {es : List Expr} {ds : List D} {pos : Pos} {f : Value} {g : Part} {s : Shared} {Q : Args → Shared → Prop} {E : Value → Shared → Prop} (h : Evs c ρ own es ds) (F : Fm c ρ own g s.heap)
    (hQ : ∀ vs g' h' k, Grow g s.heap g' h' → Isl g' vs ds → Q ⟨vs, []⟩ { s with heap := h', toks := k }) : wpAny c.M c.A (evalArgs f true (backTo pos (starEach es c.env)) []) Q E s := by
  cases h with
  | nil => exact PySem.evalArgs_none (hQ [] g s.heap s.toks (Grow.refl F.inn) .nil)
  | @cons e es d ds he hs hr =>
    have := (Evs.cons he hs hr).spliced (pos := pos) g s (fun vs s' => Q ⟨vs, []⟩ s') E F hQ
    rw [starEach_plain hs] at this ⊢
    exact Calls.evalArgs_plain this

theorem Ev.callTy {x : Str} {T : String} {es : List Expr} {ds : List D} {d : D} {p pos : Pos} (hv : bootBuiltins x = some (.type T)) (h : Evs c ρ own es ds) (ho : ∀ g vs, Isl g vs ds → Gp c g (call (.type T) vs) d)
    (hf : x ∈ bltNames := by decide) (hk : c.env.kindOf x = some .globalImplicit := by rfl) (hn : x ≠ "__name__" := by decide) (hd : (x == ("__debug__" : Str)) = false := by rfl) :
    Ev c ρ own (.Call (.Name x p) es [] pos) d := fun g s Q E F hQ => by
  refine wpAny_Call_Name_kw (load_blt F hk hf hv hn hd ?_)
  refine PyProof.Rows.callWith_type h.any (h.evalArgs F fun vs g₁ h₁ k₁ G₁ I₁ => ?_)
  have F₁ := F.grow G₁
  exact ho g₁ vs I₁ _ _ _ F₁.ok F₁.keep₀ F₁.inn fun v g₂ h₂ k₂ G₂ I₂ => hQ v g₂ h₂ k₂ (G₁.trans G₂) I₂
theorem Ev.callBlt {x : Str} {id : String} {es : List Expr} {ds : List D} {d : D} {p pos : Pos} (hv : bootBuiltins x = some (.builtin id)) (h : Evs c ρ own es ds) (ho : ∀ g vs, Isl g vs ds → Gp c g (call (.builtin id) vs) d)
    (hf : x ∈ bltNames := by decide) (hk : c.env.kindOf x = some .globalImplicit := by rfl) (hn : x ≠ "__name__" := by decide) (hd : (x == ("__debug__" : Str)) = false := by rfl) :
    Ev c ρ own (.Call (.Name x p) es [] pos) d := fun g s Q E F hQ => by
  refine wpAny_Call_Name_kw (load_blt F hk hf hv hn hd ?_)
  refine Calls.callWith_builtin h.any (h.evalArgs F fun vs g₁ h₁ k₁ G₁ I₁ => ?_)
  have F₁ := F.grow G₁
  exact ho g₁ vs I₁ _ _ _ F₁.ok F₁.keep₀ F₁.inn fun v g₂ h₂ k₂ G₂ I₂ => hQ v g₂ h₂ k₂ (G₁.trans G₂) I₂

/-- a method of a built-in type's value -/
theorem Ev.method {o : Expr} {name : Str} {apos pos : Pos} {es : List Expr} {a d : D} {ds : List D} {T id : String} (pa : PlainAttrs T) (slot : Slot T name id) (hty : typeOf (.builtin id) = pure (.type "method_descriptor"))
    (h : Ev c ρ own o a) (hs : Evs c ρ own es ds) (hT : ∀ g v (s : Shared), Is g v a → Inn g s.heap → s.TypeIs v T ∧ ∀ b, v = .ref b → ∃ ob, s.heap.get? b = some ob ∧ ob.dict = none)
    (ho : ∀ g v vs, Is g v a → Isl g vs ds → Gp c g (call (.builtin id) (v :: vs)) d)
    (hfew : es.length < 29 := by show (_ : Nat) < 29; simp) (hline : (apos.endLine == pos.line) = true := by rfl)
    (hbase : attributeBase o name c.env (eval o c.env) = eval o c.env := by rfl) : Ev c ρ own (.Call (.Attribute o name apos) es [] pos) d := fun g s Q E F hQ => by
  refine PySem.wpAny_Call_method hbase ?_ hline pa slot hty (h g s _ E F fun v g₁ h₁ k₁ G₁ I₁ => ?_)
  · have h1 : ((backTo pos (starEach es c.env)).all fun x => !x.1) = true := by
      rw [List.all_eq_not_any_not]; simp only [Bool.not_not]; rw [hs.any]; rfl
    rw [h1]
    show (true && true && decide (es.length + 0 + 0 < 30)) = true
    simp; omega
  · have F₁ := F.grow G₁
    obtain ⟨t1, t2⟩ := hT g₁ v { s with heap := h₁, toks := k₁ } I₁ G₁.inn
    refine ⟨t1, t2, ?_⟩
    refine Calls.callWith_builtin hs.any (hs.evalArgs F₁ fun vs g₂ h₂ k₂ G₂ I₂ => ?_)
    have F₂ := F₁.grow G₂
    exact ho g₂ v vs (I₁.sub G₂.sub) I₂ _ _ _ F₂.ok F₂.keep₀ F₂.inn fun v g₃ h₃ k₃ G₃ I₃ => hQ v g₃ h₃ k₃ ((G₁.trans G₂).trans G₃) I₃

/-! ## contracts of the text's defs -/
/-- a call of def i with these data gives d -/
def Con (prog : Program) (w : World) (mg mb : Str → Option Value) (room : Nat) (i : Nat) (kw : List (Str × D)) (ds : List D) (d : D) : Prop :=
  ∀ (A : Around) (g : Part) (s : Shared) (f : Addr) (dV kV : Value) (vs : List Value) (kvs : List (Str × Value)) (Q E : Value → Shared → Prop), Room A room → Glb mg mb s.heap → FnAt mg s.heap i f dV kV → Inn g s.heap → Isl g vs ds →
    (kvs.map (·.1) = kw.map (·.1)) → Isl g (kvs.map (·.2)) (kw.map (·.2)) →
    (∀ v g' h' k, Grow g s.heap g' h' → Is g' v d → Q v { s with heap := h', toks := k }) → wpAny (model prog w) A (call (.ref f) vs kvs) Q E s

theorem Ev.call {x : Str} {i : Nat} {es : List Expr} {ds : List D} {d : D} {p pos : Pos} {room : Nat} (hC : Con c.prog c.w c.mg c.mb room i [] ds d) (h : Evs c ρ own es ds) (hx : fnName i = x := by rfl) (hi : i ∈ defIdx := by decide)
    (hr : room ≤ c.room := by exact Nat.le_of_ble_eq_true rfl) (hk : c.env.kindOf x = some .globalImplicit := by rfl) (hd : (x == ("__debug__" : Str)) = false := by rfl) :
    Ev c ρ own (.Call (.Name x p) es [] pos) d := fun g s Q E F hQ => by
  have G := F.ok.glb.keep F.keep₀
  obtain ⟨f, dV, kV, hf⟩ := G.fn i hi
  obtain ⟨o, doc, pm, an, cd, ct, hf1, hf2, hf3⟩ := hf.o
  refine wpAny_Call_Name_kw (load_glb F hk (hx ▸ hf.g) hd ?_)
  refine Calls.callWith_function (o := o) (h.evalArgs F fun vs g₁ h₁ k₁ G₁ I₁ => ⟨⟨G₁.keep _ _ hf1, hf2⟩, ?_⟩)
  have F₁ := F.grow G₁
  exact hC c.A g₁ _ f dV kV vs [] _ _ (F.ok.rm.le hr) (G.keep G₁.keep) (hf.keep G₁.keep) F₁.inn I₁ rfl .nil fun v g₂ h₂ k₂ G₂ I₂ => hQ v g₂ h₂ k₂ (G₁.trans G₂) I₂
theorem Ev.callKw {x : Str} {i : Nat} {e ke : Expr} {es : List Expr} {ds : List D} {d kd : D} {kn : Str} {p pos kp : Pos} {room : Nat} (hC : Con c.prog c.w c.mg c.mb room i [(kn, kd)] ds d) (h : Evs c ρ own (e :: es) ds) (hke : Ev c ρ own ke kd) (hx : fnName i = x := by rfl) (hi : i ∈ defIdx := by decide)
    (hr : room ≤ c.room := by exact Nat.le_of_ble_eq_true rfl) (hk : c.env.kindOf x = some .globalImplicit := by rfl) (hd : (x == ("__debug__" : Str)) = false := by rfl) :
    Ev c ρ own (.Call (.Name x p) (e :: es) [⟨some kn, ke, kp⟩] pos) d := fun g s Q E F hQ => by
  have G := F.ok.glb.keep F.keep₀
  obtain ⟨f, dV, kV, hf⟩ := G.fn i hi
  obtain ⟨o, doc, pm, an, cd, ct, hf1, hf2, hf3⟩ := hf.o
  refine wpAny_Call_Name_kw (load_glb F hk (hx ▸ hf.g) hd ?_)
  refine callWith_function_kw (o := o) (fd := fnObj i dV kV doc pm an cd ct) ?_
  · have hs : ∀ x p, e ≠ .Starred x p := by cases h with | cons _ hs _ => exact hs
    have hsp := h.spliced (pos := pos)
    rw [starEach_plain hs] at hsp ⊢
    refine evalArgs_kw rfl (hsp g s _ E F fun vs g₁ h₁ k₁ G₁ I₁ => ?_)
    have F₁ := F.grow G₁
    refine wpAny_evalAll_cons ?_
    show wpAny c.M c.A (do let v ← eval ke c.env; standAt pos; pure v) _ E _
    refine wpAny_bind (hke g₁ _ _ E F₁ fun kv g₂ h₂ k₂ G₂ I₂ => wpAny_bind (wpAny_standAt (wpAny_pure (wpAny_evalAll_nil ?_))))
    have F₂ := F₁.grow G₂
    refine ⟨⟨G₂.keep _ _ (G₁.keep _ _ hf1), hf2⟩, ?_⟩
    exact hC c.A g₂ _ f dV kV vs [(kn, kv)] _ _ (F.ok.rm.le hr) ((G.keep G₁.keep).keep G₂.keep) ((hf.keep G₁.keep).keep G₂.keep) F₂.inn (I₁.sub G₂.sub) rfl (.cons I₂ .nil) fun v g₃ h₃ k₃ G₃ I₃ => hQ v g₃ h₃ k₃ ((G₁.trans G₂).trans G₃) I₃

/-! ## loops' sources -/
theorem ItSrc.list {iter : Expr} {x : Str} {px : Pos} {ds : List D} (h : Ev c ρ own iter (.list ds)) : ItSrc c ρ own iter (.Name x px) ds.length (fun g i v _ => ∃ d, ds[i]? = some d ∧ Is g v d) := fun g s Q E F hQ => by
  refine h g s _ E F fun v g₁ h₁ k₁ G₁ I₁ => ?_
  cases I₁ with
  | @list a vs _ hl hI =>
    have F₁ := F.grow G₁
    have hls := hl.inn G₁.inn
    obtain ⟨ol, nl, hga, hcl, hdl⟩ := hl
    have hne : a ≠ h₁.objs.size := Nat.ne_of_lt (Heap.lt_size (G₁.inn _ _ hga))
    refine wpAny_pyIter_list hls ?_
    have hn : vs.toArray.size = ds.length := by simp [hI.length]
    have W := Walks.list (prog := c.prog) (w := c.w) F.ok.rm.hand h₁.objs.size a hne vs.toArray
    rw [hn] at W
    refine hQ h₁.objs.size g₁ _ k₁ [h₁.objs.size] _ ⟨G₁.sub, fun b o e => Heap.get?_push_of_some _ (G₁.inn b o e), G₁.keep.trans (Keep.push _ _), G₁.new⟩
      ⟨⟨_, _, _, KTurns.ofWalks W (fun i v s Q E _ hq => wpAny_pure hq), ?_, ?_, ?_⟩, ⟨⟨_, Heap.get?_push_size _ rfl, rfl, rfl⟩, hls.at fun o e => Heap.get?_push_of_some _ e⟩, ?_, ?_, fun i s₁ Q₁ E₁ st q => W.self i s₁ Q₁ E₁ st q⟩
    · intro b hb
      rcases List.mem_cons.mp hb with rfl | hb
      · exact .inr (G₁.keep.none (get?_size_none h₁))
      · rw [List.mem_singleton.mp hb]; exact .inl ⟨ol, hga⟩
    · intro b hb
      rcases List.mem_cons.mp hb with rfl | hb
      · rw [Heap.get?_push_size _ rfl]; intro q; cases q
      · rw [List.mem_singleton.mp hb, Heap.get?_push_of_some _ (G₁.inn _ _ hga)]; intro q; cases q
    · intro i v k hP
      exact Isl.get hI i v (by simpa using hP)
    · intro b hb
      rw [List.mem_singleton.mp hb]
      exact ⟨G₁.keep.none (get?_size_none h₁), G₁.inn.none (get?_size_none h₁)⟩
    · intro i k st b hb
      rw [List.mem_singleton.mp hb]
      obtain ⟨o, ho, _⟩ := st.1
      rw [ho]; intro q; cases q

/-- a source whose iterator is one new object, all else by value -/
theorem ItSrc.one {iter : Expr} {x : Str} {px : Pos} {d₀ : D} {n : Nat} {It : Part → Nat → Value → Heap → Prop} (h : Ev c ρ own iter d₀)
    (hit : ∀ (g : Part) (v : Value) (s : Shared) (Q E : Value → Shared → Prop), Is g v d₀ → Inn g s.heap → c.A.handled = none →
      (∀ o P St, (o : Obj).isFreed = false → Walks c.prog c.w c.A s.heap.objs.size [s.heap.objs.size] [s.heap.objs.size] n P St → St 0 (s.heap.push o) → (∀ i k, St i k → k.get? s.heap.objs.size ≠ none) → (∀ i v k, P i v → It g i v k) →
        Q (.ref s.heap.objs.size) { s with heap := s.heap.push o }) → wpAny c.M c.A (pyIter v) Q E s) :
    ItSrc c ρ own iter (.Name x px) n It := fun g s Q E F hQ => by
  refine h g s _ E F fun v g₁ h₁ k₁ G₁ I₁ => ?_
  refine hit g₁ v _ _ _ I₁ G₁.inn F.ok.rm.hand fun o P St hof W hst hlv hP => ?_
  refine hQ h₁.objs.size g₁ _ k₁ [h₁.objs.size] St ⟨G₁.sub, fun b o e => Heap.get?_push_of_some _ (G₁.inn b o e), G₁.keep.trans (Keep.push _ _), G₁.new⟩
    ⟨⟨_, _, _, KTurns.ofWalks W (fun i v s Q E _ hq => wpAny_pure hq), ?_, ?_, fun i v k => hP i v k⟩, hst, ?_, ?_, fun i s₁ Q₁ E₁ st q => W.self i s₁ Q₁ E₁ st q⟩
  · intro b hb
    rw [List.mem_singleton.mp hb]
    exact .inr (G₁.keep.none (get?_size_none h₁))
  · intro b hb
    rw [List.mem_singleton.mp hb]
    show (h₁.push o).get? h₁.objs.size ≠ none
    rw [Heap.get?_push_size _ hof]; intro q; cases q
  · intro b hb
    rw [List.mem_singleton.mp hb]
    exact ⟨G₁.keep.none (get?_size_none h₁), G₁.inn.none (get?_size_none h₁)⟩
  · intro i k st b hb
    rw [List.mem_singleton.mp hb]
    exact hlv i k st
theorem ItSrc.str {iter : Expr} {x : Str} {px : Pos} {t : Str} (h : Ev c ρ own iter (.str t)) : ItSrc c ρ own iter (.Name x px) t.cps.size (fun g i v _ => ∃ u, t.cps[i]? = some u ∧ Is g v (.str ⟨#[u]⟩)) :=
  ItSrc.one h fun g v s Q E I inn hh hQ => by
    cases I with
    | str _ tk =>
      have hP : ∀ (i : Nat) (v : Value) (k : Heap), SignAt t i v → ∃ u, t.cps[i]? = some u ∧ Is g v (.str ⟨#[u]⟩) := fun i v k ⟨cc, u, e1, e2⟩ => ⟨cc, e1, e2 ▸ .str _ _⟩
      cases ha : t.cps.all (· < 128)
      · exact wpAny_pyIter_wide ha (hQ _ _ _ rfl (Walks.strWide hh _ t tk) ⟨_, Heap.get?_push_size _ rfl, rfl, rfl⟩ (fun i k ⟨o, ho, _⟩ q => by rw [ho] at q; cases q) hP)
      · exact wpAny_pyIter_ascii ha (hQ _ _ _ rfl (Walks.strAscii hh _ t tk) ⟨_, Heap.get?_push_size _ rfl, rfl, rfl⟩ (fun i k ⟨o, ho, _⟩ q => by rw [ho] at q; cases q) hP)
theorem Bind.name {x : Str} {px : Pos} {v : Value} {d : D} {g : Part} {h : Heap} (hI : Is g v d) (hk : mayStore c x = true) : Bind c own (.Name x px) v g h (·.set x d) := fun ρ s Q E hs F hQ => by
  subst hs
  exact wpAny_assign_Name (F.store hI hk fun h' k e F' => hQ g h' k e F')
end
end Mine

/-! text M6 -/
namespace Mine

/-! ## entering a def -/
def fnEnv (i : Nat) (L f : Addr) (cd : Value) : Env := envX (fnName i) (fnScope i) L f cd (cellsFrom (L + 1) (fnScope i).names [])
def fnCx (prog : Program) (w : World) (A : Around) (room : Nat) (mg mb : Str → Option Value) (i : Nat) (L f : Addr) (cd : Value) (h₀ : Heap) (g₀ : Part) : Cx :=
  { prog := prog, w := w, A := A.deeper (fnEnv i L f cd), room := room, mg := mg, mb := mb, env := fnEnv i L f cd, h₀ := h₀, g₀ := g₀, W := true }

def bindVars : List (Str × D) → Vars → Vars
  | [], ρ => ρ
  | (n, d) :: r, ρ => bindVars r (ρ.set n d)
def RetIs (d : D) : Fl → Vars → Own → Prop
  | .ret d', _, _ => d' = d
  | .next, _, _ => d = .none
  | _, _, _ => False

theorem bind_rel {g : Part} {kindOf : Str → Option NameKind} : ∀ {binds : List (Str × Value)} {bds : List (Str × D)} {m cm : Str → Option Value} {ρ : Vars}, binds.map (·.1) = bds.map (·.1) → Isl g (binds.map (·.2)) (bds.map (·.2)) →
    (∀ x d, ρ x = some d → kindOf x = some .local → ∃ v, m x = some v ∧ Is g v d) → (∀ x d, ρ x = some d → kindOf x ≠ some .local → ∃ v, cm x = some v ∧ Is g v d) →
    (∀ x d, bindVars bds ρ x = some d → kindOf x = some .local → ∃ v, bindL kindOf binds m x = some v ∧ Is g v d) ∧ (∀ x d, bindVars bds ρ x = some d → kindOf x ≠ some .local → ∃ v, bindC kindOf binds cm x = some v ∧ Is g v d)
  | [], [], _, _, _, _, _, h1, h2 => ⟨h1, h2⟩
  | (n, v) :: r, (n', d) :: r', m, cm, ρ, hn, hI, h1, h2 => by
    obtain ⟨rfl, hn'⟩ : n = n' ∧ r.map (·.1) = r'.map (·.1) := by simpa using hn
    cases hI with
    | cons x y =>
      refine bind_rel (binds := r) (bds := r') (ρ := ρ.set n d) hn' y (fun z e hz kz => ?_) fun z e hz kz => ?_
      · by_cases q : z = n
        · subst q; simp only [Vars.set, if_true] at hz; cases hz; exact ⟨v, by simp [kz], x⟩
        · simp only [Vars.set, q, if_false] at hz
          obtain ⟨u, h3, h4⟩ := h1 z e hz kz
          refine ⟨u, ?_, h4⟩
          split
          · simp [q, h3]
          · exact h3
      · by_cases q : z = n
        · subst q; simp only [Vars.set, if_true] at hz; cases hz; exact ⟨v, by simp [kz], x⟩
        · simp only [Vars.set, q, if_false] at hz
          obtain ⟨u, h3, h4⟩ := h2 z e hz kz
          refine ⟨u, ?_, h4⟩
          split
          · exact h3
          · simp [q, h3]
theorem bindVars_mem : ∀ {bds : List (Str × D)} {ρ : Vars} {x : Str} {d : D}, bindVars bds ρ x = some d → x ∈ bds.map (·.1) ∨ ρ x = some d
  | [], _, _, _, h => .inr h
  | (n, e) :: r, ρ, x, d, h => by
    rcases bindVars_mem (bds := r) h with h | h
    · exact .inl (by simp [h])
    · by_cases q : x = n
      · exact .inl (by simp [q])
      · simp only [Vars.set, q, if_false] at h; exact .inr h

theorem enter_fm {prog : Program} {w : World} {A : Around} {room : Nat} {mg mb : Str → Option Value} {i : Nat} {f : Addr} {cd : Value} {s s' : Shared} {g : Part} {binds : List (Str × Value)} {bds : List (Str × D)}
    (R : Room A (room + 1)) (G : Glb mg mb s.heap) (inn : Inn g s.heap) (hn : binds.map (·.1) = bds.map (·.1)) (hI : Isl g (binds.map (·.2)) (bds.map (·.2)))
    (hkind : (bds.all fun y => (fnScope i).names.lookup y.1 == some .local || ((fnScope i).names.lookup y.1 == some .cell)) = true) (hk : (fnScope i).kind = .function)
    (x : InCallC s (fnEnv i s.heap.objs.size f cd).locals (bindL (fnEnv i s.heap.objs.size f cd).kindOf binds fun _ => none) (fnEnv i s.heap.objs.size f cd).cells (bindC (fnEnv i s.heap.objs.size f cd).kindOf binds fun _ => none) s') :
    Fm (fnCx prog w A room mg mb i s.heap.objs.size f cd s.heap g) (bindVars bds fun _ => none) [] g s'.heap := by
  have hsz : ∀ a, s.heap.objs.size ≤ a → s.heap.get? a = none := fun a ha => by
    cases q : s.heap.get? a with
    | none => rfl
    | some o => exact absurd (Heap.lt_size q) (Nat.not_lt.mpr ha)
  obtain ⟨r1, r2⟩ := bind_rel (g := g) (kindOf := (fnEnv i s.heap.objs.size f cd).kindOf) (m := fun _ => none) (cm := fun _ => none) (ρ := fun _ => none) hn hI (fun x d e => nomatch e) (fun x d e => nomatch e)
  have kd : ∀ y d, bindVars bds (fun _ => none) y = some d → (fnEnv i s.heap.objs.size f cd).kindOf y = some .local ∨ (fnEnv i s.heap.objs.size f cd).kindOf y = some .cell := fun y d e => by
    rcases bindVars_mem e with h | h
    · obtain ⟨p, hp, rfl⟩ := List.mem_map.mp h
      have := List.all_eq_true.mp hkind p hp
      rcases Bool.or_eq_true_iff.mp this with q | q
      · exact .inl (beq_iff_eq.mp q)
      · exact .inr (beq_iff_eq.mp q)
    · cases h
  have at' : ∀ y, (fnScope i).names.lookup y = some .cell → ∃ a, (fnEnv i s.heap.objs.size f cd).cells.lookup y = some a := fun y e =>
    Option.isSome_iff_exists.mp (cellsFrom_some (fnScope i).names (s.heap.objs.size + 1) [] (.inl e))
  refine ⟨⟨hk, rfl, rfl, G, ⟨R.hand, ?_, ?_⟩⟩, fun a o e => x.toInCall.keep a o (inn a o e), x.toInCall.keep, Sub.refl g, fun a o e => .inl e, ⟨_, x.toInCall.ns, r1⟩, inn.none (hsz _ (Nat.le_refl _)), hsz _ (Nat.le_refl _), fun y a e => ?_, fun y d e k => ?_, fun y z a e1 e2 => ?_, fun p hp => (nomatch hp), List.nodup_nil⟩
  · have := R.depth; show A.depth + 1 + room < recursionLimit; omega
  · have := R.units; show A.units + 3 + 8 * room + 100 < cLine; omega
  · have hm := mem_of_lookup e
    have hlt := x.above y a hm
    have hno : s.heap.get? a = none := hsz a (Nat.le_of_lt hlt)
    refine ⟨inn.none hno, fun _ => hno, _, x.cell y a e, fun d hd hk' => ?_⟩
    obtain ⟨v, h1, h2⟩ := r2 y d hd (fun q => by rcases hk' with k | k <;> (have k' : (fnEnv i s.heap.objs.size f cd).kindOf y = _ := k; rw [k'] at q; cases q))
    exact ⟨v, h1, h2⟩
  · rcases kd y d e with q | q
    · rcases k with k | k <;> (have k' : (fnEnv i s.heap.objs.size f cd).kindOf y = _ := k; rw [k'] at q; cases q)
    · exact at' y q
  · exact name_of_addr x.apart (mem_of_lookup e1) (mem_of_lookup e2)

theorem Con.intro {prog : Program} {w : World} {mg mb : Str → Option Value} {room i : Nat} {kw : List (Str × D)} {ds : List D} {d : D} (bds : List (Str × D))
    (hbind : ∀ (s : Shared) (g : Part) (vs : List Value) (kvs : List (Str × Value)) (f : Addr) (dV kV doc pm : Value) (an : Option Addr) (cd ct : Value), Glb mg mb s.heap → FnAt mg s.heap i f dV kV → Isl g vs ds → kvs.map (·.1) = kw.map (·.1) → Isl g (kvs.map (·.2)) (kw.map (·.2)) →
      ∃ binds, BindsTo s (fnObj i dV kV doc pm an cd ct) ⟨vs, kvs⟩ binds ∧ binds.map (·.1) = bds.map (·.1) ∧ Isl g (binds.map (·.2)) (bds.map (·.2)))
    (body : ∀ A L f cd h₀ g₀, Ex (fnCx prog w A room mg mb i L f cd h₀ g₀) (bindVars bds fun _ => none) [] (fnBody i) (RetIs d))
    (hkind : (bds.all fun y => (fnScope i).names.lookup y.1 == some .local || ((fnScope i).names.lookup y.1 == some .cell)) = true := by rfl)
    (hk : (fnScope i).kind = .function := by rfl) (hco : (fnScope i).isCoroutine = false := by rfl) (hgen : (fnScope i).isGenerator = false := by rfl) :
    Con prog w mg mb (room + 1) i kw ds d := fun A g s f dV kV vs kvs Q E R G hf inn hI hkn hkI hQ => by
  obtain ⟨o, doc, pm, an, cd, ct, hf1, hf2, hf3⟩ := hf.o
  obtain ⟨binds, hb, hn, hbI⟩ := hbind s g vs kvs f dV kV doc pm an cd ct G hf hI hkn hkI
  refine wpAny_call (codeAny_call_function (by have := R.depth; omega) hf1 hf2 hco hgen rfl hf3 (hb _ _ _ _ ?_))
  have hkd : ∀ x ∈ binds, (fnScope i).names.lookup x.1 = some .local ∨ ((fnScope i).names.lookup x.1 = some .cell ∧ ((cellsFrom (s.heap.objs.size + 1) (fnScope i).names []).lookup x.1).isSome = true) := fun x hx => by
    have hm : x.1 ∈ bds.map (·.1) := hn ▸ List.mem_map_of_mem hx
    obtain ⟨p, hp, e⟩ := List.mem_map.mp hm
    have := List.all_eq_true.mp hkind p hp
    rw [← e]
    rcases Bool.or_eq_true_iff.mp this with q | q
    · exact .inl (beq_iff_eq.mp q)
    · exact .inr ⟨beq_iff_eq.mp q, cellsFrom_some _ _ _ (.inl (beq_iff_eq.mp q))⟩
  refine wpAny_newFunctionEnv_cells hk hkd fun env he s' x => ?_
  subst he
  have F := enter_fm (prog := prog) (w := w) R G inn hn hbI hkind hk x
  refine ⟨(G.keep x.toInCall.keep).lim, codeAny_func ?_⟩
  obtain ⟨h₁, tk, rfl, _⟩ := x.done
  refine wpAny_mono (body A s.heap.objs.size f cd s.heap g g _ (fun _ _ => False) F) (fun fl s₂ p => ?_) fun _ _ e => e.elim
  obtain ⟨fl', g', h', k, ρ', own', rfl, a2, a3, a4, a5⟩ := p
  have gr : Grow g s.heap g' h' := ⟨a3.sub₀, a3.inn, a3.keep₀, a3.new₀⟩
  cases a4 with
  | next => exact hQ _ g' h' k gr (by rw [show d = D.none from a5]; exact .none)
  | cont => exact a5.elim
  | brk => exact a5.elim
  | ret hI' => exact hQ _ g' h' k gr (by rw [← show _ = d from a5]; exact hI')

theorem FnAt.noDef {mg : Str → Option Value} {h : Heap} {i : Nat} {f : Addr} {dV kV : Value} (x : FnAt mg h i f dV kV) (hi : i ≠ 16 ∧ i ≠ 17) : dV = .none := by
  have := x.dfl
  unfold DefOk at this
  rwa [if_neg hi.1, if_neg hi.2] at this
/-- plain parameters, given by place -/
theorem Con.intro1 {prog : Program} {w : World} {mg mb : Str → Option Value} {room i : Nat} {x : Str} {d₁ d : D}
    (body : ∀ A L f cd h₀ g₀, Ex (fnCx prog w A room mg mb i L f cd h₀ g₀) (bindVars [(x, d₁)] fun _ => none) [] (fnBody i) (RetIs d))
    (hb : ∀ v kV doc pm an cd ct, bindArgs (fnObj i .none kV doc pm an cd ct) ⟨[v], []⟩ = pure [(x, v)] := by intros; rfl) (hi : i ≠ 16 ∧ i ≠ 17 := by decide)
    (hkind : (([(x, d₁)] : List (Str × D)).all fun y => (fnScope i).names.lookup y.1 == some .local || ((fnScope i).names.lookup y.1 == some .cell)) = true := by rfl)
    (hk : (fnScope i).kind = .function := by rfl) (hco : (fnScope i).isCoroutine = false := by rfl) (hgen : (fnScope i).isGenerator = false := by rfl) :
    Con prog w mg mb (room + 1) i [] [d₁] d :=
  Con.intro [(x, d₁)] (fun s g vs kvs f dV kV doc pm an cd ct G hf hI hkn hkI => by
    obtain rfl : kvs = [] := by simpa using hkn
    obtain rfl : dV = .none := FnAt.noDef hf hi
    cases hI with
    | cons a b => cases b; exact ⟨_, BindsTo.of_eq (hb _ _ _ _ _ _ _), rfl, .cons a .nil⟩) body hkind hk hco hgen
theorem Con.intro2 {prog : Program} {w : World} {mg mb : Str → Option Value} {room i : Nat} {x y : Str} {d₁ d₂ d : D}
    (body : ∀ A L f cd h₀ g₀, Ex (fnCx prog w A room mg mb i L f cd h₀ g₀) (bindVars [(x, d₁), (y, d₂)] fun _ => none) [] (fnBody i) (RetIs d))
    (hb : ∀ v u kV doc pm an cd ct, bindArgs (fnObj i .none kV doc pm an cd ct) ⟨[v, u], []⟩ = pure [(x, v), (y, u)] := by intros; rfl) (hi : i ≠ 16 ∧ i ≠ 17 := by decide)
    (hkind : (([(x, d₁), (y, d₂)] : List (Str × D)).all fun y => (fnScope i).names.lookup y.1 == some .local || ((fnScope i).names.lookup y.1 == some .cell)) = true := by rfl)
    (hk : (fnScope i).kind = .function := by rfl) (hco : (fnScope i).isCoroutine = false := by rfl) (hgen : (fnScope i).isGenerator = false := by rfl) :
    Con prog w mg mb (room + 1) i [] [d₁, d₂] d :=
  Con.intro [(x, d₁), (y, d₂)] (fun s g vs kvs f dV kV doc pm an cd ct G hf hI hkn hkI => by
    obtain rfl : kvs = [] := by simpa using hkn
    obtain rfl : dV = .none := FnAt.noDef hf hi
    cases hI with
    | cons a b => cases b with
      | cons a' b' => cases b'; exact ⟨_, BindsTo.of_eq (hb _ _ _ _ _ _ _ _), rfl, .cons a (.cons a' .nil)⟩) body hkind hk hco hgen

/-! ## a first def: _b64_value -/
def b64v (c : Int) : Int := if 65 ≤ c ∧ c ≤ 90 then c - 65 else if 97 ≤ c ∧ c ≤ 122 then c - 71 else if 48 ≤ c ∧ c ≤ 57 then c + 4 else if c = 43 then 62 else if c = 47 then 63 else 64
end Mine

/-! text M7 -/
namespace Mine

section
variable {c : Cx} {ρ : Vars} {own : Own}

/-! ## brackets -/
theorem Ev.item {value slice : Expr} {pos : Pos} {a b d : D} {T id : String} (hv : Ev c ρ own value a) (hs : Ev c ρ own slice b) (hl : typeLookup (.type T) "__getitem__" = pure (some (.builtin id)))
    (hT : ∀ g v (s : Shared), Is g v a → Inn g s.heap → s.TypeIs v T) (ho : ∀ g v i, Is g v a → Is g i b → Gp c g (getItem v i) d)
    (hsub : ∀ o i, subscripted slice false o i = operate [o, i] (getItem o i) := by intro _ _; rfl) : Ev c ρ own (.Subscript value slice pos) d := fun g s Q E F hQ => by
  refine Subscript_ (hv g s _ E F fun v g₁ h₁ k₁ G₁ I₁ => ?_)
  have F₁ := F.grow G₁
  refine hs g₁ _ _ E F₁ fun i g₂ h₂ k₂ G₂ I₂ => ?_
  have F₂ := F₁.grow G₂
  have I₁' := I₁.sub G₂.sub
  refine tail_any (hT g₂ v _ I₁' F₂.inn) hl ?_ (hsub v i)
  exact ho g₂ v i I₁' I₂ _ _ _ F₂.ok F₂.keep₀ F₂.inn fun v g₃ h₃ k₃ G₃ I₃ => hQ v g₃ h₃ k₃ ((G₁.trans G₂).trans G₃) I₃

theorem typeIs_list {g : Part} {v : Value} {s : Shared} {ds : List D} (h : Is g v (.list ds)) (inn : Inn g s.heap) : s.TypeIs v "list" := by
  cases h with
  | list hl _ => exact (hl.inn inn).typeIs
theorem gp_item {ds : List D} {k : Int} {d : D} (h0 : 0 ≤ k) (h1 : k < 2 ^ 63) (hd : ds[k.toNat]? = some d) {g : Part} {v i : Value} (hv : Is g v (.list ds)) (hi : Is g i (.int k)) : Gp c g (getItem v i) d := by
  cases hi
  cases hv with
  | @list a vs _ hl hI =>
    obtain ⟨x, hx, hI'⟩ := hI.getD k.toNat d hd
    exact Gp.val fun s Q E _ _ inn hQ => wpAny_getItem_list (hl.inn inn) h0 h1 (by simpa using hx) (hQ x s.toks hI')
theorem gp_itemNeg {ds : List D} {k : Int} {d : D} (h0 : k < 0) (h1 : -(ds.length : Int) ≤ k) (h2 : -(2 ^ 63) ≤ k) (hd : ds[(k + ds.length).toNat]? = some d) {g : Part} {v i : Value} (hv : Is g v (.list ds)) (hi : Is g i (.int k)) : Gp c g (getItem v i) d := by
  cases hi
  cases hv with
  | @list a vs _ hl hI =>
    obtain ⟨x, hx, hI'⟩ := hI.getD _ d hd
    have hlen := hI.length
    refine Gp.val fun s Q E _ _ inn hQ => wpAny_getItem_list_neg (hl.inn inn) h0 ?_ h2 ?_ (hQ x s.toks hI')
    · simp only [List.size_toArray]; omega
    · simp only [List.size_toArray, hlen]; simpa using hx
theorem Ev.itemList {value slice : Expr} {pos : Pos} {ds : List D} {k : Int} {d : D} (hv : Ev c ρ own value (.list ds)) (hs : Ev c ρ own slice (.int k)) (h0 : 0 ≤ k) (h1 : k < 2 ^ 63) (hd : ds[k.toNat]? = some d)
    (hsub : ∀ o i, subscripted slice false o i = operate [o, i] (getItem o i) := by intro _ _; rfl) : Ev c ρ own (.Subscript value slice pos) d :=
  Ev.item hv hs slot_list_getitem.lookup (fun _ _ _ h inn => typeIs_list h inn) (fun _ _ _ x y => gp_item h0 h1 hd x y) hsub
theorem Ev.itemListNeg {value slice : Expr} {pos : Pos} {ds : List D} {k : Int} {d : D} (hv : Ev c ρ own value (.list ds)) (hs : Ev c ρ own slice (.int k)) (h0 : k < 0) (h1 : -(ds.length : Int) ≤ k) (h2 : -(2 ^ 63) ≤ k) (hd : ds[(k + ds.length).toNat]? = some d)
    (hsub : ∀ o i, subscripted slice false o i = operate [o, i] (getItem o i) := by intro _ _; rfl) : Ev c ρ own (.Subscript value slice pos) d :=
  Ev.item hv hs slot_list_getitem.lookup (fun _ _ _ h inn => typeIs_list h inn) (fun _ _ _ x y => gp_itemNeg h0 h1 h2 hd x y) hsub
theorem Ev.itemBytes {value slice : Expr} {pos : Pos} {b : List UInt8} {k : Int} (hv : Ev c ρ own value (.bytes b.toArray)) (hs : Ev c ρ own slice (.int k)) (hz : b.length ≤ 1099511627776) (h0 : 0 ≤ k) (h1 : k < b.length)
    (hsub : ∀ o i, subscripted slice false o i = operate [o, i] (getItem o i) := by intro _ _; rfl) : Ev c ρ own (.Subscript value slice pos) (.int ((b.getD k.toNat 0).toNat : Int)) :=
  Ev.item hv hs FB.slot_bytes_getitem.lookup (fun g v s h inn => by cases h; exact typeIs_bytes _ _ _) (fun g v i x y => by
    cases x; cases y
    exact Gp.val fun s Q E _ _ inn hQ => PySem.W.getItem_bytes hz h0 h1 (hQ _ _ (.int _ _))) hsub
theorem Ev.itemStr {value slice : Expr} {pos : Pos} {x : Str} {k : Int} {u : Nat} (hv : Ev c ρ own value (.str x)) (hs : Ev c ρ own slice (.int k)) (h0 : 0 ≤ k) (h1 : k < 2 ^ 63) (hu : x.cps[k.toNat]? = some u)
    (hsub : ∀ o i, subscripted slice false o i = operate [o, i] (getItem o i) := by intro _ _; rfl) : Ev c ρ own (.Subscript value slice pos) (.str ⟨#[u]⟩) := by
  refine Ev.item (T := "str") hv hs F.slot_str_getitem.lookup (fun g v s h inn => by cases h; exact typeIs_str _ _ _) (fun g v i x y => ?_) hsub
  cases x; cases y
  refine Gp.val fun s Q E _ _ inn hQ => PyProof.Rows.getItem_str (by simp; omega) ?_ (hQ _ _ (.str _ _))
  have hlt : k.toNat < x.cps.size := (Array.getElem?_eq_some_iff.mp hu).1
  have : seqIndex? k x.length = some k.toNat := by
    have hn : ¬ k < 0 := by omega
    have hk : k < (x.length : Int) := by show k < (x.cps.size : Int); omega
    simp [seqIndex?, hn, h0, hk]
  rw [this]; exact hu

/-- a part of a slice: left out, or an int -/
inductive PartIs (c : Cx) (ρ : Vars) (own : Own) : Option Expr → Option Int → Prop
  | none : PartIs c ρ own none none
  | some {e : Expr} {k : Int} : Ev c ρ own e (.int k) → PartIs c ρ own (some e) (some k)
theorem PartIs.ev {x : Option Expr} {k : Option Int} (h : PartIs c ρ own x k) {g : Part} {s : Shared} {Q E : Value → Shared → Prop} (F : Fm c ρ own g s.heap)
    (hQ : ∀ v g' h' tk, Grow g s.heap g' h' → IsPart v k → Q v { s with heap := h', toks := tk }) : wpAny c.M c.A (evalPart x c.env) Q E s := by
  cases h with
  | none => exact wpAny_pure (hQ _ g s.heap s.toks (Grow.refl F.inn) .none)
  | some h => exact h g s _ E F fun v g₁ h₁ k₁ G₁ I₁ => by cases I₁; exact hQ _ g₁ h₁ k₁ G₁ (.int _ _)

theorem Ev.slice {value : Expr} {lo hi st : Option Expr} {klo khi kst : Option Int} {p pos : Pos} {a d : D} {T id : String} (hv : Ev c ρ own value a) (h1 : PartIs c ρ own lo klo) (h2 : PartIs c ρ own hi khi) (h3 : PartIs c ρ own st kst)
    (hl : typeLookup (.type T) "__getitem__" = pure (some (.builtin id))) (hT : ∀ g v (s : Shared), Is g v a → Inn g s.heap → s.TypeIs v T)
    (ho : ∀ g v (s : Shared) sl vl vu vs (Q E : Value → Shared → Prop), Is g v a → CxOK c → Inn g s.heap → s.heap.IsSliceOf sl vl vu vs → IsPart vl klo → IsPart vu khi → IsPart vs kst →
      (∀ v g' h' k, Grow g s.heap g' h' → Is g' v d → Q v { s with heap := h', toks := k }) → wpAny c.M c.A (getItem v (.ref sl)) Q E s)
    : Ev c ρ own (.Subscript value (.Slice lo hi st p) pos) d := fun g s Q E F hQ => by
  refine Subscript_ (hv g s _ E F fun v g₁ h₁' k₁ G₁ I₁ => ?_)
  have F₁ := F.grow G₁
  refine wpAny_Slice (h1.ev F₁ fun vl g₂ h₂' k₂ G₂ P₂ => ?_)
  have F₂ := F₁.grow G₂
  refine h2.ev F₂ fun vu g₃ h₃' k₃ G₃ P₃ => ?_
  have F₃ := F₂.grow G₃
  refine h3.ev F₃ fun vs g₄ h₄' k₄ G₄ P₄ => ?_
  have F₄ := F₃.grow G₄
  have I₄ := ((I₁.sub G₂.sub).sub G₃.sub).sub G₄.sub
  have Gp₅ : Grow g₄ h₄' g₄ (h₄'.push { cls := .type "slice", data := .fields #[vl, vu, vs] }) := Grow.ofKeep F₄.inn (Keep.push _ _)
  have fin := ho g₄ v { s with heap := h₄'.push { cls := .type "slice", data := .fields #[vl, vu, vs] }, toks := k₄ } h₄'.objs.size vl vu vs Q E I₄ F.ok Gp₅.inn (Heap.IsSliceOf.new ..) P₂ P₃ P₄
    fun v g₅ h₅ k₅ G₅ I₅ => hQ v g₅ h₅ k₅ (((((G₁.trans G₂).trans G₃).trans G₄).trans Gp₅).trans G₅) I₅
  have hTv := hT g₄ v { s with heap := h₄'.push { cls := .type "slice", data := .fields #[vl, vu, vs] }, toks := k₄ } I₄ Gp₅.inn
  cases st with
  | none => exact tail_any (ops := [.ref h₄'.objs.size, v]) hTv hl fin rfl
  | some e => exact tail_any (ops := [v, .ref h₄'.objs.size]) hTv hl fin rfl

theorem isl_run {g : Part} {vs : List Value} {ds : List D} (h : Isl g vs ds) {lo hi : Option Int} {a b : Nat} (hb : sliceBounds lo hi none ds.length = ((a : Int), (b : Int), 1)) : Isl g (slicePick vs.toArray lo hi none).toList ((ds.drop a).take (b - a)) := by
  rw [kmk_pick_nat vs.toArray (by rw [List.size_toArray, h.length]; exact hb)]
  simpa using (h.drop a).take (b - a)

theorem newList_gp {g : Part} {vs : List Value} {ds : List D} {s : Shared} {Q : Value → Shared → Prop} (inn : Inn g s.heap) (hI : Isl g vs ds)
    (hQ : ∀ v g' h' k, Grow g s.heap g' h' → Is g' v (.list ds) → Q v { s with heap := h', toks := k }) : Q (.ref s.heap.objs.size) { s with heap := s.heap.push { cls := .type "list", data := .seq vs.toArray } } := by
  have ho : (s.heap.push { cls := .type "list", data := .seq vs.toArray }).get? s.heap.objs.size = some { cls := .type "list", data := .seq vs.toArray } := Heap.get?_push_size _ rfl
  have G₂ := Grow.put inn (Keep.push s.heap _) (get?_size_none s.heap) ho
  exact hQ _ _ _ s.toks G₂ (.list ⟨_, _, put_self _ _ _, rfl, rfl⟩ (hI.sub G₂.sub))

theorem Ev.sliceList {value : Expr} {lo hi : Option Expr} {klo khi : Option Int} {p pos : Pos} {ds : List D} {a b : Nat} (hv : Ev c ρ own value (.list ds)) (h1 : PartIs c ρ own lo klo) (h2 : PartIs c ρ own hi khi)
    (hb : sliceBounds klo khi none ds.length = ((a : Int), (b : Int), 1)) (hz : ds.length ≤ 16000000) :
    Ev c ρ own (.Subscript value (.Slice lo hi none p) pos) (.list ((ds.drop a).take (b - a))) := by
  refine Ev.slice hv h1 h2 .none slot_list_getitem.lookup (fun _ _ _ h inn => typeIs_list h inn) fun g v s sl vl vu vs Q E I ok inn hs P1 P2 P3 hQ => ?_
  cases I with
  | @list x xs _ hl hI =>
    refine wpAny_getItem_list_slice (hl.inn inn) hs P1 P2 P3 (by simp) ?_ (by rw [List.size_toArray, hI.length, sizeLine_eq]; omega)
    have := newList_gp (s := s) (Q := Q) inn (isl_run hI hb) hQ
    simpa using this
theorem Ev.revList {value e : Expr} {p pos : Pos} {ds : List D} (hv : Ev c ρ own value (.list ds)) (h3 : Ev c ρ own e (.int (-1))) (hz : ds.length ≤ 16000000) :
    Ev c ρ own (.Subscript value (.Slice none none (some e) p) pos) (.list ds.reverse) := by
  refine Ev.slice hv .none .none (.some h3) slot_list_getitem.lookup (fun _ _ _ h inn => typeIs_list h inn) fun g v s sl vl vu vs Q E I ok inn hs P1 P2 P3 hQ => ?_
  cases I with
  | @list x xs _ hl hI =>
    refine wpAny_getItem_list_slice (hl.inn inn) hs P1 P2 P3 (by simp) ?_ (by rw [List.size_toArray, hI.length, sizeLine_eq]; omega)
    have := newList_gp (s := s) (Q := Q) inn hI.reverse hQ
    rw [krv_pick]
    simpa using this
theorem Ev.sliceBytes {value : Expr} {lo hi : Option Expr} {klo khi : Option Int} {p pos : Pos} {b : Array UInt8} (hv : Ev c ρ own value (.bytes b)) (h1 : PartIs c ρ own lo klo) (h2 : PartIs c ρ own hi khi) (hz : b.size ≤ 16000000) :
    Ev c ρ own (.Subscript value (.Slice lo hi none p) pos) (.bytes (KBy.picked b klo khi)) := by
  refine Ev.slice (T := "bytes") hv h1 h2 .none FB.slot_bytes_getitem.lookup (fun g v s h inn => by cases h; exact typeIs_bytes _ _ _) fun g v s sl vl vu vs Q E I ok inn hs P1 P2 P3 hQ => ?_
  cases I; cases P3
  exact getItem_meets (typeIs_bytes _ _ _) (by decide) FB.slot_bytes_getitem FB.entry_bytes_getitem (FB.args_bytes_getitem_2 _ _) (KBc.meets_slice2 b _ _ P1 P2)
    ⟨hs, Nat.le_trans (KBc.size_picked_le b klo khi) (by rw [sizeLine_eq]; omega), fun t' k => hQ _ g s.heap k (Grow.refl inn) (.bytes _ _)⟩

/-! ## len, +, * -/
theorem gp_lenList {ds : List D} (hz : ds.length ≤ 16000000) {g : Part} {v : Value} (h : Is g v (.list ds)) : Gp c g (call (.builtin "len") [v]) (.int ds.length) := by
  cases h with
  | @list a vs _ hl hI =>
    refine Gp.val fun s Q E _ _ inn hQ => Calls.call_len_list (hl.inn inn) (by rw [List.size_toArray, hI.length]; omega) ?_
    rw [List.size_toArray, hI.length]
    exact hQ _ _ (.int _ _)
theorem Ev.lenList {e : Expr} {ds : List D} {p pos : Pos} (h : Ev c ρ own e (.list ds)) (hz : ds.length ≤ 16000000) (hs : ∀ x p, e ≠ .Starred x p := by intro _ _ q; cases q) (hk : c.env.kindOf "len" = some .globalImplicit := by rfl) :
    Ev c ρ own (.Call (.Name "len" p) [e] [] pos) (.int ds.length) :=
  Ev.callBlt (id := "len") Boot.len (.cons h hs .nil) (fun g vs hI => by cases hI with | cons a b => cases b; exact gp_lenList hz a) (hk := hk)
theorem Ev.lenBytes {e : Expr} {b : Array UInt8} {p pos : Pos} (h : Ev c ρ own e (.bytes b)) (hz : b.size ≤ 16000000) (hs : ∀ x p, e ≠ .Starred x p := by intro _ _ q; cases q) (hk : c.env.kindOf "len" = some .globalImplicit := by rfl) :
    Ev c ρ own (.Call (.Name "len" p) [e] [] pos) (.int b.size) :=
  Ev.callBlt (id := "len") Boot.len (.cons h hs .nil) (fun g vs hI => by
    cases hI with
    | cons a b => cases b; cases a; exact Gp.val fun s Q E _ _ _ hQ => PySem.W.len_bytes (by omega) (hQ _ _ (.int _ _))) (hk := hk)
end
end Mine

/-! text M8 -/
namespace Mine

section
variable {c : Cx} {ρ : Vars} {own : Own}

/-! ## lists -/
theorem gp_addList {ds es : List D} (hz : ds.length + es.length ≤ 16000000) {g : Part} {va vb : Value} (ha : Is g va (.list ds)) (hb : Is g vb (.list es)) : Gp c g (binaryOp .Add va vb) (.list (ds ++ es)) := by
  cases ha with
  | @list a vs _ hl hI =>
    cases hb with
    | @list b ws _ hl2 hI2 =>
      intro s Q E _ _ inn hQ
      have l1 := hl.inn inn
      have l2 := hl2.inn inn
      obtain ⟨⟨cls, dd, data, sl⟩, ho, hc, n, hd⟩ := l1
      obtain ⟨⟨cls2, dd2, data2, sl2⟩, ho2, hc2, n2, hd2⟩ := l2
      simp only at hc hd hc2 hd2
      subst hc hd hc2 hd2
      have e : vs.toArray ++ ws.toArray = (vs ++ ws).toArray := by simp
      refine concat_meets ⟨_, ho, rfl⟩ ⟨_, ho2, rfl⟩ noFill_list_add seq_list_add PySem.F.slot_list_add PySem.F.entry_list_add (PySem.F.args_list_add_2 _ _) (list_addW a b vs.toArray ws.toArray n n2 dd dd2 sl sl2 (by simp only [List.size_toArray, hI.length, hI2.length, sizeLine_eq]; omega)) ⟨ho, ho2, ?_⟩
      rw [e]
      exact newList_gp inn (hI.append hI2) hQ
theorem Ev.addList {l r : Expr} {pos : Pos} {ds es : List D} (hl : Ev c ρ own l (.list ds)) (hr : Ev c ρ own r (.list es)) (hz : ds.length + es.length ≤ 16000000) : Ev c ρ own (.BinOp l .Add r pos) (.list (ds ++ es)) :=
  Ev.binop hl hr fun _ _ _ x y => gp_addList hz x y

theorem isl_rep {g : Part} {vs : List Value} {ds : List D} (h : Isl g vs ds) : ∀ n : Nat, Isl g (List.replicate n vs).flatten (List.replicate n ds).flatten
  | 0 => by simpa using Isl.nil
  | n + 1 => by simpa [List.replicate_succ] using h.append (isl_rep h n)
theorem gp_mulList {ds : List D} {x : Int} (hlo : -(2 ^ 63 : Int) ≤ x) (hhi : x < 2 ^ 63) (hsz : ds.length * x.toNat ≤ 2 ^ 24) {g : Part} {va vb : Value} (ha : Is g va (.list ds)) (hb : Is g vb (.int x)) : Gp c g (binaryOp .Mult va vb) (.list (List.replicate x.toNat ds).flatten) := by
  cases hb with
  | int _ u =>
  cases ha with
  | @list l vs _ hl hI =>
      intro s Q E _ _ inn hQ
      obtain ⟨⟨cls, d, data, sl⟩, ho, hcl, k, hd⟩ := hl.inn inn
      simp only at hcl hd
      subst hcl hd
      have hsz' : vs.toArray.size * x.toNat ≤ 2 ^ 24 := by simpa [hI.length] using hsz
      refine wpAny_binaryOp_repeat_ref (T := "list") (U := "int") (by decide) ⟨_, ho, rfl⟩ (fun s' => typeIs_int s' x u) noFill_list_mul F.fills_int_mul F.slot_int_rmul repeat_list F.slot_int_index.lookup
        (call_meets F.slot_int_rmul (typeIs_int s x u) F.entry_int_rmul (F.args_int_rmul_2 _ _) (lm_int_rmul_list_any x u l vs.toArray k d sl)
          ⟨ho, rfl, ⟨_, ho, rfl⟩, call_meets F.slot_list_mul ⟨_, ho, rfl⟩ F.entry_list_mul (F.args_list_mul_2 _ _)
            (lm_list_mul_any l vs.toArray k d sl x u (by simp [Builtin.List.listFitsIndex]; omega) (by omega) (by simp [Builtin.List.listTooLong, sizeLine]; omega))
            ⟨ho, ?_⟩⟩)
      have e := listMul_foldl_if vs.toArray x.toNat
      have fin := newList_gp (s := s) (Q := Q) inn (isl_rep hI x.toNat) hQ
      rw [← e] at fin
      exact fin
theorem Ev.mulList {l r : Expr} {pos : Pos} {ds : List D} {x : Int} (hl : Ev c ρ own l (.list ds)) (hr : Ev c ρ own r (.int x)) (hlo : -(2 ^ 63 : Int) ≤ x) (hhi : x < 2 ^ 63) (hsz : ds.length * x.toNat ≤ 2 ^ 24) : Ev c ρ own (.BinOp l .Mult r pos) (.list (List.replicate x.toNat ds).flatten) :=
  Ev.binop hl hr fun _ _ _ x y => gp_mulList hlo hhi hsz x y

/-! ## bytes(..), int(..), sum(..) -/
theorem gp_bytes {ns : List Int} (hr : ∀ n ∈ ns, 0 ≤ n ∧ n < 256) (hz : ns.length ≤ 16000000) {g : Part} {v : Value} (h : Is g v (.list (ns.map .int))) : Gp c g (call (.type "bytes") [v]) (.bytes (byteArr ns)) := by
  cases h with
  | @list a vs _ hl hI =>
    intro s Q E ok _ inn hQ
    refine call_bytes_ints (hl.inn inn) hI.ints hr (by rw [hI.length, List.length_map, sizeLine_eq]; omega) ok.rm.hand fun h' t k hk => hQ _ g h' k (Grow.ofKeep inn hk) (.bytes _ _)
theorem Ev.bytes {e : Expr} {p pos : Pos} {ns : List Int} (h : Ev c ρ own e (.list (ns.map .int))) (hr : ∀ n ∈ ns, 0 ≤ n ∧ n < 256) (hz : ns.length ≤ 16000000) (hs : ∀ x p, e ≠ .Starred x p := by intro _ _ q; cases q) (hk : c.env.kindOf "bytes" = some .globalImplicit := by rfl) :
    Ev c ρ own (.Call (.Name "bytes" p) [e] [] pos) (.bytes (byteArr ns)) :=
  Ev.callTy (T := "bytes") Boot.bytes (.cons h hs .nil) (fun g vs hI => by cases hI with | cons a b => cases b; exact gp_bytes hr hz a) (hk := hk)
theorem Ev.callInt {e : Expr} {p pos : Pos} {n : Int} (h : Ev c ρ own e (.int n)) (hs : ∀ x p, e ≠ .Starred x p := by intro _ _ q; cases q) (hk : c.env.kindOf "int" = some .globalImplicit := by rfl) :
    Ev c ρ own (.Call (.Name "int" p) [e] [] pos) (.int n) :=
  Ev.callTy (T := "int") Boot.int (.cons h hs .nil) (fun g vs hI => by cases hI with | cons a b => cases b; cases a; exact Gp.val fun s Q E _ _ _ hQ => call_int_int (hQ _ _ (.int _ _))) (hk := hk)

theorem preSum_take (ns : List Int) : ∀ j, preSum (fun i => ns.getD i 0) j = (ns.take j).sum
  | 0 => by simp [preSum]
  | j + 1 => by
    rw [preSum, preSum_take ns j, List.take_add_one]
    cases h : ns[j]? <;> simp [h, List.getD]
theorem gp_sum {ns : List Int} (hr : ∀ n ∈ ns, 0 ≤ n ∧ n < 65536) (hz : ns.length ≤ 1000) {g : Part} {v : Value} (h : Is g v (.list (ns.map .int))) : Gp c g (call (.builtin "sum") [v]) (.int ns.sum) := by
  cases h with
  | @list a vs _ hl hI =>
    intro s Q E ok _ inn hQ
    have hls := hl.inn inn
    obtain ⟨ol, nl, hga, _, _⟩ := hl
    have hne : a ≠ s.heap.objs.size := Nat.ne_of_lt (Heap.lt_size (inn _ _ hga))
    have hlen : vs.length = ns.length := by rw [hI.length, List.length_map]
    have hb : ∀ j, 0 ≤ ns.getD j 0 ∧ ns.getD j 0 < 65536 := fun j => by
      cases q : ns[j]? with
      | none => simp [List.getD, q]
      | some n => simp only [List.getD, q, Option.getD_some]; exact hr n (List.mem_of_getElem? q)
    have hs : ∀ j, 0 ≤ preSum (fun i => ns.getD i 0) j ∧ preSum (fun i => ns.getD i 0) j ≤ 65536 * j := fun j => by
      induction j with
      | zero => simp [preSum]
      | succ j ih => have := hb j; simp only [preSum]; omega
    refine call_sum_walk (wpAny_pyIter_list hls ⟨s.heap.objs.size, _, _, _, _, _, fun i => ns.getD i 0, rfl, Walks.list (A := c.A.in1) (by rw [Around.in1_handled]; exact ok.rm.hand) s.heap.objs.size a hne vs.toArray, ⟨⟨_, Heap.get?_push_size _ rfl, rfl, rfl⟩, hls.at fun o e => Heap.get?_push_of_some _ e⟩, ?_, ?_, ?_, ?_⟩)
    · intro b hb'
      rcases List.mem_cons.mp hb' with rfl | hb'
      · show s.heap.objs.size < (s.heap.push _).objs.size; rw [Heap.size_push]; exact Nat.lt_succ_self _
      · rw [List.mem_singleton.mp hb']
        show a < (s.heap.push _).objs.size; rw [Heap.size_push]; exact Nat.lt_succ_of_lt (Heap.lt_size (inn _ _ hga))
    · intro i v hv
      have hv' : vs[i]? = some v := by simpa using hv
      obtain ⟨d, hd, hI'⟩ := hI.get i v hv'
      rw [List.getElem?_map] at hd
      cases q : ns[i]? with
      | none => rw [q] at hd; cases hd
      | some n => rw [q] at hd; cases hd; cases hI'; exact ⟨_, by simp [List.getD, q]; rfl⟩
    · intro j hj
      have h1 := hb j
      have h2 := hs (j + 1)
      have hj' : j < 1000 := by
        have : j < vs.length := by simpa using hj
        omega
      constructor
      · constructor <;> (show _; dsimp only; omega)
      · constructor <;> omega
    · intro h' tk t' hk
      have e : preSum (fun i => ns.getD i 0) vs.toArray.size = ns.sum := by
        rw [preSum_take, List.size_toArray, hlen, List.take_length]
      rw [e]
      refine hQ _ g h' tk (Grow.ofKeep inn fun b o eb => ?_) (.int _ _)
      exact hk b o (by simp only [List.mem_singleton]; exact Nat.ne_of_lt (Heap.lt_size eb)) (Heap.get?_push_of_some _ eb)
theorem Ev.sum {e : Expr} {p pos : Pos} {ns : List Int} (h : Ev c ρ own e (.list (ns.map .int))) (hr : ∀ n ∈ ns, 0 ≤ n ∧ n < 65536) (hz : ns.length ≤ 1000) (hs : ∀ x p, e ≠ .Starred x p := by intro _ _ q; cases q) (hk : c.env.kindOf "sum" = some .globalImplicit := by rfl) :
    Ev c ρ own (.Call (.Name "sum" p) [e] [] pos) (.int ns.sum) :=
  Ev.callBlt (id := "sum") Boot.sum (.cons h hs .nil) (fun g vs hI => by cases hI with | cons a b => cases b; exact gp_sum hr hz a) (hk := hk)

/-! ## strs -/
theorem gp_addStr {x y : Str} (hz : x.length + y.length ≤ 16000000) {g : Part} {va vb : Value} (ha : Is g va (.str x)) (hb : Is g vb (.str y)) : Gp c g (binaryOp .Add va vb) (.str (x ++ y)) := by
  cases ha; cases hb; exact Gp.val fun s Q E _ _ _ hQ => PyProof.Rows.add_str (fun t' tk => hQ _ _ (.str _ _)) (by rw [sizeLine_eq]; omega)
theorem gp_iaddStr {x y : Str} (hz : x.length + y.length ≤ 16000000) {g : Part} {va vb : Value} (ha : Is g va (.str x)) (hb : Is g vb (.str y)) : Gp c g (inplaceOp .Add va vb) (.str (x ++ y)) := by
  cases ha; cases hb; exact Gp.val fun s Q E _ _ _ hQ => PyProof.Rows.iadd_str (fun t' tk => hQ _ _ (.str _ _)) (by rw [sizeLine_eq]; omega)
theorem Ev.addStr {l r : Expr} {pos : Pos} {x y : Str} (hl : Ev c ρ own l (.str x)) (hr : Ev c ρ own r (.str y)) (hz : x.length + y.length ≤ 16000000) : Ev c ρ own (.BinOp l .Add r pos) (.str (x ++ y)) :=
  Ev.binop hl hr fun _ _ _ x y => gp_addStr hz x y
theorem gp_eqStr {x y : Str} {g : Part} {va vb : Value} (ha : Is g va (.str x)) (hb : Is g vb (.str y)) : Gp c g (compareOp .Eq va vb) (.bool (x == y)) := by
  cases ha; cases hb; exact Gp.val fun s Q E _ _ _ hQ => PyProof.Rows.eq_str (hQ _ _ (.bool _))
theorem Et.eqStr {l r : Expr} {pos : Pos} {x y : Str} (hl : Ev c ρ own l (.str x)) (hr : Ev c ρ own r (.str y)) (hm : behindInMarks .Eq r = false := by with_unfolding_all rfl) : Et c ρ own (.Compare l [.Eq] [r] pos) (x == y) :=
  Et.compare hl hr (fun _ _ _ x y => gp_eqStr x y) hm
theorem gp_inStr {x y : Str} {g : Part} {va vb : Value} (ha : Is g va (.str y)) (hb : Is g vb (.str x)) : Gp c g (compareOp .In va vb) (.bool !(Builtin.Str.occurrences x y 0 x.length 1).isEmpty) := by
  cases ha; cases hb; exact Gp.val fun s Q E _ _ _ hQ => PyProof.Rows.in_str (hQ _ _ (.bool _))
theorem Et.inStr {l r : Expr} {pos : Pos} {x y : Str} (hl : Ev c ρ own l (.str y)) (hr : Ev c ρ own r (.str x)) (hm : behindInMarks .In r = false := by with_unfolding_all rfl) : Et c ρ own (.Compare l [.In] [r] pos) (!(Builtin.Str.occurrences x y 0 x.length 1).isEmpty) :=
  Et.compare hl hr (fun _ _ _ x y => gp_inStr x y) hm
theorem gpb_str {x : Str} (hz : x.length ≤ 16000000) {g : Part} {v : Value} (h : Is g v (.str x)) : Gpb c g (truthy v) ((x.length : Int) != 0) := by
  cases h; exact Gpb.val fun s Q E _ _ _ hQ => P.truthy_str (by omega) (hQ _)
theorem Et.str {e : Expr} {x : Str} (h : Ev c ρ own e (.str x)) (hz : x.length ≤ 16000000) (he : ∀ env whole, isTrue e env whole = (do let v ← whole; standAt e.pos; holding [v] (truthy v)) := by intro _ _; rfl) : Et c ρ own e ((x.length : Int) != 0) := Et.plain h (fun _ _ x => gpb_str hz x) he

theorem str_obj {x : Str} (g : Part) (v : Value) (s : Shared) (h : Is g v (.str x)) (inn : Inn g s.heap) : s.TypeIs v "str" ∧ ∀ b, v = .ref b → ∃ ob, s.heap.get? b = some ob ∧ ob.dict = none := by
  cases h; exact ⟨typeIs_str _ _ _, fun b e => nomatch e⟩
theorem bytes_obj {x : Array UInt8} (g : Part) (v : Value) (s : Shared) (h : Is g v (.bytes x)) (inn : Inn g s.heap) : s.TypeIs v "bytes" ∧ ∀ b, v = .ref b → ∃ ob, s.heap.get? b = some ob ∧ ob.dict = none := by
  cases h; exact ⟨typeIs_bytes _ _ _, fun b e => nomatch e⟩
theorem Ev.strip {o : Expr} {apos pos : Pos} {x : Str} (h : Ev c ρ own o (.str x)) (hz : x.length ≤ 16000000) (hline : (apos.endLine == pos.line) = true := by rfl) (hbase : attributeBase o "strip" c.env (eval o c.env) = eval o c.env := by rfl) :
    Ev c ρ own (.Call (.Attribute o "strip" apos) [] [] pos) (.str (Txt.strip x)) :=
  Ev.method F.plainAttrs_str F.slot_str_strip F.type_str_strip h .nil str_obj (fun g v vs hv hI => by
    cases hI; cases hv; exact Gp.val fun s Q E _ _ _ hQ => SC.strip (fun t' k => hQ _ _ (.str _ _)) (by rw [sizeLine_eq]; omega)) (hline := hline) (hbase := hbase)
theorem Ev.isascii {o : Expr} {apos pos : Pos} {x : Str} (h : Ev c ρ own o (.str x)) (hline : (apos.endLine == pos.line) = true := by rfl) (hbase : attributeBase o "isascii" c.env (eval o c.env) = eval o c.env := by rfl) :
    Ev c ρ own (.Call (.Attribute o "isascii" apos) [] [] pos) (.bool (Txt.isascii x)) :=
  Ev.method F.plainAttrs_str F.slot_str_isascii F.type_str_isascii h .nil str_obj (fun g v vs hv hI => by
    cases hI; cases hv; exact Gp.val fun s Q E _ _ _ hQ => SC.isascii (hQ _ _ (.bool _))) (hline := hline) (hbase := hbase)
theorem Ev.index {o e : Expr} {apos pos : Pos} {x y : Str} {i : Nat} {r : List Nat} (h : Ev c ρ own o (.str x)) (he : Ev c ρ own e (.str y)) (ho : Builtin.Str.occurrences x y 0 x.length 1 = i :: r) (hs : ∀ x p, e ≠ .Starred x p := by intro _ _ q; cases q) (hline : (apos.endLine == pos.line) = true := by rfl)
    (hbase : attributeBase o "index" c.env (eval o c.env) = eval o c.env := by rfl) : Ev c ρ own (.Call (.Attribute o "index" apos) [e] [] pos) (.int i) :=
  Ev.method F.plainAttrs_str F.slot_str_index F.type_str_index h (.cons he hs .nil) str_obj (fun g v vs hv hI => by
    cases hI with
    | cons a b => cases b; cases a; cases hv; exact Gp.val fun s Q E _ _ _ hQ => SC.index ho (hQ _ _ (.int _ _))) (hline := hline) (hbase := hbase)

theorem isl_strs {g : Part} : ∀ {vs : List Value} {xs : List Str}, Isl g vs (xs.map .str) → ∃ l : List (Str × Tok), vs = strValues l ∧ l.map (·.1) = xs
  | _, [], .nil => ⟨[], rfl, rfl⟩
  | _, x :: xs, .cons a b => by
    obtain ⟨l, e1, e2⟩ := isl_strs (xs := xs) b
    cases a with
    | str _ t => exact ⟨(x, t) :: l, by simp [strValues, e1], by simp [e2]⟩
theorem Ev.join {o e : Expr} {apos pos : Pos} {x : Str} {xs : List Str} (h : Ev c ρ own o (.str x)) (he : Ev c ρ own e (.list (xs.map .str))) (hok : JoinOk x xs = true) (hs : ∀ x p, e ≠ .Starred x p := by intro _ _ q; cases q) (hline : (apos.endLine == pos.line) = true := by rfl)
    (hbase : attributeBase o "join" c.env (eval o c.env) = eval o c.env := by rfl) : Ev c ρ own (.Call (.Attribute o "join" apos) [e] [] pos) (.str (Txt.join x xs)) :=
  Ev.method F.plainAttrs_str F.slot_str_join F.type_str_join h (.cons he hs .nil) str_obj (fun g v vs hv hI => by
    cases hI with
    | cons a b =>
      cases b; cases hv
      cases a with
      | @list D us _ hl hI =>
        obtain ⟨l, rfl, e2⟩ := isl_strs hI
        exact Gp.val fun s Q E _ _ inn hQ => SC.join (hl.inn inn) e2 hok (fun t' k => hQ _ _ (.str _ _))) (hline := hline) (hbase := hbase)
end
end Mine

/-! text M9 -/
namespace Mine

section
variable {c : Cx} {ρ : Vars} {own : Own} {g : Part} {h h' : Heap}

theorem Fm.weaken {ρ' : Vars} (F : Fm c ρ own g h) (hr : ∀ x d, ρ' x = some d → ρ x = some d) : Fm c ρ' own g h where
  ok := F.ok
  inn := F.inn
  keep₀ := F.keep₀
  sub₀ := F.sub₀
  new₀ := F.new₀
  loc := let ⟨m, n, q⟩ := F.loc; ⟨m, n, fun x d e k => q x d (hr x d e) k⟩
  offL := F.offL
  newL := F.newL
  cel := fun x a e => let ⟨h1, h2, v, h3, h4⟩ := F.cel x a e; ⟨h1, h2, v, h3, fun d q k => h4 d (hr x d q) k⟩
  celAt := fun x d e k => F.celAt x d (hr x d e) k
  celInj := F.celInj
  owns := F.owns
  nd := F.nd
theorem Fm.pickOwn {own' : Own} (F : Fm c ρ own g h) (hs : ∀ p ∈ own', p ∈ own) (hn : (own'.map (·.1)).Nodup) : Fm c ρ own' g h :=
  ⟨F.ok, F.inn, F.keep₀, F.sub₀, F.new₀, F.loc, F.offL, F.newL, F.cel, F.celAt, F.celInj, fun p hp => F.owns p (hs p hp), hn⟩
/-- an owned list is written over -/
theorem Fm.setOwn {a : Addr} {ds ds' : List D} {vs' : List Value} {n' : Nat} (F : Fm c ρ ((a, ds) :: own) g h) (hs : Heap.SameBut a h h') (ho : h'.get? a = some { cls := .type "list", data := .seq vs'.toArray n' }) (hI : Isl g vs' ds') : Fm c ρ ((a, ds') :: own) g h' := by
  obtain ⟨ga, ha₀, vs, n, hva, _⟩ := F.owns (a, ds) (.head _)
  obtain ⟨m, hn, hm⟩ := F.loc
  have hLa : c.env.locals ≠ a := ns_ne_list hn hva rfl
  refine ⟨F.ok, fun b o e => ?_, fun b o e => ?_, F.sub₀, F.new₀, ⟨m, hn.sameBut hs hLa, hm⟩, F.offL, F.newL, fun x b e => ?_, F.celAt, F.celInj, fun p hp => ?_, F.nd⟩
  · exact (hs.2 b (by rintro rfl; rw [ga] at e; cases e)).trans (F.inn b o e)
  · exact (hs.2 b (by rintro rfl; rw [ha₀] at e; cases e)).trans (F.keep₀ b o e)
  · obtain ⟨h1, h2, v, h3, h4⟩ := F.cel x b e
    exact ⟨h1, h2, v, h3.sameBut hs (cell_ne_list h3 hva rfl), h4⟩
  · rcases List.mem_cons.mp hp with rfl | hp
    · exact ⟨ga, ha₀, vs', n', ho, hI⟩
    · obtain ⟨h1, h2, us, k, h3, h4⟩ := F.owns p (.tail _ hp)
      have hne : p.1 ≠ a := fun q => (List.nodup_cons.mp F.nd).1 (show a ∈ own.map (·.1) from q ▸ List.mem_map_of_mem (f := (·.1)) hp)
      exact ⟨h1, h2, us, k, (hs.2 p.1 hne).trans h3, h4⟩
/-- a new list is owned -/
theorem Fm.addOwn {a : Addr} {ds : List D} {vs : List Value} {n : Nat} (F : Fm c ρ own g h) (k : Keep h h') (hn : h.get? a = none) (ho : h'.get? a = some { cls := .type "list", data := .seq vs.toArray n }) (hI : Isl g vs ds) : Fm c ρ ((a, ds) :: own) g h' := by
  have F' := F.grow (Grow.ofKeep F.inn k)
  refine ⟨F'.ok, F'.inn, F'.keep₀, F'.sub₀, F'.new₀, F'.loc, F'.offL, F'.newL, F'.cel, F'.celAt, F'.celInj, fun p hp => ?_, ?_⟩
  · rcases List.mem_cons.mp hp with rfl | hp
    · exact ⟨F.inn.none hn, F.keep₀.none hn, vs, n, ho, hI⟩
    · exact F'.owns p hp
  · refine List.nodup_cons.mpr ⟨fun q => ?_, F.nd⟩
    obtain ⟨p, hp, e⟩ := List.mem_map.mp q
    obtain ⟨_, _, us, k', h3, _⟩ := F.owns p hp
    have e' : p.1 = a := e
    rw [e', hn] at h3; cases h3
/-- an owned list is frozen -/
theorem Fm.freeze {a : Addr} {ds : List D} (F : Fm c ρ ((a, ds) :: own) g h) : ∃ g', Sub g g' ∧ Is g' (.ref a) (.list ds) ∧ Fm c ρ own g' h ∧ (∀ b o, g' b = some o → g b = some o ∨ b = a) := by
  obtain ⟨ga, ha₀, vs, n, hva, hI⟩ := F.owns (a, ds) (.head _)
  obtain ⟨m, hn, hm⟩ := F.loc
  have hLa : c.env.locals ≠ a := ns_ne_list hn hva rfl
  have hsub : Sub g (g.put a { cls := .type "list", data := .seq vs.toArray n }) := put_sub ga
  refine ⟨g.put a { cls := .type "list", data := .seq vs.toArray n }, hsub, .list ⟨_, _, put_self _ _ _, rfl, rfl⟩ (hI.sub hsub), ?_, fun b o e => ?_⟩
  · refine ⟨F.ok, fun b o e => ?_, F.keep₀, F.sub₀.trans hsub, fun b o e => ?_, ⟨m, hn, fun x d q k => let ⟨v, e1, e2⟩ := hm x d q k; ⟨v, e1, e2.sub hsub⟩⟩, by rw [put_ne hLa]; exact F.offL, F.newL, fun x b e => ?_, F.celAt, F.celInj, fun p hp => ?_, (List.nodup_cons.mp F.nd).2⟩
    · by_cases hb : b = a
      · subst hb; rw [put_self] at e; cases e; exact hva
      · rw [put_ne hb] at e; exact F.inn b o e
    · by_cases hb : b = a
      · subst hb; exact .inr ha₀
      · rw [put_ne hb] at e; exact F.new₀ b o e
    · obtain ⟨h1, h2, v, h3, h4⟩ := F.cel x b e
      exact ⟨by rw [put_ne (cell_ne_list h3 hva rfl)]; exact h1, h2, v, h3, fun d q k => let ⟨u, e1, e2⟩ := h4 d q k; ⟨u, e1, e2.sub hsub⟩⟩
    · obtain ⟨h1, h2, us, k, h3, h4⟩ := F.owns p (.tail _ hp)
      have hne : p.1 ≠ a := fun q => (List.nodup_cons.mp F.nd).1 (show a ∈ own.map (·.1) from q ▸ List.mem_map_of_mem (f := (·.1)) hp)
      exact ⟨by rw [put_ne hne]; exact h1, h2, us, k, h3, h4.sub hsub⟩
  · by_cases hb : b = a
    · exact .inr hb
    · rw [put_ne hb] at e; exact .inl e
end

/-! ## list comprehensions -/
def compCx (c : Cx) (scope : Scope) (cl : List (Str × Addr)) (C : Addr) (h₀ : Heap) (g₀ : Part) : Cx :=
  { c with env := compEnvC scope cl C c.env, h₀ := h₀, g₀ := g₀, W := false }
def capVars (cl : List (Str × Addr)) (ρ : Vars) : Vars := fun y => if (cl.lookup y).isSome then ρ y else none
inductive Cl (env : Env) : List (Str × Addr) → Prop
  | nil : Cl env []
  | cons {n : Str} {a : Addr} {l : List (Str × Addr)} : env.cells.lookup n = some a → Cl env l → Cl env ((n, a) :: l)
theorem Cl.lookup {env : Env} : ∀ {cl : List (Str × Addr)}, Cl env cl → ∀ x a, cl.lookup x = some a → env.cells.lookup x = some a
  | _, .nil, x, a, e => nomatch e
  | _, .cons (n := n) h r, x, a, e => by
    rw [List.lookup_cons] at e
    cases q : x == n with
    | true => rw [q] at e; cases e; rw [beq_iff_eq.mp q]; exact h
    | false => rw [q] at e; exact r.lookup x a e
def capOk (scope : Scope) (cl : List (Str × Addr)) : Bool := cl.all fun p => match scope.names.lookup p.1 with | some .cell | some .free => true | _ => false
theorem capOk.at {scope : Scope} : ∀ {cl : List (Str × Addr)}, capOk scope cl = true → ∀ x a, cl.lookup x = some a → scope.names.lookup x = some .cell ∨ scope.names.lookup x = some .free
  | [], _, x, a, e => nomatch e
  | (n, b) :: r, h, x, a, e => by
    obtain ⟨h1, h2⟩ := Bool.and_eq_true_iff.mp h
    rw [List.lookup_cons] at e
    cases q : x == n with
    | true =>
      rw [beq_iff_eq.mp q]
      dsimp only at h1
      split at h1
      · left; assumption
      · right; assumption
      · cases h1
    | false => rw [q] at e; exact capOk.at h2 x a e

section
variable {c : Cx} {ρ : Vars} {own : Own}

/-- one turn of a comprehension at any depth: what is done with an item is `act` -/
theorem codeAny_compLoop_act {prog : Program} {w : World} {A : Around} {R : Result → Shared → Prop} {s : Shared} {elt target : Expr} {ifs : List Expr} {gens : List Comprehension} {scope : Scope} {pos ipos : Pos} {depth : Nat} {it acc : Value} {env : Env} {act : Sem Unit} (I : Nat → Shared → Prop)
    (heq : compTurn (.ListComp elt gens scope pos) depth it acc env = (do
      standAt ipos
      match ← pyNext it with
      | none => pure (.done .next)
      | some v =>
        letOwnedTupleGo target it v
        assign target env v
        let mut ok := true
        for cc in ifs do
          if ok then ok ← isTrue cc env (eval cc env)
        if ok then act
        again (.compLoop (.ListComp elt gens scope pos) depth it acc env)))
    (turn : ∀ n s, I n s → wpAny (model prog w) A (pyNext it) (fun r s₁ => match r with
      | none => R (.ok .next) s₁
      | some v => wpAny (model prog w) A (letOwnedTupleGo target it v) (fun _ s₁' => wpAny (model prog w) A (assign target env v) (fun _ s₂ =>
          wpAny (model prog w) A (forIn ifs true fun cc r => if r = true then do let ok ← isTrue cc env (eval cc env); pure (ForInStep.yield ok) else pure (ForInStep.yield r)) (fun ok s₃ =>
            if ok = true then wpAny (model prog w) A act (fun _ s₅ => ∃ m, m < n ∧ I m s₅) (notedBy (model prog w) A env fun e s' => R (.error e) s') s₃
            else ∃ m, m < n ∧ I m s₃) (notedBy (model prog w) A env fun e s' => R (.error e) s') s₂) (notedBy (model prog w) A env fun e s' => R (.error e) s') s₁') (notedBy (model prog w) A env fun e s' => R (.error e) s') s₁) (notedBy (model prog w) A env fun e s' => R (.error e) s') s)
    (n : Nat) (h : I n s) : codeAny (model prog w) A (.compLoop (.ListComp elt gens scope pos) depth it acc env) R s := by
  refine codeAny_loop rfl I (fun n s hI => ?_) n h
  show wpAny _ A ((compTurn (.ListComp elt gens scope pos) depth it acc env).onRaise (fun x => do noteFrame x env; theTreesLotGoes x)) _ _ s
  refine wpAny_noted ?_
  rw [heq]
  refine wpAny_bind (wpAny_standAt (wpAny_bind (wpAny_mono (turn n s hI) (fun r s₁ h₁ => ?_) fun _ _ h' => h')))
  cases r with
  | none => exact wpAny_pure h₁
  | some v =>
    refine wpAny_bind (wpAny_mono h₁ (fun _ s₁' h₁' => ?_) fun _ _ h' => h')
    refine wpAny_bind (wpAny_mono h₁' (fun _ s₂ h₂ => wpAny_bind (wpAny_mono h₂ (fun ok s₃ h₃ => ?_) fun _ _ h' => h')) fun _ _ h' => h')
    cases ok with
    | false => exact wpAny_pure ⟨rfl, h₃⟩
    | true => exact wpAny_bind (wpAny_mono h₃ (fun _ s₅ h₅ => wpAny_pure ⟨rfl, h₅⟩) fun _ _ h' => h')

/-- the tests of a comprehension's clause -/
abbrev testsOf (ifs : List Expr) (env : Env) : Sem Bool := forIn ifs true fun cc r => if r = true then do let ok ← isTrue cc env (eval cc env); pure (ForInStep.yield ok) else pure (ForInStep.yield r)

/-- a loop of a comprehension over an iterator: the frame is the comprehension's own; D is what is built -/
theorem comp_loop {elt target : Expr} {ifs : List Expr} {gens : List Comprehension} {scope : Scope} {pos ipos : Pos} {depth : Nat} {D : Addr} {act : Sem Unit} {n : Nat} {It : Part → Nat → Value → Heap → Prop} {I : Addr} {gI : Part} {hI₀ hI : Heap} {wr : List Addr} {St : Nat → Heap → Prop}
    (T : Itr c target n It I gI hI₀ hI wr St) (J : Nat → Own → Prop) {own₀ ownB : Own} {g gB : Part} {hB : Heap} {s : Shared} {R : Result → Shared → Prop}
    (heq : compTurn (.ListComp elt gens scope pos) depth (.ref I) (.ref D) c.env = (do
      standAt ipos
      match ← pyNext (.ref I) with
      | none => pure (.done .next)
      | some v =>
        letOwnedTupleGo target (.ref I) v
        assign target c.env v
        let mut ok := true
        for cc in ifs do
          if ok then ok ← isTrue cc c.env (eval cc c.env)
        if ok then act
        again (.compLoop (.ListComp elt gens scope pos) depth (.ref I) (.ref D) c.env)))
    (F : Fm c ρ own₀ g s.heap) (hsub : Sub gI g) (hst : St 0 s.heap)
    (keepI : Keep hI s.heap) (hoff₀ : ∀ b, hI₀.get? b = none → hI.get? b ≠ none → b ≠ c.env.locals ∧ (∀ x, c.env.cells.lookup x ≠ some b) ∧ b ∉ own₀.map (·.1))
    (hgw : ∀ b ∈ wr, g b = none ∧ c.h₀.get? b = none) (EB : Evo c wr gB ownB hB g own₀ s.heap) (hBw : ∀ b ∈ wr, hB.get? b = none)
    (h0 : J 0 own₀)
    (step : ∀ i own₁, i < n → J i own₁ → ∃ f : Vars → Vars, (∀ g v h g', Sub g g' → It g i v h → Inn g' h → Bind c own₁ target v g' h f) ∧ ∃ b, Gb c (f ρ) own₁ (testsOf ifs c.env) b ∧
      (b = true → ∀ (g₁ : Part) (s₁ : Shared) (E : Value → Shared → Prop), Fm c (f ρ) own₁ g₁ s₁.heap → wpAny c.M c.A act (fun _ s₂ => ∃ g₂ h₂ k₂ own₂, s₂ = { s₁ with heap := h₂, toks := k₂ } ∧ Evo c [] g₁ own₁ s₁.heap g₂ own₂ h₂ ∧ Fm c (f ρ) own₂ g₂ h₂ ∧ J (i + 1) own₂) E s₁) ∧
      (b = false → J (i + 1) own₁) ∧ (∀ x d, ρ x = some d → f ρ x = some d))
    (fin : ∀ g' own' h' k, Evo c [] gB ownB hB g' own' h' → Fm c ρ own' g' h' → J n own' → R (.ok .next) { s with heap := h', toks := k }) :
    codeAny c.M c.A (.compLoop (.ListComp elt gens scope pos) depth (.ref I) (.ref D) c.env) R s := by
  obtain ⟨fp, P, Md, W, hfp, hfl, hP⟩ := T.turns
  refine codeAny_compLoop_act (fun k s' => ∃ i g' h' tk own', s' = { s with heap := h', toks := tk } ∧ k = n + 1 - i ∧ i ≤ n ∧ Evo c wr g own₀ s.heap g' own' h' ∧ Fm c ρ own' g' h' ∧ St i h' ∧ J i own') heq ?_ (n + 1)
    ⟨0, g, s.heap, s.toks, own₀, rfl, rfl, Nat.zero_le _, Evo.refl, F, hst, h0⟩
  rintro k s' ⟨i, g', h', tk, own', rfl, rfl, hi, a2, F', hst', hJ⟩
  have lvI : ∀ b, hI.get? b ≠ none → s.heap.get? b ≠ none := fun b hb q => hb (keepI.none q)
  have hoff : ∀ b ∈ fp, b ≠ c.env.locals ∧ (∀ x, c.env.cells.lookup x ≠ some b) ∧ b ∉ own'.map (·.1) := fun b hb => by
    rcases hfp b hb with ⟨o, e⟩ | e
    · have e' := a2.sub b o (hsub b o e)
      refine ⟨fun q => (by rw [q, F'.offL] at e'; cases e'), fun x q => ?_, fun q => ?_⟩
      · rw [(F'.cel x b q).1] at e'; cases e'
      · obtain ⟨p, hp, rfl⟩ := List.mem_map.mp q
        rw [(F'.owns p hp).1] at e'; cases e'
    · obtain ⟨o1, o2, o3⟩ := hoff₀ b e (hfl b hb)
      exact ⟨o1, o2, fun q => (a2.news b q).elim o3 (lvI b (hfl b hb))⟩
  have hwf : ∀ b ∈ wr, g' b = none ∧ c.h₀.get? b = none ∧ b ≠ c.env.locals ∧ (∀ x, c.env.cells.lookup x ≠ some b) ∧ b ∉ own'.map (·.1) := fun b hb => by
    have hbf := W.sub b hb
    obtain ⟨o1, o2, o3⟩ := hoff b hbf
    obtain ⟨_, _, o4⟩ := hoff₀ b (T.wrN b hb).1 (hfl b hbf)
    refine ⟨?_, (hgw b hb).2, o1, o2, o3⟩
    cases q : g' b with
    | none => rfl
    | some o => rcases a2.gnew b o q with e | e | e
                · rw [(hgw b hb).1] at e; cases e
                · exact absurd e o4
                · exact absurd e (lvI b (hfl b hbf))
  by_cases hlt : i < n
  · refine W.item i _ _ _ hlt hst' fun v h₂ tk₂ hMd hk₂ => ?_
    refine W.go i v _ _ _ hMd fun h₃ hPi hst₃ hk₃ => ?_
    have hk : ∀ b o, b ∉ wr → h'.get? b = some o → h₃.get? b = some o := fun b o hb e => hk₃ b o hb (hk₂ b o hb e)
    have F₃ := F'.turn hk hwf
    have lv₃ : ∀ b, h₃.get? b = none → h'.get? b = none ∨ b ∈ wr := fun b e => by
      by_cases hb : b ∈ wr
      · exact .inr hb
      · left
        cases q : h'.get? b with
        | none => rfl
        | some o => rw [hk b o hb q] at e; cases e
    have a3 : Evo c wr g own₀ s.heap g' own' h₃ := ⟨a2.sub, fun b o e hL hc ho hx => hk b o hx (a2.kept b o e hL hc ho hx), a2.news, fun b e => (lv₃ b e).elim (a2.live b) fun hb => absurd e (T.live _ _ hst₃ b hb), a2.gnew⟩
    obtain ⟨f, hf, b, hb, hact, hskip, hfρ⟩ := step i own' hlt hJ
    refine hf gI v h₃ g' (hsub.trans a2.sub) (hP i v h₃ hPi) F₃.inn ρ _ _ _ rfl F₃ fun g₄ h₄ k₄ e₄ F₄ => ?_
    refine hb g₄ _ _ _ F₄ fun g₅ h₅ k₅ G₅ => ?_
    have F₅ := F₄.grow G₅
    have stay : ∀ g₆ h₆ own₆, Evo c [] g' own' h₃ g₆ own₆ h₆ → St (i + 1) h₆ := fun g₆ h₆ own₆ e₆ => W.frame _ _ _ hst₃ fun b hb o e => by
      obtain ⟨o1, o2, o3⟩ := hoff b hb
      exact e₆.kept b o e o1 o2 o3 (fun q => nomatch q)
    have e5 := e₄.trans (Evo.ofGrow (c := c) (ex := []) (own := own') G₅)
    cases b with
    | false =>
      exact ⟨n + 1 - (i + 1), by omega, i + 1, g₅, h₅, k₅, own', rfl, rfl, hlt, a3.trans e5.ex, F₅.weaken hfρ, stay _ _ _ e5, hskip rfl⟩
    | true =>
      refine wpAny_mono (hact rfl g₅ _ _ F₅) (fun _ s₆ q => ?_) fun _ _ e => e
      obtain ⟨g₆, h₆, k₆, own₆, rfl, e₆, F₆, hJ₆⟩ := q
      have e6 := e5.trans e₆
      exact ⟨n + 1 - (i + 1), by omega, i + 1, g₆, h₆, k₆, own₆, rfl, rfl, hlt, a3.trans e6.ex, F₆.weaken hfρ, stay _ _ _ e6, hJ₆⟩
  · have hin : i = n := by omega
    subst hin
    refine W.done _ _ _ hst' fun h₂ tk₂ hk₂ => ?_
    have F₂ := F'.turn hk₂ hwf
    have e₀ := EB.trans a2
    refine fin g' own' h₂ tk₂ ⟨e₀.sub, fun b o e hL hc ho _ => ?_, e₀.news, fun b e => ?_, e₀.gnew⟩ F₂ hJ
    · have hb : b ∉ wr := fun q => by rw [hBw b q] at e; cases e
      exact hk₂ b o hb (e₀.kept b o e hL hc ho hb)
    · by_cases hb : b ∈ wr
      · exact hBw b hb
      · refine e₀.live b ?_
        cases q : h'.get? b with
        | none => rfl
        | some o => rw [hk₂ b o hb q] at e; cases e
end
end Mine

/-! text M10 -/
namespace Mine

section
variable {c : Cx} {ρ : Vars} {own : Own}

/-- evaluating an element: it gives a datum, and perhaps new owned lists -/
def ElOk (c : Cx) (ρ : Vars) (a : Addr) (ds : List D) (inn : Own) (elt : Expr) (K : List D → Own → Prop) : Prop :=
  ∀ (g : Part) (s : Shared) (E : Value → Shared → Prop), Fm c ρ ((a, ds) :: inn) g s.heap → wpAny c.M c.A (eval elt c.env) (fun v s' => ∃ g' h' k inn' d, s' = { s with heap := h', toks := k } ∧ Evo c [] g ((a, ds) :: inn) s.heap g' ((a, ds) :: inn') h' ∧
    Fm c ρ ((a, ds) :: inn') g' h' ∧ Is g' v d ∧ K (ds ++ [d]) inn') E s
theorem ElOk.ev {a : Addr} {ds : List D} {inn : Own} {elt : Expr} {d : D} {K : List D → Own → Prop} (h : Ev c ρ ((a, ds) :: inn) elt d) (hK : K (ds ++ [d]) inn) : ElOk c ρ a ds inn elt K := fun g s E F =>
  h g s _ E F fun v g' h' k G I => ⟨g', h', k, inn, d, rfl, Evo.ofGrow G, F.grow G, I, hK⟩

/-- the result of a comprehension -/
structure CompRes (s : Shared) (g : Part) (a : Addr) (ds : List D) (inn : Own) (g' : Part) (h' : Heap) : Prop where
  grow : Grow g s.heap g' h'
  owns : ∀ p ∈ (a, ds) :: inn, g' p.1 = none ∧ s.heap.get? p.1 = none ∧ ∃ vs n, h'.get? p.1 = some { cls := .type "list", data := .seq vs.toArray n } ∧ Isl g' vs p.2
  nd : (((a, ds) :: inn).map (·.1)).Nodup

structure CompOk (c : Cx) (scope : Scope) (cl : List (Str × Addr)) : Prop where
  clos : closureFor scope c.env = pure cl
  clo : Cl c.env cl
  cap : capOk (relabel scope c.env) cl = true
  par : capOk c.env.scope cl = true
  cell : (scope.names.all fun y => y.2 != .cell) = true
  kind : scope.kind = .function
  names : (scope.names.all fun y => y.2 != .local || (scope.names.lookup y.1 == some .local)) = true

theorem evo_append {a : Addr} {ds : List D} {inn : Own} {g : Part} {h h' : Heap} (hs : Heap.SameBut a h h') (ho : h'.get? a ≠ none) : Evo c [] g ((a, ds) :: inn) h g ((a, ds) :: inn) h' :=
  ⟨Sub.refl g, fun b o e _ _ hb _ => (hs.2 b (fun q => hb (by rw [q]; exact .head _))).trans e, fun b hb => .inl hb, fun b e => by
    by_cases q : b = a
    · subst q; exact absurd e ho
    · rw [hs.2 b q] at e; exact e, fun x o e => .inl e⟩
theorem Evo.ownEq {ex : List Addr} {g g' : Part} {o₁ o₂ o₃ : Own} {h h' : Heap} (x : Evo c ex g o₁ h g' o₂ h') (e : o₃.map (·.1) = o₂.map (·.1)) : Evo c ex g o₁ h g' o₃ h' :=
  ⟨x.sub, x.kept, fun b hb => x.news b (e ▸ hb), x.live, x.gnew⟩

/-- `acc.append(elt)` -/
theorem act_append {a : Addr} {ds : List D} {inn : Own} {elt : Expr} {K : List D → Own → Prop} (hz : ds.length ≤ 16000000) (h : ElOk c ρ a ds inn elt K) (g : Part) (s : Shared) (E : Value → Shared → Prop) (F : Fm c ρ ((a, ds) :: inn) g s.heap) :
    wpAny c.M c.A (do let _ ← call (.builtin "list.append") [.ref a, ← eval elt c.env]) (fun _ s₂ => ∃ g₂ h₂ k₂ own₂, s₂ = { s with heap := h₂, toks := k₂ } ∧ Evo c [] g ((a, ds) :: inn) s.heap g₂ own₂ h₂ ∧ Fm c ρ own₂ g₂ h₂ ∧ ∃ ds' inn', own₂ = (a, ds') :: inn' ∧ ds'.length ≤ ds.length + 1 ∧ K ds' inn') E s := by
  refine wpAny_bind (wpAny_mono (h g s E F) (fun v s₁ q => ?_) fun _ _ e => e)
  obtain ⟨g', h', k, inn', d, rfl, e₁, F₁, I₁, hK⟩ := q
  obtain ⟨ga, ha₀, vs, n, hva, hI⟩ := F₁.owns (a, ds) (.head _)
  have hlen : vs.length = ds.length := hI.length
  refine wpAny_bind (wpAny_list_append_plain (items := vs.toArray) ⟨n, hva⟩ (fun h₂ hp hs => wpAny_pure ?_) (by rw [List.size_toArray, hlen, sizeLine_eq]; omega))
  obtain ⟨n₂, ho₂⟩ := hp
  have ho₂' : h₂.get? a = some { cls := .type "list", data := .seq (vs ++ [v]).toArray n₂ } := by rw [ho₂]; simp
  have F₂ := F₁.setOwn hs ho₂' (hI.append (.cons I₁ .nil))
  refine ⟨g', h₂, k, (a, ds ++ [d]) :: inn', rfl, (e₁.trans (evo_append hs (by rw [ho₂]; intro q; cases q))).ownEq rfl, F₂, _, _, rfl, by simp, hK⟩

theorem comp_core {elt target iter : Expr} {ifs : List Expr} {scope : Scope} {pos : Pos} {n : Nat} {It : Part → Nat → Value → Heap → Prop} {cl : List (Str × Addr)} (src : ItSrc c ρ own iter target n It) (ok : CompOk c scope cl) (hn : n ≤ 15000000)
    (J : Nat → List D → Own → Prop) (h0 : J 0 [] [])
    (step : ∀ C h₀' g₀' a i ds inn, i < n → J i ds inn → ∃ f : Vars → Vars, (∀ g v h g', Sub g g' → It g i v h → Inn g' h → Bind (compCx c scope cl C h₀' g₀') ((a, ds) :: inn) target v g' h f) ∧
      ∃ b, Gb (compCx c scope cl C h₀' g₀') (f (capVars cl ρ)) ((a, ds) :: inn) (testsOf ifs (compEnvC scope cl C c.env)) b ∧ (b = true → ElOk (compCx c scope cl C h₀' g₀') (f (capVars cl ρ)) a ds inn elt (J (i + 1))) ∧
      (b = false → J (i + 1) ds inn) ∧ (∀ x d, capVars cl ρ x = some d → f (capVars cl ρ) x = some d))
    {g : Part} {s : Shared} {E : Value → Shared → Prop} (F : Fm c ρ own g s.heap) {RR : Value → Addr → Result → Shared → Prop}
    (fin : ∀ a C g' h' k ds inn, J n ds inn → s.heap.get? C = none → g' C = none → (∀ p ∈ (a, ds) :: inn, p.1 ≠ C) → (∃ m, h'.Ns C m) → CompRes s g a ds inn g' h' → RR (.ref a) C (.ok .next) { s with heap := h', toks := k }) :
    wpAny c.M c.A (eval iter c.env) (fun x s₁ => wpAny c.M c.A (pyIter x) (fun it s₂ => wpAny c.M c.A (newList []) (fun acc s₃ =>
      wpAny c.M c.A (newFunctionEnv scope c.env.globals cl [] c.env.qual none .none (some c.env)) (fun cenv s₄ =>
        codeAny c.M c.A (.compStart (.ListComp elt [⟨target, iter, ifs, 0⟩] scope pos) 0 it acc { cenv with scope := relabel scope c.env }) (RR acc cenv.locals) s₄) E s₃) E s₂) E s₁) E s := by
  refine src g s _ E F fun I g₁ h₁ k₁ wr St G₁ T => ?_
  have F₁ := F.grow G₁
  refine wpAny_newObj_type (wpAny_newFunctionEnv (fun y hy q => ?_) (by intro y hy; simp at hy) (fun h₂ hns hsb => ?_) ok.kind)
  · have := List.all_eq_true.mp ok.cell y hy; rw [q] at this; cases this
  dsimp only at hns hsb ⊢
  generalize hH2 : h₁.push { cls := .type "list", dict := none, data := .seq ([] : List Value).toArray } = H2 at hns hsb ⊢
  have hC : H2.objs.size = h₁.objs.size + 1 := by rw [← hH2, Heap.size_push]
  have k12 : Keep h₁ h₂ := fun b o e => hsb.extBut b o (by rw [hC]; exact Nat.ne_of_lt (Nat.lt_succ_of_lt (Heap.lt_size e))) (Heap.get?_push_of_some _ (hH2 ▸ Heap.get?_push_of_some _ e))
  have hD : h₂.get? h₁.objs.size = some { cls := .type "list", data := .seq ([] : List Value).toArray } := hsb.extBut _ _ (by rw [hC]; exact Nat.ne_of_lt (Nat.lt_succ_self _)) (Heap.get?_push_of_some _ (hH2 ▸ Heap.get?_push_size _ rfl))
  have hC₁ : h₁.get? H2.objs.size = none := by
    cases q : h₁.get? H2.objs.size with
    | none => rfl
    | some o => have := Heap.lt_size q; rw [hC] at this; exact absurd this (Nat.not_lt.mpr (Nat.le_succ _))
  have hC₀ : s.heap.get? H2.objs.size = none := G₁.keep.none hC₁
  have hD₁ := get?_size_none h₁
  have hD₀ : s.heap.get? h₁.objs.size = none := G₁.keep.none hD₁
  have hDC : h₁.objs.size ≠ H2.objs.size := by rw [hC]; exact Nat.ne_of_lt (Nat.lt_succ_self _)
  have ks2 : Keep s.heap h₂ := G₁.keep.trans k12
  have lookup' : ∀ x a, cl.lookup x = some a → c.env.cells.lookup x = some a := ok.clo.lookup
  -- the comprehension's own frame
  have F₂ : Fm (compCx c scope cl H2.objs.size s.heap g₁) (capVars cl ρ) [(h₁.objs.size, [])] g₁ h₂ := by
    refine ⟨⟨ok.kind, F.ok.glo, F.ok.bns, F.ok.glb.keep F.keep₀, F.ok.rm⟩, fun b o e => k12 b o (G₁.inn b o e), ks2, Sub.refl _, fun a o e => .inl e, ⟨_, hns, fun x d e k => ?_⟩, G₁.inn.none hC₁, hC₀, fun x a e => ?_, fun x d e k => ?_, fun x y a e1 e2 => F.celInj x y a (lookup' x a e1) (lookup' y a e2), fun p hp => ?_, List.nodup_cons.mpr ⟨fun q => (nomatch q), List.nodup_nil⟩⟩
    · unfold capVars at e
      split at e
      · rename_i hq
        obtain ⟨a, ha⟩ := Option.isSome_iff_exists.mp hq
        have k' : (relabel scope c.env).names.lookup x = some .local := k
        rcases capOk.at ok.cap x a ha with q | q <;> (rw [k'] at q; cases q)
      · cases e
    · obtain ⟨q1, q2, v, q3, q4⟩ := F₁.cel x a (lookup' x a e)
      refine ⟨q1, fun q => (nomatch q), v, q3.keeps k12, fun d hd hk => ?_⟩
      unfold capVars at hd
      split at hd
      · exact q4 d hd (capOk.at ok.par x a e)
      · cases hd
    · unfold capVars at e
      split at e
      · rename_i hq; exact Option.isSome_iff_exists.mp hq
      · cases e
    · rw [List.mem_singleton.mp hp]
      exact ⟨G₁.inn.none hD₁, hD₀, [], _, hD, .nil⟩
  have T' : Itr (compCx c scope cl H2.objs.size s.heap g₁) target n It I g₁ s.heap h₁ wr St := ⟨T.turns, T.st, T.wrN, T.live, T.self⟩
  have st₂ : St 0 h₂ := by
    obtain ⟨fp, P, Md, W, _, _, _⟩ := T.turns
    exact W.frame _ _ _ T.st fun b _ o e => k12 b o e
  have loop : ∀ s₃ : Shared, s₃ = { s with heap := h₂, toks := k₁ + ([] : List (Str × Value)).length } →
      codeAny c.M c.A (.compLoop (.ListComp elt [⟨target, iter, ifs, 0⟩] scope pos) 0 (.ref I) (.ref h₁.objs.size) (compEnvC scope cl H2.objs.size c.env)) (RR (.ref h₁.objs.size) H2.objs.size) s₃ := by
    rintro s₃ rfl
    refine comp_loop (c := compCx c scope cl H2.objs.size s.heap g₁) (ρ := capVars cl ρ) (gB := g) (ownB := []) (hB := s.heap) (g := g₁) (own₀ := [(h₁.objs.size, [])]) (ipos := iter.pos) (ifs := ifs)
      (act := do let _ ← call (.builtin "list.append") [.ref h₁.objs.size, ← eval elt (compEnvC scope cl H2.objs.size c.env)]) T' (fun i own' => ∃ ds inn, own' = (h₁.objs.size, ds) :: inn ∧ ds.length ≤ i ∧ J i ds inn) ?_ F₂ (Sub.refl _) st₂ k12 ?_ ?_ ?_ ?_ ⟨[], [], rfl, Nat.le_refl _, h0⟩ ?_ ?_
    · exact compTurn_list elt target iter ifs scope pos (.ref I) (.ref h₁.objs.size) (compEnvC scope cl H2.objs.size c.env)
    · intro b hb0 hb1
      refine ⟨fun q => hb1 (q ▸ hC₁), fun x q => ?_, fun q => ?_⟩
      · obtain ⟨_, _, v, ⟨o, q3, _⟩, _⟩ := F.cel x b (lookup' x b q)
        rw [hb0] at q3; cases q3
      · have : b = h₁.objs.size := by simpa using q
        exact hb1 (this ▸ hD₁)
    · intro b hb
      exact ⟨(T.wrN b hb).2, (T.wrN b hb).1⟩
    · refine ⟨G₁.sub, fun b o e _ _ _ _ => ks2 b o e, fun b hb => .inr ?_, fun b e => ks2.none e, fun a o e => (G₁.new a o e).elim .inl fun q => .inr (.inr q)⟩
      have : b = h₁.objs.size := by simpa using hb
      rw [this]; exact hD₀
    · intro b hb; exact (T.wrN b hb).1
    · rintro i own₁ hi ⟨ds, inn, rfl, hlen, hJ⟩
      obtain ⟨f, hf, b, hb, hel, hsk, hfρ⟩ := step H2.objs.size s.heap g₁ h₁.objs.size i ds inn hi hJ
      refine ⟨f, hf, b, hb, fun hbt g₃ s₃ E₃ F₃ => ?_, fun hbf => ⟨ds, inn, rfl, by omega, hsk hbf⟩, hfρ⟩
      refine wpAny_mono (act_append (by omega) (hel hbt) g₃ s₃ E₃ F₃) (fun _ s₄ q => ?_) fun _ _ e => e
      obtain ⟨g₄, h₄, k₄, own₄, rfl, e₄, F₄, ds', inn', rfl, hl', hJ'⟩ := q
      exact ⟨g₄, h₄, k₄, _, rfl, e₄, F₄, ds', inn', rfl, by omega, hJ'⟩
    · rintro g' own' h' k eB F' ⟨ds, inn, rfl, hlen, hJ⟩
      obtain ⟨m, hm, _⟩ := F'.loc
      refine fin _ _ g' h' k ds inn hJ hC₀ F'.offL (fun p hp q => ?_) ⟨m, hm⟩ ⟨⟨eB.sub, F'.inn, F'.keep₀, fun a o e => ?_⟩, fun p hp => F'.owns p hp, F'.nd⟩
      · obtain ⟨_, _, vs, nn, q3, _⟩ := F'.owns p hp
        exact ns_ne_list hm q3 rfl q.symm
      · rcases eB.gnew a o e with q | q | q
        · exact .inl q
        · exact absurd q (by simp)
        · exact .inr q
  exact codeAny_compStart_list (loop _ rfl) (T.self 0 _ _ _ st₂ (loop _ rfl))

/-- a comprehension as a value, its items data -/
theorem comp_eval {elt target iter : Expr} {ifs : List Expr} {scope : Scope} {pos : Pos} {n : Nat} {It : Part → Nat → Value → Heap → Prop} {cl : List (Str × Addr)} (src : ItSrc c ρ own iter target n It) (ok : CompOk c scope cl) (hn : n ≤ 15000000)
    (J : Nat → List D → Own → Prop) (h0 : J 0 [] [])
    (step : ∀ C h₀' g₀' a i ds inn, i < n → J i ds inn → ∃ f : Vars → Vars, (∀ g v h g', Sub g g' → It g i v h → Inn g' h → Bind (compCx c scope cl C h₀' g₀') ((a, ds) :: inn) target v g' h f) ∧
      ∃ b, Gb (compCx c scope cl C h₀' g₀') (f (capVars cl ρ)) ((a, ds) :: inn) (testsOf ifs (compEnvC scope cl C c.env)) b ∧ (b = true → ElOk (compCx c scope cl C h₀' g₀') (f (capVars cl ρ)) a ds inn elt (J (i + 1))) ∧
      (b = false → J (i + 1) ds inn) ∧ (∀ x d, capVars cl ρ x = some d → f (capVars cl ρ) x = some d))
    (hs : ∀ x, foldedSetIterable iter c.env x = pure x)
    {g : Part} {s : Shared} {Q E : Value → Shared → Prop} (F : Fm c ρ own g s.heap)
    (fin : ∀ a g' h' k ds inn, J n ds inn → CompRes s g a ds inn g' h' → Q (.ref a) { s with heap := h', toks := k }) :
    wpAny c.M c.A (eval (.ListComp elt [⟨target, iter, ifs, 0⟩] scope pos) c.env) Q E s := by
  rw [eval_ListComp]
  refine wpAny_comprehension_free (use := none) rfl hs ok.clos ok.kind (fun y hy q => ?_) (comp_core src ok hn J h0 step F (RR := fun acc C => compPost c.M c.A E none Q acc C) fun a C g' h' k ds inn hJ hC₀ hCg hne ⟨m, hm⟩ R => ?_)
  · have := List.all_eq_true.mp ok.names y hy; rw [q] at this; simpa using this
  · refine ⟨m, hm, fun h'' hs'' => fin a g' h'' k ds inn hJ ⟨⟨R.grow.sub, fun b o e => ?_, fun b o e => ?_, R.grow.new⟩, fun p hp => ?_, R.nd⟩⟩
    · exact hs''.extBut b o (by rintro rfl; rw [hCg] at e; cases e) (R.grow.inn b o e)
    · exact hs''.extBut b o (by rintro rfl; rw [hC₀] at e; cases e) (R.grow.keep b o e)
    · obtain ⟨q1, q2, vs, nn, q3, q4⟩ := R.owns p hp
      exact ⟨q1, q2, vs, nn, hs''.extBut _ _ (hne p hp) q3, q4⟩

theorem CompRes.freeze {s : Shared} {g : Part} {a : Addr} {ds : List D} {inn : Own} {g' : Part} {h' : Heap} (R : CompRes s g a ds inn g' h') : ∃ g'', Grow g s.heap g'' h' ∧ Is g'' (.ref a) (.list ds) ∧ ∀ b, b ≠ a → g'' b = g' b := by
  obtain ⟨q1, q2, vs, nn, q3, q4⟩ := R.owns (a, ds) (.head _)
  have hsub : Sub g' (g'.put a { cls := .type "list", data := .seq vs.toArray nn }) := put_sub q1
  refine ⟨g'.put a { cls := .type "list", data := .seq vs.toArray nn }, ⟨R.grow.sub.trans hsub, fun b o e => ?_, R.grow.keep, fun b o e => ?_⟩, .list ⟨_, _, put_self _ _ _, rfl, rfl⟩ (q4.sub hsub), fun b hb => put_ne hb⟩
  · by_cases hb : b = a
    · subst hb; rw [put_self] at e; cases e; exact q3
    · rw [put_ne hb] at e; exact R.grow.inn b o e
  · by_cases hb : b = a
    · subst hb; exact .inr q2
    · rw [put_ne hb] at e; exact R.grow.new b o e

/-- the assignment of a comprehension, which the machine binds ahead of letting its variables go -/
theorem Ex.assignComp {elt target iter : Expr} {ifs : List Expr} {scope : Scope} {pos p' spos : Pos} {n : Nat} {It : Part → Nat → Value → Heap → Prop} {cl : List (Str × Addr)} {y : Str} {out : List D} {Φ : Fl → Vars → Own → Prop} {rest : List Stmt} (src : ItSrc c ρ own iter target n It) (ok : CompOk c scope cl) (hn : n ≤ 15000000)
    (J : Nat → List D → Own → Prop) (h0 : J 0 [] [])
    (step : ∀ C h₀' g₀' a i ds inn, i < n → J i ds inn → ∃ f : Vars → Vars, (∀ g v h g', Sub g g' → It g i v h → Inn g' h → Bind (compCx c scope cl C h₀' g₀') ((a, ds) :: inn) target v g' h f) ∧
      ∃ b, Gb (compCx c scope cl C h₀' g₀') (f (capVars cl ρ)) ((a, ds) :: inn) (testsOf ifs (compEnvC scope cl C c.env)) b ∧ (b = true → ElOk (compCx c scope cl C h₀' g₀') (f (capVars cl ρ)) a ds inn elt (J (i + 1))) ∧
      (b = false → J (i + 1) ds inn) ∧ (∀ x d, capVars cl ρ x = some d → f (capVars cl ρ) x = some d))
    (hout : ∀ ds inn, J n ds inn → ds = out)
    (hr : Ex c (ρ.set y (.list out)) own rest Φ)
    (hsw : swapsWith (.ListComp elt [⟨target, iter, ifs, 0⟩] scope pos) (some (.Name y p')) spos.line c.env = pure true)
    (hy : mayStore c y = true := by rfl)
    (hs : ∀ x, foldedSetIterable iter c.env x = pure x := by intro _; rfl) :
    Ex c ρ own (.Assign [.Name y p'] (.ListComp elt [⟨target, iter, ifs, 0⟩] scope pos) spos :: rest) Φ := Ex.cons fun g s E F => by
  rw [exec_Assign_Name_used _ _ _ _ hsw]
  refine wpAny_bind (wpAny_standAt (wpAny_bind ?_))
  show wpAny _ c.A (do let _ ← comprehension (.ListComp elt [⟨target, iter, ifs, 0⟩] scope pos) scope c.env _ (newList []) false (eval iter c.env) (some (PySem.assign (.Name y p') c.env))) _ _ s
  refine wpAny_bind (wpAny_mono (wpAny_comprehension_free (use := some (PySem.assign (.Name y p') c.env)) (Q := fun _ s' => Post c (Then c rest Φ) own g s .next s') rfl hs ok.clos ok.kind (fun y hy q => ?_)
    (comp_core src ok hn J h0 step F (RR := fun acc C => compPost c.M c.A E (some (PySem.assign (.Name y p') c.env)) (fun _ s' => Post c (Then c rest Φ) own g s .next s') acc C) fun a C g' h' k ds inn hJ hC₀ hCg hne ⟨m, hm⟩ R => ?_)) (fun _ s' hq => wpAny_pure (wpAny_pure hq)) fun _ _ e => e)
  · have := List.all_eq_true.mp ok.names y hy; rw [q] at this; simpa using this
  · obtain ⟨g'', G, I, hG⟩ := R.freeze
    have F' := F.grow G
    have hda : ds = out := hout ds inn hJ
    subst hda
    show wpAny _ c.A (PySem.assign (.Name y p') c.env (.ref a)) _ _ _
    refine wpAny_assign_Name (F'.store I hy fun h₂ k₂ e₂ F₂ => ?_)
    have hCL : C ≠ c.env.locals := by
      rintro rfl
      obtain ⟨m', ⟨o, _, _, q, _⟩, _⟩ := F.loc
      rw [hC₀] at q; cases q
    have hCc : ∀ x, c.env.cells.lookup x ≠ some C := fun x q => by
      obtain ⟨_, _, v, ⟨o, q3, _⟩, _⟩ := F.cel x C q
      rw [hC₀] at q3; cases q3
    have hCo : C ∉ own.map (·.1) := fun q => by
      obtain ⟨p, hp, e⟩ := List.mem_map.mp q
      obtain ⟨_, _, vs, nn, q3, _⟩ := F.owns p hp
      rw [show p.1 = C from e, hC₀] at q3; cases q3
    have hCg'' : g'' C = none := by rw [hG C (Ne.symm (hne (a, ds) (.head _)))]; exact hCg
    obtain ⟨oC, esC, epC, hoC, rC⟩ := hm
    refine ⟨m, ⟨oC, esC, epC, e₂.kept C oC hoC hCL hCc hCo (fun q => nomatch q), rC⟩, fun h₃ hs₃ => ?_⟩
    have F₃ : Fm c (ρ.set y (.list ds)) own g'' h₃ := F₂.turn (wr := [C]) (fun b o hb e => hs₃.extBut b o (fun q => hb (by rw [q]; exact .head _)) e) fun b hb => by
      rw [List.mem_singleton.mp hb]
      exact ⟨hCg'', F.keep₀.none hC₀, hCL, hCc, hCo⟩
    refine ⟨.next, g'', h₃, k₂, _, own, rfl, ?_, F₃, .next, hr⟩
    have e3 := (Evo.ofGrow (c := c) (ex := []) (own := own) G).trans e₂
    refine ⟨e3.sub, fun b o e hL hc ho hx => hs₃.extBut b o (by rintro rfl; rw [hC₀] at e; cases e) (e3.kept b o e hL hc ho hx), e3.news, fun b e => ?_, e3.gnew⟩
    by_cases q : b = C
    · rw [q]; exact hC₀
    · rw [hs₃.2 b q] at e; exact e3.live b e
end
end Mine

/-! text M11 -/
namespace Mine

section
variable {c : Cx} {ρ : Vars} {own : Own}

/-! ## more sources -/
theorem ItSrc.mono {iter target : Expr} {n : Nat} {It It' : Part → Nat → Value → Heap → Prop} (h : ItSrc c ρ own iter target n It) (hi : ∀ g i v k, It g i v k → It' g i v k) : ItSrc c ρ own iter target n It' := fun g s Q E F hQ =>
  h g s Q E F fun I g' h' k wr St G T => hQ I g' h' k wr St G ⟨let ⟨fp, P, Md, a, b, d, e⟩ := T.turns; ⟨fp, P, Md, a, b, d, fun i v k x => hi _ _ _ _ (e i v k x)⟩, T.st, T.wrN, T.live, T.self⟩
/-- the items' data, by the turn's number -/
abbrev ItD (dat : Nat → D) : Part → Nat → Value → Heap → Prop := fun g i v _ => Is g v (dat i)
theorem ItSrc.listD {iter : Expr} {x : Str} {px : Pos} {ds : List D} (h : Ev c ρ own iter (.list ds)) : ItSrc c ρ own iter (.Name x px) ds.length (ItD fun i => ds.getD i .none) :=
  (ItSrc.list h).mono fun g i v k ⟨d, e, I⟩ => by show Is g v (ds.getD i .none); rw [List.getD_eq_getElem?_getD, e]; exact I
theorem ItSrc.strD {iter : Expr} {x : Str} {px : Pos} {t : Str} (h : Ev c ρ own iter (.str t)) : ItSrc c ρ own iter (.Name x px) t.cps.size (ItD fun i => .str ⟨#[t.cps.getD i 0]⟩) :=
  (ItSrc.str h).mono fun g i v k ⟨d, e, I⟩ => by show Is g v (.str ⟨#[t.cps.getD i 0]⟩); rw [Array.getD_eq_getD_getElem?, e]; exact I
theorem ItSrc.bytesD {iter : Expr} {x : Str} {px : Pos} {b : Array UInt8} (h : Ev c ρ own iter (.bytes b)) : ItSrc c ρ own iter (.Name x px) b.size (ItD fun i => .int ((b.getD i 0).toNat : Int)) :=
  ItSrc.one h fun g v s Q E I inn hh hQ => by
    cases I with
    | bytes _ tk =>
      exact KBw.pyIter_bytes (hQ _ _ _ rfl (KBw.walks hh _ b tk) ⟨_, Heap.get?_push_size _ rfl, rfl, rfl⟩ (fun i k ⟨o, ho, _⟩ q => by rw [ho] at q; cases q) fun i v k ⟨cc, u, e1, e2⟩ => by
        show Is g v (.int ((b.getD i 0).toNat : Int)); rw [e2, Array.getD_eq_getD_getElem?, e1]; exact .int _ _)
theorem ItSrc.tupleD {iter : Expr} {x : Str} {px : Pos} {ds : List D} (h : Ev c ρ own iter (.tuple ds)) : ItSrc c ρ own iter (.Name x px) ds.length (ItD fun i => ds.getD i .none) := fun g s Q E F hQ => by
  refine h g s _ E F fun v g₁ h₁ k₁ G₁ I₁ => ?_
  cases I₁ with
  | @tuple a vs _ hl hI =>
    have hls := hl.inn G₁.inn
    obtain ⟨ol, nl, hga, hcl, hdl⟩ := hl
    have hne : a ≠ h₁.objs.size := Nat.ne_of_lt (Heap.lt_size (G₁.inn _ _ hga))
    refine wpAny_pyIter_tuple hls ?_
    have hn : vs.toArray.size = ds.length := by simp [hI.length]
    have W := Walks.tuple (prog := c.prog) (w := c.w) F.ok.rm.hand h₁.objs.size a hne vs.toArray
    rw [hn] at W
    refine hQ h₁.objs.size g₁ _ k₁ [h₁.objs.size] _ ⟨G₁.sub, fun b o e => Heap.get?_push_of_some _ (G₁.inn b o e), G₁.keep.trans (Keep.push _ _), G₁.new⟩
      ⟨⟨_, _, _, KTurns.ofWalks W (fun i v s Q E _ hq => wpAny_pure hq), ?_, ?_, ?_⟩, ⟨⟨_, Heap.get?_push_size _ rfl, rfl, rfl⟩, hls.at fun o e => Heap.get?_push_of_some _ e⟩, ?_, ?_, fun i s₁ Q₁ E₁ st q => W.self i s₁ Q₁ E₁ st q⟩
    · intro b hb
      rcases List.mem_cons.mp hb with rfl | hb
      · exact .inr (G₁.keep.none (get?_size_none h₁))
      · rw [List.mem_singleton.mp hb]; exact .inl ⟨ol, hga⟩
    · intro b hb
      rcases List.mem_cons.mp hb with rfl | hb
      · rw [Heap.get?_push_size _ rfl]; intro q; cases q
      · rw [List.mem_singleton.mp hb, Heap.get?_push_of_some _ (G₁.inn _ _ hga)]; intro q; cases q
    · intro i v k hP
      obtain ⟨d, e, I⟩ := Isl.get hI i v (by simpa using hP)
      show Is _ v (ds.getD i .none); rw [List.getD_eq_getElem?_getD, e]; exact I
    · intro b hb
      rw [List.mem_singleton.mp hb]
      exact ⟨G₁.keep.none (get?_size_none h₁), G₁.inn.none (get?_size_none h₁)⟩
    · intro i k st b hb
      rw [List.mem_singleton.mp hb]
      obtain ⟨o, ho, _⟩ := st.1
      rw [ho]; intro q; cases q

/-- the arguments of a call of a built-in type by its name -/
theorem callTy_wp {x : Str} {T : String} {es : List Expr} {ds : List D} {p pos : Pos} {g : Part} {s : Shared} {Q E : Value → Shared → Prop} (F : Fm c ρ own g s.heap) (hv : bootBuiltins x = some (.type T)) (h : Evs c ρ own es ds)
    (ho : ∀ vs g' h' k, Grow g s.heap g' h' → Isl g' vs ds → wpAny c.M c.A (call (.type T) vs) Q E { s with heap := h', toks := k })
    (hf : x ∈ bltNames) (hk : c.env.kindOf x = some .globalImplicit) (hn : x ≠ "__name__") (hd : (x == ("__debug__" : Str)) = false) :
    wpAny c.M c.A (eval (.Call (.Name x p) es [] pos) c.env) Q E s := by
  refine wpAny_Call_Name_kw (load_blt F hk hf hv hn hd ?_)
  exact PyProof.Rows.callWith_type h.any (h.evalArgs F fun vs g₁ h₁ k₁ G₁ I₁ => ho vs g₁ h₁ k₁ G₁ I₁)

theorem ItSrc.range {e : Expr} {x : Str} {px p pos : Pos} {n : Nat} (h : Ev c ρ own e (.int n)) (hz : n ≤ 1000000) (hs : ∀ x p, e ≠ .Starred x p := by intro _ _ q; cases q) (hk : c.env.kindOf "range" = some .globalImplicit := by rfl) :
    ItSrc c ρ own (.Call (.Name "range" p) [e] [] pos) (.Name x px) n (ItD fun i => .int i) := fun g s Q E F hQ => by
  refine callTy_wp F Boot.range (.cons h hs .nil) (fun vs g₁ h₁ k₁ G₁ I₁ => ?_) (by decide) hk (by decide) rfl
  cases I₁ with
  | cons a b =>
    cases b
    cases a with
    | int _ t =>
    refine call_range_1 ?_
    refine wpAny_pyIter_range (IsRange.new _ _ _ _ _ _ _) (small_one (by omega) (by omega) (by omega) (by omega)) ?_
    dsimp only
    generalize hH : h₁.push { cls := .type "range", data := .fields #[.int 0 k₁, .int (n : Int) t, .int 1 (k₁ + 1)] } = H
    have kH : Keep h₁ H := hH ▸ Keep.push _ _
    have e0 : Builtin.Range.rangeSize 0 (n : Int) 1 = n := by rw [rangeSize_one]; split <;> omega
    rw [e0]
    have W := Walks.range (prog := c.prog) (w := c.w) F.ok.rm.hand H.objs.size 0 1 n
    refine hQ H.objs.size g₁ _ _ [H.objs.size] _ ⟨G₁.sub, fun b o e => Heap.get?_push_of_some _ (kH b o (G₁.inn b o e)), (G₁.keep.trans kH).trans (Keep.push _ _), G₁.new⟩
      ⟨⟨_, _, _, KTurns.ofWalks W (fun i v s Q E _ hq => wpAny_pure hq), ?_, ?_, ?_⟩, ?_, ?_, ?_, fun i s₁ Q₁ E₁ st q => W.self i s₁ Q₁ E₁ st q⟩
    · intro b hb
      rw [List.mem_singleton.mp hb]
      exact .inr ((G₁.keep.trans kH).none (get?_size_none H))
    · intro b hb
      rw [List.mem_singleton.mp hb, Heap.get?_push_size _ rfl]; intro q; cases q
    · rintro i v k ⟨t, rfl⟩
      show Is g₁ _ (.int (i : Int))
      have : (0 : Int) + (i : Int) * 1 = i := by omega
      rw [this]; exact .int _ _
    · have : IsRangeIter (H.push { cls := .type "range_iterator", data := .fields #[rawInt 0, rawInt (n : Int), rawInt 1] }) H.objs.size 0 n 1 := Heap.get?_push_size _ rfl
      simpa using this
    · intro b hb
      rw [List.mem_singleton.mp hb]
      exact ⟨(G₁.keep.trans kH).none (get?_size_none H), G₁.inn.none (kH.none (get?_size_none H))⟩
    · intro i k st b hb
      rw [List.mem_singleton.mp hb]
      have st' : IsRangeIter k H.objs.size _ _ _ := st
      rw [st']; intro q; cases q

theorem zip_apart (n a b : Nat) (ha : a < n) (hb : b < n) : ZipApart (n + 4) (n + 2) (n + 3) n (n + 1) a b := by
  constructor <;> (refine neN ?_; omega)
/-- pairs -/
abbrev ItP (d₀ d₁ : Nat → D) : Part → Nat → Value → Heap → Prop := fun g i v h => ∃ T v₀ v₁, v = .ref T ∧ h.IsTuple T #[v₀, v₁] ∧ Is g v₀ (d₀ i) ∧ Is g v₁ (d₁ i)
theorem Bind.pair {x y : Str} {px py pt : Pos} {kk : Nat} {v : Value} {d₀ d₁ : D} {g : Part} {h : Heap} (hv : ∃ T v₀ v₁, v = .ref T ∧ h.IsTuple T #[v₀, v₁] ∧ Is g v₀ d₀ ∧ Is g v₁ d₁) (hx : mayStore c x = true) (hy : mayStore c y = true) :
    Bind c own (.Tuple [.Name x px, .Name y py] kk pt) v g h (fun ρ => (ρ.set x d₀).set y d₁) := fun ρ s Q E hs F hQ => by
  subst hs
  obtain ⟨T, v₀, v₁, rfl, hT, I₀, I₁⟩ := hv
  refine wpAny_assign_Tuple F.ok.rm.hand hT rfl rfl fun h₁ hx₁ => ?_
  have k₁ : Keep s.heap h₁ := fun b o e => hx₁ b o (Nat.ne_of_lt (Heap.lt_size e)) e
  have F₁ := F.grow (Grow.ofKeep F.inn k₁)
  show wpAny _ c.A (do holding [v₁] (assign (.Name x px) c.env v₀); do holding [] (assign (.Name y py) c.env v₁); pure ()) _ _ _
  refine wpAny_bind (wpAny_holding (wpAny_assign_Name (F₁.store I₀ hx fun h₂ k₂ e₂ F₂ => ?_)))
  refine wpAny_bind (wpAny_holding (wpAny_assign_Name (F₂.store I₁ hy fun h₃ k₃ e₃ F₃ => wpAny_pure ?_)))
  exact hQ g h₃ k₃ (((Evo.ofGrow (Grow.ofKeep F.inn k₁)).trans e₂).trans e₃) F₃

theorem ItSrc.enum {e : Expr} {elts : List Expr} {kk : Nat} {p pos pt : Pos} {ds : List D} (h : Ev c ρ own e (.list ds)) (hs : ∀ x p, e ≠ .Starred x p := by intro _ _ q; cases q) (hk : c.env.kindOf "enumerate" = some .globalImplicit := by rfl) :
    ItSrc c ρ own (.Call (.Name "enumerate" p) [e] [] pos) (.Tuple elts kk pt) ds.length (ItP (fun i => .int i) fun i => ds.getD i .none) := fun g s Q E F hQ => by
  refine callTy_wp F Boot.enumerate (.cons h hs .nil) (fun vs g₁ h₁ k₁ G₁ I₁ => ?_) (by decide) hk (by decide) rfl
  cases I₁ with
  | cons a b =>
    cases b
    cases a with
    | @list a us _ hl hI =>
    have hls := hl.inn G₁.inn
    obtain ⟨ol, nl, hga, hcl, hdl⟩ := hl
    have halt : a < h₁.objs.size := Heap.lt_size (G₁.inn _ _ hga)
    refine call_enumerate_list hls fun h₂ he hit hz hkp => ?_
    dsimp only at he hit hz hkp ⊢
    have kH : Keep h₁ h₂ := hkp
    refine wpAny_pyIter_enum he ?_
    have hn : us.toArray.size = ds.length := by simp [hI.length]
    have W := WalksT.enumerate (prog := c.prog) (w := c.w) F.ok.rm.hand (h₁.objs.size + 1) h₁.objs.size a (Nat.succ_ne_self _) (Nat.ne_of_lt (Nat.lt_succ_of_lt halt)) (Nat.ne_of_lt halt) us.toArray
    rw [hn] at W
    have nn : ∀ b, h₁.objs.size ≤ b → h₁.get? b = none := fun b hb => by
      cases q : h₁.get? b with
      | none => rfl
      | some o => exact absurd (Heap.lt_size q) (Nat.not_lt.mpr hb)
    refine hQ (h₁.objs.size + 1) g₁ h₂ k₁ [h₁.objs.size + 1, h₁.objs.size] _ ⟨G₁.sub, fun b o e => kH b o (G₁.inn b o e), G₁.keep.trans kH, G₁.new⟩
      ⟨⟨_, _, _, KTurns.ofWalksU W.toU, ?_, ?_, ?_⟩, ⟨⟨_, he⟩, hit, hls.at fun o e => kH _ o e⟩, ?_, ?_, fun i s₁ Q₁ E₁ st q => W.self i s₁ Q₁ E₁ st q⟩
    · intro b hb
      simp only [List.mem_cons, List.not_mem_nil, or_false] at hb
      rcases hb with rfl | rfl | rfl
      · exact .inr (G₁.keep.none (nn _ (Nat.le_succ _)))
      · exact .inr (G₁.keep.none (nn _ (Nat.le_refl _)))
      · exact .inl ⟨ol, hga⟩
    · intro b hb
      simp only [List.mem_cons, List.not_mem_nil, or_false] at hb
      rcases hb with rfl | rfl | rfl
      · have he' : h₂.get? (h₁.objs.size + 1) = some _ := he
        rw [he']; intro q; cases q
      · obtain ⟨o, ho, _⟩ := hit; rw [ho]; intro q; cases q
      · rw [kH _ _ (G₁.inn _ _ hga)]; intro q; cases q
    · rintro i v k ⟨T, vals, rfl, ⟨t, x, hx, rfl⟩, hT⟩
      obtain ⟨d, e, I⟩ := Isl.get hI i x (by simpa using hx)
      exact ⟨T, _, _, rfl, hT, .int _ _, by dsimp only; rw [List.getD_eq_getElem?_getD, e]; exact I⟩
    · intro b hb
      simp only [List.mem_cons, List.not_mem_nil, or_false] at hb
      rcases hb with rfl | rfl
      · exact ⟨G₁.keep.none (nn _ (Nat.le_succ _)), G₁.inn.none (nn _ (Nat.le_succ _))⟩
      · exact ⟨G₁.keep.none (nn _ (Nat.le_refl _)), G₁.inn.none (nn _ (Nat.le_refl _))⟩
    · rintro i k ⟨⟨old, q1⟩, q2, _⟩ b hb
      simp only [List.mem_cons, List.not_mem_nil, or_false] at hb
      rcases hb with rfl | rfl
      · have q1' : k.get? (h₁.objs.size + 1) = some _ := q1
        rw [q1']; intro q; cases q
      · obtain ⟨o, ho, _⟩ := q2; rw [ho]; intro q; cases q

theorem ItSrc.zip {e₁ e₂ : Expr} {elts : List Expr} {kk : Nat} {p pos pt : Pos} {ds es : List D} (h₁ : Ev c ρ own e₁ (.list ds)) (h₂ : Ev c ρ own e₂ (.list es)) (hs₁ : ∀ x p, e₁ ≠ .Starred x p := by intro _ _ q; cases q) (hs₂ : ∀ x p, e₂ ≠ .Starred x p := by intro _ _ q; cases q)
    (hk : c.env.kindOf "zip" = some .globalImplicit := by rfl) :
    ItSrc c ρ own (.Call (.Name "zip" p) [e₁, e₂] [] pos) (.Tuple elts kk pt) (min ds.length es.length) (ItP (fun i => ds.getD i .none) fun i => es.getD i .none) := fun g s Q E F hQ => by
  refine callTy_wp F Boot.zip (.cons h₁ hs₁ (.cons h₂ hs₂ .nil)) (fun vs g₁ h₁ k₁ G₁ I₁ => ?_) (by decide) hk (by decide) rfl
  cases I₁ with
  | cons a b =>
    cases b with
    | cons b cc =>
    cases cc
    cases a with
    | @list a us _ hl hI =>
    cases b with
    | @list b ws _ hl2 hI2 =>
    have hls := hl.inn G₁.inn
    have hls2 := hl2.inn G₁.inn
    obtain ⟨ol, nl, hga, hcl, hdl⟩ := hl
    obtain ⟨ol2, nl2, hgb, hcl2, hdl2⟩ := hl2
    have halt : a < h₁.objs.size := Heap.lt_size (G₁.inn _ _ hga)
    have hblt : b < h₁.objs.size := Heap.lt_size (G₁.inn _ _ hgb)
    refine call_zip_2 hls hls2 fun h₂ hz1 hz2 hz3 hz4 hz5 hzs hkp => ?_
    dsimp only at hz1 hz2 hz3 hz4 hz5 hzs hkp ⊢
    have kH : Keep h₁ h₂ := hkp
    refine wpAny_pyIter_zip hz1 ?_
    have hn : us.toArray.size = ds.length := by simp [hI.length]
    have hn2 : ws.toArray.size = es.length := by simp [hI2.length]
    have W := WalksT.zip2 (prog := c.prog) (w := c.w) F.ok.rm.hand (h₁.objs.size + 4) (h₁.objs.size + 2) (h₁.objs.size + 3) h₁.objs.size (h₁.objs.size + 1) a b
      (zip_apart _ _ _ halt hblt) us.toArray ws.toArray
    rw [hn, hn2] at W
    have nn : ∀ b, h₁.objs.size ≤ b → h₁.get? b = none := fun b hb => by
      cases q : h₁.get? b with
      | none => rfl
      | some o => exact absurd (Heap.lt_size q) (Nat.not_lt.mpr hb)
    refine hQ (h₁.objs.size + 4) g₁ h₂ k₁ [h₁.objs.size + 4, h₁.objs.size + 3, h₁.objs.size, h₁.objs.size + 1] _ ⟨G₁.sub, fun b o e => kH b o (G₁.inn b o e), G₁.keep.trans kH, G₁.new⟩
      ⟨⟨_, _, _, KTurns.ofWalksU W.toU, ?_, ?_, ?_⟩, ⟨hz1, hz2, ⟨_, _, hz3⟩, hz4, hz5, hls.at fun o e => kH _ o e, hls2.at fun o e => kH _ o e⟩, ?_, ?_, fun i s₁ Q₁ E₁ st q => W.self i s₁ Q₁ E₁ st q⟩
    · intro x hx
      simp only [List.mem_cons, List.not_mem_nil, or_false] at hx
      rcases hx with rfl | rfl | rfl | rfl | rfl | rfl | rfl
      · exact .inr (G₁.keep.none (nn _ (by omega)))
      · exact .inr (G₁.keep.none (nn _ (by omega)))
      · exact .inr (G₁.keep.none (nn _ (by omega)))
      · exact .inr (G₁.keep.none (nn _ (by omega)))
      · exact .inr (G₁.keep.none (nn _ (by omega)))
      · exact .inl ⟨ol, hga⟩
      · exact .inl ⟨ol2, hgb⟩
    · intro x hx
      simp only [List.mem_cons, List.not_mem_nil, or_false] at hx
      have z1 : h₂.get? (h₁.objs.size + 4) = some _ := hz1
      have z2 : h₂.get? (h₁.objs.size + 2) = some _ := hz2
      have z3 : h₂.get? (h₁.objs.size + 3) = some _ := hz3
      obtain ⟨o4, z4, _⟩ := hz4
      obtain ⟨o5, z5, _⟩ := hz5
      rcases hx with rfl | rfl | rfl | rfl | rfl | rfl | rfl
      · rw [z1]; intro q; cases q
      · rw [z2]; intro q; cases q
      · rw [z3]; intro q; cases q
      · rw [z4]; intro q; cases q
      · rw [z5]; intro q; cases q
      · rw [kH _ _ (G₁.inn _ _ hga)]; intro q; cases q
      · rw [kH _ _ (G₁.inn _ _ hgb)]; intro q; cases q
    · rintro i v k ⟨T, vals, rfl, ⟨x, y, hx, hy, rfl⟩, hT⟩
      obtain ⟨d, e, I⟩ := Isl.get hI i x (by simpa using hx)
      obtain ⟨d', e', I'⟩ := Isl.get hI2 i y (by simpa using hy)
      exact ⟨T, _, _, rfl, hT, by dsimp only; rw [List.getD_eq_getElem?_getD, e]; exact I, by dsimp only; rw [List.getD_eq_getElem?_getD, e']; exact I'⟩
    · intro x hx
      simp only [List.mem_cons, List.not_mem_nil, or_false] at hx
      have : h₁.objs.size ≤ x := by rcases hx with rfl | rfl | rfl | rfl <;> omega
      exact ⟨G₁.keep.none (nn _ this), G₁.inn.none (nn _ this)⟩
    · rintro i k ⟨q1, q2, ⟨_, _, q3⟩, q4, q5, _⟩ x hx
      simp only [List.mem_cons, List.not_mem_nil, or_false] at hx
      have z1 : k.get? (h₁.objs.size + 4) = some _ := q1
      have z3 : k.get? (h₁.objs.size + 3) = some _ := q3
      obtain ⟨o4, z4, _⟩ := q4
      obtain ⟨o5, z5, _⟩ := q5
      rcases hx with rfl | rfl | rfl | rfl
      · rw [z1]; intro q; cases q
      · rw [z3]; intro q; cases q
      · rw [z4]; intro q; cases q
      · rw [z5]; intro q; cases q
end
end Mine

/-! text M12 -/
namespace Mine

section
variable {c : Cx} {ρ : Vars} {own : Own}

/-- what a turn of a comprehension adds -/
inductive ElOut (c : Cx) (ρ : Vars) (own : Own) (elt : Expr) : List Expr → List D → Prop
  | plain {d : D} : Ev c ρ own elt d → ElOut c ρ own elt [] [d]
  | yes {t : Expr} {d : D} : Et c ρ own t true → Ev c ρ own elt d → ElOut c ρ own elt [t] [d]
  | no {t : Expr} : Et c ρ own t false → ElOut c ρ own elt [t] []

theorem ElOut.step {c : Cx} {ρ : Vars} {a : Addr} {ds : List D} {inn : Own} {elt : Expr} {ifs : List Expr} {o : List D} {K : List D → Own → Prop} (h : ElOut c ρ ((a, ds) :: inn) elt ifs o) (hK : K (ds ++ o) inn) :
    ∃ b, Gb c ρ ((a, ds) :: inn) (testsOf ifs c.env) b ∧ (b = true → ElOk c ρ a ds inn elt K) ∧ (b = false → K ds inn) := by
  cases h with
  | plain h => exact ⟨true, fun g s Q E F hQ => wpAny_tests_nil (hQ g s.heap s.toks (Grow.refl F.inn)), fun _ => ElOk.ev h hK, fun q => nomatch q⟩
  | yes ht h => exact ⟨true, fun g s Q E F hQ => wpAny_tests_one (ht g s Q E F hQ), fun _ => ElOk.ev h hK, fun q => nomatch q⟩
  | no ht => exact ⟨false, fun g s Q E F hQ => wpAny_tests_one (ht g s Q E F hQ), fun q => (nomatch q), fun _ => by simpa using hK⟩

theorem range_flatMap_succ {α : Type} (out : Nat → List α) (i : Nat) : (List.range (i + 1)).flatMap out = (List.range i).flatMap out ++ out i := by
  simp [List.range_succ, List.flatMap_append]

theorem cap_set {cl : List (Str × Addr)} {x : Str} (hx : cl.lookup x = none) (d : D) : ∀ y e, capVars cl ρ y = some e → (Vars.set (capVars cl ρ) x d) y = some e := fun y e h => by
  by_cases q : y = x
  · subst q; simp [capVars, hx] at h
  · simp [Vars.set, q, h]

theorem Ev.compN {elt iter : Expr} {ifs : List Expr} {scope : Scope} {pos px : Pos} {x : Str} {n : Nat} {dat : Nat → D} {cl : List (Str × Addr)} (src : ItSrc c ρ own iter (.Name x px) n (ItD dat)) (ok : CompOk c scope cl) (out : Nat → List D)
    (el : ∀ C h₀' g₀' own' i, i < n → ElOut (compCx c scope cl C h₀' g₀') (Vars.set (capVars cl ρ) x (dat i)) own' elt ifs (out i))
    (hn : n ≤ 15000000) (hx : cl.lookup x = none) (hst : ∀ C h₀' g₀', mayStore (compCx c scope cl C h₀' g₀') x = true)
    (hs : ∀ x, foldedSetIterable iter c.env x = pure x := by intro _; rfl) :
    Ev c ρ own (.ListComp elt [⟨.Name x px, iter, ifs, 0⟩] scope pos) (.list ((List.range n).flatMap out)) := fun g s Q E F hQ => by
  refine comp_eval src ok hn (fun i ds inn => ds = (List.range i).flatMap out ∧ inn = []) ⟨rfl, rfl⟩ ?_ hs F fun a g' h' k ds inn hJ R => ?_
  · rintro C h₀' g₀' a i ds inn hi ⟨rfl, rfl⟩
    refine ⟨(·.set x (dat i)), fun g v h g' hs hI _ => Bind.name (hI.sub hs) (hst _ _ _), ?_⟩
    obtain ⟨b, h1, h2, h3⟩ := (el C h₀' g₀' [(a, (List.range i).flatMap out)] i hi).step (K := fun ds inn => ds = (List.range (i + 1)).flatMap out ∧ inn = []) ⟨(range_flatMap_succ out i).symm, rfl⟩
    exact ⟨b, h1, h2, h3, cap_set hx _⟩
  · obtain ⟨rfl, rfl⟩ := hJ
    obtain ⟨g'', G, I, _⟩ := R.freeze
    exact hQ _ g'' h' k G I

theorem Ex.assignCompN {elt iter : Expr} {ifs : List Expr} {scope : Scope} {pos px p' spos : Pos} {x y : Str} {n : Nat} {dat : Nat → D} {cl : List (Str × Addr)} {Φ : Fl → Vars → Own → Prop} {rest : List Stmt} (src : ItSrc c ρ own iter (.Name x px) n (ItD dat)) (ok : CompOk c scope cl) (out : Nat → List D)
    (el : ∀ C h₀' g₀' own' i, i < n → ElOut (compCx c scope cl C h₀' g₀') (Vars.set (capVars cl ρ) x (dat i)) own' elt ifs (out i))
    (hr : Ex c (ρ.set y (.list ((List.range n).flatMap out))) own rest Φ)
    (hn : n ≤ 15000000) (hx : cl.lookup x = none) (hst : ∀ C h₀' g₀', mayStore (compCx c scope cl C h₀' g₀') x = true)
    (hsw : swapsWith (.ListComp elt [⟨.Name x px, iter, ifs, 0⟩] scope pos) (some (.Name y p')) spos.line c.env = pure true := by rfl)
    (hy : mayStore c y = true := by rfl)
    (hs : ∀ x, foldedSetIterable iter c.env x = pure x := by intro _; rfl) :
    Ex c ρ own (.Assign [.Name y p'] (.ListComp elt [⟨.Name x px, iter, ifs, 0⟩] scope pos) spos :: rest) Φ := by
  refine Ex.assignComp src ok hn (fun i ds inn => ds = (List.range i).flatMap out ∧ inn = []) ⟨rfl, rfl⟩ ?_ (fun ds inn h => h.1) hr hsw hy hs
  rintro C h₀' g₀' a i ds inn hi ⟨rfl, rfl⟩
  refine ⟨(·.set x (dat i)), fun g v h g' hs hI _ => Bind.name (hI.sub hs) (hst _ _ _), ?_⟩
  obtain ⟨b, h1, h2, h3⟩ := (el C h₀' g₀' [(a, (List.range i).flatMap out)] i hi).step (K := fun ds inn => ds = (List.range (i + 1)).flatMap out ∧ inn = []) ⟨(range_flatMap_succ out i).symm, rfl⟩
  exact ⟨b, h1, h2, h3, cap_set hx _⟩

theorem Ev.compP {elt iter : Expr} {ifs : List Expr} {scope : Scope} {pos px py pt : Pos} {kk : Nat} {x y : Str} {n : Nat} {d₀ d₁ : Nat → D} {cl : List (Str × Addr)} (src : ItSrc c ρ own iter (.Tuple [.Name x px, .Name y py] kk pt) n (ItP d₀ d₁)) (ok : CompOk c scope cl) (out : Nat → List D)
    (el : ∀ C h₀' g₀' own' i, i < n → ElOut (compCx c scope cl C h₀' g₀') (Vars.set (Vars.set (capVars cl ρ) x (d₀ i)) y (d₁ i)) own' elt ifs (out i))
    (hn : n ≤ 15000000) (hx : cl.lookup x = none) (hy : cl.lookup y = none) (hst : ∀ C h₀' g₀', mayStore (compCx c scope cl C h₀' g₀') x = true ∧ mayStore (compCx c scope cl C h₀' g₀') y = true)
    (hs : ∀ x, foldedSetIterable iter c.env x = pure x := by intro _; rfl) :
    Ev c ρ own (.ListComp elt [⟨.Tuple [.Name x px, .Name y py] kk pt, iter, ifs, 0⟩] scope pos) (.list ((List.range n).flatMap out)) := fun g s Q E F hQ => by
  refine comp_eval src ok hn (fun i ds inn => ds = (List.range i).flatMap out ∧ inn = []) ⟨rfl, rfl⟩ ?_ hs F fun a g' h' k ds inn hJ R => ?_
  · rintro C h₀' g₀' a i ds inn hi ⟨rfl, rfl⟩
    refine ⟨fun ρ => (ρ.set x (d₀ i)).set y (d₁ i), fun g v h g' hs ⟨T, v₀, v₁, e, hT, I₀, I₁⟩ _ => Bind.pair ⟨T, v₀, v₁, e, hT, I₀.sub hs, I₁.sub hs⟩ (hst _ _ _).1 (hst _ _ _).2, ?_⟩
    obtain ⟨b, h1, h2, h3⟩ := (el C h₀' g₀' [(a, (List.range i).flatMap out)] i hi).step (K := fun ds inn => ds = (List.range (i + 1)).flatMap out ∧ inn = []) ⟨(range_flatMap_succ out i).symm, rfl⟩
    refine ⟨b, h1, h2, h3, fun z e hz => ?_⟩
    have h4 := cap_set (ρ := ρ) hx (d₀ i) z e hz
    by_cases q : z = y
    · subst q; simp [capVars, hy] at hz
    · simp [Vars.set, q] at h4 ⊢; exact h4
  · obtain ⟨rfl, rfl⟩ := hJ
    obtain ⟨g'', G, I, _⟩ := R.freeze
    exact hQ _ g'' h' k G I

end

theorem compOk_of {c : Cx} {scope : Scope} {cl : List (Str × Addr)} (h1 : closureFor scope c.env = pure cl) (h2 : Cl c.env cl) (h3 : capOk (relabel scope c.env) cl = true) (h4 : capOk c.env.scope cl = true) (h5 : (scope.names.all fun y => y.2 != .cell) = true)
    (h6 : scope.kind = .function) (h7 : (scope.names.all fun y => y.2 != .local || (scope.names.lookup y.1 == some .local)) = true) : CompOk c scope cl := ⟨h1, h2, h3, h4, h5, h6, h7⟩
end Mine

/-! text M13 -/
namespace Mine

section
variable {c : Cx} {ρ : Vars} {own : Own}

/-! ## owned lists in statements -/
theorem Fm.perm {own' : Own} {g : Part} {h : Heap} (F : Fm c ρ own g h) (p : own'.Perm own) : Fm c ρ own' g h :=
  F.pickOwn (fun q hq => p.mem_iff.mp hq) ((p.map (·.1)).nodup_iff.mpr F.nd)
theorem Evo.perm {ex : List Addr} {g g' : Part} {o₁ o₁' o₂ : Own} {h h' : Heap} (x : Evo c ex g o₁ h g' o₂ h') (p : o₁'.Perm o₁) : Evo c ex g o₁' h g' o₂ h' :=
  ⟨x.sub, fun b o e hL hc ho hx => x.kept b o e hL hc (fun q => ho ((p.map (·.1)).mem_iff.mpr q)) hx, fun b hb => (x.news b hb).imp (fun q => (p.map (·.1)).mem_iff.mpr q) id, x.live, fun a o e => (x.gnew a o e).imp id fun q => q.imp (fun q => (p.map (·.1)).mem_iff.mpr q) id⟩
theorem Ex.perm {own' : Own} {ss : List Stmt} {Φ : Fl → Vars → Own → Prop} (p : own'.Perm own) (h : Ex c ρ own ss Φ) : Ex c ρ own' ss Φ := fun g s E F =>
  wpAny_mono (h g s E (F.perm p.symm)) (fun f s' ⟨fl, g', h', k, ρ', own'', e, a2, a3, a4, a5⟩ => ⟨fl, g', h', k, ρ', own'', e, a2.perm p, a3, a4, a5⟩) fun _ _ e => e

theorem Ex.weaken {ρ' : Vars} {ss : List Stmt} {Φ : Fl → Vars → Own → Prop} (hr : ∀ x d, ρ' x = some d → ρ x = some d) (h : Ex c ρ' own ss Φ) : Ex c ρ own ss Φ := fun g s E F => h g s E (F.weaken hr)

/-- an owned list is frozen, and read by its name as a list -/
theorem Ex.freeze {x : Str} {a : Addr} {ds : List D} {ss : List Stmt} {Φ : Fl → Vars → Own → Prop} (hx : ρ x = some (.addr a)) (h : Ex c (ρ.set x (.list ds)) own ss Φ) : Ex c ρ ((a, ds) :: own) ss Φ := fun g s E F => by
  obtain ⟨g', hsub, I, F', hnew⟩ := F.freeze
  have hlive : s.heap.get? a ≠ none := by obtain ⟨_, _, vs, n, q, _⟩ := F.owns (a, ds) (.head _); rw [q]; intro e; cases e
  have F'' : Fm c (ρ.set x (.list ds)) own g' s.heap := by
    refine ⟨F'.ok, F'.inn, F'.keep₀, F'.sub₀, F'.new₀, ?_, F'.offL, F'.newL, fun y b e => ?_, fun y d e k => ?_, F'.celInj, F'.owns, F'.nd⟩
    · obtain ⟨m, hn, hm⟩ := F'.loc
      refine ⟨m, hn, fun y d e k => ?_⟩
      by_cases q : y = x
      · subst q; simp only [Vars.set, if_true] at e; cases e
        obtain ⟨v, h1, h2⟩ := hm y _ hx k
        cases h2; exact ⟨_, h1, I⟩
      · simp only [Vars.set, q, if_false] at e; exact hm y d e k
    · obtain ⟨h1, h2, v, h3, h4⟩ := F'.cel y b e
      refine ⟨h1, h2, v, h3, fun d hd k => ?_⟩
      by_cases q : y = x
      · subst q; simp only [Vars.set, if_true] at hd; cases hd
        obtain ⟨u, h5, h6⟩ := h4 _ hx k
        cases h6; exact ⟨_, h5, I⟩
      · simp only [Vars.set, q, if_false] at hd; exact h4 d hd k
    · by_cases q : y = x
      · subst q; exact F'.celAt y _ hx k
      · simp only [Vars.set, q, if_false] at e; exact F'.celAt y d e k
  refine wpAny_mono (h g' s E F'') (fun f s' p => ?_) fun _ _ e => e
  obtain ⟨fl, g₂, h₂, k, ρ', own', rfl, a2, a3, a4, a5⟩ := p
  refine ⟨fl, g₂, h₂, k, ρ', own', rfl, ⟨hsub.trans a2.sub, fun b o e hL hc ho hx => a2.kept b o e hL hc (fun q => ho (.tail _ q)) hx, fun b hb => (a2.news b hb).imp (fun q => .tail _ q) id, a2.live, fun b o e => ?_⟩, a3, a4, a5⟩
  rcases a2.gnew b o e with q | q | q
  · rcases hnew b o q with q | q
    · exact .inl q
    · exact .inr (.inl (by rw [q]; exact .head _))
  · exact .inr (.inl (.tail _ q))
  · exact .inr (.inr q)

/-- `x = [..]`, owned -/
theorem Ex.assignOwn {x : Str} {p' pos lp : Pos} {es : List Expr} {ds : List D} {rest : List Stmt} {Φ : Fl → Vars → Own → Prop} (h : Evs c ρ own es ds) (hr : ∀ a, Ex c (ρ.set x (.addr a)) ((a, ds) :: own) rest Φ) (hz : ds.length ≤ 16000000 := by simp) (hk : mayStore c x = true := by rfl)
    (hs : swapsWith (.List es lp) (some (.Name x p')) pos.line c.env = pure false := by rfl) : Ex c ρ own (.Assign [.Name x p'] (.List es lp) pos :: rest) Φ := Ex.cons fun g s E F => by
  refine wpAny_Assign_Name (List_ (h.spliced g s _ E F fun vs g₁ h₁ k₁ G₁ I₁ => ?_)) hs
  refine newSeq_gp (c := c) G₁.inn (by rw [I₁.length, sizeLine_eq]; omega) ?_
  have ho : (h₁.push { cls := .type "list", data := .seq vs.toArray }).get? h₁.objs.size = some { cls := .type "list", data := .seq vs.toArray } := Heap.get?_push_size _ rfl
  have F₁ := F.grow G₁
  have F₂ := F₁.addOwn (Keep.push h₁ _) (get?_size_none h₁) ho I₁
  have e₂ : Evo c [] g own s.heap g₁ ((h₁.objs.size, ds) :: own) (h₁.push { cls := .type "list", data := .seq vs.toArray }) := by
    have e := (Evo.ofGrow (c := c) (ex := []) (own := own) G₁).trans (Evo.ofGrow (Grow.ofKeep G₁.inn (Keep.push h₁ { cls := .type "list", data := .seq vs.toArray })))
    refine ⟨e.sub, e.kept, fun b hb => ?_, e.live, e.gnew⟩
    rcases List.mem_cons.mp hb with rfl | hb
    · exact .inr (G₁.keep.none (get?_size_none h₁))
    · exact .inl hb
  refine F₂.store (.addr h₁.objs.size) hk fun h₃ k₃ e₃ F₃ => ?_
  exact ⟨.next, g₁, h₃, k₃, _, _, rfl, e₂.trans e₃, F₃, .next, hr _⟩

/-- `o.append(e)` for an owned list -/
theorem Ex.append {o e : Expr} {apos pos spos : Pos} {a : Addr} {ds : List D} {d : D} {rest : List Stmt} {Φ : Fl → Vars → Own → Prop} (ho : Ev c ρ ((a, ds) :: own) o (.addr a)) (he : Ev c ρ ((a, ds) :: own) e d) (hr : Ex c ρ ((a, ds ++ [d]) :: own) rest Φ)
    (hz : ds.length ≤ 16000000) (hst : ∀ x p, e ≠ .Starred x p := by intro _ _ q; cases q) (hline : (apos.endLine == pos.line) = true := by rfl)
    (hbase : attributeBase o "append" c.env (eval o c.env) = eval o c.env := by rfl)
    (hi : interactive c.env = false := by rfl) (hs : swapsWith (.Call (.Attribute o "append" apos) [e] [] pos) none spos.line c.env = pure false := by rfl) :
    Ex c ρ ((a, ds) :: own) (.Expr (.Call (.Attribute o "append" apos) [e] [] pos) spos :: rest) Φ := Ex.cons fun g s E F => by
  have hes : Evs c ρ ((a, ds) :: own) [e] [d] := .cons he hst .nil
  refine wpAny_Expr (PySem.wpAny_Call_method (T := "list") (id := "list.append") hbase ?_ hline PySem.F.plainAttrs_list slot_list_append type_list_append (ho g s _ E F fun v g₁ h₁ k₁ G₁ I₁ => ?_)) hi hs
  · have h1 : ((backTo pos (starEach [e] c.env)).all fun x => !x.1) = true := by
      rw [List.all_eq_not_any_not]; simp only [Bool.not_not]; rw [hes.any]; rfl
    rw [h1]; rfl
  · cases I₁
    have F₁ := F.grow G₁
    obtain ⟨_, _, vs, n, hva, hI⟩ := F₁.owns (a, ds) (.head _)
    refine ⟨⟨_, hva, rfl⟩, fun b q => ⟨_, by cases q; exact hva, rfl⟩, ?_⟩
    refine Calls.callWith_builtin hes.any (hes.evalArgs F₁ fun us g₂ h₂ k₂ G₂ I₂ => ?_)
    cases I₂ with
    | @cons u₂ _ _ _ I₂ I₃ =>
    cases I₃
    have F₂ := F₁.grow G₂
    obtain ⟨_, _, vs, n, hva, hI⟩ := F₂.owns (a, ds) (.head _)
    refine wpAny_list_append_plain (items := vs.toArray) ⟨n, hva⟩ (fun h₃ hp hs => ?_) (by have hl := hI.length; simp only at hl; rw [List.size_toArray, hl, sizeLine_eq]; omega)
    obtain ⟨n₂, ho₂⟩ := hp
    have ho₂' : h₃.get? a = some { cls := .type "list", data := .seq (vs ++ [u₂]).toArray n₂ } := by rw [ho₂]; simp
    have F₃ := F₂.setOwn hs ho₂' (hI.append (.cons I₂ .nil))
    exact ⟨.next, g₂, h₃, k₂, ρ, (a, ds ++ [d]) :: own, rfl, (((Evo.ofGrow G₁).trans (Evo.ofGrow G₂)).trans (evo_append hs (by rw [ho₂]; intro q; cases q))).ownEq rfl, F₃, .next, hr⟩

/-! ## tests -/
theorem Et.chain {l r₁ r₂ : Expr} {o₁ o₂ : CmpOp} {pos : Pos} {a b₁ b₂ : D} {t u : Bool} (hl : Ev c ρ own l a) (h₁ : Ev c ρ own r₁ b₁) (h₂ : Ev c ρ own r₂ b₂)
    (ho₁ : ∀ g va vb, Is g va a → Is g vb b₁ → Gp c g (compareOp o₁ va vb) (.bool t)) (ho₂ : ∀ g va vb, Is g va b₁ → Is g vb b₂ → Gp c g (compareOp o₂ va vb) (.bool u))
    (hm : lastMarks [o₁, o₂] [r₁, r₂] = false := by with_unfolding_all rfl) : Et c ρ own (.Compare l [o₁, o₂] [r₁, r₂] pos) (t && u) := fun g s Q E F hQ => by
  refine isTrue_chain (hl g s _ E F fun va g₁ h₁' k₁ G₁ I₁ => ?_) hm
  have F₁ := F.grow G₁
  refine test_link (h₁ g₁ _ _ E F₁ fun vb g₂ h₂' k₂ G₂ I₂ => ?_)
  have F₂ := F₁.grow G₂
  refine ho₁ g₂ va vb (I₁.sub G₂.sub) I₂ _ _ _ F₂.ok F₂.keep₀ F₂.inn fun v g₃ h₃ k₃ G₃ I₃ => ?_
  cases I₃
  have F₃ := F₂.grow G₃
  refine wpAny_truthy_bool ?_
  cases t with
  | false => exact hQ g₃ h₃ k₃ ((G₁.trans G₂).trans G₃)
  | true =>
    refine test_last (h₂ g₃ _ _ E F₃ fun vc g₄ h₄ k₄ G₄ I₄ => ?_)
    have F₄ := F₃.grow G₄
    refine ho₂ g₄ vb vc ((I₂.sub G₃.sub).sub G₄.sub) I₄ _ _ _ F₄.ok F₄.keep₀ F₄.inn fun v g₅ h₅ k₅ G₅ I₅ => ?_
    cases I₅
    exact wpAny_truthy_bool (hQ g₅ h₅ k₅ ((((G₁.trans G₂).trans G₃).trans G₄).trans G₅))
theorem Et.notinInts {l r : Expr} {pos : Pos} {k : Int} {ns : List Int} (hl : Ev c ρ own l (.int k)) (hr : Ev c ρ own r (.list (ns.map .int))) (hm : behindInMarks .NotIn r = false := by with_unfolding_all rfl) :
    Et c ρ own (.Compare l [.NotIn] [r] pos) (!(ns.any (· == k))) := Et.compare hl hr (fun g va vb x y => by
      cases x
      cases y with
      | list hl hI => exact Gp.val fun s Q E _ _ inn hQ => notin_list_ints (hl.inn inn) hI.ints (hQ _ s.toks (.bool _))) hm
theorem gpb_list {ds : List D} (hz : ds.length ≤ 16000000) {g : Part} {v : Value} (h : Is g v (.list ds)) : Gpb c g (truthy v) (!ds.isEmpty) := by
  cases h with
  | @list a vs _ hl hI =>
    refine Gpb.val fun s Q E _ _ inn hQ => wpAny_truthy_list (hl.inn inn) (by rw [List.size_toArray, hI.length]; omega) ?_
    have : (!vs.toArray.isEmpty) = !ds.isEmpty := by
      cases hI <;> simp
    rw [this]; exact hQ _
theorem Et.list {e : Expr} {ds : List D} (h : Ev c ρ own e (.list ds)) (hz : ds.length ≤ 16000000) (he : ∀ env whole, isTrue e env whole = (do let v ← whole; standAt e.pos; holding [v] (truthy v)) := by intro _ _; rfl) : Et c ρ own e (!ds.isEmpty) := Et.plain h (fun _ _ x => gpb_list hz x) he

/-- data that are compared by value -/
def D.flat : D → Bool
  | .none | .str _ | .bytes _ => true
  | _ => false
theorem eqAt_flat {A : Around} {s : Shared} {g : Part} {v u : Value} {d : D} (hd : d.flat = true) (h₁ : Is g v d) (h₂ : Is g u d) : SeqAt.EqAt A s v u true := by
  cases d with
  | none => cases h₁; cases h₂; exact SeqAt.EqAt.same _
  | str x =>
    cases h₁ with
    | str _ t => cases h₂ with
      | str _ u => have := SeqAt.EqAt.str_str (A := A) (s := s) x t x u; simpa using this
  | bytes x =>
    cases h₁ with
    | bytes _ t => cases h₂ with
      | bytes _ u =>
        intro prog w E Q h
        unfold eqBool
        refine wpAny_holding ?_
        refine wpAny_ite_split (fun _ => wpAny_bind (wpAny_rule (wpAny_pure h))) fun _ => ?_
        refine wpAny_bind (richCompare_gives (typeIs_bytes s x t) (typeIs_bytes s x u) FB.slot_bytes_eq FB.entry_bytes_eq (FB.args_bytes_eq_2 _ _) (gives_bytes_eq x x t u) (fun x => nomatch x) ?_)
        have : (x.toList == x.toList) = true := by simp
        rw [this]
        exact wpAny_truthy_bool h
  | _ => cases hd
theorem gp_neSame {ds : List D} (hd : ds.all D.flat = true) {g : Part} {va vb : Value} (ha : Is g va (.list ds)) (hb : Is g vb (.list ds)) : Gp c g (compareOp .NotEq va vb) (.bool false) := by
  cases ha with
  | @list a vs _ hl hI =>
    cases hb with
    | @list b ws _ hl2 hI2 =>
      refine Gp.val fun s Q E ok _ inn hQ => ?_
      have hl1 := hl.inn inn
      have hl2 := hl2.inn inn
      have hsz : vs.toArray.size = ws.toArray.size := by simp [hI.length, hI2.length]
      have key := SeqAt.RcNeAt.lists (A := c.A) (e := fun _ => true) hl1 hl2 hsz (by have := ok.rm.units; omega) (fun j h1 h2 => by
        have q1 : vs[j]? = some vs[j] := List.getElem?_eq_getElem _
        have q2 : ws[j]? = some ws[j] := List.getElem?_eq_getElem _
        obtain ⟨d, e1, i1⟩ := hI.get j _ q1
        obtain ⟨d', e2, i2⟩ := hI2.get j _ q2
        rw [e1] at e2; cases e2
        have hdd : d.flat = true := List.all_eq_true.mp hd d (List.mem_of_getElem? e1)
        exact eqAt_flat hdd i1 i2)
      refine key c.prog c.w E Q ?_
      have : (!(List.range vs.toArray.size).all fun _ => true) = false := by simp
      rw [this]
      exact hQ _ s.toks (.bool false)
theorem Et.neSame {l r : Expr} {pos : Pos} {ds : List D} (hl : Ev c ρ own l (.list ds)) (hr : Ev c ρ own r (.list ds)) (hd : ds.all D.flat = true) (hm : behindInMarks .NotEq r = false := by with_unfolding_all rfl) :
    Et c ρ own (.Compare l [.NotEq] [r] pos) false := Et.compare hl hr (fun g va vb x y => gp_neSame hd x y) hm

/-! ## type(x) -/
def D.tyName : D → Option String
  | .none => some "NoneType"
  | .bool _ => some "bool"
  | .int _ => some "int"
  | .str _ => some "str"
  | .bytes _ => some "bytes"
  | _ => Option.none
theorem gp_type {d : D} {T : String} (hd : d.tyName = some T) {g : Part} {v : Value} (h : Is g v d) : Gp c g (call (.type "type") [v]) (.ty T) := by
  have hT : ∀ s : Shared, s.TypeIs v T := fun s => by
    cases h <;> first | (cases hd; first | exact typeIs_int _ _ _ | exact typeIs_str _ _ _ | exact typeIs_bytes _ _ _ | rfl) | cases hd
  have hb : (Value.type T == Value.type "builtin_function_or_method") = false := by
    cases d <;> cases hd <;> decide
  exact Gp.val fun s Q E _ _ _ hQ => call_type_of (hT s) hb (hQ _ s.toks (.ty T))
theorem Ev.typeOf {e : Expr} {p pos : Pos} {d : D} {T : String} (h : Ev c ρ own e d) (hd : d.tyName = some T) (hs : ∀ x p, e ≠ .Starred x p := by intro _ _ q; cases q) (hk : c.env.kindOf "type" = some .globalImplicit := by rfl) :
    Ev c ρ own (.Call (.Name "type" p) [e] [] pos) (.ty T) :=
  Ev.callTy (T := "type") Boot.type (.cons h hs .nil) (fun g vs hI => by cases hI with | cons a b => cases b; exact gp_type hd a) (hk := hk)
end
end Mine

/-! text M14 -/
namespace Mine

/-! ## rows of numbers -/
def zs (ns : List Nat) : List Int := ns.map fun (n : Nat) => (n : Int)
def nl (ns : List Nat) : D := .list ((zs ns).map .int)
def bA (ns : List Nat) : Array UInt8 := byteArr (zs ns)
theorem zs_length (ns : List Nat) : (zs ns).length = ns.length := by simp [zs]
theorem zs_append (a b : List Nat) : zs (a ++ b) = zs a ++ zs b := by simp [zs]
theorem zsD_length (ns : List Nat) : ((zs ns).map D.int).length = ns.length := by simp [zs]
theorem zsD_get (ns : List Nat) (i : Nat) : ((zs ns).map D.int)[i]? = (ns[i]?).map fun (n : Nat) => D.int (n : Int) := by simp [zs]; rfl
theorem zsD_getD (ns : List Nat) (i : Nat) (h : i < ns.length) : ((zs ns).map D.int).getD i .none = .int ((ns.getD i 0 : Nat) : Int) := by
  simp [zs, List.getD, h]
theorem zs_mem {ns : List Nat} {B : Nat} (h : ∀ n ∈ ns, n < B) : ∀ n ∈ zs ns, 0 ≤ n ∧ n < (B : Int) := fun n hn => by
  obtain ⟨m, hm, rfl⟩ := List.mem_map.mp hn
  have := h m hm
  omega

def val (b : Nat) (fs : List Nat) : Nat := fs.foldl (fun v f => v * b + f) 0
theorem val_append (b : Nat) (fs : List Nat) (f : Nat) : val b (fs ++ [f]) = val b fs * b + f := by simp [val]
theorem val_take {b : Nat} {fs : List Nat} {i : Nat} (h : i < fs.length) : val b (fs.take (i + 1)) = val b (fs.take i) * b + fs.getD i 0 := by
  rw [List.take_add_one, List.getElem?_eq_getElem h]; show val b (fs.take i ++ [fs[i]]) = _; rw [val_append]; simp [List.getD, h]

/-- the digits of v, k of them, the highest first -/
def digits (b k v : Nat) : List Nat := ((List.range k).map fun j => v / b ^ j % b).reverse
theorem digits_lt {b k v : Nat} (hb : 0 < b) : ∀ n ∈ digits b k v, n < b := fun n hn => by
  obtain ⟨j, _, rfl⟩ := List.mem_map.mp (List.mem_reverse.mp hn)
  exact Nat.mod_lt _ hb
theorem digits_length (b k v : Nat) : (digits b k v).length = k := by simp [digits]
def octs (fs : List Nat) : List Nat := digits 256 (fs.length * 6 / 8) (val 64 fs / 2 ^ (fs.length * 6 - fs.length * 6 / 8 * 8))
def figs (row : List Nat) : List Nat := digits 64 ((row.length * 4 + 2) / 3) (val 256 row * 2 ^ ((row.length * 4 + 2) / 3 * 6 - row.length * 8)) ++ List.replicate ((3 - row.length % 3) % 3) 64

section
variable {prog : Program} {w : World} {mg mb : Str → Option Value}

theorem mulOk {a : Int} {b : Int} (h : Builtin.Int.intBits b ≤ 64 := by decide) : IntMulOk a b := IntMulOk.of_right h

theorem flatMap_one {α β : Type} (l : List α) (f : α → β) : l.flatMap (fun x => [f x]) = l.map f := by
  induction l <;> simp_all
theorem zsD_reverse (ns : List Nat) : ((zs ns).map D.int).reverse = (zs ns.reverse).map D.int := by simp [zs, List.map_reverse]
theorem zsD_map (k : Nat) (f : Nat → Nat) : (List.range k).map (fun j => D.int ((f j : Nat) : Int)) = (zs ((List.range k).map f)).map D.int := by simp [zs]

/-- _law_octets -/
theorem con_octets (fs : List Nat) (hl : fs.length ≤ 100) : Con prog w mg mb 1 19 [] [nl fs] (.bytes (bA (octs fs))) := by
  refine Con.intro1 (x := "figures") fun A L f cd h₀ g₀ => ?_
  refine Ex.assign Ev.int ?_
  refine Ex.for (ItSrc.listD (ds := (zs fs).map .int) (Ev.name rfl)) (fun i ρ own => own = [] ∧ ρ "figures" = some (nl fs) ∧ ρ "value" = some (.int (val 64 (fs.take i)))) ⟨rfl, rfl, rfl⟩ ?_ ?_
  · rintro i ρ own hi ⟨rfl, hf, hv⟩
    rw [zsD_length] at hi
    refine ⟨(·.set "figure" (.int (fs.getD i 0 : Nat))), fun g v h g' hs hI _ => Bind.name (by have := Is.sub hs hI; dsimp only at this; rwa [zsD_getD _ _ hi] at this) rfl, ?_⟩
    refine Ex.assign (Ev.add (Ev.mul (Ev.name hv) Ev.int mulOk) (Ev.name rfl)) (Ex.nil ⟨rfl, hf, ?_⟩)
    rw [val_take hi]; show some (D.int _) = _; push_cast; rfl
  · rintro ρ own ⟨rfl, hf, hv⟩
    rw [zsD_length, List.take_length] at hv
    refine Ex.assign (d := .int ((fs.length * 6 / 8 : Nat) : Int)) (Ev.eq (Ev.div (Ev.mul (Ev.lenList (Ev.name hf) (by rw [zsD_length]; omega)) Ev.int mulOk) Ev.int (by decide) (by decide)) ?_) ?_
    · rw [zsD_length]; push_cast; rfl
    refine Ex.aug (d := .int ((val 64 fs / 2 ^ (fs.length * 6 - fs.length * 6 / 8 * 8) : Nat) : Int)) (a := .int (val 64 fs)) (b := .int ((2 ^ (fs.length * 6 - fs.length * 6 / 8 * 8) : Nat) : Int)) hv (Ev.eq (Ev.pow Ev.int (Ev.sub (Ev.mul (Ev.lenList (Ev.name hf) (by rw [zsD_length]; omega)) Ev.int mulOk) (Ev.mul (Ev.name rfl) Ev.int mulOk)) ?_ ?_ (by decide)) ?_) ?_ ?_
    · rw [zsD_length]; omega
    · rw [zsD_length]; omega
    · rw [zsD_length]
      have : ((fs.length : Int) * 6 - ((fs.length * 6 / 8 : Nat) : Int) * 8).toNat = fs.length * 6 - fs.length * 6 / 8 * 8 := by omega
      rw [this]; push_cast; rfl
    · intro g va vb x y
      have hp : (0 : Int) < ((2 ^ (fs.length * 6 - fs.length * 6 / 8 * 8) : Nat) : Int) := by exact_mod_cast Nat.two_pow_pos _
      have := gp_idiv (c := fnCx prog w A 0 mg mb 19 L f cd h₀ g₀) hp (by rw [Int.natAbs_natCast, Nat.log2_two_pow]; omega) x y
      rwa [← Int.natCast_ediv] at this
    refine Ex.ret (d := .bytes (bA (octs fs))) (Ev.bytes (ns := zs (octs fs)) (Ev.eq (Ev.revList (Ev.compN (ItSrc.range (n := fs.length * 6 / 8) (Ev.name rfl) (by omega)) (compOk_of rfl (.cons rfl .nil) rfl rfl rfl rfl rfl) (fun j => [.int ((val 64 fs / 2 ^ (fs.length * 6 - fs.length * 6 / 8 * 8) / 256 ^ j % 256 : Nat) : Int)]) ?_ (by omega) rfl (fun _ _ _ => rfl)) (Ev.neg Ev.int) ?_) ?_) ?_ ?_) rfl
    · intro C h₀' g₀' own' j hj
      refine .plain (Ev.eq (Ev.mod (Ev.div (Ev.name rfl) (Ev.pow Ev.int (Ev.name rfl) (by omega) (by omega) (by decide)) ?_ ?_) Ev.int (by decide)) ?_)
      · exact Int.pow_pos (by decide)
      · have e : ((256 : Int) ^ (j : Int).toNat).natAbs = 2 ^ (8 * j) := by rw [Int.toNat_natCast, Int.natAbs_pow, Nat.pow_mul]; rfl
        rw [e, Nat.log2_two_pow]; omega
      · rw [Int.toNat_natCast]; push_cast; rfl
    · rw [flatMap_one, List.length_map, List.length_range]; omega
    · rw [flatMap_one, zsD_map, zsD_reverse]; rfl
    · exact zs_mem (B := 256) (digits_lt (by decide))
    · rw [zs_length, octs, digits_length]; omega

theorem lenNat {c : Cx} {ρ : Vars} {own : Own} {e : Expr} {p pos : Pos} {ns : List Nat} (h : Ev c ρ own e (nl ns)) (hz : ns.length ≤ 16000000) (hs : ∀ x p, e ≠ .Starred x p := by intro _ _ q; cases q) (hk : c.env.kindOf "len" = some .globalImplicit := by rfl) :
    Ev c ρ own (.Call (.Name "len" p) [e] [] pos) (.int ns.length) := (Ev.lenList h (by rw [zsD_length]; exact hz) hs hk).eq (by rw [zsD_length])
theorem bA_size (ns : List Nat) : (bA ns).size = ns.length := by simp [bA, byteArr_size, zs_length]
theorem bA_getD {ns : List Nat} (h : ∀ n ∈ ns, n < 256) (i : Nat) (hi : i < ns.length) : ((bA ns).getD i 0).toNat = ns.getD i 0 := by
  have hlt := h (ns.getD i 0) (by simp [List.getD, hi])
  simp [List.getD, hi] at hlt
  simp [bA, byteArr, zs, Array.getD, List.getD, hi]
  omega
theorem lenBytesN {c : Cx} {ρ : Vars} {own : Own} {e : Expr} {p pos : Pos} {ns : List Nat} (h : Ev c ρ own e (.bytes (bA ns))) (hz : ns.length ≤ 16000000) (hs : ∀ x p, e ≠ .Starred x p := by intro _ _ q; cases q) (hk : c.env.kindOf "len" = some .globalImplicit := by rfl) :
    Ev c ρ own (.Call (.Name "len" p) [e] [] pos) (.int ns.length) := (Ev.lenBytes h (by rw [bA_size]; exact hz) hs hk).eq (by rw [bA_size])

/-- _law_figures -/
theorem con_figures (row : List Nat) (hl : row.length ≤ 100) (hr : ∀ n ∈ row, n < 256) : Con prog w mg mb 1 20 [] [.bytes (bA row)] (nl (figs row)) := by
  refine Con.intro1 (x := "row") fun A L f cd h₀ g₀ => ?_
  refine Ex.assign (d := .int (((row.length * 4 + 2) / 3 : Nat) : Int)) (Ev.eq (Ev.div (Ev.add (Ev.mul (lenBytesN (Ev.name rfl) (by omega)) Ev.int mulOk) Ev.int) Ev.int (by decide) (by decide)) ?_) ?_
  · push_cast; rfl
  refine Ex.assign Ev.int ?_
  refine Ex.for (ItSrc.bytesD (b := bA row) (Ev.name rfl)) (fun i ρ own => own = [] ∧ ρ "row" = some (.bytes (bA row)) ∧ ρ "count" = some (.int (((row.length * 4 + 2) / 3 : Nat) : Int)) ∧ ρ "value" = some (.int (val 256 (row.take i)))) ⟨rfl, rfl, rfl, rfl⟩ ?_ ?_
  · rintro i ρ own hi ⟨rfl, hf, hc, hv⟩
    rw [bA_size] at hi
    refine ⟨(·.set "octet" (.int (row.getD i 0 : Nat))), fun g v h g' hs hI _ => Bind.name (by have := Is.sub hs hI; dsimp only at this; rwa [bA_getD hr _ hi] at this) rfl, ?_⟩
    refine Ex.assign (Ev.add (Ev.mul (Ev.name hv) Ev.int mulOk) (Ev.name rfl)) (Ex.nil ⟨rfl, hf, hc, ?_⟩)
    rw [val_take hi]; show some (D.int _) = _; push_cast; rfl
  · rintro ρ own ⟨rfl, hf, hc, hv⟩
    rw [bA_size, List.take_length] at hv
    refine Ex.aug (d := .int ((val 256 row * 2 ^ ((row.length * 4 + 2) / 3 * 6 - row.length * 8) : Nat) : Int)) (a := .int (val 256 row)) (b := .int ((2 ^ ((row.length * 4 + 2) / 3 * 6 - row.length * 8) : Nat) : Int)) hv
      (Ev.eq (Ev.pow Ev.int (Ev.sub (Ev.mul (Ev.name hc) Ev.int mulOk) (Ev.mul (lenBytesN (Ev.name hf) (by omega)) Ev.int mulOk)) ?_ ?_ (by decide)) ?_) ?_ ?_
    · omega
    · omega
    · have : ((((row.length * 4 + 2) / 3 : Nat) : Int) * 6 - (row.length : Int) * 8).toNat = (row.length * 4 + 2) / 3 * 6 - row.length * 8 := by omega
      rw [this]; push_cast; rfl
    · intro g va vb x y
      have := gp_imul (c := fnCx prog w A 0 mg mb 20 L f cd h₀ g₀) (IntMulOk.of_right (a := ((val 256 row : Nat) : Int)) (b := ((2 ^ ((row.length * 4 + 2) / 3 * 6 - row.length * 8) : Nat) : Int)) ?_) x y
      · rwa [← Int.natCast_mul] at this
      · have hk : (row.length * 4 + 2) / 3 * 6 - row.length * 8 ≤ 4 := by omega
        generalize (row.length * 4 + 2) / 3 * 6 - row.length * 8 = q at hk ⊢
        have : q = 0 ∨ q = 1 ∨ q = 2 ∨ q = 3 ∨ q = 4 := by omega
        rcases this with rfl | rfl | rfl | rfl | rfl <;> decide
    have efin : nl (figs row) = .list (((List.range ((row.length * 4 + 2) / 3)).flatMap (fun j => [D.int ((val 256 row * 2 ^ ((row.length * 4 + 2) / 3 * 6 - row.length * 8) / 64 ^ j % 64 : Nat) : Int)])).reverse ++ (List.replicate (((3 - row.length % 3) % 3 : Nat) : Int).toNat [D.int 64]).flatten) := by
      rw [flatMap_one, zsD_map, zsD_reverse, Int.toNat_natCast]
      unfold nl figs
      rw [zs_append, List.map_append]
      congr 2
      simp [zs]
    rw [efin]
    refine Ex.ret (Ev.addList ?_ ?_ ?_) rfl
    · refine Ev.revList ?_ (Ev.neg Ev.int) ?_
      · refine Ev.compN (ItSrc.range (n := (row.length * 4 + 2) / 3) (Ev.name (by exact hc)) (by omega)) (compOk_of rfl (.cons rfl .nil) rfl rfl rfl rfl rfl) (fun j => [.int ((val 256 row * 2 ^ ((row.length * 4 + 2) / 3 * 6 - row.length * 8) / 64 ^ j % 64 : Nat) : Int)]) ?_ (by omega) rfl (fun _ _ _ => rfl)
        intro C h₀' g₀' own' j hj
        refine .plain (Ev.eq (Ev.mod (Ev.div (Ev.name rfl) (Ev.pow Ev.int (Ev.name rfl) (by omega) (by omega) (by decide)) ?_ ?_) Ev.int (by decide)) ?_)
        · exact Int.pow_pos (by decide)
        · have e : ((64 : Int) ^ (j : Int).toNat).natAbs = 2 ^ (6 * j) := by rw [Int.toNat_natCast, Int.natAbs_pow, Nat.pow_mul]; rfl
          rw [e, Nat.log2_two_pow]; omega
        · rw [Int.toNat_natCast]; push_cast; rfl
      · rw [flatMap_one, List.length_map, List.length_range]; omega
    · refine Ev.mulList (x := (((3 - row.length % 3) % 3 : Nat) : Int)) (Ev.list (.cons Ev.int (by intro _ _ q; cases q) .nil)) (Ev.eq (Ev.mod (Ev.neg (lenBytesN (Ev.name (by exact hf)) (by omega))) Ev.int (by decide)) ?_) ?_ ?_ ?_
      · congr 1; omega
      · omega
      · omega
      · simp; omega
    · rw [flatMap_one]; simp; omega
end
end Mine

/-! text M15 -/
namespace Mine

section
variable {prog : Program} {w : World} {mg mb : Str → Option Value}

/-- _b64_value -/
theorem con_b64v (n : Int) : Con prog w mg mb 1 12 [] [.int n] (.int (b64v n)) := by
  refine Con.intro1 (x := "c") fun A L f cd h₀ g₀ => ?_
  refine Ex.ite (Et.chain Ev.int (Ev.name rfl) Ev.int (fun _ _ _ x y => gp_le x y) (fun _ _ _ x y => gp_le x y)) (fun ht => ?_) fun ht => Ex.nil ?_
  · refine Ex.ret (Ev.sub (Ev.name rfl) Ev.int) ?_
    simp at ht; show D.int _ = _; unfold b64v; rw [if_pos ht]
  refine Ex.ite (Et.chain Ev.int (Ev.name rfl) Ev.int (fun _ _ _ x y => gp_le x y) (fun _ _ _ x y => gp_le x y)) (fun ht2 => ?_) fun ht2 => Ex.nil ?_
  · refine Ex.ret (Ev.sub (Ev.name rfl) Ev.int) ?_
    simp at ht ht2; show D.int _ = _; unfold b64v; rw [if_neg (by omega), if_pos ht2]
  refine Ex.ite (Et.chain Ev.int (Ev.name rfl) Ev.int (fun _ _ _ x y => gp_le x y) (fun _ _ _ x y => gp_le x y)) (fun ht3 => ?_) fun ht3 => Ex.nil ?_
  · refine Ex.ret (Ev.add (Ev.name rfl) Ev.int) ?_
    simp at ht ht2 ht3; show D.int _ = _; unfold b64v; rw [if_neg (by omega), if_neg (by omega), if_pos ht3]
  refine Ex.ite (Et.eqi (Ev.name rfl) Ev.int) (fun ht4 => ?_) fun ht4 => Ex.nil ?_
  · refine Ex.ret Ev.int ?_
    simp at ht ht2 ht3 ht4; show D.int _ = _; unfold b64v; rw [if_neg (by omega), if_neg (by omega), if_neg (by omega), if_pos ht4]
  refine Ex.ite (Et.eqi (Ev.name rfl) Ev.int) (fun ht5 => ?_) fun ht5 => Ex.nil ?_
  · refine Ex.ret Ev.int ?_
    simp at ht ht2 ht3 ht4 ht5; show D.int _ = _; unfold b64v; rw [if_neg (by omega), if_neg (by omega), if_neg (by omega), if_neg ht4, if_pos ht5]
  refine Ex.ret Ev.int ?_
  simp at ht ht2 ht3 ht4 ht5; show D.int _ = _; unfold b64v; rw [if_neg (by omega), if_neg (by omega), if_neg (by omega), if_neg ht4, if_neg ht5]

/-- _law_run -/
def runOf (piece : List Nat) (slash : Int) : Nat := (piece.reverse.takeWhile fun (f : Nat) => (f : Int) == slash).length
theorem takeWhile_step {α : Type} (p : α → Bool) : ∀ (l : List α) (r : Nat), r ≤ (l.takeWhile p).length → (∀ x, l[r]? = some x → p x = true → r + 1 ≤ (l.takeWhile p).length) ∧ ((∀ x, l[r]? = some x → p x = false) → (l.takeWhile p).length = r)
  | [], r, h => by simp at h; subst h; simp
  | x :: l, r, h => by
    by_cases hp : p x = true
    · rw [List.takeWhile_cons_of_pos hp] at h ⊢
      cases r with
      | zero => simp [hp]
      | succ r =>
        simp at h
        obtain ⟨h1, h2⟩ := takeWhile_step p l r h
        simp; exact ⟨h1, h2⟩
    · rw [List.takeWhile_cons_of_neg hp] at h ⊢
      simp at h; subst h
      simp; simpa using hp
theorem rev_get {α : Type} (l : List α) (r : Nat) (h : r < l.length) : l.reverse[r]? = l[l.length - 1 - r]? := by
  rw [List.getElem?_reverse h]

theorem runOf_le (piece : List Nat) (slash : Int) : runOf piece slash ≤ piece.length := by
  have := (List.takeWhile_sublist (l := piece.reverse) (fun f : Nat => (f : Int) == slash)).length_le
  unfold runOf; simpa using this

theorem con_run (piece : List Nat) (slash : Int) (hl : piece.length ≤ 1000) : Con prog w mg mb 1 22 [] [nl piece, .int slash] (.int (runOf piece slash)) := by
  refine Con.intro2 (x := "piece") (y := "slash") fun A L f cd h₀ g₀ => ?_
  refine Ex.assign Ev.int ?_
  refine Ex.while (fun k ρ own => ∃ r : Nat, r ≤ runOf piece slash ∧ k = piece.length - r ∧ own = [] ∧ ρ "piece" = some (nl piece) ∧ ρ "slash" = some (.int slash) ∧ ρ "run" = some (.int r)) piece.length ⟨0, by omega, by omega, rfl, rfl, rfl, rfl⟩ ?_
  rintro k ρ own ⟨r, hr, rfl, rfl, h1, h2, h3⟩
  have hrl := runOf_le piece slash
  by_cases hlt : r < piece.length
  · have hg : piece[piece.length - 1 - r]? = some (piece.getD (piece.length - 1 - r) 0) := by
      rw [List.getD_eq_getElem?_getD]; rw [List.getElem?_eq_getElem (by omega)]; rfl
    obtain ⟨s1, s2⟩ := takeWhile_step (fun f : Nat => (f : Int) == slash) piece.reverse r hr
    rw [rev_get _ _ hlt, hg] at s1 s2
    refine ⟨_, Et.ands (t := true) (u := ((piece.getD (piece.length - 1 - r) 0 : Nat) : Int) == slash) (Et.eq (Et.lt (Ev.name h3) (lenNat (Ev.name h1) (by omega))) (by simp; omega)) (fun _ => Et.ands1 (Et.eqi (Ev.itemListNeg (ds := (zs piece).map .int) (k := -1 - r) (Ev.name h1) (Ev.sub (Ev.neg Ev.int) (Ev.name h3)) (by omega) (by rw [zsD_length]; omega) (by omega) ?_) (Ev.name h2))), fun ht => ?_, fun ht => ?_⟩
    · rw [zsD_length, zsD_get]
      have : (-1 - (r : Int) + (piece.length : Int)).toNat = piece.length - 1 - r := by omega
      rw [this, hg]; rfl
    · refine Ex.aug h3 Ev.int (fun _ _ _ x y => gp_iadd x y) (Ex.nil ⟨piece.length - (r + 1), by omega, r + 1, s1 _ rfl (by simpa using ht), by omega, rfl, h1, h2, ?_⟩)
      show some (D.int _) = _; push_cast; rfl
    · refine Ex.ret (Ev.name h3) ?_
      have := s2 (fun x e => by cases e; simpa using ht)
      show D.int _ = D.int _; unfold runOf; rw [this]
  · refine ⟨_, Et.ands (t := false) (u := true) (Et.eq (Et.lt (Ev.name h3) (lenNat (Ev.name h1) (by omega))) (by simp; omega)) (fun q => nomatch q), (fun ht => nomatch ht), fun ht => ?_⟩
    refine Ex.ret (Ev.name h3) ?_
    show D.int _ = D.int _
    have : r = runOf piece slash := by omega
    rw [this]

theorem ElOut.test {c : Cx} {ρ : Vars} {own : Own} {elt t : Expr} {b : Bool} {d : D} (h : Et c ρ own t b) (h' : b = true → Ev c ρ own elt d) : ElOut c ρ own elt [t] (if b then [d] else []) := by
  cases b with
  | true => exact .yes h (h' rfl)
  | false => exact .no h
theorem bounds_take {n i : Nat} (h : i + 1 ≤ n) : sliceBounds none (some ((i : Int) + 1)) none n = (((0 : Nat) : Int), ((i + 1 : Nat) : Int), 1) := by
  simp [sliceBounds]; omega
/-- _law_halved -/
def halved (piece : List Nat) (slash : Int) : List Nat := (List.range piece.length).flatMap fun i => if ((piece.getD i 0 : Int) != slash || runOf (piece.take (i + 1)) slash % 2 == 0) then [piece.getD i 0] else []
theorem range_getD {α : Type} (l : List α) (d : α) : (List.range l.length).map (fun i => l.getD i d) = l := by
  apply List.ext_getElem
  · simp
  · intro i h1 h2; simp [List.getD]
    simp at h1; simp [h1]
theorem halved_none {piece : List Nat} {slash : Int} (h : (zs piece).any (· == slash) = false) : halved piece slash = piece := by
  unfold halved
  have : (List.range piece.length).flatMap (fun i => if ((piece.getD i 0 : Int) != slash || runOf (piece.take (i + 1)) slash % 2 == 0) then [piece.getD i 0] else []) = (List.range piece.length).flatMap fun i => [piece.getD i 0] := by
    rw [List.flatMap_def, List.flatMap_def]
    congr 1
    apply List.map_congr_left
    intro i hi
    rw [List.mem_range] at hi
    have hm : (piece.getD i 0 : Int) ∈ zs piece := by
      unfold zs; exact List.mem_map_of_mem (by simp [List.getD, hi])
    have := List.any_eq_false.mp h _ hm
    have q : ((piece.getD i 0 : Int) != slash) = true := by simpa using this
    rw [q]; rfl
  rw [this, flatMap_one, range_getD]
theorem map_flatMap {α β γ : Type} (l : List α) (f : α → List β) (g : β → γ) : (l.flatMap f).map g = l.flatMap fun x => (f x).map g := by
  rw [List.map_flatMap]

theorem con_halved (piece : List Nat) (slash : Int) (hl : piece.length ≤ 1000) : Con prog w mg mb 2 23 [] [nl piece, .int slash] (nl (halved piece slash)) := by
  refine Con.intro2 (x := "piece") (y := "slash") fun A L f cd h₀ g₀ => ?_
  refine Ex.ite (Et.notinInts (ns := zs piece) (Ev.name rfl) (Ev.name rfl)) (fun ht => ?_) fun ht => Ex.nil ?_
  · refine Ex.ret (Ev.name rfl) ?_
    show nl piece = _; rw [halved_none (by simpa using ht)]
  have e : nl (halved piece slash) = .list ((List.range ((zs piece).map D.int).length).flatMap fun i => if ((piece.getD i 0 : Int) != slash || runOf (piece.take (i + 1)) slash % 2 == 0) then [D.int ((piece.getD i 0 : Nat) : Int)] else []) := by
    rw [zsD_length]
    unfold nl halved zs
    rw [map_flatMap, map_flatMap]
    congr 2
    funext i
    split <;> rfl
  rw [e]
  refine Ex.ret (Ev.compP (ItSrc.enum (ds := (zs piece).map .int) (Ev.name rfl)) (compOk_of rfl (.cons rfl (.cons rfl .nil)) rfl rfl rfl rfl rfl) (fun i => if ((piece.getD i 0 : Int) != slash || runOf (piece.take (i + 1)) slash % 2 == 0) then [D.int ((piece.getD i 0 : Nat) : Int)] else []) ?_ (by rw [zsD_length]; omega) rfl rfl (fun _ _ _ => ⟨rfl, rfl⟩)) rfl
  intro C h₀' g₀' own' i hi
  rw [zsD_length] at hi
  rw [zsD_getD _ _ hi]
  refine ElOut.test (Et.eq (Et.ors (Et.nei (Ev.name rfl) (Ev.name rfl)) fun _ => Et.ors1 (Et.eqi (Ev.mod (Ev.call (con_run (piece.take (i + 1)) slash (by simp; omega)) (.cons ?_ (by intro _ _ q; cases q) (.cons (Ev.name rfl) (by intro _ _ q; cases q) .nil))) Ev.int (by decide)) Ev.int)) ?_) fun _ => Ev.name rfl
  · refine (Ev.sliceList (a := 0) (b := i + 1) (ds := (zs piece).map .int) (Ev.name rfl) .none (.some (Ev.add (Ev.name rfl) Ev.int)) ?_ (by rw [zsD_length]; omega)).eq ?_
    · rw [zsD_length]; exact bounds_take (by omega)
    · simp [nl, zs, List.map_take]
  · congr 1
    rw [Bool.eq_iff_iff]; simp; omega
end
end Mine

/-! text M16 -/
namespace Mine
section
open PySem.Builtin
theorem forIn_yields {α β : Type} (f : α → β → Sem (ForInStep β)) (S : Nat → β) : ∀ (l : List α) (i : Nat), (∀ j (h : j < l.length), f l[j] (S (i + j)) = pure (.yield (S (i + j + 1)))) → forIn l (S i) f = pure (S (i + l.length))
  | [], i, _ => rfl
  | a :: l, i, h => by
    rw [List.forIn_cons]
    have h0 : f a (S i) = pure (.yield (S (i + 1))) := h 0 (by simp)
    rw [h0]
    show forIn l (S (i + 1)) f = _
    rw [forIn_yields f S l (i + 1) (fun j hj => by
      have := h (j + 1) (by simp; omega)
      simpa [Nat.add_assoc, Nat.add_comm 1] using this)]
    simp [Nat.add_assoc, Nat.add_comm 1]
theorem forIn_bind_yields {α β γ : Type} {f : α → β → Sem (ForInStep β)} {k : β → Sem γ} {r : Sem γ} (S : Nat → β) (l : List α) (init : β) (h0 : init = S 0) (step : ∀ j (h : j < l.length), f l[j] (S j) = pure (.yield (S (j + 1)))) (fin : k (S l.length) = r) : (forIn l init f >>= k) = r := by
  subst h0
  rw [forIn_yields f S l 0 (by simpa using step), Nat.zero_add]; exact fin
theorem forIn_bind_first {α β γ : Type} {f : α → β → Sem (ForInStep β)} {k : β → Sem γ} {r : Sem γ} {a : α} {l : List α} {init s₁ : β} (h1 : f a init = pure (.yield s₁)) (h2 : ∀ b, f b s₁ = pure (.done s₁)) (fin : k s₁ = r) : (forIn (a :: l) init f >>= k) = r := by
  rw [List.forIn_cons, h1]
  show (forIn l s₁ f >>= k) = r
  cases l with
  | nil => exact fin
  | cons b l => rw [List.forIn_cons, h2]; exact fin
/-- the signs' octets -/
def asciiOf (x : PySem.Str) : Array UInt8 := x.cps.map (·.toUInt8)
theorem run_eq {b : Array UInt8} {id : String} (h : ∀ c ∈ b, c.toNat < 128) (hz : b.size ≤ 16000000) : _codecs.runDecoder id _codecs.asciiDecoder none true b 0 [] = pure (b.map (·.toNat), b.size) := by
  unfold _codecs.runDecoder
  dsimp only
  rw [Std.Legacy.Range.forIn_eq_forIn_range']
  refine forIn_bind_yields (fun i => (i, ((b.toList.take i).map (·.toNat)).toArray, ({} : _codecs.Faults))) _ _ rfl ?_ ?_
  · intro j hj
    have hj : j < b.size := by simpa using hj
    have hs : ¬ (((b.toList.take j).map (·.toNat)).toArray.size > sizeLine) := by rw [sizeLine_eq]; simp; omega
    have hp : ¬ (j ≥ b.size) := by omega
    have hc : (b.getD j 0).toNat < 128 := h _ (by simp [Array.getD, hj])
    have hf : _codecs.asciiDecoder.find true b j = .text [(b.getD j 0).toNat] (j + 1) := by
      show (if (b.getD j 0).toNat < 128 then _codecs.Found.char _ _ else _) = _
      rw [if_pos hc]; rfl
    dsimp only
    rw [if_neg hs, if_neg hp, hf]
    dsimp only
    congr 4
    rw [List.take_add_one]
    simp [Array.getD, hj]
  · have e : ((b.toList.take (List.range' [:b.size].start [:b.size].size [:b.size].step).length).map (·.toNat)).toArray = b.map (·.toNat) := by
      have : (List.range' [:b.size].start [:b.size].size [:b.size].step).length = b.toList.length := by simp
      rw [this, List.take_length]; apply Array.ext'; simp
    have e2 : (List.range' [:b.size].start [:b.size].size [:b.size].step).length = b.size := by simp
    dsimp only
    rw [e, e2]
theorem range_of (n : Nat) : List.range' [:n].start [:n].size [:n].step = List.range' 0 n := by simp [Std.Legacy.Range.size]
theorem foldl_bytes (l : List Nat) (acc : Array UInt8) : l.foldl (fun acc y => acc ++ (_codecs.asciiCodec.bytesOf y).toArray) acc = acc ++ (l.map (·.toUInt8)).toArray := by
  induction l generalizing acc with
  | nil => simp
  | cons a l ih =>
    rw [List.foldl_cons, ih]
    apply Array.ext'
    simp
    rfl
theorem narrow_eq {x : PySem.Str} {v : Value} {id : String} (h : ∀ c ∈ x.cps, c < 128) (hz : x.cps.size ≤ 16000000) : _codecs.encodeNarrow id _codecs.asciiCodec none v x = pure (asciiOf x) := by
  unfold _codecs.encodeNarrow
  dsimp only
  rw [Std.Legacy.Range.forIn_eq_forIn_range']
  rw [range_of]
  obtain ⟨⟨l⟩⟩ := x
  cases l with
  | nil =>
    have e : asciiOf ⟨⟨[]⟩⟩ = #[] := by simp [asciiOf]
    rw [e]; rfl
  | cons c l =>
    show (forIn (0 :: List.range' 1 l.length) _ _ >>= _) = _
    have hbad : ∀ y ∈ (c :: l), _codecs.asciiCodec.bad y = false := fun y hy => by
      have := h y (by simpa using hy)
      show decide (y ≥ 128) = false
      simp; omega
    refine forIn_bind_first (s₁ := ((l.length + 1 : Nat), asciiOf ⟨⟨c :: l⟩⟩, ({} : _codecs.Faults))) ?_ ?_ rfl
    · have h0 : ¬ ((#[] : Array UInt8).size > sizeLine) := by simp
      dsimp only
      rw [if_neg h0]
      have hx : (⟨c :: l⟩ : Array Nat)[0]? = some c := rfl
      rw [hx]
      dsimp only
      rw [hbad c (.head _)]
      rw [if_pos (show (!false) = true from rfl)]
      have hr : (⟨c :: l⟩ : Array Nat).extract 0 (⟨c :: l⟩ : Array Nat).size = ⟨c :: l⟩ := by simp
      rw [hr]
      have hn : (⟨c :: l⟩ : Array Nat).findIdx? _codecs.asciiCodec.bad = none := by
        rw [Array.findIdx?_eq_none_iff]; intro y hy; rw [hbad y (by simpa using hy)]
      rw [hn]
      dsimp only [Option.getD_none]
      rw [hr]
      have e1 : 0 + (⟨c :: l⟩ : Array Nat).size = l.length + 1 := by simp
      have e2 : Array.foldl (fun acc y => acc ++ (_codecs.asciiCodec.bytesOf y).toArray) #[] (⟨c :: l⟩ : Array Nat) = asciiOf ⟨⟨c :: l⟩⟩ := by
        rw [← Array.foldl_toList, foldl_bytes]
        apply Array.ext'; simp [asciiOf]
      rw [e1, e2]
    · intro b
      have h0 : ¬ ((asciiOf ⟨⟨c :: l⟩⟩).size > sizeLine) := by
        have : (⟨c :: l⟩ : Array Nat).size ≤ 16000000 := hz
        rw [sizeLine_eq]; simp [asciiOf] at this ⊢; omega
      dsimp only
      rw [if_neg h0]
      have hx : (⟨c :: l⟩ : Array Nat)[l.length + 1]? = none := by simp
      rw [hx]

theorem enc_eq {x : PySem.Str} {t u : Tok} : «str.encode» ⟨[.str x t, .str (PySem.Str.ofString "ascii") u], []⟩ = ((_codecs.encodeNarrow "str.encode" _codecs.asciiCodec none (.str x t) x >>= fun b => mkBytes b) >>= fun v => ret v) := by
  kernel_rfl
theorem dec_eq {c : UInt8} {cs : List UInt8} {t u : Tok} : «bytes.decode» ⟨[.bytes (c :: cs).toArray t, .str (PySem.Str.ofString "ascii") u], []⟩ = (mkStr (PySem.Str.ofString "utf-8") >>= fun _ => mkStr (PySem.Str.ofString "ascii") >>= fun e => mkStr (PySem.Str.ofString "bytes.decode") >>= fun d =>
    call (.builtin "_codecs.decode.text") [.bytes (c :: cs).toArray t, e, .none, d] >>= fun v => ret v) := by kernel_rfl
theorem road_eq {b : Array UInt8} {id : String} : _codecs.decodeRoad id b (PySem.Str.ofString "ascii") none [] = (_codecs.runDecoder id _codecs.asciiDecoder none true b 0 [] >>= fun r => mkStr ⟨r.1⟩) := by kernel_rfl
theorem meets_encode {x : PySem.Str} {t u : Tok} (h : ∀ c ∈ x.cps, c < 128) (hz : x.cps.size ≤ 16000000) :
    Meets («str.encode» ⟨[.str x t, .str (PySem.Str.ofString "ascii") u], []⟩) (fun _ R s => ∀ t' k, R (.ok (.ret (.bytes (asciiOf x) t'))) { s with toks := k }) := by
  refine .of_wp fun prog w A R s hS => ?_
  rw [enc_eq, narrow_eq h hz]
  refine wpAny_bind (wpAny_bind (wpAny_pure (wpAny_mkBytes (wpAny_pure ⟨_, rfl, hS _ _⟩) ?_)))
  rw [sizeLine_eq]; simp [asciiOf]; omega
theorem meets_text {b : Array UInt8} {t t1 t2 : Tok} {d : PySem.Str} (h : ∀ c ∈ b, c.toNat < 128) (hz : b.size ≤ 16000000) :
    Meets («_codecs.decode.text» ⟨[.bytes b t, .str (PySem.Str.ofString "ascii") t1, .none, .str d t2], []⟩) (fun _ R s => ∀ t' k, R (.ok (.ret (.str ⟨b.map (·.toNat)⟩ t'))) { s with toks := k }) := by
  refine .of_wp fun prog w A R s hS => ?_
  show wpAny _ _ (Bytes.bytesLike _ (.bytes b t) >>= fun r => _) _ _ s
  refine wpAny_bind (wpAny_of_eq KBd.like_eq ?_)
  refine wpAny_bind (wpAny_of_eq KBd.held_eq ?_)
  show wpAny _ _ (_codecs.decodeRoad _ b (PySem.Str.ofString "ascii") none [] >>= fun v => _) _ _ s
  rw [road_eq, run_eq h hz]
  refine wpAny_bind (wpAny_bind (wpAny_pure ?_))
  exact wpAny_mkStr (wpAny_pure ⟨_, rfl, hS _ _⟩) (by rw [sizeLine_eq]; show (b.map (·.toNat)).size ≤ _; simp; omega)
theorem meets_decode {c : UInt8} {cs : List UInt8} {t u : Tok} (h : ∀ x ∈ (c :: cs), x.toNat < 128) (hz : (c :: cs).length ≤ 16000000) :
    Meets («bytes.decode» ⟨[.bytes (c :: cs).toArray t, .str (PySem.Str.ofString "ascii") u], []⟩) (fun _ R s => ∀ t' k, R (.ok (.ret (.str ⟨(c :: cs).toArray.map (·.toNat)⟩ t'))) { s with toks := k }) := by
  refine .of_wp fun prog w A R s hS => ?_
  rw [dec_eq]
  refine wpAny_bind (wpAny_mkStr ?_ (by decide))
  refine wpAny_bind (wpAny_mkStr ?_ (by decide))
  refine wpAny_bind (wpAny_mkStr ?_ (by decide))
  refine wpAny_bind (call_function_meets KBd.kind_text KBd.plain_text KBd.entry_text (KBd.args_text _ _ _ _) (meets_text (fun x hx => h x (by simpa using hx)) (by simpa using hz)) fun t' k => wpAny_pure ⟨_, rfl, hS _ _⟩)
theorem args_bytes_decode_2 (a b : Value) : argsOk "bytes.decode" ⟨[a, b], []⟩ := by unfold argsOk; kernel_rfl

/-- the table of maketrans -/
def trTable (a b : Array UInt8) : Array UInt8 := (a.toList.zip b.toList).foldl (fun t (f, x) => t.setIfInBounds f.toNat x) ((Array.range 256).map (·.toUInt8))
theorem trTable_size (a b : Array UInt8) : (trTable a b).size = 256 := by
  unfold trTable
  have : ∀ (l : List (UInt8 × UInt8)) (t : Array UInt8), (l.foldl (fun t (f, x) => t.setIfInBounds f.toNat x) t).size = t.size := by
    intro l
    induction l with
    | nil => intro t; rfl
    | cons p l ih => intro t; rw [List.foldl_cons, ih]; simp
  rw [this]; simp
theorem meets_maketrans {a b : Array UInt8} {t u : Tok} (hs : a.size = b.size) :
    Meets («bytes.maketrans» ⟨[.bytes a t, .bytes b u], []⟩) (fun _ R s => ∀ t' k, R (.ok (.ret (.bytes (trTable a b) t'))) { s with toks := k }) := by
  refine .of_wp fun prog w A R s hS => ?_
  show wpAny _ _ (Bytes.bytesLike _ (.bytes a t) >>= fun r => _) _ _ s
  refine wpAny_bind (wpAny_of_eq KBd.like_eq ?_)
  show wpAny _ _ (Bytes.bytesLike _ (.bytes b u) >>= fun r => _) _ _ s
  refine wpAny_bind (wpAny_of_eq KBd.like_eq ?_)
  show wpAny _ _ (if (a.size != b.size) = true then _ else _) _ _ s
  rw [if_neg (by simp [hs])]
  refine wpAny_bind (wpAny_mkBytes (wpAny_pure ⟨_, rfl, hS _ _⟩) ?_)
  show (trTable a b).size ≤ _
  rw [trTable_size, sizeLine_eq]; decide
theorem meets_translate {b tb : Array UInt8} {t u : Tok} (hs : tb.size = 256) (hz : b.size ≤ 16000000) :
    Meets («bytes.translate» ⟨[.bytes b t, .bytes tb u], []⟩) (fun _ R s => ∀ t' k, R (.ok (.ret (.bytes (b.map fun c => tb.getD c.toNat c) t'))) { s with toks := k }) := by
  refine .of_wp fun prog w A R s hS => ?_
  unfold «bytes.translate» Bytes.translateM
  dsimp only [List.length_cons, List.length_nil]
  rw [if_neg (by decide), if_neg (by decide), if_neg (by simp)]
  refine wpAny_bind (wpAny_of_eq KBd.like_eq ?_)
  rw [if_neg (by simp [hs])]
  refine wpAny_bind (wpAny_pure ?_)
  show wpAny _ _ (pure #[] >>= fun delete => _) _ _ s
  refine wpAny_bind (wpAny_pure ?_)
  show wpAny _ _ (pure b >>= fun b_1 => _) _ _ s
  refine wpAny_bind (wpAny_pure ?_)
  have hf : Array.filter (fun x => !(#[] : Array UInt8).contains x) b = b := by simp
  rw [hf]
  dsimp only
  by_cases he : (Array.map (fun c => tb.getD c.toNat c) b == b) = true
  · rw [if_pos he]
    rw [eq_of_beq he] at hS
    refine wpAny_bind (wpAny_rule ?_)
    refine wpAny_bind (wpAny_of_eq (a := Value.bytes b t) ?_ (wpAny_pure ⟨_, rfl, hS t s.toks⟩))
    rfl
  · rw [if_neg he]
    exact wpAny_bind (wpAny_mkBytes (wpAny_pure ⟨_, rfl, hS _ _⟩) (by rw [sizeLine_eq]; simp; omega))
theorem slot_bytes_translate : Slot "bytes" "translate" "bytes.translate" :=
  .of (owner := "bytes") (n := "translate") (by rw [typeLookup_type, builtinLookup_eq_fast]; kernel_rfl) (by decide +kernel) (by decide +kernel) (by decide +kernel)
    (by first | exact .inl (by decide +kernel) | exact .inr (by decide +kernel)) (by rw [isSubtype_type]; kernel_rfl)
theorem type_bytes_translate : typeOf (.builtin "bytes.translate") = pure (.type "method_descriptor") := by show builtinType _ = _; rw [builtinType_eq_fast]; kernel_rfl
theorem entry_bytes_translate : entryFor table "bytes.translate" = some Builtin.«bytes.translate» := entryFor_of_tree (by kernel_rfl)
theorem args_bytes_translate_2 (a b : Value) : argsOk "bytes.translate" ⟨[a, b], []⟩ := by unfold argsOk; kernel_rfl
theorem entry_maketrans : entryFor table "bytes.maketrans" = some Builtin.«bytes.maketrans» := entryFor_of_tree (by kernel_rfl)
theorem args_maketrans (a b : Value) : argsOk "bytes.maketrans" ⟨[a, b], []⟩ := by unfold argsOk; kernel_rfl
theorem check_maketrans (a b : Array UInt8) (t u : Tok) : checkBuiltinCall "bytes.maketrans" ⟨[.bytes a t, .bytes b u], []⟩ = pure () := by
  first | rfl | kernel_rfl
theorem plain_maketrans : plainId "bytes.maketrans" = true := by decide +kernel
theorem cls_mk : findCls [] (.type "bytes") (.type "type") (PySem.Str.ofString "maketrans") = some (.val (.builtin "bytes.maketrans")) := by
  kernel_rfl

section
variable {prog : Program} {w : World} {A : Around} {E : Value → Shared → Prop} {s : Shared}
theorem call_maketrans {a b : Array UInt8} {t u : Tok} {Q : Value → Shared → Prop} (hs : a.size = b.size) (h : ∀ t' k, Q (.bytes (trTable a b) t') { s with toks := k }) :
    wpAny (model prog w) A (call (.builtin "bytes.maketrans") [.bytes a t, .bytes b u]) Q E s := by
  refine wpAny_call (codeAny_call_builtin plain_maketrans entry_maketrans ?_)
  rw [check_maketrans]
  exact wpAny_pure (meets_maketrans hs prog w A (wants Q E) s h)
theorem getm_maketrans {pl : Sem Bool} {Q : Value × List Value → Shared → Prop} (h : Q (.builtin "bytes.maketrans", []) { s with toks := s.toks + 1 }) : wpAny (model prog w) A (getMethod (.type "bytes") (PySem.Str.ofString "maketrans") pl) Q E s := by
  have X : Frag.In [] s.heap := fun a o e => nomatch e
  have hstub : opaqueClassAbove (.type "bytes") = pure none := by unfold opaqueClassAbove; dsimp only; rw [show Manifest.isStub "bytes" = false by decide +kernel]; rfl
  have L0 : Looks (model prog w) s.heap (typeOf (.type "bytes")) (.type "type") := Looks.of_pure (by first | rfl | kernel_rfl)
  unfold getMethod specialOf
  refine wpAny_bind (wpAny_bind (L0.here ((looks_findIn X type_tga).here ?_)))
  dsimp only
  rw [if_pos canon_tga]
  refine wpAny_bind (wpAny_mono (Q := fun v => Q (v, [])) (E := E) ?_ (fun _ _ z => wpAny_pure z) fun _ _ z => z)
  have LO : Looks (model prog w) s.heap (opaqueClassAbove (.type "bytes")) none := Looks.of_pure hstub
  refine cls_open X LO L0 type_tga (looks_hook X (r := none) (by rfl)) (by show subIn [] _ _ = _; rfl) cls_mk
    (wpAny_pure (by show wpAny _ _ (handedOut (.builtin "bytes.maketrans")) _ _ _; rw [handedOut_of (by decide +kernel)]; exact wpAny_pure h))
theorem isi_str {x : PySem.Str} {u : Tok} {Q : Value → Shared → Prop} (h : Q (.bool true) s) : wpAny (model prog w) A (call (.builtin "isinstance") [.str x u, .type "str"]) Q E s :=
  call_isinstance (isinstance_true (Tx := "str") F.isi_meta_str F.sub_str_str) ⟨rfl, h⟩
theorem isi_bytes_str {x : Array UInt8} {u : Tok} {Q : Value → Shared → Prop} (h : Q (.bool false) { s with toks := s.toks + 1 }) : wpAny (model prog w) A (call (.builtin "isinstance") [.bytes x u, .type "str"]) Q E s := by
  have m : Meets (Builtin.«isinstance» ⟨[.bytes x u, .type "str"], []⟩) (fun _ R s => R (.ok (.ret (.bool false))) { s with toks := s.toks + 1 }) := fun _ _ _ _ s hs => by
    obtain ⟨h, g, d, t, os⟩ := s
    exact isinstance_outer (isinstance_nested_false_bytes (by decide +kernel) F.isi_meta_str (by rw [isSubtype_type]; kernel_rfl) hs)
  exact call_isinstance m h
theorem isi_bytes_types {x : Array UInt8} {u : Tok} {T : Addr} {Q : Value → Shared → Prop} (hT : s.heap.get? T = some { cls := .type "tuple", data := .seq [.type "bytes", .type "bytearray"].toArray }) (h : ∀ k, Q (.bool true) { s with toks := k }) :
    wpAny (model prog w) A (call (.builtin "isinstance") [.bytes x u, .ref T]) Q E s := by
  have a1 : Answers (fun s => s.TypeIs (.bytes x u) "bytes") (.bytes x u) (.type "bytes") true := Answers.of_true F.isi_meta_bytes F.sub_bytes_bytes
  have a2 : Answers (fun s => s.TypeIs (.bytes x u) "bytes") (.bytes x u) (.type "bytearray") false := fun _ _ _ _ _ _ s hs => by
    obtain ⟨h, g, d, t, os⟩ := s
    exact isinstance_nested_false_bytes (by decide +kernel) (by kernel_rfl) (by rw [isSubtype_type]; kernel_rfl) (hs.2 (t + 1))
  exact call_isinstance (isinstance_tuple (x := .bytes x u) (Tx := "bytes") (tp := T) (cs := [.type "bytes", .type "bytearray"]) (vs := [true, false]) ⟨a1, a2, trivial⟩) ⟨rfl, hT, h⟩
end
end
end Mine

/-! text M17 -/
namespace Mine

section
variable {c : Cx} {ρ : Vars} {own : Own}

theorem Ev.encode {o : Expr} {apos pos cp : Pos} {k : Nat} {x : Str} (h : Ev c ρ own o (.str x)) (ha : ∀ y ∈ x.cps, y < 128) (hz : x.cps.size ≤ 16000000) (hline : (apos.endLine == pos.line) = true := by rfl) (hbase : attributeBase o "encode" c.env (eval o c.env) = eval o c.env := by rfl) :
    Ev c ρ own (.Call (.Attribute o "encode" apos) [.Constant (.str "ascii") k cp] [] pos) (.bytes (asciiOf x)) :=
  Ev.method F.plainAttrs_str F.slot_str_encode F.type_str_encode h (.cons Ev.cstr (by intro _ _ q; cases q) .nil) str_obj (fun g v vs hv hI => by
    cases hI with
    | cons a b => cases b; cases a; cases hv; exact Gp.val fun s Q E _ _ _ hQ => call_meets F.slot_str_encode (typeIs_str _ _ _) F.entry_str_encode (F.args_str_encode_2 _ _) (meets_encode ha hz) fun t' k => hQ _ _ (.bytes _ _)) (hline := hline) (hbase := hbase)
theorem Ev.decode {o : Expr} {apos pos cp : Pos} {k : Nat} {b : UInt8} {bs : List UInt8} (h : Ev c ρ own o (.bytes (b :: bs).toArray)) (ha : ∀ y ∈ b :: bs, y.toNat < 128) (hz : (b :: bs).length ≤ 16000000) (hline : (apos.endLine == pos.line) = true := by rfl) (hbase : attributeBase o "decode" c.env (eval o c.env) = eval o c.env := by rfl) :
    Ev c ρ own (.Call (.Attribute o "decode" apos) [.Constant (.str "ascii") k cp] [] pos) (.str ⟨(b :: bs).toArray.map (·.toNat)⟩) :=
  Ev.method FB.plainAttrs_bytes FB.slot_bytes_decode FB.type_bytes_decode h (.cons Ev.cstr (by intro _ _ q; cases q) .nil) bytes_obj (fun g v vs hv hI => by
    cases hI with
    | cons a b => cases b; cases a; cases hv; exact Gp.val fun s Q E _ _ _ hQ => call_meets FB.slot_bytes_decode (typeIs_bytes _ _ _) FB.entry_bytes_decode (args_bytes_decode_2 _ _) (meets_decode ha hz) fun t' k => hQ _ _ (.str _ _)) (hline := hline) (hbase := hbase)
theorem Ev.translate {o e : Expr} {apos pos : Pos} {b tb : Array UInt8} (h : Ev c ρ own o (.bytes b)) (he : Ev c ρ own e (.bytes tb)) (hs : tb.size = 256) (hz : b.size ≤ 16000000) (hst : ∀ x p, e ≠ .Starred x p := by intro _ _ q; cases q) (hline : (apos.endLine == pos.line) = true := by rfl) (hbase : attributeBase o "translate" c.env (eval o c.env) = eval o c.env := by rfl) :
    Ev c ρ own (.Call (.Attribute o "translate" apos) [e] [] pos) (.bytes (b.map fun c => tb.getD c.toNat c)) :=
  Ev.method FB.plainAttrs_bytes slot_bytes_translate type_bytes_translate h (.cons he hst .nil) bytes_obj (fun g v vs hv hI => by
    cases hI with
    | cons a b => cases b; cases a; cases hv; exact Gp.val fun s Q E _ _ _ hQ => call_meets slot_bytes_translate (typeIs_bytes _ _ _) entry_bytes_translate (args_bytes_translate_2 _ _) (meets_translate hs hz) fun t' k => hQ _ _ (.bytes _ _)) (hline := hline) (hbase := hbase)
theorem Ev.maketrans {e₁ e₂ : Expr} {np apos pos : Pos} {a b : Array UInt8} (h₁ : Ev c ρ own e₁ (.bytes a)) (h₂ : Ev c ρ own e₂ (.bytes b)) (hs : a.size = b.size) (hs₁ : ∀ x p, e₁ ≠ .Starred x p := by intro _ _ q; cases q) (hs₂ : ∀ x p, e₂ ≠ .Starred x p := by intro _ _ q; cases q)
    (hk : c.env.kindOf "bytes" = some .globalImplicit := by rfl) {pl : Sem Bool}
    (he : eval (.Call (.Attribute (.Name "bytes" np) "maketrans" apos) [e₁, e₂] [] pos) c.env = (do
      let ov ← eval (.Name "bytes" np) c.env
      standAt apos.atName
      let (f, first) ← holding [ov] (getMethod ov "maketrans" pl)
      callWith pos f first (backTo pos (starEach [e₁, e₂] c.env)) (backToKw pos (keywordEach [] c.env))) := by rfl) :
    Ev c ρ own (.Call (.Attribute (.Name "bytes" np) "maketrans" apos) [e₁, e₂] [] pos) (.bytes (trTable a b)) := fun g s Q E F hQ => by
  have hes : Evs c ρ own [e₁, e₂] [.bytes a, .bytes b] := .cons h₁ hs₁ (.cons h₂ hs₂ .nil)
  refine methodCall_KW (pl := pl) (load_blt F hk (by decide) Boot.bytes (by decide) rfl ?_) he
  refine getm_maketrans ?_
  have F' : Fm c ρ own g ({ s with toks := s.toks + 1 } : Shared).heap := F
  refine Calls.callWith_builtin hes.any (hes.evalArgs F' fun vs g₁ h₁ k₁ G₁ I₁ => ?_)
  cases I₁ with
  | cons x y => cases y with
    | cons y z =>
      cases z; cases x; cases y
      exact call_maketrans hs fun t' k => hQ _ g₁ h₁ k G₁ (.bytes _ _)

theorem Et.isiStr {e : Expr} {p p2 pos : Pos} {x : Str} (h : Ev c ρ own e (.str x)) (hs : ∀ x p, e ≠ .Starred x p := by intro _ _ q; cases q) (hk : c.env.kindOf "isinstance" = some .globalImplicit := by rfl) (hk2 : c.env.kindOf "str" = some .globalImplicit := by rfl) :
    Et c ρ own (.Call (.Name "isinstance" p) [e, .Name "str" p2] [] pos) true :=
  Et.bool (Ev.callBlt (id := "isinstance") Boot.isinstance (.cons h hs (.cons (Ev.tyName Boot.str (hk := hk2)) (by intro _ _ q; cases q) .nil)) (fun g vs hI => by
    cases hI with | cons a b => cases b with | cons b d => cases d; cases a; cases b; exact Gp.val fun s Q E _ _ _ hQ => isi_str (hQ _ s.toks (.bool true))) (hk := hk))
theorem Et.isiBytesStr {e : Expr} {p p2 pos : Pos} {x : Array UInt8} (h : Ev c ρ own e (.bytes x)) (hs : ∀ x p, e ≠ .Starred x p := by intro _ _ q; cases q) (hk : c.env.kindOf "isinstance" = some .globalImplicit := by rfl) (hk2 : c.env.kindOf "str" = some .globalImplicit := by rfl) :
    Et c ρ own (.Call (.Name "isinstance" p) [e, .Name "str" p2] [] pos) false :=
  Et.bool (Ev.callBlt (id := "isinstance") Boot.isinstance (.cons h hs (.cons (Ev.tyName Boot.str (hk := hk2)) (by intro _ _ q; cases q) .nil)) (fun g vs hI => by
    cases hI with | cons a b => cases b with | cons b d => cases d; cases a; cases b; exact Gp.val fun s Q E _ _ _ hQ => isi_bytes_str (hQ _ _ (.bool false))) (hk := hk))
/-- the text's tuple bytes_types -/
theorem Et.isiBytesTypes {e : Expr} {p p2 pos : Pos} {x : Array UInt8} (h : Ev c ρ own e (.bytes x)) (hs : ∀ x p, e ≠ .Starred x p := by intro _ _ q; cases q) (hk : c.env.kindOf "isinstance" = some .globalImplicit := by rfl) (hk2 : c.env.kindOf "bytes_types" = some .globalImplicit := by rfl) :
    Et c ρ own (.Call (.Name "isinstance" p) [e, .Name "bytes_types" p2] [] pos) true := fun g s Q E F hQ => by
  obtain ⟨T, hT1, hT2⟩ := F.ok.glb.bt
  have hT : Ev c ρ own (.Name "bytes_types" p2) (.addr T) := fun g s Q E F hQ => load_glb F hk2 hT1 rfl (hQ _ g s.heap s.toks (Grow.refl F.inn) (.addr T))
  have key : Et c ρ own (.Call (.Name "isinstance" p) [e, .Name "bytes_types" p2] [] pos) true := Et.bool (Ev.callBlt (id := "isinstance") Boot.isinstance (.cons h hs (.cons hT (by intro _ _ q; cases q) .nil)) (fun g vs hI => by
    cases hI with | cons a b => cases b with | cons b d => cases d; cases a; cases b; exact Gp.val fun s Q E _ kp _ hQ => isi_bytes_types (kp _ _ hT2) fun k => hQ _ k (.bool true)) (hk := hk))
  exact key g s Q E F hQ

/-- a try whose body returns -/
theorem Ex.tryRet {body rest : List Stmt} {h₀ : ExceptHandler} {hs : List ExceptHandler} {pos : Pos} {Φ : Fl → Vars → Own → Prop} (h : Ex c ρ own body fun fl ρ' own' => match fl with | .next => False | fl => Φ fl ρ' own') :
    Ex c ρ own (.Try body (h₀ :: hs) [] [] pos :: rest) Φ := Ex.cons fun g s E F => by
  refine wpAny_Try_except (wpAny_mono (h g s _ F) (fun f s' p => ?_) fun _ _ e => e)
  obtain ⟨fl, g', h', k, ρ', own', rfl, a2, a3, a4, a5⟩ := p
  cases a4 with
  | next => exact a5.elim
  | cont => exact ⟨.cont, g', h', k, ρ', own', rfl, a2, a3, .cont, a5⟩
  | brk => exact ⟨.brk, g', h', k, ρ', own', rfl, a2, a3, .brk, a5⟩
  | ret hI => exact ⟨.ret _, g', h', k, ρ', own', rfl, a2, a3, .ret hI, a5⟩
end

section
variable {prog : Program} {w : World} {mg mb : Str → Option Value}
/-- _bytes_from_decode_data, of a str and of bytes -/
theorem con_bfdStr (x : Str) (ha : ∀ y ∈ x.cps, y < 128) (hz : x.cps.size ≤ 16000000) : Con prog w mg mb 1 5 [] [.str x] (.bytes (asciiOf x)) := by
  refine Con.intro1 (x := "s") fun A L f cd h₀ g₀ => ?_
  refine Ex.ite (Et.isiStr (Ev.name rfl)) (fun _ => ?_) fun q => nomatch q
  refine Ex.tryRet (Ex.ret (Ev.encode (Ev.name rfl) ha hz) rfl)
theorem con_bfdBytes (x : Array UInt8) : Con prog w mg mb 1 5 [] [.bytes x] (.bytes x) := by
  refine Con.intro1 (x := "s") fun A L f cd h₀ g₀ => ?_
  refine Ex.ite (Et.isiBytesStr (Ev.name rfl)) (fun q => nomatch q) fun _ => Ex.nil ?_
  refine Ex.ite (Et.isiBytesTypes (Ev.name rfl)) (fun _ => ?_) fun q => nomatch q
  exact Ex.ret (Ev.name rfl) rfl
theorem con_asciiBuf (x : Array UInt8) : Con prog w mg mb 1 8 [] [.bytes x] (.bytes x) := by
  refine Con.intro1 (x := "data") fun A L f cd h₀ g₀ => ?_
  refine Ex.assign (Ev.typeOf (Ev.name rfl) rfl) ?_
  refine Ex.ite (Et.isTy (Ev.name rfl) (Ev.tyName Boot.str)) (fun q => nomatch q) fun _ => Ex.nil ?_
  refine Ex.ite (Et.isTy (Ev.name rfl) (Ev.tyName Boot.bytes)) (fun _ => ?_) fun q => nomatch q
  exact Ex.ret (Ev.name rfl) rfl
theorem con_buf (x : Array UInt8) : Con prog w mg mb 1 9 [] [.bytes x] (.bytes x) := by
  refine Con.intro1 (x := "data") fun A L f cd h₀ g₀ => ?_
  refine Ex.assign (Ev.typeOf (Ev.name rfl) rfl) ?_
  refine Ex.ite (Et.isTy (Ev.name rfl) (Ev.tyName Boot.bytes)) (fun _ => ?_) fun q => nomatch q
  exact Ex.ret (Ev.name rfl) rfl
theorem con_truth (b : Bool) : Con prog w mg mb 1 10 [] [.bool b] (.bool b) := by
  refine Con.intro1 (x := "x") fun A L f cd h₀ g₀ => ?_
  refine Ex.assign (Ev.typeOf (Ev.name rfl) rfl) ?_
  refine Ex.ite (Et.ors (u := true) (Et.isNone (Ev.name rfl) Ev.cnone) fun _ => Et.eq (Et.ors (u := true) (Et.isTy (Ev.name rfl) (Ev.tyName Boot.bool)) fun q => nomatch q) rfl) (fun _ => ?_) fun q => nomatch q
  refine Ex.ret (Ev.ifexp (Et.bool (Ev.name rfl)) (fun _ => Ev.cbool) fun _ => Ev.cbool) ?_
  cases b <;> rfl
/-- _law_due -/
def dueOf (part : List Nat) : D := if (part.filter (· < 64)).length % 4 == 1 then .none else .bytes (bA (octs (part.filter (· < 64))))
theorem filter_flat (part : List Nat) (p : Nat → Bool) : (List.range part.length).flatMap (fun i => if p (part.getD i 0) then [part.getD i 0] else []) = part.filter p := by
  have : (List.range part.length).flatMap (fun i => if p (part.getD i 0) then [part.getD i 0] else []) = ((List.range part.length).map fun i => part.getD i 0).flatMap fun n => if p n then [n] else [] := by
    rw [List.flatMap_map]
  rw [this, range_getD]
  clear this
  induction part with
  | nil => rfl
  | cons a l ih => by_cases h : p a <;> simp [h, ih]
theorem con_due (part : List Nat) (hl : part.length ≤ 100) : Con prog w mg mb 2 25 [] [nl part] (dueOf part) := by
  have hlen : (part.filter (· < 64)).length ≤ 100 := Nat.le_trans (List.length_filter_le _ _) hl
  refine Con.intro1 (x := "part") fun A L f cd h₀ g₀ => ?_
  have e : nl (part.filter (· < 64)) = .list ((List.range ((zs part).map D.int).length).flatMap fun i => if decide ((part.getD i 0 : Int) < 64) then [D.int ((part.getD i 0 : Nat) : Int)] else []) := by
    rw [zsD_length, ← filter_flat]
    unfold nl zs
    rw [map_flatMap, map_flatMap]
    congr 2
    funext i
    have : (decide ((part.getD i 0 : Int) < 64)) = decide (part.getD i 0 < 64) := by rw [decide_eq_decide]; omega
    rw [this]
    split <;> rfl
  refine Ex.assignCompN (ItSrc.listD (ds := (zs part).map .int) (Ev.name rfl)) (compOk_of rfl .nil rfl rfl rfl rfl rfl) (fun i => if decide ((part.getD i 0 : Int) < 64) then [D.int ((part.getD i 0 : Nat) : Int)] else []) ?_ ?_ (by rw [zsD_length]; omega) rfl (fun _ _ _ => rfl)
  · intro C h₀' g₀' own' i hi
    rw [zsD_length] at hi
    rw [zsD_getD _ _ hi]
    exact ElOut.test (Et.lt (Ev.name rfl) Ev.int) fun _ => Ev.name rfl
  rw [← e]
  refine Ex.ret (Ev.eq (Ev.ifexp (Et.eqi (Ev.mod (lenNat (Ev.name rfl) (by omega)) Ev.int (by decide)) Ev.int) (fun _ => Ev.cnone) fun _ => Ev.call (con_octets (part.filter (· < 64)) hlen) (.cons (Ev.name rfl) (by intro _ _ q; cases q) .nil)) ?_) rfl
  unfold dueOf
  have : (((part.filter (· < 64)).length : Int) % 4 == 1) = ((part.filter (· < 64)).length % 4 == 1) := by rw [Bool.eq_iff_iff]; simp; omega
  rw [this]
end
end Mine

/-! text M18 -/
namespace Mine

/-! ## texts as rows of code points -/
def tx (l : List Nat) : Str := ⟨l.toArray⟩
theorem tx_append (a b : List Nat) : tx a ++ tx b = tx (a ++ b) := by
  show Str.mk (a.toArray ++ b.toArray) = Str.mk (a ++ b).toArray
  simp
theorem tx_length (a : List Nat) : (tx a).length = a.length := by show a.toArray.size = _; simp
theorem tx_beq (a b : List Nat) : (tx a == tx b) = (a == b) := by
  rw [Bool.eq_iff_iff]; simp [tx]

structure PSt where
  res : List (List Nat)
  part : List Nat
  esc : Bool
  quo : Bool
def PSt.init : PSt := ⟨[], [], false, false⟩
def PSt.step (s : PSt) (c : Nat) : PSt :=
  if s.esc then { s with part := s.part ++ [c], esc := false }
  else if s.quo then
    if c == 92 then { s with esc := true }
    else if c == 34 then { s with quo := false, part := s.part ++ [c] }
    else { s with part := s.part ++ [c] }
  else if c == 44 then { s with res := s.res ++ [s.part], part := [] }
  else if c == 34 then { s with quo := true, part := s.part ++ [c] }
  else { s with part := s.part ++ [c] }
def PSt.fin (s : PSt) : List (List Nat) := if s.part.isEmpty then s.res else s.res ++ [s.part]
def parse (cs : List Nat) : List (List Nat) := (cs.foldl PSt.step PSt.init).fin

theorem PSt.part_le (s : PSt) (c : Nat) : (s.step c).part.length ≤ s.part.length + 1 := by
  unfold PSt.step; repeat' split
  all_goals simp
theorem fold_part_le (cs : List Nat) : ∀ s : PSt, (cs.foldl PSt.step s).part.length ≤ s.part.length + cs.length := by
  induction cs with
  | nil => intro s; simp
  | cons c cs ih => intro s; have := ih (s.step c); have := s.part_le c; simp at *; omega
theorem PSt.res_le (s : PSt) (c : Nat) : (s.step c).res.length ≤ s.res.length + 1 := by
  unfold PSt.step; repeat' split
  all_goals simp
theorem fold_res_le (cs : List Nat) : ∀ s : PSt, (cs.foldl PSt.step s).res.length ≤ s.res.length + cs.length := by
  induction cs with
  | nil => intro s; simp
  | cons c cs ih => intro s; have := ih (s.step c); have := s.res_le c; simp at *; omega
/-- the signs are among those of the text -/
def PSt.among (s : PSt) (p : Nat → Prop) : Prop := (∀ x ∈ s.part, p x) ∧ ∀ r ∈ s.res, ∀ x ∈ r, p x
theorem PSt.among_step {s : PSt} {p : Nat → Prop} {c : Nat} (h : s.among p) (hc : p c) : (s.step c).among p := by
  obtain ⟨h1, h2⟩ := h
  have ha : ∀ x ∈ s.part ++ [c], p x := fun x hx => by
    rcases List.mem_append.mp hx with q | q
    · exact h1 x q
    · rw [List.mem_singleton.mp q]; exact hc
  unfold PSt.step; repeat' split
  all_goals first | exact ⟨ha, h2⟩ | exact ⟨h1, h2⟩ | skip
  refine ⟨by simp, fun r hr => ?_⟩
  rcases List.mem_append.mp hr with q | q
  · exact h2 r q
  · rw [List.mem_singleton.mp q]; exact h1
theorem fold_among {p : Nat → Prop} (cs : List Nat) : ∀ s : PSt, s.among p → (∀ x ∈ cs, p x) → (cs.foldl PSt.step s).among p := by
  induction cs with
  | nil => intro s h _; exact h
  | cons c cs ih => intro s h hc; exact ih _ (PSt.among_step h (hc c (.head _))) fun x hx => hc x (.tail _ hx)
theorem parse_among {p : Nat → Prop} {cs : List Nat} (h : ∀ x ∈ cs, p x) : ∀ r ∈ parse cs, ∀ x ∈ r, p x := by
  obtain ⟨h1, h2⟩ := fold_among (p := p) cs PSt.init ⟨by simp [PSt.init], by simp [PSt.init]⟩ h
  unfold parse PSt.fin
  intro r hr
  split at hr
  · exact h2 r hr
  · rcases List.mem_append.mp hr with q | q
    · exact h2 r q
    · rw [List.mem_singleton.mp q]; exact h1
theorem parse_length (cs : List Nat) : (parse cs).length ≤ cs.length + 1 := by
  have := fold_res_le cs PSt.init
  unfold parse PSt.fin
  split <;> simp [PSt.init] at * <;> omega
theorem PSt.len_step {s : PSt} {c n : Nat} (h : s.part.length ≤ n) (h' : ∀ r ∈ s.res, r.length ≤ n) : (s.step c).part.length ≤ n + 1 ∧ ∀ r ∈ (s.step c).res, r.length ≤ n + 1 := by
  refine ⟨Nat.le_trans (s.part_le c) (by omega), ?_⟩
  have ha : ∀ r ∈ s.res, r.length ≤ n + 1 := fun r hr => Nat.le_succ_of_le (h' r hr)
  unfold PSt.step; repeat' split
  all_goals first | exact ha | skip
  intro r hr
  rcases List.mem_append.mp hr with q | q
  · exact ha r q
  · rw [List.mem_singleton.mp q]; omega
theorem fold_len (cs : List Nat) : ∀ (s : PSt) (n : Nat), s.part.length ≤ n → (∀ r ∈ s.res, r.length ≤ n) → (cs.foldl PSt.step s).part.length ≤ n + cs.length ∧ ∀ r ∈ (cs.foldl PSt.step s).res, r.length ≤ n + cs.length := by
  induction cs with
  | nil => intro s n h h'; exact ⟨h, h'⟩
  | cons c cs ih =>
    intro s n h h'
    obtain ⟨a, b⟩ := PSt.len_step (c := c) h h'
    have := ih (s.step c) (n + 1) a b
    simpa [Nat.add_assoc, Nat.add_comm 1] using this
theorem parse_len (cs : List Nat) : ∀ r ∈ parse cs, r.length ≤ cs.length := by
  obtain ⟨h1, h2⟩ := fold_len cs PSt.init 0 (by simp [PSt.init]) (by simp [PSt.init])
  unfold parse PSt.fin
  intro r hr
  split at hr
  · simpa using h2 r hr
  · rcases List.mem_append.mp hr with q | q
    · simpa using h2 r q
    · rw [List.mem_singleton.mp q]; simpa using h1

theorem strip_id {l : List Nat} (h : ∀ c ∈ l, Unicode.isSpace c = false) : Txt.strip (tx l) = tx l := by
  have tw : ∀ m : List Nat, (∀ c ∈ m, Unicode.isSpace c = false) → m.takeWhile Unicode.isSpace = [] := fun m hm => by
    cases m with
    | nil => rfl
    | cons a m => rw [List.takeWhile_cons_of_neg (by rw [hm a (.head _)]; decide)]
  have hlo : stripLo Unicode.isSpace true (tx l) = 0 := by
    unfold stripLo
    have : (tx l).cps.toList = l := rfl
    rw [this, tw l h]; rfl
  have hs : stripSame Unicode.isSpace true true (tx l) = true := by
    unfold stripSame
    rw [hlo]
    have : stripHi Unicode.isSpace true (tx l) 0 = (tx l).length := by
      unfold stripHi
      have : (tx l).cps.toList.drop 0 = l := rfl
      rw [this, tw l.reverse (fun c hc => h c (List.mem_reverse.mp hc))]
      simp
    rw [this]; simp
  show Txt.stripBy Unicode.isSpace true true (tx l) = tx l
  unfold Txt.stripBy
  rw [hs]; rfl
theorem noSpace {c : Nat} (h1 : 33 ≤ c) (h2 : c < 127) : Unicode.isSpace c = false := by
  have : ∀ c : Fin 127, 33 ≤ c.val → Unicode.isSpace c.val = false := by decide +kernel
  exact this ⟨c, h2⟩ h1

section
variable {prog : Program} {w : World} {mg mb : Str → Option Value}

def txs (ls : List (List Nat)) : List D := ls.map fun l => .str (tx l)
theorem txs_getD (ls : List (List Nat)) (i : Nat) (h : i < ls.length) : (txs ls).getD i .none = .str (tx (ls.getD i [])) := by simp [txs, List.getD, h]

theorem con_parse (cs : List Nat) (hl : cs.length ≤ 1000) (hc : ∀ c ∈ cs, 33 ≤ c ∧ c < 127) : Con prog w mg mb 1 2 [] [.str (tx cs)] (.list (txs (parse cs))) := by
  refine Con.intro1 (x := "s") fun A L f cd h₀ g₀ => ?_
  refine Ex.assignOwn .nil fun a => ?_
  refine Ex.assign Ev.cstr ?_
  refine Ex.assign2 Ev.cbool ?_
  refine Ex.for (ItSrc.strD (t := tx cs) (Ev.name rfl)) (fun i ρ own => ∃ st : PSt, st = (cs.take i).foldl PSt.step PSt.init ∧ own = [(a, txs st.res)] ∧ ρ "res" = some (.addr a) ∧ ρ "part" = some (.str (tx st.part)) ∧ ρ "escape" = some (.bool st.esc) ∧ ρ "quote" = some (.bool st.quo)) ⟨PSt.init, rfl, rfl, rfl, rfl, rfl, rfl⟩ ?_ ?_
  · rintro i ρ own hi ⟨st, hst, rfl, h1, h2, h3, h4⟩
    have hi : i < cs.length := by simpa [tx] using hi
    have hcur : (tx cs).cps.getD i 0 = cs.getD i 0 := by simp [tx, Array.getD, List.getD, hi]
    have hnext : st.step (cs.getD i 0) = (cs.take (i + 1)).foldl PSt.step PSt.init := by
      rw [List.take_add_one, List.getElem?_eq_getElem hi]
      show _ = (cs.take i ++ [cs[i]]).foldl PSt.step PSt.init
      rw [List.foldl_append, ← hst]
      simp [List.getD, hi]
    have hpl : st.part.length ≤ 1000 := by
      have := fold_part_le (cs.take i) PSt.init
      rw [← hst] at this
      simp [PSt.init] at this; omega
    have hrl : st.res.length ≤ 1000 := by
      have := fold_res_le (cs.take i) PSt.init
      rw [← hst] at this
      simp [PSt.init] at this; omega
    generalize cs.getD i 0 = cc at hcur hnext
    refine ⟨(·.set "cur" (.str (tx [cc]))), fun g v h g' hs hI _ => Bind.name (by have := Is.sub hs hI; dsimp only at this; rw [hcur] at this; exact this) rfl, ?_⟩
    have hadd : ∀ x : List Nat, x.length ≤ 1000 → (tx x).length + (tx [cc]).length ≤ 16000000 := fun x hx => by rw [tx_length, tx_length]; simp; omega
    refine Ex.ite (Et.bool (Ev.name h3)) (fun he => ?_) fun he => Ex.nil ?_
    · refine Ex.aug h2 (Ev.name rfl) (fun _ _ _ x y => gp_iaddStr (hadd _ hpl) x y) ?_
      exact Ex.assign Ev.cbool (Ex.cont ⟨⟨st.res, st.part ++ [cc], false, st.quo⟩, by rw [← hnext]; simp [PSt.step, he], rfl, h1, by rw [← tx_append]; rfl, rfl, h4⟩)
    refine Ex.ite (Et.bool (Ev.name (by exact h4))) (fun hq => ?_) fun hq => Ex.nil ?_
    · refine Ex.ite (Et.eq (Et.eqStr (x := tx [cc]) (y := tx [92]) (Ev.name rfl) Ev.cstr) (tx_beq _ _)) (fun hb => ?_) fun hb => ?_
      · have hb : (cc == 92) = true := by simpa using hb
        exact Ex.assign Ev.cbool (Ex.cont ⟨⟨st.res, st.part, true, st.quo⟩, by rw [← hnext]; simp [PSt.step, he, hq, hb], rfl, h1, h2, rfl, h4⟩)
      · have hb : (cc == 92) = false := by simpa using hb
        refine Ex.ite (Et.eq (Et.eqStr (x := tx [cc]) (y := tx [34]) (Ev.name rfl) Ev.cstr) (tx_beq _ _)) (fun hd => ?_) fun hd => ?_
        · have hd : (cc == 34) = true := by simpa using hd
          refine Ex.assign Ev.cbool (Ex.nil (Ex.nil ?_))
          refine Ex.aug (by exact h2) (Ev.name rfl) (fun _ _ _ x y => gp_iaddStr (hadd _ hpl) x y) (Ex.cont ⟨⟨st.res, st.part ++ [cc], st.esc, false⟩, by rw [← hnext]; simp [PSt.step, he, hq, hb, hd], rfl, h1, by rw [← tx_append]; rfl, h3, rfl⟩)
        · have hd : (cc == 34) = false := by simpa using hd
          refine Ex.nil (Ex.nil ?_)
          refine Ex.aug (by exact h2) (Ev.name rfl) (fun _ _ _ x y => gp_iaddStr (hadd _ hpl) x y) (Ex.cont ⟨⟨st.res, st.part ++ [cc], st.esc, st.quo⟩, by rw [← hnext]; simp [PSt.step, he, hq, hb, hd], rfl, h1, by rw [← tx_append]; rfl, h3, h4⟩)
    refine Ex.ite (Et.eq (Et.eqStr (x := tx [cc]) (y := tx [44]) (Ev.name rfl) Ev.cstr) (tx_beq _ _)) (fun hk => ?_) fun hk => Ex.nil ?_
    · have hk : (cc == 44) = true := by simpa using hk
      refine Ex.append (Ev.name (by exact h1)) (Ev.name (by exact h2)) ?_ (by simp [txs]; omega)
      exact Ex.assign Ev.cstr (Ex.cont ⟨⟨st.res ++ [st.part], [], st.esc, st.quo⟩, by rw [← hnext]; simp [PSt.step, he, hq, hk], by simp [txs], h1, rfl, h3, h4⟩)
    have hk : (cc == 44) = false := by simpa using hk
    refine Ex.ite (Et.eq (Et.eqStr (x := tx [cc]) (y := tx [34]) (Ev.name rfl) Ev.cstr) (tx_beq _ _)) (fun hd => ?_) fun hd => ?_
    · have hd : (cc == 34) = true := by simpa using hd
      refine Ex.assign Ev.cbool (Ex.nil ?_)
      refine Ex.aug (by exact h2) (Ev.name rfl) (fun _ _ _ x y => gp_iaddStr (hadd _ hpl) x y) (Ex.nil ⟨⟨st.res, st.part ++ [cc], st.esc, true⟩, by rw [← hnext]; simp [PSt.step, he, hq, hk, hd], rfl, h1, by rw [← tx_append]; rfl, h3, rfl⟩)
    · have hd : (cc == 34) = false := by simpa using hd
      refine Ex.nil ?_
      refine Ex.aug (by exact h2) (Ev.name rfl) (fun _ _ _ x y => gp_iaddStr (hadd _ hpl) x y) (Ex.nil ⟨⟨st.res, st.part ++ [cc], st.esc, st.quo⟩, by rw [← hnext]; simp [PSt.step, he, hq, hk, hd], rfl, h1, by rw [← tx_append]; rfl, h3, h4⟩)
  · rintro ρ own ⟨st, hst, rfl, h1, h2, h3, h4⟩
    have hfull : cs.take (tx cs).cps.size = cs := by
      have : (tx cs).cps.size = cs.length := by simp [tx]
      rw [this, List.take_length]
    rw [hfull] at hst
    have hpl : st.part.length ≤ 1000 := by
      have := fold_part_le cs PSt.init
      rw [← hst] at this
      simp [PSt.init] at this; omega
    have hrl : st.res.length ≤ 1000 := by
      have := fold_res_le cs PSt.init
      rw [← hst] at this
      simp [PSt.init] at this; omega
    have hfin : parse cs = st.fin := by unfold parse; rw [← hst]
    have last : ∀ ρ' : Vars, ρ' "res" = some (.addr a) → Ex (fnCx prog w A 0 mg mb 2 L f cd h₀ g₀) ρ' [(a, txs (parse cs))] ((fnBody 2).drop 5) (RetIs (.list (txs (parse cs)))) := fun ρ' hr => by
      refine Ex.freeze hr ?_
      have e : D.list (txs (parse cs)) = .list ((List.range (txs (parse cs)).length).flatMap fun i => [D.str (tx ((parse cs).getD i []))]) := by
        rw [flatMap_one]
        have : (txs (parse cs)).length = (parse cs).length := by simp [txs]
        rw [this]
        unfold txs
        rw [show (fun i => D.str (tx ((parse cs).getD i []))) = (fun l => D.str (tx l)) ∘ fun i => (parse cs).getD i [] from rfl, ← List.map_map, range_getD]
      conv => arg 5; rw [e]
      have hpn := parse_length cs
      refine Ex.ret (Ev.compN (ItSrc.listD (ds := txs (parse cs)) (Ev.name rfl)) (compOk_of rfl .nil rfl rfl rfl rfl rfl) (fun i => [D.str (tx ((parse cs).getD i []))]) ?_ (by simp [txs]; omega) rfl (fun _ _ _ => rfl)) rfl
      intro C h₀' g₀' own' i hi
      have hi' : i < (parse cs).length := by simpa [txs] using hi
      rw [txs_getD _ _ hi']
      have hm : (parse cs).getD i [] ∈ parse cs := by simp [List.getD, hi']
      refine .plain (Ev.eq (Ev.strip (Ev.name rfl) ?_) ?_)
      · rw [tx_length]; have := parse_len cs _ hm; omega
      · rw [strip_id]
        intro c hcm
        have := parse_among (p := fun c => 33 ≤ c ∧ c < 127) hc _ hm c hcm
        exact noSpace this.1 this.2
    refine Ex.ite (Et.eq (Et.str (Ev.name h2) (by rw [tx_length]; omega)) (show _ = !st.part.isEmpty from by rw [tx_length]; cases st.part <;> simp; omega)) (fun hp => ?_) fun hp => Ex.nil ?_
    · refine Ex.append (Ev.name h1) (Ev.name h2) (Ex.nil ?_) (by simp [txs]; omega)
      have : txs st.res ++ [D.str (tx st.part)] = txs (parse cs) := by
        rw [hfin]; unfold PSt.fin
        have : st.part.isEmpty = false := by simpa using hp
        rw [this]; simp [txs]
      rw [this]
      exact last ρ h1
    · have : txs st.res = txs (parse cs) := by
        rw [hfin]; unfold PSt.fin
        have : st.part.isEmpty = true := by simpa using hp
        rw [this]; rfl
      rw [this]
      exact last ρ h1
end
end Mine

/-! text M19 -/
namespace Mine

theorem digits_succ (b k v : Nat) : digits b (k + 1) v = digits b k (v / b) ++ [v % b] := by
  unfold digits
  rw [List.range_succ_eq_map, List.map_cons, List.reverse_cons, List.map_map]
  congr 1
  · congr 1
    apply List.map_congr_left
    intro j _
    show v / b ^ (j + 1) % b = v / b / b ^ j % b
    rw [Nat.div_div_eq_div_mul, Nat.pow_succ, Nat.mul_comm b]
  · simp

/-- the sign of a figure, 64 is the sign that fills up -/
def sg (n : Nat) : Nat := if n < 64 then b64Signs.getD n 0 else 61
theorem b64Bytes_length : b64Bytes.length = 64 := by decide
theorem b64Bytes_get : ∀ k : Fin 64, (b64Bytes.getD k.val 0).toNat = sg k.val := by decide
theorem sg_lt : ∀ k : Fin 65, 33 ≤ sg k.val ∧ sg k.val < 127 := by decide

theorem mod_div_eq {x y m : Nat} (h : x % 2 ^ (m + 6) = y % 2 ^ (m + 6)) : x / 2 ^ m % 64 = y / 2 ^ m % 64 := by
  have e : 2 ^ (m + 6) = 2 ^ m * 64 := by rw [Nat.pow_add]
  rw [e] at h
  rw [← Nat.mod_mul_right_div_self, ← Nat.mod_mul_right_div_self, h]
theorem mod_down {x y m k : Nat} (h : x % 2 ^ (m + k) = y % 2 ^ (m + k)) : x % 2 ^ m = y % 2 ^ m := by
  have hd : 2 ^ m ∣ 2 ^ (m + k) := Nat.pow_dvd_pow 2 (Nat.le_add_right _ _)
  rw [← Nat.mod_mod_of_dvd x hd, ← Nat.mod_mod_of_dvd y hd, h]
theorem mod_up {x y b lb : Nat} (hb : b < 256) (h : x % 2 ^ lb = y % 2 ^ lb) : (x * 256 + b) % 2 ^ (lb + 8) = (y * 256 + b) % 2 ^ (lb + 8) := by
  have e : 2 ^ (lb + 8) = 256 * 2 ^ lb := by rw [Nat.pow_add, Nat.mul_comm]
  have key : ∀ z, (z * 256 + b) % (256 * 2 ^ lb) = (z % 2 ^ lb) * 256 + b := fun z => by
    rw [Nat.mod_mul]
    have h1 : (z * 256 + b) % 256 = b := by omega
    have h2 : (z * 256 + b) / 256 = z := by omega
    rw [h1, h2]; omega
  rw [e, key, key, h]

section
variable {prog : Program} {w : World} {mg mb : Str → Option Value}
def sgs (fs : List Nat) : List D := fs.map fun n => .int (sg n : Nat)
theorem sgs_append (a b : List Nat) : sgs (a ++ b) = sgs a ++ sgs b := by simp [sgs]
theorem sgs_length (a : List Nat) : (sgs a).length = a.length := by simp [sgs]

/-- a sign out of the table -/
theorem Ev.sign {c : Cx} {ρ : Vars} {own : Own} {slice : Expr} {pos np : Pos} {k : Nat} (h : Ev c ρ own slice (.int k)) (hk : k < 64) (hs : ∀ o i, subscripted slice false o i = operate [o, i] (getItem o i) := by intro _ _; rfl) (hg : c.env.kindOf "_B64" = some .globalImplicit := by rfl) :
    Ev c ρ own (.Subscript (.Name "_B64" np) slice pos) (.int (sg k : Nat)) := fun g s Q E F hQ => by
  obtain ⟨t, ht⟩ := F.ok.glb.b64
  have hT : Ev c ρ own (.Name "_B64" np) (.bytes b64Bytes.toArray) := fun g s Q E F hQ => load_glb F hg ht rfl (hQ _ g s.heap s.toks (Grow.refl F.inn) (.bytes _ _))
  have key := Ev.itemBytes (pos := pos) hT h (by rw [b64Bytes_length]; decide) (by omega) (by rw [b64Bytes_length]; omega) hs
  rw [Int.toNat_natCast, b64Bytes_get ⟨k, hk⟩] at key
  exact key g s Q E F hQ

theorem con_b2a (row : List Nat) (hl : row.length ≤ 100) (hr : ∀ n ∈ row, n < 256) : Con prog w mg mb 2 14 [("newline", .bool false)] [.bytes (bA row)] (.bytes (bA ((figs row).map sg))) := by
  refine Con.intro [("data", .bytes (bA row)), ("newline", .bool false)] (fun s g vs kvs f dV kV doc pm an cd ct G hf hI hkn hkI => ?_) fun A L f cd h₀ g₀ => ?_
  · obtain rfl : dV = .none := FnAt.noDef hf (by decide)
    cases hI with
    | cons a b =>
      cases b
      match kvs, hkn, hkI with
      | [(kn, kv)], hkn, hkI =>
        obtain rfl : kn = "newline" := by simpa using hkn
        cases hkI with
        | cons u x => exact ⟨[("data", _), ("newline", kv)], BindsTo.of_eq rfl, rfl, .cons a (.cons u .nil)⟩
  refine Ex.assign (Ev.call (con_buf _) (.cons (Ev.name rfl) (by intro _ _ q; cases q) .nil)) ?_
  refine Ex.assign (Ev.call (con_truth _) (.cons (Ev.name rfl) (by intro _ _ q; cases q) .nil)) ?_
  refine Ex.assignOwn .nil fun a => ?_
  refine Ex.assign Ev.int ?_
  refine Ex.assign Ev.int ?_
  refine Ex.for (ItSrc.bytesD (b := bA row) (Ev.name rfl)) (fun i ρ own => ∃ lc : Nat, lc < 65536 ∧ lc % 2 ^ (8 * i % 6) = val 256 (row.take i) % 2 ^ (8 * i % 6) ∧ own = [(a, sgs (digits 64 (8 * i / 6) (val 256 (row.take i) / 2 ^ (8 * i % 6))))] ∧
    ρ "out" = some (.addr a) ∧ ρ "leftbits" = some (.int ((8 * i % 6 : Nat) : Int)) ∧ ρ "leftchar" = some (.int (lc : Int)) ∧ ρ "newline" = some (.bool false)) ⟨0, by decide, rfl, rfl, rfl, rfl, rfl, rfl⟩ ?_ ?_
  · rintro i ρ own hi ⟨lc, hlc, hmod, rfl, h1, h2, h3, h4⟩
    rw [bA_size] at hi
    have hb := hr (row.getD i 0) (by simp [List.getD, hi])
    have hV := val_take (b := 256) hi
    refine ⟨(·.set "b" (.int (row.getD i 0 : Nat))), fun g v h g' hs hI _ => Bind.name (by have := Is.sub hs hI; dsimp only at this; rwa [bA_getD hr _ hi] at this) rfl, ?_⟩
    generalize row.getD i 0 = b at hb hV
    generalize val 256 (row.take (i + 1)) = V' at hV
    generalize val 256 (row.take i) = V at hV hmod
    refine Ex.assign (d := .int (((lc * 256 + b) % 65536 : Nat) : Int)) (Ev.eq (Ev.band (a := lc * 256 + b) (b := 65535) (Ev.eq (Ev.bor (a := lc * 256) (b := b) (Ev.eq (Ev.shl (Ev.name (by exact h3)) Ev.int (by decide) (by decide) (by omega)) ?_) (Ev.name rfl)) ?_) Ev.int) ?_) ?_
    · show D.int _ = _; congr 1
    · congr 2
      have := Nat.shiftLeft_add_eq_or_of_lt (i := 8) (b := b) (by omega) lc
      rw [Nat.shiftLeft_eq] at this
      exact this.symm
    · congr 2
      exact Nat.and_two_pow_sub_one_eq_mod (lc * 256 + b) 16
    refine Ex.assign (d := .int ((8 * i % 6 + 8 : Nat) : Int)) (Ev.eq (Ev.add (Ev.name (by exact h2)) Ev.int) (by push_cast; rfl)) ?_
    have hlc' : (lc * 256 + b) % 65536 < 65536 := Nat.mod_lt _ (by decide)
    have hm' : (lc * 256 + b) % 65536 % 2 ^ (8 * i % 6 + 8) = V' % 2 ^ (8 * i % 6 + 8) := by
      have hd : 2 ^ (8 * i % 6 + 8) ∣ 65536 := by
        have : 2 ^ (8 * i % 6 + 8) ∣ 2 ^ 16 := Nat.pow_dvd_pow 2 (by omega)
        exact this
      rw [Nat.mod_mod_of_dvd _ hd, mod_up hb hmod, hV]
    generalize (lc * 256 + b) % 65536 = lc' at hlc' hm'
    refine Ex.while (fun k ρ own => ∃ lb m : Nat, k = lb ∧ lb ≤ 12 ∧ 8 * (i + 1) = 6 * m + lb ∧ lc' % 2 ^ lb = V' % 2 ^ lb ∧ own = [(a, sgs (digits 64 m (V' / 2 ^ lb)))] ∧
      ρ "out" = some (.addr a) ∧ ρ "leftbits" = some (.int (lb : Int)) ∧ ρ "leftchar" = some (.int (lc' : Int)) ∧ ρ "newline" = some (.bool false)) (8 * i % 6 + 8) ⟨8 * i % 6 + 8, 8 * i / 6, rfl, by omega, by omega, hm', ?_, h1, rfl, rfl, h4⟩ ?_
    · have e : V' / 2 ^ (8 * i % 6 + 8) = V / 2 ^ (8 * i % 6) := by
        rw [hV, Nat.pow_add, Nat.mul_comm (2 ^ (8 * i % 6)), ← Nat.div_div_eq_div_mul]
        congr 1; omega
      rw [e]
    · rintro lb ρ₂ own₂ ⟨_, m, rfl, hlb, hm, hmod2, rfl, g1, g2, g3, g4⟩
      refine ⟨decide ((6 : Int) ≤ lb), Et.ge (Ev.name g2) Ev.int, fun ht => ?_, fun ht => ?_⟩
      · have hge : 6 ≤ lb := by have := of_decide_eq_true ht; omega
        obtain ⟨q, rfl⟩ : ∃ q, lb = q + 6 := ⟨lb - 6, by omega⟩
        have hml : m ≤ 200 := by omega
        have hsix : lc' / 2 ^ q % 64 = V' / 2 ^ q % 64 := mod_div_eq hmod2
        refine Ex.append (d := .int (sg (V' / 2 ^ q % 64) : Nat)) (Ev.name g1) (Ev.sign (k := V' / 2 ^ q % 64) (Ev.eq (Ev.band (a := lc' / 2 ^ q) (b := 63) (Ev.eq (Ev.shr (Ev.name g3) (Ev.sub (Ev.name g2) Ev.int) (by omega)) ?_) Ev.int) ?_) (Nat.mod_lt _ (by decide))) ?_ (by rw [sgs_length, digits_length]; omega)
        · show D.int _ = _
          have : (((q + 6 : Nat) : Int) - 6).toNat = q := by omega
          rw [this]; congr 1
        · congr 2
          rw [← hsix]
          exact Nat.and_two_pow_sub_one_eq_mod (lc' / 2 ^ q) 6
        · refine Ex.assign (d := .int (q : Int)) (Ev.eq (Ev.sub (Ev.name g2) Ev.int) (by congr 1; omega)) (Ex.nil ⟨q, by omega, q, m + 1, rfl, by omega, by omega, mod_down hmod2, ?_, g1, rfl, g3, g4⟩)
          rw [digits_succ, Nat.div_div_eq_div_mul, show 2 ^ q * 64 = 2 ^ (q + 6) from (Nat.pow_add 2 q 6).symm, sgs_append]; rfl
      · have hlt : lb < 6 := by have := of_decide_eq_false ht; omega
        have e1 : 8 * (i + 1) % 6 = lb := by omega
        have e2 : 8 * (i + 1) / 6 = m := by omega
        refine Ex.nil ⟨lc', hlc', ?_, ?_, g1, ?_, g3, g4⟩
        · rw [e1]; exact hmod2
        · rw [e1, e2]
        · rw [e1]; exact g2
  · rintro ρ own ⟨lc, hlc, hmod, rfl, h1, h2, h3, h4⟩
    rw [bA_size] at hmod h2
    rw [bA_size, List.take_length]
    rw [List.take_length] at hmod
    have fin : ∀ ρ' : Vars, ρ' "out" = some (.addr a) → ρ' "newline" = some (.bool false) → Ex (fnCx prog w A 1 mg mb 14 L f cd h₀ g₀) ρ' [(a, sgs (figs row))] ((fnBody 14).drop 7) (RetIs (.bytes (bA ((figs row).map sg)))) := fun ρ' g1 g2 => by
      refine Ex.ite (Et.bool (Ev.name g2)) (fun q => nomatch q) fun _ => Ex.nil ?_
      refine Ex.freeze g1 ?_
      refine Ex.ret (Ev.bytes (ns := zs ((figs row).map sg)) (Ev.eq (Ev.name rfl) ?_) ?_ ?_) rfl
      · congr 1; simp [sgs, zs]
      · refine zs_mem (B := 256) fun n hn => ?_
        obtain ⟨k, hk, rfl⟩ := List.mem_map.mp hn
        have : k < 65 := by
          unfold figs at hk
          rcases List.mem_append.mp hk with q | q
          · exact Nat.lt_succ_of_lt (digits_lt (by decide) k q)
          · rw [(List.mem_replicate.mp q).2]; decide
        have := (sg_lt ⟨k, this⟩).2
        exact Nat.lt_trans this (by decide)
      · rw [zs_length, List.length_map]; unfold figs; rw [List.length_append, digits_length, List.length_replicate]; omega
    have h3n : row.length % 3 = 0 ∨ row.length % 3 = 1 ∨ row.length % 3 = 2 := by omega
    have hdl : 8 * row.length / 6 ≤ 200 := by omega
    rcases h3n with h0 | h0 | h0
    · have e1 : 8 * row.length % 6 = 0 := by omega
      rw [e1] at h2 hmod ⊢
      refine Ex.ite (Et.eqi (Ev.name h2) Ev.int) (fun q => nomatch q) fun _ => ?_
      refine Ex.ite (Et.eqi (Ev.name h2) Ev.int) (fun q => nomatch q) fun _ => Ex.nil (Ex.nil ?_)
      have e2 : digits 64 (8 * row.length / 6) (val 256 row / 2 ^ 0) = figs row := by
        unfold figs
        have e3 : (row.length * 4 + 2) / 3 = 8 * row.length / 6 := by omega
        have e4 : 8 * row.length / 6 * 6 - row.length * 8 = 0 := by omega
        rw [e3, e4, h0]; simp
      rw [e2]
      exact fin ρ h1 h4
    · have e1 : 8 * row.length % 6 = 2 := by omega
      rw [e1] at h2 hmod ⊢
      refine Ex.ite (Et.eqi (Ev.name h2) Ev.int) (fun _ => ?_) fun q => nomatch q
      have hk : lc % 4 = val 256 row % 4 := hmod
      refine Ex.append (d := .int (sg (val 256 row % 4 * 16) : Nat)) (Ev.name h1) (Ev.sign (k := val 256 row % 4 * 16) (Ev.eq (Ev.shl (Ev.band (a := lc) (b := 3) (Ev.name h3) Ev.int) Ev.int (by decide) (by decide) ?_) ?_) (by omega)) ?_ (by rw [sgs_length, digits_length]; omega)
      · have : lc &&& 3 = lc % 4 := Nat.and_two_pow_sub_one_eq_mod lc 2
        rw [this]; omega
      · have : lc &&& 3 = lc % 4 := Nat.and_two_pow_sub_one_eq_mod lc 2
        rw [this, hk]; congr 1
      refine Ex.append (Ev.name h1) Ev.int ?_ (by rw [List.length_append, sgs_length, digits_length]; simp; omega)
      refine Ex.append (Ev.name h1) Ev.int (Ex.nil ?_) (by rw [List.length_append, List.length_append, sgs_length, digits_length]; simp; omega)
      have e2 : sgs (digits 64 (8 * row.length / 6) (val 256 row / 2 ^ 2)) ++ [D.int (sg (val 256 row % 4 * 16) : Nat)] ++ [D.int 61] ++ [D.int 61] = sgs (figs row) := by
        unfold figs
        have e3 : (row.length * 4 + 2) / 3 = 8 * row.length / 6 + 1 := by omega
        have e4 : (8 * row.length / 6 + 1) * 6 - row.length * 8 = 4 := by omega
        rw [e3, e4, h0, digits_succ, sgs_append, sgs_append]
        have e5 : val 256 row * 2 ^ 4 / 64 = val 256 row / 2 ^ 2 := by omega
        have e6 : val 256 row * 2 ^ 4 % 64 = val 256 row % 4 * 16 := by omega
        rw [e5, e6]; simp [sgs]; rfl
      rw [e2]
      exact fin ρ h1 h4
    · have e1 : 8 * row.length % 6 = 4 := by omega
      rw [e1] at h2 hmod ⊢
      refine Ex.ite (Et.eqi (Ev.name h2) Ev.int) (fun q => nomatch q) fun _ => ?_
      refine Ex.ite (Et.eqi (Ev.name h2) Ev.int) (fun _ => ?_) fun q => nomatch q
      have hk : lc % 16 = val 256 row % 16 := hmod
      refine Ex.append (d := .int (sg (val 256 row % 16 * 4) : Nat)) (Ev.name h1) (Ev.sign (k := val 256 row % 16 * 4) (Ev.eq (Ev.shl (Ev.band (a := lc) (b := 15) (Ev.name h3) Ev.int) Ev.int (by decide) (by decide) ?_) ?_) (by omega)) ?_ (by rw [sgs_length, digits_length]; omega)
      · have : lc &&& 15 = lc % 16 := Nat.and_two_pow_sub_one_eq_mod lc 4
        rw [this]; omega
      · have : lc &&& 15 = lc % 16 := Nat.and_two_pow_sub_one_eq_mod lc 4
        rw [this, hk]; congr 1
      refine Ex.append (Ev.name h1) Ev.int (Ex.nil (Ex.nil ?_)) (by rw [List.length_append, sgs_length, digits_length]; simp; omega)
      have e2 : sgs (digits 64 (8 * row.length / 6) (val 256 row / 2 ^ 4)) ++ [D.int (sg (val 256 row % 16 * 4) : Nat)] ++ [D.int 61] = sgs (figs row) := by
        unfold figs
        have e3 : (row.length * 4 + 2) / 3 = 8 * row.length / 6 + 1 := by omega
        have e4 : (8 * row.length / 6 + 1) * 6 - row.length * 8 = 2 := by omega
        rw [e3, e4, h0, digits_succ, sgs_append, sgs_append]
        have e5 : val 256 row * 2 ^ 2 / 64 = val 256 row / 2 ^ 4 := by omega
        have e6 : val 256 row * 2 ^ 2 % 64 = val 256 row % 16 * 4 := by omega
        rw [e5, e6]; simp [sgs]; rfl
      rw [e2]
      exact fin ρ h1 h4
end
end Mine

/-! text M20 -/
namespace Mine

/-- two signs for two others -/
def tr (a b p q n : Nat) : Nat := if n = b then q else if n = a then p else n
theorem bA_two (a b : Nat) : bA [a, b] = #[a.toUInt8, b.toUInt8] := by simp [bA, byteArr, zs]
theorem toNat_ofNat {n : Nat} (h : n < 256) : (n.toUInt8).toNat = n := by
  simp; omega
theorem table_getD {a b p q : Nat} (ha : a < 256) (hb : b < 256) {n : Nat} (hn : n < 256) : (trTable (bA [a, b]) (bA [p, q])).getD n n.toUInt8 = (tr a b p q n).toUInt8 := by
  rw [bA_two, bA_two]
  unfold trTable
  show ((((Array.range 256).map (·.toUInt8)).setIfInBounds (a.toUInt8).toNat p.toUInt8).setIfInBounds (b.toUInt8).toNat q.toUInt8).getD n n.toUInt8 = _
  rw [toNat_ofNat ha, toNat_ofNat hb]
  unfold tr
  rw [Array.getD_eq_getD_getElem?]
  simp only [Array.getElem?_setIfInBounds]
  by_cases h1 : n = b
  · subst h1; simp [hn]
  · by_cases h2 : n = a
    · subst h2; simp [hn, h1, Ne.symm h1]
    · simp [hn, h1, h2, Ne.symm h1, Ne.symm h2]
theorem tr_map {a b p q : Nat} (ha : a < 256) (hb : b < 256) {ns : List Nat} (hn : ∀ n ∈ ns, n < 256) :
    (bA ns).map (fun c => (trTable (bA [a, b]) (bA [p, q])).getD c.toNat c) = bA (ns.map (tr a b p q)) := by
  apply Array.ext'
  simp only [bA, byteArr, zs, List.map_map, Array.toList_map]
  apply List.map_congr_left
  intro n hm
  have := table_getD (p := p) (q := q) ha hb (hn n hm)
  simp only [Function.comp, Int.toNat_natCast]
  rw [toNat_ofNat (hn n hm)]
  rw [bA_two, bA_two] at this
  simpa [bA, byteArr, zs] using this

section
variable {prog : Program} {w : World} {mg mb : Str → Option Value}

theorem figs_le (row : List Nat) : ∀ n ∈ figs row, n < 65 := fun k hk => by
  unfold figs at hk
  rcases List.mem_append.mp hk with q | q
  · exact Nat.lt_succ_of_lt (digits_lt (by decide) k q)
  · rw [(List.mem_replicate.mp q).2]; decide
theorem figs_length (row : List Nat) : (figs row).length = (row.length * 4 + 2) / 3 + (3 - row.length % 3) % 3 := by
  unfold figs; rw [List.length_append, digits_length, List.length_replicate]

/-- b64encode with altchars -/
theorem con_encode (row : List Nat) (p q : Nat) (hl : row.length ≤ 100) (hr : ∀ n ∈ row, n < 256) : Con prog w mg mb 3 16 [] [.bytes (bA row), .bytes (bA [p, q])] (.bytes (bA ((figs row).map fun n => tr 43 47 p q (sg n)))) := by
  refine Con.intro [("s", .bytes (bA row)), ("altchars", .bytes (bA [p, q]))] (fun s g vs kvs f dV kV doc pm an cd ct G hf hI hkn hkI => ?_) fun A L f cd h₀ g₀ => ?_
  · obtain rfl : kvs = [] := by simpa using hkn
    have hd := hf.dfl
    unfold DefOk at hd
    rw [if_pos rfl] at hd
    obtain ⟨T, o, n, rfl, ho, hs⟩ := hd
    cases hI with
    | cons a b => cases b with
      | cons b z =>
        cases z
        exact ⟨[("s", _), ("altchars", _)], BindsTo.of_defaults rfl ho hs rfl rfl, rfl, .cons a (.cons b .nil)⟩
  refine Ex.assign (Ev.callKw (con_b2a row hl hr) (.cons (Ev.name rfl) (by intro _ _ q; cases q) .nil) Ev.cbool) ?_
  refine Ex.ite (Et.isNotNone (Ev.name rfl) Ev.cnone) (fun _ => ?_) fun q => nomatch q
  refine Ex.assert (Et.eq (Et.eqi (lenBytesN (Ev.name rfl) (by simp)) Ev.int) rfl) ?_
  refine Ex.ret (Ev.eq (Ev.translate (Ev.name rfl) (Ev.maketrans (a := bA [43, 47]) (b := bA [p, q]) (Ev.eq Ev.cbytes ?_) (Ev.name rfl) (by simp [bA_size])) (trTable_size _ _) ?_) ?_) rfl
  · simp [bA_two]
  · rw [bA_size, List.length_map, figs_length]; omega
  · rw [tr_map (by decide) (by decide), List.map_map]; rfl
    intro n hn
    obtain ⟨k, hk, rfl⟩ := List.mem_map.mp hn
    exact Nat.lt_trans (sg_lt ⟨k, figs_le row k hk⟩).2 (by decide)
end
end Mine

/-! text M21 -/
namespace Mine

/-- the figure of a sign -/
def fig (n : Nat) : Nat := (b64v n).toNat
/-- a sign that fills up, or one with a figure -/
def Sgn (n : Nat) : Prop := n < 256 ∧ (n = 61 ∨ (0 ≤ b64v n ∧ b64v n < 64))
/-- the figures of a text -/
def figsOf (ns : List Nat) : List Nat := (ns.filter (· != 61)).map fig
def padsOf (ns : List Nat) : Nat := (ns.reverse.takeWhile (· == 61)).length

theorem figsOf_pad {ns : List Nat} : figsOf (ns ++ [61]) = figsOf ns := by simp [figsOf]
theorem figsOf_sign {ns : List Nat} {c : Nat} (h : c ≠ 61) : figsOf (ns ++ [c]) = figsOf ns ++ [fig c] := by simp [figsOf, h]
theorem padsOf_pad {ns : List Nat} : padsOf (ns ++ [61]) = padsOf ns + 1 := by simp [padsOf]
theorem padsOf_sign {ns : List Nat} {c : Nat} (h : c ≠ 61) : padsOf (ns ++ [c]) = 0 := by simp [padsOf, h]
theorem figsOf_le (ns : List Nat) : (figsOf ns).length ≤ ns.length := by
  unfold figsOf; rw [List.length_map]; exact List.length_filter_le _ _
theorem padsOf_le (ns : List Nat) : padsOf ns ≤ ns.length := by
  have := (List.takeWhile_sublist (l := ns.reverse) (· == 61)).length_le
  unfold padsOf; simpa using this
theorem val_snoc (fs : List Nat) (f : Nat) : val 64 (fs ++ [f]) = val 64 fs * 64 + f := val_append 64 fs f
theorem octs_length (fs : List Nat) : (octs fs).length = fs.length * 6 / 8 := digits_length _ _ _

theorem octs_0 {fs : List Nat} {f : Nat} (h : fs.length % 4 = 0) (hf : f < 64) : octs (fs ++ [f]) = octs fs := by
  unfold octs
  rw [val_snoc, List.length_append, List.length_singleton]
  have e1 : (fs.length + 1) * 6 / 8 = fs.length * 6 / 8 := by omega
  have e2 : (fs.length + 1) * 6 - fs.length * 6 / 8 * 8 = 6 := by omega
  have e3 : fs.length * 6 - fs.length * 6 / 8 * 8 = 0 := by omega
  rw [e1, e2, e3]
  congr 1; omega
theorem octs_1 {fs : List Nat} {f : Nat} (h : fs.length % 4 = 1) (hf : f < 64) : octs (fs ++ [f]) = octs fs ++ [val 64 fs % 64 * 4 + f / 16] := by
  unfold octs
  rw [val_snoc, List.length_append, List.length_singleton]
  have e1 : (fs.length + 1) * 6 / 8 = fs.length * 6 / 8 + 1 := by omega
  have e2 : (fs.length + 1) * 6 - (fs.length * 6 / 8 + 1) * 8 = 4 := by omega
  have e3 : fs.length * 6 - fs.length * 6 / 8 * 8 = 6 := by omega
  rw [e1, e2, e3, digits_succ]
  congr 2 <;> omega
theorem octs_2 {fs : List Nat} {f : Nat} (h : fs.length % 4 = 2) (hf : f < 64) : octs (fs ++ [f]) = octs fs ++ [val 64 fs % 16 * 16 + f / 4] := by
  unfold octs
  rw [val_snoc, List.length_append, List.length_singleton]
  have e1 : (fs.length + 1) * 6 / 8 = fs.length * 6 / 8 + 1 := by omega
  have e2 : (fs.length + 1) * 6 - (fs.length * 6 / 8 + 1) * 8 = 2 := by omega
  have e3 : fs.length * 6 - fs.length * 6 / 8 * 8 = 4 := by omega
  rw [e1, e2, e3, digits_succ]
  congr 2 <;> omega
theorem octs_3 {fs : List Nat} {f : Nat} (h : fs.length % 4 = 3) (hf : f < 64) : octs (fs ++ [f]) = octs fs ++ [val 64 fs % 4 * 64 + f] := by
  unfold octs
  rw [val_snoc, List.length_append, List.length_singleton]
  have e1 : (fs.length + 1) * 6 / 8 = fs.length * 6 / 8 + 1 := by omega
  have e2 : (fs.length + 1) * 6 - (fs.length * 6 / 8 + 1) * 8 = 0 := by omega
  have e3 : fs.length * 6 - fs.length * 6 / 8 * 8 = 2 := by omega
  rw [e1, e2, e3, digits_succ]
  congr 2 <;> omega
theorem or_add {a b k : Nat} (h : b < 2 ^ k) : a * 2 ^ k ||| b = a * 2 ^ k + b := by
  have := Nat.shiftLeft_add_eq_or_of_lt h a
  rw [Nat.shiftLeft_eq] at this
  exact this.symm

section
variable {prog : Program} {w : World} {mg mb : Str → Option Value}
def inD (ns : List Nat) : List D := (zs ns).map .int
theorem inD_append (a : List Nat) (n : Nat) : inD (a ++ [n]) = inD a ++ [.int (n : Int)] := by simp [inD, zs]
theorem inD_length (a : List Nat) : (inD a).length = a.length := by simp [inD, zs]

/-- what the names hold behind i signs -/
def A2b (a : Addr) (ns : List Nat) (ρ : Vars) (own : Own) : Prop :=
  own = [(a, inD (octs (figsOf ns)))] ∧ ρ "out" = some (.addr a) ∧ ρ "quad_pos" = some (.int ((figsOf ns).length % 4 : Nat)) ∧
    ρ "leftchar" = some (.int (val 64 (figsOf ns) % 2 ^ ((figsOf ns).length * 6 % 8) : Nat)) ∧ ρ "pads" = some (.int (padsOf ns : Nat)) ∧ ρ "strict_mode" = some (.bool false) ∧ ∃ n : Int, ρ "i" = some (.int n)

theorem a2b_pre (ns : List Nat) (hl : ns.length ≤ 1000) (hn : ∀ n ∈ ns, Sgn n) {A : Around} {L f : Addr} {cd : Value} {h₀ : Heap} {g₀ : Part} {Φ : Fl → Vars → Own → Prop} {rest : List Stmt}
    (hrest : ∀ a ρ own, A2b a ns ρ own → Ex (fnCx prog w A 1 mg mb 13 L f cd h₀ g₀) ρ own rest Φ) :
    Ex (fnCx prog w A 1 mg mb 13 L f cd h₀ g₀) (bindVars [("data", .bytes (bA ns)), ("strict_mode", .bool false)] fun _ => none) [] ((fnBody 13).take 8 ++ rest) Φ := by
  have hlt : ∀ n ∈ ns, n < 256 := fun n h => (hn n h).1
  refine Ex.assign (Ev.call (con_asciiBuf _) (.cons (Ev.name rfl) (by intro _ _ q; cases q) .nil)) ?_
  refine Ex.assign (Ev.call (con_truth _) (.cons (Ev.name rfl) (by intro _ _ q; cases q) .nil)) ?_
  refine Ex.assignOwn .nil fun a => ?_
  refine Ex.assign Ev.int ?_
  refine Ex.assign Ev.int ?_
  refine Ex.assign Ev.int ?_
  refine Ex.assign Ev.int ?_
  refine Ex.for (ItSrc.bytesD (b := bA ns) (Ev.name rfl)) (fun i ρ own => A2b a (ns.take i) ρ own) ⟨by simp [figsOf, octs, digits, inD, zs], rfl, rfl, rfl, rfl, rfl, _, rfl⟩ ?_ ?_
  · rintro i ρ own hi ⟨rfl, h1, h2, h3, h4, h5, ii, h6⟩
    rw [bA_size] at hi
    have hm : ns.getD i 0 ∈ ns := by simp [List.getD, hi]
    have hs := hn _ hm
    have htk : ns.take (i + 1) = ns.take i ++ [ns.getD i 0] := by
      rw [List.take_add_one, List.getElem?_eq_getElem hi]; simp [List.getD, hi]
    have hlen : (ns.take i).length ≤ 1000 := by simp; omega
    refine ⟨(·.set "this_ch" (.int (ns.getD i 0 : Nat))), fun g v h g' hs hI _ => Bind.name (by have := Is.sub hs hI; dsimp only at this; rwa [bA_getD hlt _ hi] at this) rfl, ?_⟩
    rw [htk]
    generalize ns.getD i 0 = cc at hs hm
    generalize ns.take i = pre at h2 h3 h4 hlen ⊢
    clear htk
    have hfl := figsOf_le pre
    have hol := octs_length (figsOf pre)
    refine Ex.ite (Et.eqi (Ev.name rfl) Ev.int) (fun hc => ?_) fun hc => Ex.nil ?_
    · have hc : cc = 61 := by have := beq_iff_eq.mp hc; omega
      subst hc
      have key : ∀ ρ' : Vars, ρ' "out" = ρ "out" → ρ' "quad_pos" = ρ "quad_pos" → ρ' "leftchar" = ρ "leftchar" → ρ' "strict_mode" = ρ "strict_mode" → ρ' "pads" = some (.int (padsOf (pre ++ [61]) : Nat)) → (∃ n : Int, ρ' "i" = some (.int n)) → A2b a (pre ++ [61]) ρ' [(a, inD (octs (figsOf pre)))] := fun ρ' k1 k2 k3 k4 k5 k6 =>
        ⟨by rw [figsOf_pad], k1.trans h1, by rw [k2, h2, figsOf_pad], by rw [k3, h3, figsOf_pad], k5, k4.trans h5, k6⟩
      refine Ex.assign (d := .int (padsOf (pre ++ [61]) : Nat)) (Ev.eq (Ev.add (Ev.name (by exact h4)) Ev.int) (by rw [padsOf_pad]; push_cast; rfl)) ?_
      refine Ex.ite (Et.ands (Et.ge (Ev.name (by exact h2)) Ev.int) fun _ => Et.ands1 (Et.le (Ev.add (Ev.name (by exact h2)) (Ev.name rfl)) Ev.int)) (fun _ => ?_) fun _ => Ex.nil ?_
      · exact Ex.assign (Ev.add (Ev.name (by exact h6)) Ev.int) (Ex.cont (key _ rfl rfl rfl rfl rfl ⟨_, rfl⟩))
      · refine Ex.ite (Et.not (Et.bool (Ev.name (by exact h5)))) (fun _ => ?_) fun q => absurd q (by decide)
        exact Ex.assign (Ev.add (Ev.name (by exact h6)) Ev.int) (Ex.cont (key _ rfl rfl rfl rfl rfl ⟨_, rfl⟩))
    have hc : cc ≠ 61 := fun q => by rw [q] at hc; exact absurd hc (by decide)
    obtain ⟨hv0, hv1⟩ : 0 ≤ b64v cc ∧ b64v cc < 64 := by rcases hs.2 with q | q; exact absurd q hc; exact q
    have hfig : ((fig cc : Nat) : Int) = b64v cc := by unfold fig; omega
    have hfl64 : fig cc < 64 := by omega
    refine Ex.assign (d := .int (fig cc : Nat)) (Ev.eq (Ev.call (con_b64v (cc : Int)) (.cons (Ev.name rfl) (by intro _ _ q; cases q) .nil)) (by rw [hfig])) ?_
    refine Ex.ite (Et.eq (Et.ge (Ev.name rfl) Ev.int) (show _ = false from by simp; omega)) (fun q => nomatch q) fun _ => Ex.nil ?_
    refine Ex.ite (t := false) (Et.eq (Et.ands (Et.int (Ev.name (by exact h4))) fun _ => Et.ands1 (Et.bool (Ev.name (by exact h5)))) (by simp)) (fun q => nomatch q) fun _ => Ex.nil ?_
    refine Ex.assign Ev.int ?_
    generalize hfc : fig cc = fc at hfl64 hfig
    have fin : ∀ (ρ' : Vars) (out : List Nat) (qp lc : Nat), octs (figsOf pre ++ [fc]) = out → ((figsOf pre).length + 1) % 4 = qp → (val 64 (figsOf pre) * 64 + fc) % 2 ^ (((figsOf pre).length + 1) * 6 % 8) = lc → ρ' "out" = some (.addr a) → ρ' "quad_pos" = some (.int (qp : Nat)) → ρ' "leftchar" = some (.int (lc : Nat)) →
        ρ' "strict_mode" = some (.bool false) → ρ' "pads" = some (.int 0) → (∃ n : Int, ρ' "i" = some (.int n)) → A2b a (pre ++ [cc]) ρ' [(a, inD out)] := fun ρ' out qp lc e1 e2 e3 k1 k2 k3 k4 k5 k6 => by
      have hF : figsOf (pre ++ [cc]) = figsOf pre ++ [fc] := by rw [figsOf_sign hc, hfc]
      refine ⟨?_, k1, ?_, ?_, ?_, k4, k6⟩
      · rw [hF, e1]
      · rw [hF, List.length_append, List.length_singleton, e2]; exact k2
      · rw [hF, val_snoc, List.length_append, List.length_singleton, e3]; exact k3
      · rw [padsOf_sign hc]; exact k5
    have h4' : (figsOf pre).length % 4 = 0 ∨ (figsOf pre).length % 4 = 1 ∨ (figsOf pre).length % 4 = 2 ∨ (figsOf pre).length % 4 = 3 := by omega
    generalize hV : val 64 (figsOf pre) = V at h3 fin
    rcases h4' with q0 | q0 | q0 | q0
    · rw [q0] at h2
      have e6 : ((figsOf pre).length + 1) * 6 % 8 = 6 := by omega
      refine Ex.ite (Et.eqi (Ev.name (by exact h2)) Ev.int) (fun _ => ?_) fun q => absurd q (by decide)
      refine Ex.assign Ev.int (Ex.assign (Ev.name rfl) (Ex.nil ?_))
      refine Ex.assign (Ev.add (Ev.name (by exact h6)) Ev.int) (Ex.nil (fin _ _ 1 fc (octs_0 q0 hfl64) (by omega) (by rw [e6]; omega) h1 rfl rfl h5 rfl ⟨_, rfl⟩))
    · rw [q0] at h2
      have e6 : (figsOf pre).length * 6 % 8 = 6 := by omega
      have e7 : ((figsOf pre).length + 1) * 6 % 8 = 4 := by omega
      rw [e6] at h3
      refine Ex.ite (Et.eqi (Ev.name (by exact h2)) Ev.int) (fun q => absurd q (by decide)) fun _ => ?_
      refine Ex.ite (Et.eqi (Ev.name (by exact h2)) Ev.int) (fun _ => ?_) fun q => absurd q (by decide)
      refine Ex.assign Ev.int ?_
      refine Ex.append (d := .int ((V % 64 * 4 + fc / 16 : Nat) : Int)) (Ev.name (by exact h1)) (Ev.eq (Ev.bor (a := V % 64 * 4) (b := fc / 16) (Ev.eq (Ev.shl (Ev.name (by exact h3)) Ev.int (by decide) (by decide) (by omega)) ?_) (Ev.eq (Ev.shr (Ev.name rfl) Ev.int (by decide)) ?_)) ?_) ?_ (by rw [inD_length]; omega)
      · congr 1
      · congr 1
      · congr 2; exact or_add (k := 2) (by omega)
      rw [← inD_append]
      refine Ex.assign (Ev.band (a := fc) (b := 15) (Ev.name rfl) Ev.int) (Ex.nil (Ex.nil ?_))
      refine Ex.assign (Ev.add (Ev.name (by exact h6)) Ev.int) (Ex.nil (fin _ _ 2 (fc &&& 15) ?_ (by omega) ?_ h1 rfl rfl h5 rfl ⟨_, rfl⟩))
      · rw [octs_1 q0 hfl64, hV]
      · rw [e7, show fc &&& 15 = fc % 16 from Nat.and_two_pow_sub_one_eq_mod fc 4]; omega
    · rw [q0] at h2
      have e6 : (figsOf pre).length * 6 % 8 = 4 := by omega
      have e7 : ((figsOf pre).length + 1) * 6 % 8 = 2 := by omega
      rw [e6] at h3
      refine Ex.ite (Et.eqi (Ev.name (by exact h2)) Ev.int) (fun q => absurd q (by decide)) fun _ => ?_
      refine Ex.ite (Et.eqi (Ev.name (by exact h2)) Ev.int) (fun q => absurd q (by decide)) fun _ => ?_
      refine Ex.ite (Et.eqi (Ev.name (by exact h2)) Ev.int) (fun _ => ?_) fun q => absurd q (by decide)
      refine Ex.assign Ev.int ?_
      refine Ex.append (d := .int ((V % 16 * 16 + fc / 4 : Nat) : Int)) (Ev.name (by exact h1)) (Ev.eq (Ev.bor (a := V % 16 * 16) (b := fc / 4) (Ev.eq (Ev.shl (Ev.name (by exact h3)) Ev.int (by decide) (by decide) (by omega)) ?_) (Ev.eq (Ev.shr (Ev.name rfl) Ev.int (by decide)) ?_)) ?_) ?_ (by rw [inD_length]; omega)
      · congr 1
      · congr 1
      · congr 2; exact or_add (k := 4) (by omega)
      rw [← inD_append]
      refine Ex.assign (Ev.band (a := fc) (b := 3) (Ev.name rfl) Ev.int) (Ex.nil (Ex.nil (Ex.nil ?_)))
      refine Ex.assign (Ev.add (Ev.name (by exact h6)) Ev.int) (Ex.nil (fin _ _ 3 (fc &&& 3) ?_ (by omega) ?_ h1 rfl rfl h5 rfl ⟨_, rfl⟩))
      · rw [octs_2 q0 hfl64, hV]
      · rw [e7, show fc &&& 3 = fc % 4 from Nat.and_two_pow_sub_one_eq_mod fc 2]; omega
    · rw [q0] at h2
      have e6 : (figsOf pre).length * 6 % 8 = 2 := by omega
      have e7 : ((figsOf pre).length + 1) * 6 % 8 = 0 := by omega
      rw [e6] at h3
      refine Ex.ite (Et.eqi (Ev.name (by exact h2)) Ev.int) (fun q => absurd q (by decide)) fun _ => ?_
      refine Ex.ite (Et.eqi (Ev.name (by exact h2)) Ev.int) (fun q => absurd q (by decide)) fun _ => ?_
      refine Ex.ite (Et.eqi (Ev.name (by exact h2)) Ev.int) (fun q => absurd q (by decide)) fun _ => ?_
      refine Ex.assign Ev.int ?_
      refine Ex.append (d := .int ((V % 4 * 64 + fc : Nat) : Int)) (Ev.name (by exact h1)) (Ev.eq (Ev.bor (a := V % 4 * 64) (b := fc) (Ev.eq (Ev.shl (Ev.name (by exact h3)) Ev.int (by decide) (by decide) (by omega)) ?_) (Ev.name rfl)) ?_) ?_ (by rw [inD_length]; omega)
      · congr 1
      · congr 2; exact or_add (k := 6) (by omega)
      rw [← inD_append]
      refine Ex.assign Ev.int (Ex.nil (Ex.nil (Ex.nil ?_)))
      refine Ex.assign (Ev.add (Ev.name (by exact h6)) Ev.int) (Ex.nil (fin _ _ 0 0 ?_ (by omega) ?_ h1 rfl rfl h5 rfl ⟨_, rfl⟩))
      · rw [octs_3 q0 hfl64, hV]
      · rw [e7]; omega
  · intro ρ own h
    rw [bA_size, List.take_length] at h
    exact hrest a ρ own h
end
end Mine

/-! text M22 -/
namespace Mine

/-! ## statements one behind the other -/
theorem wpAny_execs_append {M : Model} {A : Around} {env : Env} {Q : Flow → Shared → Prop} {E : Value → Shared → Prop} {pre rest : List Stmt} {s : Shared}
    (h : wpAny M A (execs pre env) (fun f s' => match f with | .next => wpAny M A (execs rest env) Q E s' | f => Q f s') E s) : wpAny M A (execs (pre ++ rest) env) Q E s := by
  intro Γ p hΓ
  have key : ∀ (l : List Stmt) (p : Pos) (s : Shared), Sem.wp M Γ (execs l env) (fun f _ s' => match f with | .next => wpAny M A (execs rest env) Q E s' | f => Q f s') (fun e _ s' => E e s') p s → Sem.wp M Γ (execs (l ++ rest) env) (fun f _ s' => Q f s') (fun e _ s' => E e s') p s := by
    intro l
    induction l with
    | nil => intro p s h; exact h Γ p hΓ
    | cons st l ih =>
      intro p s h
      rw [List.cons_append, execs_cons, Sem.wp_bind']
      rw [execs_cons, Sem.wp_bind'] at h
      refine Sem.wp_mono M Γ _ (fun f p' s' h' => ?_) (fun _ _ _ h' => h') _ _ h
      cases f <;> first | exact ih p' s' h' | exact h'
  exact key pre p s (h Γ p hΓ)

/-! ## entering a def, whatever it does -/
theorem fn_call {prog : Program} {w : World} {mg mb : Str → Option Value} {room i : Nat} (bds : List (Str × D)) {A : Around} {g : Part} {s : Shared} {f : Addr} {dV kV : Value} {vs : List Value} {kvs : List (Str × Value)} {Q E : Value → Shared → Prop}
    (R : Room A (room + 1)) (G : Glb mg mb s.heap) (hf : FnAt mg s.heap i f dV kV) (inn : Inn g s.heap)
    (hbind : ∀ doc pm an cd ct, ∃ binds, BindsTo s (fnObj i dV kV doc pm an cd ct) ⟨vs, kvs⟩ binds ∧ binds.map (·.1) = bds.map (·.1) ∧ Isl g (binds.map (·.2)) (bds.map (·.2)))
    (body : ∀ cd h₁ tk, Fm (fnCx prog w A room mg mb i s.heap.objs.size f cd s.heap g) (bindVars bds fun _ => none) [] g h₁ →
      wpAny (model prog w) (A.deeper (fnEnv i s.heap.objs.size f cd)) (execs (fnBody i) (fnEnv i s.heap.objs.size f cd)) (fun fl s' => Q (match fl with | .ret v => v | _ => .none) s')
        (fun e s' => wpAny (model prog w) (A.deeper (fnEnv i s.heap.objs.size f cd)) (leaving (fnEnv i s.heap.objs.size f cd) e) (fun _ s'' => E e s'') (fun e' s'' => E e' s'') s') { s with heap := h₁, toks := tk })
    (hkind : (bds.all fun y => (fnScope i).names.lookup y.1 == some .local || ((fnScope i).names.lookup y.1 == some .cell)) = true := by rfl)
    (hk : (fnScope i).kind = .function := by rfl) (hco : (fnScope i).isCoroutine = false := by rfl) (hgen : (fnScope i).isGenerator = false := by rfl) :
    wpAny (model prog w) A (call (.ref f) vs kvs) Q E s := by
  obtain ⟨o, doc, pm, an, cd, ct, hf1, hf2, hf3⟩ := hf.o
  obtain ⟨binds, hb, hn, hbI⟩ := hbind doc pm an cd ct
  refine wpAny_call (codeAny_call_function (by have := R.depth; omega) hf1 hf2 hco hgen rfl hf3 (hb _ _ _ _ ?_))
  have hkd : ∀ x ∈ binds, (fnScope i).names.lookup x.1 = some .local ∨ ((fnScope i).names.lookup x.1 = some .cell ∧ ((cellsFrom (s.heap.objs.size + 1) (fnScope i).names []).lookup x.1).isSome = true) := fun x hx => by
    have hm : x.1 ∈ bds.map (·.1) := hn ▸ List.mem_map_of_mem hx
    obtain ⟨p, hp, e⟩ := List.mem_map.mp hm
    have := List.all_eq_true.mp hkind p hp
    rw [← e]
    rcases Bool.or_eq_true_iff.mp this with q | q
    · exact .inl (beq_iff_eq.mp q)
    · exact .inr ⟨beq_iff_eq.mp q, cellsFrom_some _ _ _ (.inl (beq_iff_eq.mp q))⟩
  refine wpAny_newFunctionEnv_cells hk hkd fun env he s' x => ?_
  subst he
  have F := enter_fm (prog := prog) (w := w) R G inn hn hbI hkind hk x
  refine ⟨(G.keep x.toInCall.keep).lim, codeAny_func ?_⟩
  obtain ⟨h₁, tk, rfl, _⟩ := x.done
  exact body cd h₁ tk F

/-! ## an error in flight -/
def fas (outer : List Env) : List Addr := outer.filterMap (·.frame)
/-- the frames around: of functions, with their names -/
def Frs (h : Heap) (outer : List Env) : Prop := ∀ env ∈ outer, env.scope.kind ≠ .module ∧ ∃ L m, env.frame = some L ∧ h.Ns L m
theorem Frs.keep {h h' : Heap} {outer : List Env} (x : Frs h outer) (k : Keep h h') : Frs h' outer := fun env he => let ⟨a, L, m, b, c⟩ := x env he; ⟨a, L, m, b, c.keeps k⟩
theorem Frs.fun' {h : Heap} {outer : List Env} (x : Frs h outer) {base : Heap} (hb : ∀ b ∈ fas outer, base.get? b = none) : h.FunFrames base outer := by
  induction outer with
  | nil => trivial
  | cons env outer ih =>
    obtain ⟨a, L, m, b, c⟩ := x env (.head _)
    refine Heap.FunFrames.cons a b c (hb L ?_) (ih (fun e he => x e (.tail _ he)) fun b' hb' => hb b' ?_)
    · exact List.mem_filterMap.mpr ⟨env, .head _, b⟩
    · obtain ⟨e, he, hf⟩ := List.mem_filterMap.mp hb'
      exact List.mem_filterMap.mpr ⟨e, .tail _ he, hf⟩
theorem Frs.live {h : Heap} {outer : List Env} (x : Frs h outer) : ∀ b ∈ fas outer, ∃ m, h.Ns b m := fun b hb => by
  obtain ⟨e, he, hf⟩ := List.mem_filterMap.mp hb
  obtain ⟨_, L, m, hL, hn⟩ := x e he
  rw [hf] at hL; cases hL
  exact ⟨m, hn⟩
/-- an error of the text's class flies; from `h` on nothing but the frames' notes were touched -/
def Fly (mg : Str → Option Value) (h : Heap) (outer : List Env) (e : Addr) (h' : Heap) : Prop :=
  ∃ C t, mg "Error" = some (.ref C) ∧ Heap.FlyingW (hideAll h (fas outer)) outer e (.ref C) (.ref t) h' ∧ h.UpToSlots h'

/-- a call of def i with these data raises the error -/
def ConR (prog : Program) (w : World) (mg mb : Str → Option Value) (room : Nat) (i : Nat) (kw : List (Str × D)) (ds : List D) : Prop :=
  ∀ (A : Around) (g : Part) (s : Shared) (f : Addr) (dV kV : Value) (vs : List Value) (kvs : List (Str × Value)) (Q E : Value → Shared → Prop) (outer : List Env), Room A room → A.frames = some outer → Frs s.heap outer → Glb mg mb s.heap → FnAt mg s.heap i f dV kV → Inn g s.heap → Isl g vs ds →
    (kvs.map (·.1) = kw.map (·.1)) → Isl g (kvs.map (·.2)) (kw.map (·.2)) →
    (∀ e h' k, Fly mg s.heap outer e h' → E (.ref e) { s with heap := h', toks := k }) → wpAny (model prog w) A (call (.ref f) vs kvs) Q E s

section
variable {prog : Program} {w : World} {mg mb : Str → Option Value} {A : Around} {room i : Nat} {f : Addr} {cd : Value} {s : Shared} {g₀ : Part} {outer : List Env}

/-- the frames with one more -/
theorem frs_in {ρ : Vars} {own : Own} {g : Part} {h : Heap} (F : Fm (fnCx prog w A room mg mb i s.heap.objs.size f cd s.heap g₀) ρ own g h) (x : Frs s.heap outer) (hk : (fnScope i).kind = .function) : Frs h (fnEnv i s.heap.objs.size f cd :: outer) := fun env he => by
  rcases List.mem_cons.mp he with rfl | he
  · obtain ⟨m, hn, _⟩ := F.loc
    exact ⟨by show (fnScope i).kind ≠ .module; rw [hk]; decide, _, m, rfl, hn⟩
  · exact (x.keep F.keep₀) env he
theorem fas_cons (L f : Addr) (cd : Value) (outer : List Env) : fas (fnEnv i L f cd :: outer) = L :: fas outer := rfl

/-- the base of a flight, as the caller sees it -/
theorem base_in {ρ : Vars} {own : Own} {g : Part} {h : Heap} (F : Fm (fnCx prog w A room mg mb i s.heap.objs.size f cd s.heap g₀) ρ own g h) : (hideAll s.heap (fas outer)).StaysIn (hideAll h (fas (fnEnv i s.heap.objs.size f cd :: outer))) := fun b o e => by
  have h1 := of_hideAll _ e
  refine hideAll_get _ (F.keep₀ b o h1) ?_
  rw [fas_cons]
  intro q
  rcases List.mem_cons.mp q with rfl | q
  · exact absurd (Heap.lt_size h1) (Nat.lt_irrefl _)
  · rw [hideAll_none _ q] at e; cases e

/-- an error that was raised in the frame leaves it -/
theorem leave_made {ρ : Vars} {own : Own} {g : Part} {h h' : Heap} {k : Nat} {e C : Addr} {args : List Value} {Q : Unit → Shared → Prop} {E : Value → Shared → Prop} (F : Fm (fnCx prog w A room mg mb i s.heap.objs.size f cd s.heap g₀) ρ own g h) (hA : A.frames = some outer) (x : Frs s.heap outer) (hk : (fnScope i).kind = .function)
    (hC : mg "Error" = some (.ref C)) (hx : Heap.MadeExcOf h h' e (.ref C) args) (hQ : ∀ h'', Fly mg s.heap outer e h'' → Q () { s with heap := h'', toks := k }) :
    wpAny (model prog w) (A.deeper (fnEnv i s.heap.objs.size f cd)) (leaving (fnEnv i s.heap.objs.size f cd) (.ref e)) Q E { s with heap := h', toks := k } := by
  refine wpAny_leaves_madeW (base := hideAll h (fas (fnEnv i s.heap.objs.size f cd :: outer))) (Around.frames_deeper hA) rfl (fun b o q => of_hideAll _ q) ((frs_in F x hk).fun' fun b hb => hideAll_none _ hb) hx fun h'' t fl tp hn up => ?_
  exact hQ h'' ⟨C, t, hC, flyingW_base (base_in F) fl, ((Heap.UpToSlots.of_keeps F.keep₀).trans (Heap.UpToSlots.of_keeps hx.keeps)).trans up⟩
/-- an error that flies through the frame -/
theorem leave_on {ρ : Vars} {own : Own} {g : Part} {h h' : Heap} {k : Nat} {e : Addr} {Q : Unit → Shared → Prop} {E : Value → Shared → Prop} (F : Fm (fnCx prog w A room mg mb i s.heap.objs.size f cd s.heap g₀) ρ own g h) (hA : A.frames = some outer)
    (hx : Fly mg h (fnEnv i s.heap.objs.size f cd :: outer) e h') (hQ : ∀ h'', Fly mg s.heap outer e h'' → Q () { s with heap := h'', toks := k }) :
    wpAny (model prog w) (A.deeper (fnEnv i s.heap.objs.size f cd)) (leaving (fnEnv i s.heap.objs.size f cd) (.ref e)) Q E { s with heap := h', toks := k } := by
  obtain ⟨C, t, hC, fl, up⟩ := hx
  refine wpAny_leaves_onW (Around.frames_deeper hA) rfl fl fun h'' fl' up' => ?_
  exact hQ h'' ⟨C, t, hC, flyingW_base (base_in F) fl', ((Heap.UpToSlots.of_keeps F.keep₀).trans up).trans up'⟩
end

theorem Ev.lenOwn {c : Cx} {ρ : Vars} {own : Own} {e : Expr} {p pos : Pos} {a : Addr} {ds : List D} (h : Ev c ρ own e (.addr a)) (hm : (a, ds) ∈ own) (hz : ds.length ≤ 16000000) (hs : ∀ x p, e ≠ .Starred x p := by intro _ _ q; cases q) (hk : c.env.kindOf "len" = some .globalImplicit := by rfl) :
    Ev c ρ own (.Call (.Name "len" p) [e] [] pos) (.int ds.length) := fun g s Q E F hQ => by
  have hes : Evs c ρ own [e] [.addr a] := .cons h hs .nil
  refine wpAny_Call_Name_kw (load_blt F hk (by decide) Boot.len (by decide) rfl ?_)
  refine Calls.callWith_builtin hes.any (hes.evalArgs F fun vs g₁ h₁ k₁ G₁ I₁ => ?_)
  cases I₁ with
  | cons x y =>
    cases y; cases x
    have F₁ := F.grow G₁
    obtain ⟨_, _, vs, n, hva, hI⟩ := F₁.owns (a, ds) hm
    have hlen : vs.length = ds.length := hI.length
    refine Calls.call_len_list (items := vs.toArray) ⟨_, hva, rfl, n, rfl⟩ (by rw [List.size_toArray, hlen]; omega) ?_
    rw [List.size_toArray, hlen]
    exact hQ _ g₁ h₁ _ G₁ (.int _ _)

section
variable {prog : Program} {w : World} {mg mb : Str → Option Value}
theorem binds_a2b {g : Part} {s : Shared} {f : Addr} {dV kV : Value} {vs : List Value} {kvs : List (Str × Value)} {d : D} (hf : FnAt mg s.heap 13 f dV kV) (hI : Isl g vs [d]) (hkn : kvs.map (·.1) = ([("strict_mode", D.bool false)] : List (Str × D)).map (·.1)) (hkI : Isl g (kvs.map (·.2)) (([("strict_mode", D.bool false)] : List (Str × D)).map (·.2))) (doc pm : Value) (an : Option Addr) (cd ct : Value) :
    ∃ binds, BindsTo s (fnObj 13 dV kV doc pm an cd ct) ⟨vs, kvs⟩ binds ∧ binds.map (·.1) = ([("data", d), ("strict_mode", D.bool false)] : List (Str × D)).map (·.1) ∧ Isl g (binds.map (·.2)) (([("data", d), ("strict_mode", D.bool false)] : List (Str × D)).map (·.2)) := by
  obtain rfl : dV = .none := FnAt.noDef hf (by decide)
  cases hI with
  | cons a b =>
    cases b
    match kvs, hkn, hkI with
    | [(kn, kv)], hkn, hkI =>
      obtain rfl : kn = "strict_mode" := by simpa using hkn
      cases hkI with
      | cons u x => exact ⟨[("data", _), ("strict_mode", kv)], BindsTo.of_eq rfl, rfl, .cons a (.cons u .nil)⟩

/-- a2b_base64, where it ends well -/
theorem con_a2b (ns : List Nat) (hl : ns.length ≤ 1000) (hn : ∀ n ∈ ns, Sgn n) (hq : (figsOf ns).length % 4 ≠ 1) (hp : 2 ≤ padsOf ns) : Con prog w mg mb 2 13 [("strict_mode", .bool false)] [.bytes (bA ns)] (.bytes (bA (octs (figsOf ns)))) := by
  refine Con.intro [("data", .bytes (bA ns)), ("strict_mode", .bool false)] (fun s g vs kvs f dV kV doc pm an cd ct G hf hI hkn hkI => binds_a2b hf hI hkn hkI doc pm an cd ct) fun A L f cd h₀ g₀ => ?_
  refine a2b_pre (rest := (fnBody 13).drop 8) ns hl hn fun a ρ own h => ?_
  obtain ⟨rfl, h1, h2, h3, h4, h5, ii, h6⟩ := h
  have hfl := figsOf_le ns
  refine Ex.ite (Et.eq (Et.eqi (Ev.name h2) Ev.int) (show _ = false from by simp; omega)) (fun q => nomatch q) fun _ => Ex.nil ?_
  refine Ex.ite (t := false) ?_ (fun q => nomatch q) fun _ => Ex.nil ?_
  · refine Et.eq (Et.ands (Et.nei (Ev.name h2) Ev.int) fun _ => Et.ands1 (Et.lt (Ev.add (Ev.name h2) (Ev.name h4)) Ev.int)) ?_
    by_cases q : (figsOf ns).length % 4 = 0
    · rw [q]; rfl
    · rw [Bool.and_eq_false_iff]; right; simp; omega
  refine Ex.freeze h1 ?_
  refine Ex.ret (Ev.bytes (ns := zs (octs (figsOf ns))) (Ev.name rfl) (zs_mem (B := 256) (digits_lt (by decide))) ?_) rfl
  rw [zs_length, octs_length]; omega
/-- a2b_base64, where the figures are one more than fours -/
theorem conR_a2b (ns : List Nat) (hl : ns.length ≤ 1000) (hn : ∀ n ∈ ns, Sgn n) (hq : (figsOf ns).length % 4 = 1) : ConR prog w mg mb 2 13 [("strict_mode", .bool false)] [.bytes (bA ns)] := by
  intro A g s f dV kV vs kvs Q E outer R hA hfr G hf inn hI hkn hkI hE
  refine fn_call [("data", .bytes (bA ns)), ("strict_mode", .bool false)] R G hf inn (fun doc pm an cd ct => binds_a2b hf hI hkn hkI doc pm an cd ct) fun cd h₁ tk F => ?_
  have hpre := a2b_pre (prog := prog) (w := w) (mg := mg) (mb := mb) (A := A) (L := s.heap.objs.size) (f := f) (cd := cd) (h₀ := s.heap) (g₀ := g) (rest := []) (Φ := fun fl ρ own => fl = .next ∧ ∃ a, A2b a ns ρ own) ns hl hn fun a ρ own h => Ex.nil ⟨rfl, a, h⟩
  rw [List.append_nil] at hpre
  rw [← List.take_append_drop 8 (fnBody 13)]
  refine wpAny_execs_append (wpAny_mono (hpre g _ _ F) (fun fl s' p => ?_) fun _ _ e => e)
  obtain ⟨fl', g', h', k, ρ', own', rfl, a2, F', a4, rfl, a, rfl, h1, h2, h3, h4, h5, ii, h6⟩ := p
  cases a4
  rw [hq] at h2
  have hfl := figsOf_le ns
  have hol := octs_length (figsOf ns)
  refine wpAny_execs_cons (wpAny_If ((Et.eqi (c := fnCx prog w A 1 mg mb 13 s.heap.objs.size f cd s.heap g) (Ev.name h2) Ev.int) g' _ _ _ F' fun g₂ h₂ k₂ G₂ => ?_))
  have F₂ := F'.grow G₂
  refine wpAny_execs_cons ?_
  obtain ⟨C, N, nm, q, bs, bm, hdct, sn, sub, ab, col, dd, k0, k1, k2, k3, k5, newId, initId, B, mN, e1, e2, e3, e4, e5, e6, e7⟩ := (F₂.ok.glb.keep F₂.keep₀).err
  refine wpAny_Raise_call_sub (C := C) (nm := nm) (q := q) (N := N) (bs := bs) (bm := bm) (hdct := hdct) (sn := sn) (sub := sub) (ab := ab) (col := col) (dd := dd) (k0 := k0) (k1 := k1) (k2 := k2) (k3 := k3) (k5 := k5) (newId := newId) e5 (mN := mN) R.hand rfl e4 ?_
  refine load_glb (c := fnCx prog w A 1 mg mb 13 s.heap.objs.size f cd s.heap g) F₂ rfl e1 rfl ⟨rfl, ?_⟩
  refine Calls.evalArgs_plain (wpAny_spliced_cons ?_)
  refine wpAny_BinOp ((Ev.cstr (c := fnCx prog w A 1 mg mb 13 s.heap.objs.size f cd s.heap g)) g₂ _ _ _ F₂ fun va g₃ h₃ k₃ G₃ I₃ => ?_)
  have F₃ := F₂.grow G₃
  have hnum : ∃ n : Nat, n = (octs (figsOf ns)).length / 3 * 4 + 1 := ⟨_, rfl⟩
  obtain ⟨n, hnn⟩ := hnum
  refine (Ev.eq (d' := .int (n : Int)) (Ev.add (Ev.mul (Ev.div (c := fnCx prog w A 1 mg mb 13 s.heap.objs.size f cd s.heap g) (Ev.lenOwn (a := a) (ds := inD (octs (figsOf ns))) (Ev.name h1) (.head _) (by rw [inD_length]; omega)) Ev.int (by decide) (by decide)) Ev.int mulOk) Ev.int) ?_) g₃ _ _ _ F₃ fun vb g₄ h₄ k₄ G₄ I₄ => ?_
  · rw [inD_length, hnn]; push_cast; rfl
  have F₄ := F₃.grow G₄
  cases I₃; cases I₄
  refine KPc.mod_int (by kpc_eq) (by omega) (by omega) (by kpc_run) ?_
  intro t' k'
  refine wpAny_pure ⟨rfl, by show 1 ≤ _; rw [sizeLine_eq]; decide, ?_⟩
  have K₄ : Keep h₂ h₄ := (G₃.keep).trans G₄.keep
  refine ⟨K₄ _ _ e2, e3.keeps K₄, fun h₅ e hx => ?_⟩
  exact leave_made F₄ hA hfr rfl e1 hx fun h'' fl => hE e h'' k' fl
end
end Mine

/-! text M23 -/
namespace Mine

theorem asciiOf_tx {cs : List Nat} : asciiOf (tx cs) = bA cs := by
  apply Array.ext'
  simp [asciiOf, tx, bA, byteArr, zs]

section
variable {prog : Program} {w : World} {mg mb : Str → Option Value}

theorem binds_dec {g : Part} {s : Shared} {f : Addr} {dV kV : Value} {vs : List Value} {d₁ d₂ : D} (hf : FnAt mg s.heap 17 f dV kV) (hI : Isl g vs [d₁, d₂]) (doc pm : Value) (an : Option Addr) (cd ct : Value) :
    ∃ binds, BindsTo s (fnObj 17 dV kV doc pm an cd ct) ⟨vs, []⟩ binds ∧ binds.map (·.1) = ([("s", d₁), ("altchars", d₂), ("validate", D.bool false)] : List (Str × D)).map (·.1) ∧ Isl g (binds.map (·.2)) (([("s", d₁), ("altchars", d₂), ("validate", D.bool false)] : List (Str × D)).map (·.2)) := by
  have hd := hf.dfl
  unfold DefOk at hd
  rw [if_neg (by decide), if_pos rfl] at hd
  obtain ⟨T, o, n, rfl, ho, hs⟩ := hd
  cases hI with
  | cons a b => cases b with
    | cons b z =>
      cases z
      exact ⟨[("s", _), ("altchars", _), ("validate", .bool false)], BindsTo.of_defaults rfl ho hs rfl rfl, rfl, .cons a (.cons b (.cons (.bool false) .nil))⟩

theorem dec_pre (cs : List Nat) (p q : Nat) (hl : cs.length ≤ 1000) (hc : ∀ c ∈ cs, c < 128) (hp : p < 256) (hq : q < 256) {A : Around} {L f : Addr} {cd : Value} {h₀ : Heap} {g₀ : Part} {Φ : Fl → Vars → Own → Prop} {rest : List Stmt}
    (hrest : ∀ ρ, ρ "s" = some (.bytes (bA (cs.map (tr p q 43 47)))) → ρ "validate" = some (.bool false) → Ex (fnCx prog w A 2 mg mb 17 L f cd h₀ g₀) ρ [] rest Φ) :
    Ex (fnCx prog w A 2 mg mb 17 L f cd h₀ g₀) (bindVars [("s", .str (tx cs)), ("altchars", .bytes (bA [p, q])), ("validate", .bool false)] fun _ => none) [] ((fnBody 17).take 2 ++ rest) Φ := by
  refine Ex.assign (d := .bytes (bA cs)) (Ev.eq (Ev.call (con_bfdStr (tx cs) ?_ ?_) (.cons (Ev.name rfl) (by intro _ _ q; cases q) .nil)) (by rw [asciiOf_tx])) ?_
  · intro y hy; exact hc y (by simpa [tx] using hy)
  · show cs.toArray.size ≤ _; simp; omega
  refine Ex.ite (Et.isNotNone (Ev.name rfl) Ev.cnone) (fun _ => ?_) fun q => nomatch q
  refine Ex.assign (Ev.call (con_bfdBytes (bA [p, q])) (.cons (Ev.name rfl) (by intro _ _ q; cases q) .nil)) ?_
  refine Ex.assert (Et.eq (Et.eqi (lenBytesN (Ev.name rfl) (by simp)) Ev.int) rfl) ?_
  refine Ex.assign (d := .bytes (bA (cs.map (tr p q 43 47)))) (Ev.eq (Ev.translate (Ev.name rfl) (Ev.maketrans (a := bA [p, q]) (b := bA [43, 47]) (Ev.name rfl) (Ev.eq Ev.cbytes ?_) (by simp [bA_size])) (trTable_size _ _) ?_) ?_) (Ex.nil ?_)
  · simp [bA_two]
  · rw [bA_size]; omega
  · rw [tr_map hp hq]; intro n hn; exact Nat.lt_trans (hc n hn) (by decide)
  · exact hrest _ rfl rfl

theorem con_decode (cs : List Nat) (p q : Nat) (hl : cs.length ≤ 1000) (hc : ∀ c ∈ cs, c < 128) (hp : p < 256) (hq : q < 256) (hn : ∀ n ∈ cs.map (tr p q 43 47), Sgn n) (h4 : (figsOf (cs.map (tr p q 43 47))).length % 4 ≠ 1) (h2 : 2 ≤ padsOf (cs.map (tr p q 43 47))) :
    Con prog w mg mb 3 17 [] [.str (tx cs), .bytes (bA [p, q])] (.bytes (bA (octs (figsOf (cs.map (tr p q 43 47)))))) := by
  refine Con.intro [("s", .str (tx cs)), ("altchars", .bytes (bA [p, q])), ("validate", .bool false)] (fun s g vs kvs f dV kV doc pm an cd ct G hf hI hkn hkI => ?_) fun A L f cd h₀ g₀ => ?_
  · obtain rfl : kvs = [] := by simpa using hkn
    exact binds_dec hf hI doc pm an cd ct
  refine dec_pre (rest := (fnBody 17).drop 2) cs p q hl hc hp hq fun ρ h1 h3 => ?_
  exact Ex.ret (Ev.callKw (con_a2b _ (by simpa using hl) hn h4 h2) (.cons (Ev.name h1) (by intro _ _ q; cases q) .nil) (Ev.name h3)) rfl

/-- a call by name with a keyword, that raises -/
theorem callKw_raises {c : Cx} {ρ : Vars} {own : Own} {x : Str} {i : Nat} {e ke : Expr} {es : List Expr} {ds : List D} {kd : D} {kn : Str} {p pos kp : Pos} {room : Nat} {outer : List Env} (hC : ConR c.prog c.w c.mg c.mb room i [(kn, kd)] ds) (h : Evs c ρ own (e :: es) ds) (hke : Ev c ρ own ke kd)
    {g : Part} {s : Shared} {Q E : Value → Shared → Prop} (F : Fm c ρ own g s.heap) (hA : c.A.frames = some outer) (hfr : Frs s.heap outer)
    (hE : ∀ e g₂ h₂ h' k, Grow g s.heap g₂ h₂ → Fly c.mg h₂ outer e h' → E (.ref e) { s with heap := h', toks := k })
    (hx : fnName i = x := by rfl) (hi : i ∈ defIdx := by decide) (hr : room ≤ c.room := by exact Nat.le_of_ble_eq_true rfl) (hk : c.env.kindOf x = some .globalImplicit := by rfl) (hd : (x == ("__debug__" : Str)) = false := by rfl) :
    wpAny c.M c.A (eval (.Call (.Name x p) (e :: es) [⟨some kn, ke, kp⟩] pos) c.env) Q E s := by
  have G := F.ok.glb.keep F.keep₀
  obtain ⟨f, dV, kV, hf⟩ := G.fn i hi
  obtain ⟨o, doc, pm, an, cd, ct, hf1, hf2, hf3⟩ := hf.o
  refine wpAny_Call_Name_kw (load_glb F hk (hx ▸ hf.g) hd ?_)
  refine callWith_function_kw (o := o) (fd := fnObj i dV kV doc pm an cd ct) ?_
  have hs : ∀ x p, e ≠ .Starred x p := by cases h with | cons _ hs _ => exact hs
  have hsp := h.spliced (pos := pos)
  rw [starEach_plain hs] at hsp ⊢
  refine evalArgs_kw rfl (hsp g s _ E F fun vs g₁ h₁ k₁ G₁ I₁ => ?_)
  have F₁ := F.grow G₁
  refine wpAny_evalAll_cons ?_
  show wpAny c.M c.A (do let v ← eval ke c.env; standAt pos; pure v) _ E _
  refine wpAny_bind (hke g₁ _ _ E F₁ fun kv g₂ h₂ k₂ G₂ I₂ => wpAny_bind (wpAny_standAt (wpAny_pure (wpAny_evalAll_nil ?_))))
  have F₂ := F₁.grow G₂
  refine ⟨⟨G₂.keep _ _ (G₁.keep _ _ hf1), hf2⟩, ?_⟩
  exact hC c.A g₂ _ f dV kV vs [(kn, kv)] _ _ outer (F.ok.rm.le hr) hA ((hfr.keep G₁.keep).keep G₂.keep) ((G.keep G₁.keep).keep G₂.keep) ((hf.keep G₁.keep).keep G₂.keep) F₂.inn (I₁.sub G₂.sub) rfl (.cons I₂ .nil) fun e h' k fl => hE e g₂ h₂ h' k (G₁.trans G₂) fl
/-- a call by name, that raises -/
theorem call_raises {c : Cx} {ρ : Vars} {own : Own} {x : Str} {i : Nat} {es : List Expr} {ds : List D} {p pos : Pos} {room : Nat} {outer : List Env} (hC : ConR c.prog c.w c.mg c.mb room i [] ds) (h : Evs c ρ own es ds)
    {g : Part} {s : Shared} {Q E : Value → Shared → Prop} (F : Fm c ρ own g s.heap) (hA : c.A.frames = some outer) (hfr : Frs s.heap outer)
    (hE : ∀ e g₂ h₂ h' k, Grow g s.heap g₂ h₂ → Fly c.mg h₂ outer e h' → E (.ref e) { s with heap := h', toks := k })
    (hx : fnName i = x := by rfl) (hi : i ∈ defIdx := by decide) (hr : room ≤ c.room := by exact Nat.le_of_ble_eq_true rfl) (hk : c.env.kindOf x = some .globalImplicit := by rfl) (hd : (x == ("__debug__" : Str)) = false := by rfl) :
    wpAny c.M c.A (eval (.Call (.Name x p) es [] pos) c.env) Q E s := by
  have G := F.ok.glb.keep F.keep₀
  obtain ⟨f, dV, kV, hf⟩ := G.fn i hi
  obtain ⟨o, doc, pm, an, cd, ct, hf1, hf2, hf3⟩ := hf.o
  refine wpAny_Call_Name_kw (load_glb F hk (hx ▸ hf.g) hd ?_)
  refine Calls.callWith_function (o := o) (h.evalArgs F fun vs g₁ h₁ k₁ G₁ I₁ => ⟨⟨G₁.keep _ _ hf1, hf2⟩, ?_⟩)
  have F₁ := F.grow G₁
  exact hC c.A g₁ _ f dV kV vs [] _ _ outer (F.ok.rm.le hr) hA (hfr.keep G₁.keep) (G.keep G₁.keep) (hf.keep G₁.keep) F₁.inn I₁ rfl .nil fun e h' k fl => hE e g₁ h₁ h' k G₁ fl

theorem conR_decode (cs : List Nat) (p q : Nat) (hl : cs.length ≤ 1000) (hc : ∀ c ∈ cs, c < 128) (hp : p < 256) (hq : q < 256) (hn : ∀ n ∈ cs.map (tr p q 43 47), Sgn n) (h4 : (figsOf (cs.map (tr p q 43 47))).length % 4 = 1) :
    ConR prog w mg mb 3 17 [] [.str (tx cs), .bytes (bA [p, q])] := by
  intro A g s f dV kV vs kvs Q E outer R hA hfr G hf inn hI hkn hkI hE
  obtain rfl : kvs = [] := by simpa using hkn
  refine fn_call [("s", .str (tx cs)), ("altchars", .bytes (bA [p, q])), ("validate", .bool false)] R G hf inn (fun doc pm an cd ct => binds_dec hf hI doc pm an cd ct) fun cd h₁ tk F => ?_
  have hpre := dec_pre (prog := prog) (w := w) (mg := mg) (mb := mb) (A := A) (L := s.heap.objs.size) (f := f) (cd := cd) (h₀ := s.heap) (g₀ := g) (rest := []) (Φ := fun fl ρ own => fl = .next ∧ own = [] ∧ ρ "s" = some (.bytes (bA (cs.map (tr p q 43 47)))) ∧ ρ "validate" = some (.bool false)) cs p q hl hc hp hq fun ρ h1 h2 => Ex.nil ⟨rfl, rfl, h1, h2⟩
  rw [List.append_nil] at hpre
  rw [← List.take_append_drop 2 (fnBody 17)]
  refine wpAny_execs_append (wpAny_mono (hpre g _ _ F) (fun fl s' p => ?_) fun _ _ e => e)
  obtain ⟨fl', g', h', k, ρ', own', rfl, a2, F', a4, rfl, rfl, h1, h3⟩ := p
  cases a4
  refine wpAny_execs_cons (wpAny_Return_some ?_)
  refine callKw_raises (c := fnCx prog w A 2 mg mb 17 s.heap.objs.size f cd s.heap g) (conR_a2b _ (by simpa using hl) hn h4) (.cons (Ev.name h1) (by intro _ _ q; cases q) .nil) (Ev.name h3) F' (Around.frames_deeper hA) (frs_in F' hfr rfl) fun e g₂ h₂ h'' k' G₂ fl => ?_
  exact leave_on (F'.grow G₂) hA fl fun h₃ fl' => hE e h₃ k' fl'
end

theorem exc_notDict {nm q : Str} {C N : Addr} {bs bm : List Value} {hdct : Bool} {sn : List Str} {sub : List Value} {ab : Bool} {col : Option Bool} {dd : Option Addr} {k0 k1 k2 k3 k5 : Option Value} {newId : String} {o : Obj} {es : Array DictEntry} {ep : Nat}
    (h : excClassObj nm q C N bs bm hdct sn sub ab col dd k0 k1 k2 k3 k5 newId = o) (hd : o.data = .dict es ep) : False := by
  subst h
  unfold excClassObj at hd
  exact absurd hd (by intro q; cases q)
theorem exc_match {M : Model} {A : Around} {E : Value → Shared → Prop} {s : Shared} {nm q : Str} {C N : Addr} {bs bm : List Value} {hdct : Bool} {sn : List Str} {sub : List Value} {ab : Bool} {col : Option Bool} {dd : Option Addr} {k0 k1 k2 k3 k5 : Option Value} {newId : String} {e : Addr} {oe : Obj} {Q : Bool → Shared → Prop}
    (hC : s.heap.get? C = some (excClassObj nm q C N bs bm hdct sn sub ab col dd k0 k1 k2 k3 k5 newId)) (he : s.heap.get? e = some oe) (hcls : oe.cls = .ref C) (hb : bm.contains (.type "ValueError") = true) (hq : Q true s) : wpAny M A (excMatches (.ref e) (.type "ValueError")) Q E s := by
  obtain ⟨h, g, d, t, os⟩ := s
  refine wpAny_excMatches_sub_type hC he hcls PySem.F.isExc_ValueError PySem.F.notTuple_ValueError ?_
  rw [hb]; exact hq
/-! ## _law_reading: the error is caught -/
structure GrowU (F : List Addr) (g : Part) (h : Heap) (g' : Part) (h' : Heap) : Prop where
  sub : Sub g g'
  inn : Inn g' h'
  keep : ∀ b o, b ∉ F → h.get? b = some o → h'.get? b = some o
  up : ∀ b ∈ F, ∀ m, h.Ns b m → h'.Ns b m
  new : ∀ a o, g' a = some o → g a = some o ∨ h.get? a = none
/-- a call of def i with these data gives d; the frames around may be noted in -/
def ConU (prog : Program) (w : World) (mg mb : Str → Option Value) (room : Nat) (i : Nat) (ds : List D) (d : D) : Prop :=
  ∀ (A : Around) (g : Part) (s : Shared) (f : Addr) (dV kV : Value) (vs : List Value) (Q E : Value → Shared → Prop) (outer : List Env), Room A room → A.frames = some outer → Frs s.heap outer → (∀ b ∈ fas outer, g b = none) → Glb mg mb s.heap → FnAt mg s.heap i f dV kV → Inn g s.heap → Isl g vs ds →
    (∀ v g' h' k, GrowU (fas outer) g s.heap g' h' → Is g' v d → Q v { s with heap := h', toks := k }) → wpAny (model prog w) A (call (.ref f) vs []) Q E s
theorem Con.u {prog : Program} {w : World} {mg mb : Str → Option Value} {room i : Nat} {ds : List D} {d : D} (h : Con prog w mg mb room i [] ds d) : ConU prog w mg mb room i ds d :=
  fun A g s f dV kV vs Q E outer R hA hfr hg G hf inn hI hQ => h A g s f dV kV vs [] Q E R G hf inn hI rfl .nil fun v g' h' k gr I => hQ v g' h' k ⟨gr.sub, gr.inn, fun b o _ e => gr.keep b o e, fun b _ m hn => hn.keeps gr.keep, gr.new⟩ I

section
variable {prog : Program} {w : World} {mg mb : Str → Option Value}
theorem con_reading (cs : List Nat) (p q : Nat) (hl : cs.length ≤ 900) (hc : ∀ c ∈ cs, c < 128) (hp : p < 256) (hq : q < 256) (hn : ∀ n ∈ (cs ++ [61, 61]).map (tr p q 43 47), Sgn n) (h4 : (figsOf ((cs ++ [61, 61]).map (tr p q 43 47))).length % 4 ≠ 1) (h2 : 2 ≤ padsOf ((cs ++ [61, 61]).map (tr p q 43 47))) :
    Con prog w mg mb 4 26 [] [.str (tx cs), .bytes (bA [p, q])] (.bytes (bA (octs (figsOf ((cs ++ [61, 61]).map (tr p q 43 47)))))) := by
  refine Con.intro2 (x := "text") (y := "altchars") fun A L f cd h₀ g₀ => ?_
  refine Ex.tryRet (Ex.ret (Ev.call (con_decode (cs ++ [61, 61]) p q (by simp; omega) ?_ hp hq hn h4 h2) (.cons (Ev.eq (Ev.addStr (x := tx cs) (y := tx [61, 61]) (Ev.name rfl) Ev.cstr ?_) (by rw [tx_append])) (by intro _ _ q; cases q) (.cons (Ev.name rfl) (by intro _ _ q; cases q) .nil))) rfl)
  · intro c hcm
    rcases List.mem_append.mp hcm with h | h
    · exact hc c h
    · have : c = 61 := by simpa using h
      omega
  · rw [tx_length, tx_length]; simp; omega
theorem conU_reading (cs : List Nat) (p q : Nat) (hl : cs.length ≤ 900) (hc : ∀ c ∈ cs, c < 128) (hp : p < 256) (hq : q < 256) (hn : ∀ n ∈ (cs ++ [61, 61]).map (tr p q 43 47), Sgn n) (h4 : (figsOf ((cs ++ [61, 61]).map (tr p q 43 47))).length % 4 = 1) :
    ConU prog w mg mb 4 26 [.str (tx cs), .bytes (bA [p, q])] .none := by
  intro A g s f dV kV vs Q E outer R hA hfr hg G hf inn hI hQ
  obtain rfl : dV = .none := FnAt.noDef hf (by decide)
  refine fn_call [("text", .str (tx cs)), ("altchars", .bytes (bA [p, q]))] R G hf inn (fun doc pm an cd ct => ?_) fun cd h₁ tk F => ?_
  · cases hI with
    | cons a b => cases b with
      | cons b z => cases z; exact ⟨[("text", _), ("altchars", _)], BindsTo.of_eq rfl, rfl, .cons a (.cons b .nil)⟩
  refine wpAny_execs_cons (wpAny_Try_except (wpAny_execs_cons (wpAny_Return_some ?_)))
  refine call_raises (c := fnCx prog w A 3 mg mb 26 s.heap.objs.size f cd s.heap g) (conR_decode (cs ++ [61, 61]) p q (by simp; omega) ?_ hp hq hn h4) (.cons (Ev.eq (Ev.addStr (x := tx cs) (y := tx [61, 61]) (Ev.name rfl) Ev.cstr ?_) (by rw [tx_append])) (by intro _ _ q; cases q) (.cons (Ev.name rfl) (by intro _ _ q; cases q) .nil)) F (Around.frames_deeper hA) (frs_in F hfr rfl) fun e g₂ h₂ h' k G₂ fl => ?_
  · intro c hcm
    rcases List.mem_append.mp hcm with h | h
    · exact hc c h
    · have : c = 61 := by simpa using h
      omega
  · rw [tx_length, tx_length]; simp; omega
  have F₂ := F.grow G₂
  obtain ⟨C, t, hC, fl, up⟩ := fl
  refine wpAny_looks_onW (Around.frames_deeper hA) rfl fl fun h₄ held₄ up₄ => ?_
  refine wpAny_landsW held₄ fun h₅ fl₅ up₅ => ?_
  have stays : ∀ hh, (hideAll h₂ (fas (fnEnv 26 s.heap.objs.size f cd :: outer))).StaysIn hh → ∀ b o, b ∉ fas outer → s.heap.get? b = some o → hh.get? b = some o := fun hh st b o hb e => by
    refine st b o (hideAll_get _ (F₂.keep₀ b o e) ?_)
    rw [fas_cons]
    intro q
    rcases List.mem_cons.mp q with rfl | q
    · exact absurd (Heap.lt_size e) (Nat.lt_irrefl _)
    · exact hb q
  obtain ⟨C', N, nm, q', bs, bm, hdct, sn, sub, ab, col, dd, k0, k1, k2, k3, k5, newId, initId, B, mN, e1, e2, e3, e4, e5, e6, e7⟩ := G.err
  have hC : mg "Error" = some (.ref C) := hC
  obtain rfl : C = C' := by rw [hC] at e1; cases e1; rfl
  have hCf : C ∉ fas outer := fun z => by
    obtain ⟨m, o, es, ep, ho, hd, _⟩ := hfr.live C z
    rw [e2] at ho
    exact exc_notDict (Option.some.inj ho) hd
  have hC₅ := stays h₅ fl₅.1 C _ hCf e2
  have U : s.heap.UpToSlots h₅ := (((Heap.UpToSlots.of_keeps F₂.keep₀).trans up).trans up₄).trans up₅
  obtain ⟨ob, hob, hobc⟩ := fl₅.there
  refine wpAny_handleBy_cons (codeAny_handlers_test ?_) (by intro q; cases q)
  refine Calls.Name_function_global (show (fnScope 26).kind = .function from rfl) rfl (Calls.loadGlobal_builtin (U.ns G.g) (G.free "ValueError" (by decide)) (U.ns G.b) ((G.blt "ValueError" (by decide)).trans PyProof.Rows.Boot.«ValueError») ?_) rfl
  refine exc_match hC₅ hob hobc e7 ?_
  refine codeAny_handlers_suite (lands_againW fl₅ fun h₆ fl₆ up₆ => wpAny_execs_cons (wpAny_Return_some (Constant_none ?_)))
  have U₆ := U.trans up₆
  refine hQ .none g h₆ _ ⟨Sub.refl g, fun a o e => stays h₆ fl₆.1 a o (fun z => by rw [hg a z] at e; cases e) (inn a o e), fun b o hb e => stays h₆ fl₆.1 b o hb e, fun b _ m hn => U₆.ns hn, fun a o e => .inl e⟩ .none
end
end Mine

/-! text M24 -/
namespace Mine

section
open PySem.AutoSeq1
theorem iadd_meets (l : Addr) (items : Array Value) (n : Nat) (b : Addr) (items2 : Array Value) (n2 : Nat) (dd2 : Option Addr) (sl2 : Array (Option Value)) (hs0 : ¬(!items.isEmpty && Builtin.List.listTooLong (items.size + items2.size)) = true) (hs1 : items.size ≤ sizeLine) (hs2 : items.size + items2.size ≤ sizeLine + 1) :
    Meets (Builtin.«list.__iadd__» ⟨[.ref l, .ref b], []⟩) (fun _ R s => s.heap.get? l = some { cls := .type "list", dict := none, data := .seq items n, slots := #[] } ∧ s.heap.get? b = some { cls := .type "list", dict := dd2, data := .seq items2 n2, slots := sl2 } ∧ R (.ok (.ret (Value.ref l))) { s with heap := s.heap.update l (Obj.mapSeq fun x => x ++ items2), toks := s.toks }) :=
  .of_wp fun prog w A R s h => by
    obtain ⟨hp, g, d, tk, os⟩ := s; obtain ⟨hl, hb, h⟩ := h; have f1 := idx_int; have f2 := AutoSeq1.sub_tuple_tuple; have f3 := AutoSeq1.sub_list_list; have f4 := AutoSeq1.sub_tuple_list; have f5 := AutoSeq1.sub_list_tuple;
    have hz' : (items ++ items2).size ≤ sizeLine + 1 := by rw [Array.size_append]; exact hs2
    wp_walk using (wpAny_updateSeq hl rfl (hz := hs1) (_hz' := hz')), wpAny_loadPart' hl, wpAny_loadPart' hb; exact ⟨_, rfl, h⟩
end
theorem seq_list_iadd : seqSlot? (.type "list") (dunderI "add") = pure (some (.builtin "list.__iadd__")) := PySem.seqSlot_of F.slot_list_iadd.lookup (by decide +kernel)
theorem fills_list_iadd : fillsInplaceSlot (.type "list") "add" true = pure false := by
  unfold fillsInplaceSlot
  show (typeLookup (.type "list") (dunderI "add") >>= fun fi => pure (fi.isSome && !isSeqSlot fi)) = pure false
  rw [F.slot_list_iadd.lookup]
  show (pure (true && !isSeqSlot (some (.builtin "list.__iadd__"))) : Sem Bool) = pure false
  rw [show isSeqSlot (some (.builtin "list.__iadd__")) = true by decide +kernel]; rfl

section
variable {prog : Program} {w : World} {A : Around} {E : Value → Shared → Prop} {s : Shared}
theorem mapSeq_plain (f : Array Value → Array Value) (its : Array Value) (n : Nat) : ∃ n', Obj.mapSeq f { cls := .type "list", data := .seq its n } = { cls := .type "list", data := .seq (f its) n' } := by
  simp [Obj.mapSeq]

/-- `l += b` -/
theorem iadd_list {l b : Addr} {vs us : List Value} {n : Nat} {Q : Value → Shared → Prop} (hl : s.heap.get? l = some { cls := .type "list", data := .seq vs.toArray n }) (hb : s.heap.IsList b us.toArray) (hz : vs.length + us.length ≤ 16000000)
    (hQ : ∀ h' n', h'.get? l = some { cls := .type "list", data := .seq (vs ++ us).toArray n' } → Heap.SameBut l s.heap h' → Q (.ref l) { s with heap := h' }) : wpAny (model prog w) A (inplaceOp .Add (.ref l) (.ref b)) Q E s := by
  obtain ⟨⟨cls2, dd2, data2, sl2⟩, ho2, hc2, n2, hd2⟩ := hb
  simp only at hc2 hd2
  subst hc2 hd2
  have hTl : s.TypeIs (.ref l) "list" := ⟨_, hl, rfl⟩
  have hTb : s.TypeIs (.ref b) "list" := ⟨_, ho2, rfl⟩
  unfold inplaceOp
  refine wpAny_holding ?_
  refine wpAny_bind (wpAny_typeOf hTl (wpAny_bind (wpAny_of_eq fills_list_iadd ?_)))
  show wpAny _ A (if false = true then _ else _) Q E s
  rw [if_neg Bool.false_ne_true]
  refine wpAny_bind (wpAny_binaryOp1_none (nm := "add") hTl hTb noFill_list_add ?_)
  refine wpAny_bind (wpAny_of_eq seq_list_iadd ?_)
  refine wpAny_bind (wpAny_rule ?_)
  refine call_meets F.slot_list_iadd hTl F.entry_list_iadd (F.args_list_iadd_2 _ _) (iadd_meets l vs.toArray n b us.toArray n2 dd2 sl2 ?_ ?_ ?_) ⟨hl, ho2, ?_⟩
  · simp [Builtin.List.listTooLong, sizeLine_eq]; intros; omega
  · rw [List.size_toArray, sizeLine_eq]; omega
  · rw [List.size_toArray, List.size_toArray, sizeLine_eq]; omega
  · obtain ⟨n', hm⟩ := mapSeq_plain (fun x => x ++ us.toArray) vs.toArray n
    refine hQ _ n' ?_ (Heap.SameBut.update ..)
    rw [Heap.get?_update_self _ hl (by rw [hm]; rfl), hm]
    simp

/-- the store of what stands there already, from behind -/
theorem setItem_neg {l : Addr} {vs : List Value} {n : Nat} {k : Int} {t : Tok} {v : Value} {Q : Unit → Shared → Prop} (hl : s.heap.get? l = some { cls := .type "list", data := .seq vs.toArray n })
    (h0 : k < 0) (h1 : -(vs.length : Int) ≤ k) (h2 : -(2 ^ 63) ≤ k) (hv : vs[(k + vs.length).toNat]? = some v)
    (hQ : ∀ h' n', h'.get? l = some { cls := .type "list", data := .seq vs.toArray n' } → Heap.SameBut l s.heap h' → Q () { s with heap := h' }) : wpAny (model prog w) A (setItem (.ref l) (.int k t) v) Q E s := by
  have hT : s.TypeIs (.ref l) "list" := ⟨_, hl, rfl⟩
  unfold setItem
  try with_reducible refine wpAny_holding ?_
  first | refine wpAny_bind (wpAny_pure ?_) | skip
  refine wpAny_bind (wpAny_sequenceKey hT (by decide) ?_)
  refine wpAny_bind (wpAny_callSpecial?_slot (name := Str.ofString "__setitem__") hT slot_list_setitem
    (wpAny_call_entry slot_list_setitem hT entry_list_setitem ?_ (args_list_setitem _ _ _)))
  show wpAny _ _ (Builtin.List.listSubscript? (.int k t) >>= _) _ _ s
  refine wpAny_bind (wpAny_listSubscript_int (fitsIndex_neg h0 h2) ?_)
  have hidx := seqIndex_neg (n := vs.toArray.size) h0 (by simpa using h1)
  obtain ⟨j, rfl⟩ : ∃ j : Nat, k = Int.negSucc j := by
    cases k with
    | ofNat n => exact absurd h0 (Int.not_lt.mpr (Int.natCast_nonneg n))
    | negSucc n => exact ⟨n, rfl⟩
  show wpAny _ _ ((Builtin.List.listItems (.ref l) >>= fun xs => pure ((seqIndex? (Int.negSucc j) xs.size).bind fun i => xs[i]?.map (i, ·))) >>= _) _ _ s
  refine wpAny_bind (wpAny_bind ?_)
  show wpAny _ _ (seqItems? (.ref l) >>= _) _ _ s
  refine wpAny_bind (wpAny_seqItems hl rfl (wpAny_pure (wpAny_pure ?_)))
  rw [hidx]
  have hv' : vs.toArray[(Int.negSucc j + (vs.toArray.size : Nat)).toNat]? = some v := by simpa using hv
  simp only [Option.bind_some, hv', Option.map_some]
  show wpAny _ _ (setSeqItemAt l _ v >>= _) _ _ s
  refine wpAny_bind (wpAny_setSeqItemAt hl rfl ?_)
  obtain ⟨n', hm⟩ := mapSeq_plain (·.setIfInBounds (Int.negSucc j + (vs.toArray.size : Nat)).toNat v) vs.toArray n
  have hsame : vs.toArray.setIfInBounds (Int.negSucc j + (vs.toArray.size : Nat)).toNat v = vs.toArray := by
    apply Array.ext'
    simp
    rw [List.size_toArray] at hv'
    apply List.ext_getElem?
    intro i
    rw [List.getElem?_set]
    split
    · rename_i e; subst e
      split
      · simpa using hv.symm
      · rename_i hn; rw [List.getElem?_eq_none (by omega)]
    · rfl
  have hfin := hQ (s.heap.update l (Obj.mapSeq (·.setIfInBounds (Int.negSucc j + (vs.toArray.size : Nat)).toNat v))) n' (by rw [Heap.get?_update_self _ hl (by rw [hm]; rfl), hm, hsame]) (Heap.SameBut.update ..)
  first
    | exact wpAny_bind (wpAny_pure (wpAny_pure ⟨.none, rfl, wpAny_pure hfin⟩))
    | exact wpAny_pure ⟨.none, rfl, wpAny_pure hfin⟩
end
end Mine

/-! text M25 -/
namespace Mine

section
variable {c : Cx} {ρ : Vars} {own : Own}

/-- a slice of a list, as a new object -/
theorem slice_raw {value : Expr} {lo hi : Option Expr} {klo khi : Option Int} {p pos : Pos} {ds : List D} {a b : Nat} (hv : Ev c ρ own value (.list ds)) (h1 : PartIs c ρ own lo klo) (h2 : PartIs c ρ own hi khi)
    (hb : sliceBounds klo khi none ds.length = ((a : Int), (b : Int), 1)) (hz : ds.length ≤ 16000000) {g : Part} {s : Shared} {Q E : Value → Shared → Prop} (F : Fm c ρ own g s.heap)
    (hQ : ∀ g' h' k vs, Grow g s.heap g' h' → Isl g' vs ((ds.drop a).take (b - a)) → Q (.ref h'.objs.size) { s with heap := h'.push { cls := .type "list", data := .seq vs.toArray }, toks := k }) :
    wpAny c.M c.A (eval (.Subscript value (.Slice lo hi none p) pos) c.env) Q E s := by
  refine Subscript_ (hv g s _ E F fun v g₁ h₁' k₁ G₁ I₁ => ?_)
  have F₁ := F.grow G₁
  refine wpAny_Slice (h1.ev F₁ fun vl g₂ h₂' k₂ G₂ P₂ => ?_)
  have F₂ := F₁.grow G₂
  refine h2.ev F₂ fun vu g₃ h₃' k₃ G₃ P₃ => ?_
  have F₃ := F₂.grow G₃
  refine PartIs.none.ev F₃ fun vs g₄ h₄' k₄ G₄ P₄ => ?_
  have F₄ := F₃.grow G₄
  have I₄ := ((I₁.sub G₂.sub).sub G₃.sub).sub G₄.sub
  have Gp₅ : Grow g₄ h₄' g₄ (h₄'.push { cls := .type "slice", data := .fields #[vl, vu, vs] }) := Grow.ofKeep F₄.inn (Keep.push _ _)
  cases I₄ with
  | @list x xs _ hl hI =>
    have hl5 := hl.inn Gp₅.inn
    refine tail_any (ops := [.ref h₄'.objs.size, .ref x]) (T := "list") hl5.typeIs slot_list_getitem.lookup ?_ rfl
    refine wpAny_getItem_list_slice hl5 (Heap.IsSliceOf.new ..) P₂ P₃ P₄ (by simp) ?_ (by rw [List.size_toArray, hI.length, sizeLine_eq]; omega)
    have fin := hQ g₄ _ k₄ _ ((((G₁.trans G₂).trans G₃).trans G₄).trans Gp₅) (isl_run hI hb)
    simpa using fin

/-- an item of an owned list -/
theorem Ev.itemOwn {value slice : Expr} {pos : Pos} {a : Addr} {ds : List D} {k : Int} {d : D} (hv : Ev c ρ own value (.addr a)) (hs : Ev c ρ own slice (.int k)) (hm : (a, ds) ∈ own) (h0 : 0 ≤ k) (h1 : k < 2 ^ 63) (hd : ds[k.toNat]? = some d)
    (hsub : ∀ o i, subscripted slice false o i = operate [o, i] (getItem o i) := by intro _ _; rfl) : Ev c ρ own (.Subscript value slice pos) d := fun g s Q E F hQ => by
  refine Subscript_ (hv g s _ E F fun v g₁ h₁' k₁ G₁ I₁ => ?_)
  have F₁ := F.grow G₁
  refine hs g₁ _ _ E F₁ fun i g₂ h₂ k₂ G₂ I₂ => ?_
  have F₂ := F₁.grow G₂
  cases I₁; cases I₂
  obtain ⟨_, _, vs, n, hva, hI⟩ := F₂.owns (a, ds) hm
  have hl : h₂.IsList a vs.toArray := ⟨_, hva, rfl, n, rfl⟩
  obtain ⟨x, hx, hI'⟩ := hI.getD k.toNat d hd
  refine tail_any (T := "list") hl.typeIs slot_list_getitem.lookup (wpAny_getItem_list hl h0 h1 (by simpa using hx) ?_) (hsub _ _)
  exact hQ x g₂ h₂ k₂ (G₁.trans G₂) hI'
theorem Ev.itemOwnNeg {value slice : Expr} {pos : Pos} {a : Addr} {ds : List D} {k : Int} {d : D} (hv : Ev c ρ own value (.addr a)) (hs : Ev c ρ own slice (.int k)) (hm : (a, ds) ∈ own) (h0 : k < 0) (h1 : -(ds.length : Int) ≤ k) (h2 : -(2 ^ 63) ≤ k) (hd : ds[(k + ds.length).toNat]? = some d)
    (hsub : ∀ o i, subscripted slice false o i = operate [o, i] (getItem o i) := by intro _ _; rfl) : Ev c ρ own (.Subscript value slice pos) d := fun g s Q E F hQ => by
  refine Subscript_ (hv g s _ E F fun v g₁ h₁' k₁ G₁ I₁ => ?_)
  have F₁ := F.grow G₁
  refine hs g₁ _ _ E F₁ fun i g₂ h₂' k₂ G₂ I₂ => ?_
  have F₂ := F₁.grow G₂
  cases I₁; cases I₂
  obtain ⟨_, _, vs, n, hva, hI⟩ := F₂.owns (a, ds) hm
  have hl : h₂'.IsList a vs.toArray := ⟨_, hva, rfl, n, rfl⟩
  have hlen : vs.length = ds.length := hI.length
  obtain ⟨x, hx, hI'⟩ := hI.getD _ d hd
  refine tail_any (T := "list") hl.typeIs slot_list_getitem.lookup (wpAny_getItem_list_neg hl h0 (by rw [List.size_toArray, hlen]; exact h1) h2 (by rw [List.size_toArray, hlen]; simpa using hx) ?_) (hsub _ _)
  exact hQ x g₂ h₂' k₂ (G₁.trans G₂) hI'
/-- a slice of an owned list -/
theorem Ev.sliceOwn {value : Expr} {lo hi : Option Expr} {klo khi : Option Int} {p pos : Pos} {x : Addr} {ds : List D} {a b : Nat} (hv : Ev c ρ own value (.addr x)) (hm : (x, ds) ∈ own) (h1 : PartIs c ρ own lo klo) (h2 : PartIs c ρ own hi khi)
    (hb : sliceBounds klo khi none ds.length = ((a : Int), (b : Int), 1)) (hz : ds.length ≤ 16000000) :
    Ev c ρ own (.Subscript value (.Slice lo hi none p) pos) (.list ((ds.drop a).take (b - a))) := fun g s Q E F hQ => by
  refine Subscript_ (hv g s _ E F fun v g₁ h₁' k₁ G₁ I₁ => ?_)
  have F₁ := F.grow G₁
  refine wpAny_Slice (h1.ev F₁ fun vl g₂ h₂' k₂ G₂ P₂ => ?_)
  have F₂ := F₁.grow G₂
  refine h2.ev F₂ fun vu g₃ h₃' k₃ G₃ P₃ => ?_
  have F₃ := F₂.grow G₃
  refine PartIs.none.ev F₃ fun vs g₄ h₄' k₄ G₄ P₄ => ?_
  have F₄ := F₃.grow G₄
  have Gp₅ : Grow g₄ h₄' g₄ (h₄'.push { cls := .type "slice", data := .fields #[vl, vu, vs] }) := Grow.ofKeep F₄.inn (Keep.push _ _)
  have F₅ := F₄.grow Gp₅
  cases I₁
  obtain ⟨_, _, xs, n, hva, hI⟩ := F₅.owns (x, ds) hm
  have hl5 : (h₄'.push { cls := .type "slice", data := .fields #[vl, vu, vs] }).IsList x xs.toArray := ⟨_, hva, rfl, n, rfl⟩
  have hlen : xs.length = ds.length := hI.length
  refine tail_any (ops := [.ref h₄'.objs.size, .ref x]) (T := "list") hl5.typeIs slot_list_getitem.lookup ?_ rfl
  refine wpAny_getItem_list_slice hl5 (Heap.IsSliceOf.new ..) P₂ P₃ P₄ (by simp) ?_ (by rw [List.size_toArray, hlen, sizeLine_eq]; omega)
  have := newList_gp (s := { s with heap := h₄'.push { cls := .type "slice", data := .fields #[vl, vu, vs] }, toks := k₄ }) (Q := Q) Gp₅.inn (isl_run hI hb) fun v g' h' k G' I' => hQ v g' h' k (((((G₁.trans G₂).trans G₃).trans G₄).trans Gp₅).trans G') I'
  simpa using this

/-- `parts[-1] += e`, for an owned list in an owned list -/
theorem Ex.iaddLast {o ix e : Expr} {tpos pos : Pos} {P l : Addr} {ps xs ys : List D} {rest : List Stmt} {Φ : Fl → Vars → Own → Prop} (ho : Ev c ρ ((l, xs) :: (P, ps ++ [.addr l]) :: own) o (.addr P)) (hi : Ev c ρ ((l, xs) :: (P, ps ++ [.addr l]) :: own) ix (.int (-1)))
    (he : ∀ (g : Part) (s : Shared) (Q E : Value → Shared → Prop), Fm c ρ ((l, xs) :: (P, ps ++ [.addr l]) :: own) g s.heap → (∀ b us g' h' k, Grow g s.heap g' h' → h'.IsList b us.toArray → Isl g' us ys → Q (.ref b) { s with heap := h', toks := k }) → wpAny c.M c.A (eval e c.env) Q E s)
    (hr : Ex c ρ ((l, xs ++ ys) :: (P, ps ++ [.addr l]) :: own) rest Φ) (hz : xs.length + ys.length ≤ 16000000)
    (hst : ∀ ov iv new, augStore ix ov iv new = (do holding [new, ov, iv] (setItem ov iv new); release [new, ov, iv] []; pure .next) := by intros; rfl) :
    Ex c ρ ((l, xs) :: (P, ps ++ [.addr l]) :: own) (.AugAssign (.Subscript o ix tpos) .Add e pos :: rest) Φ := Ex.cons fun g s E F => by
  refine wpAny_AugAssign_SubscriptAny (ho g s _ E F fun vo g₁ h₁ k₁ G₁ I₁ => ?_) hst
  have F₁ := F.grow G₁
  refine hi g₁ _ _ E F₁ fun vi g₂ h₂ k₂ G₂ I₂ => ?_
  have F₂ := F₁.grow G₂
  cases I₁; cases I₂
  obtain ⟨_, _, vs, n, hva, hI⟩ := F₂.owns (P, ps ++ [.addr l]) (.tail _ (.head _))
  have hlen : vs.length = ps.length + 1 := by rw [hI.length]; simp
  have hlast : vs[ps.length]? = some (.ref l) := by
    obtain ⟨x, hx, hI'⟩ := hI.getD ps.length (.addr l) (by simp)
    cases hI'; exact hx
  refine wpAny_getItem_list_neg (items := vs.toArray) ⟨_, hva, rfl, n, rfl⟩ (by decide) (by rw [List.size_toArray, hlen]; omega) (by decide) (x := .ref l) ?_ ?_
  · rw [List.size_toArray, hlen]
    have : (-1 + ((ps.length + 1 : Nat) : Int)).toNat = ps.length := by omega
    rw [this]; simpa using hlast
  refine he g₂ _ _ E F₂ fun b us g₃ h₃ k₃ G₃ hb hIb => ?_
  have F₃ := F₂.grow G₃
  obtain ⟨_, _, ls, nl, hla, hIl⟩ := F₃.owns (l, xs) (.head _)
  have hll : ls.length = xs.length := hIl.length
  refine iadd_list hla hb (by rw [hll, hIb.length]; exact hz) fun h₄ n₄ ha₄ hs₄ => ?_
  have F₄ := F₃.setOwn hs₄ ha₄ (hIl.append hIb)
  obtain ⟨_, _, vs', n', hva', hI'⟩ := F₄.owns (P, ps ++ [.addr l]) (.tail _ (.head _))
  have hlen' : vs'.length = ps.length + 1 := by rw [hI'.length]; simp
  have hlast' : vs'[ps.length]? = some (.ref l) := by
    obtain ⟨x, hx, hI''⟩ := hI'.getD ps.length (.addr l) (by simp)
    cases hI''; exact hx
  refine setItem_neg hva' (by decide) (by rw [hlen']; omega) (by decide) ?_ fun h₅ n₅ ha₅ hs₅ => ?_
  · rw [hlen']
    have : (-1 + ((ps.length + 1 : Nat) : Int)).toNat = ps.length := by omega
    rw [this]; exact hlast'
  have F₅ : Fm c ρ ((P, ps ++ [.addr l]) :: (l, xs ++ ys) :: own) g₃ h₅ := (F₄.perm (List.Perm.swap _ _ _)).setOwn hs₅ ha₅ hI'
  have F₆ : Fm c ρ ((l, xs ++ ys) :: (P, ps ++ [.addr l]) :: own) g₃ h₅ := F₅.perm (List.Perm.swap _ _ _)
  have e₁ := ((Evo.ofGrow (c := c) (ex := []) (own := (l, xs) :: (P, ps ++ [.addr l]) :: own) G₁).trans (Evo.ofGrow G₂)).trans (Evo.ofGrow G₃)
  have e₂ : Evo c [] g₃ ((l, xs) :: (P, ps ++ [.addr l]) :: own) h₃ g₃ ((l, xs) :: (P, ps ++ [.addr l]) :: own) h₄ := evo_append hs₄ (by rw [ha₄]; intro q; cases q)
  have e₃ : Evo c [] g₃ ((P, ps ++ [.addr l]) :: (l, xs) :: own) h₄ g₃ ((P, ps ++ [.addr l]) :: (l, xs) :: own) h₅ := evo_append hs₅ (by rw [ha₅]; intro q; cases q)
  have e₄ : Evo c [] g₃ ((l, xs) :: (P, ps ++ [.addr l]) :: own) h₄ g₃ ((P, ps ++ [.addr l]) :: (l, xs) :: own) h₅ := e₃.perm (List.Perm.swap _ _ _)
  have e₅ := (e₁.trans e₂).trans e₄
  have e₆ : Evo c [] g ((l, xs) :: (P, ps ++ [.addr l]) :: own) s.heap g₃ ((l, xs ++ ys) :: (P, ps ++ [.addr l]) :: own) h₅ := ⟨e₅.sub, e₅.kept, fun b hb => e₅.news b (by
    simp only [List.map_cons, List.mem_cons] at hb ⊢
    rcases hb with h | h | h
    · exact .inr (.inl h)
    · exact .inl h
    · exact .inr (.inr h)), e₅.live, e₅.gnew⟩
  exact ⟨.next, g₃, h₅, k₃, ρ, _, rfl, e₆, F₆, .next, hr⟩

/-- `x += e` for an owned list -/
theorem Ex.iaddOwn {x : Str} {p' pos : Pos} {e : Expr} {P : Addr} {ds es : List D} {rest : List Stmt} {Φ : Fl → Vars → Own → Prop} (hx : ρ x = some (.addr P)) (he : Ev c ρ ((P, ds) :: own) e (.list es)) (hr : Ex c ρ ((P, ds ++ es) :: own) rest Φ) (hz : ds.length + es.length ≤ 16000000)
    (hk : mayStore c x = true := by rfl) (hl : (match c.env.kindOf x with | some .local | some .cell | some .free => true | _ => false) = true := by rfl) (hcd : (x == ("__classdict__" : Str)) = false := by rfl) :
    Ex c ρ ((P, ds) :: own) (.AugAssign (.Name x p') .Add e pos :: rest) Φ := Ex.cons fun g s E F => by
  refine wpAny_AugAssign_Name (Gv.load hx hl hcd g s _ E F fun va g₁ h₁ k₁ G₁ I₁ => ?_)
  have F₁ := F.grow G₁
  refine he g₁ _ _ E F₁ fun vb g₂ h₂ k₂ G₂ I₂ => ?_
  have F₂ := F₁.grow G₂
  cases I₁
  cases I₂ with
  | @list b us _ hlb hIb =>
    obtain ⟨_, _, ls, nl, hla, hIl⟩ := F₂.owns (P, ds) (.head _)
    have hll : ls.length = ds.length := hIl.length
    refine iadd_list hla (hlb.inn F₂.inn) (by rw [hll, hIb.length]; exact hz) fun h₃ n₃ ha₃ hs₃ => ?_
    have F₃ := F₂.setOwn hs₃ ha₃ (hIl.append hIb)
    have e₃ : Evo c [] g₂ ((P, ds) :: own) h₂ g₂ ((P, ds) :: own) h₃ := evo_append hs₃ (by rw [ha₃]; intro q; cases q)
    refine F₃.store (.addr P) hk fun h₄ k₄ e₄ F₄ => ?_
    have e := ((Evo.ofGrow (c := c) (ex := []) (own := (P, ds) :: own) G₁).trans (Evo.ofGrow G₂)).trans e₃
    have e' : Evo c [] g ((P, ds) :: own) s.heap g₂ ((P, ds ++ es) :: own) h₃ := e.ownEq rfl
    refine ⟨.next, g₂, h₄, k₄, _, _, rfl, e'.trans e₄, F₄.weaken fun y d hy => ?_, .next, hr⟩
    by_cases q : y = x
    · subst q; rw [hx] at hy; cases hy; simp [Vars.set]
    · simp [Vars.set, q, hy]
end
end Mine

/-! text M26 -/
namespace Mine

/-! ## _law_pieces -/
def endsOf (fs : List Nat) (mark : Int) : List Nat := ((List.range fs.length).flatMap fun i => if ((fs.getD i 0 : Nat) : Int) == mark then [i] else []) ++ [fs.length]
def begsOf (fs : List Nat) (mark : Int) : List Nat := 0 :: (endsOf fs mark).map (· + 1)
def piecesOf (fs : List Nat) (mark : Int) : List (List Nat) := (List.range (endsOf fs mark).length).map fun k => (fs.drop ((begsOf fs mark).getD k 0)).take ((endsOf fs mark).getD k 0 - (begsOf fs mark).getD k 0)

theorem endsOf_length (fs : List Nat) (mark : Int) : (endsOf fs mark).length ≤ fs.length + 1 := by
  unfold endsOf
  rw [List.length_append, List.length_singleton]
  have : ((List.range fs.length).flatMap fun i => if ((fs.getD i 0 : Nat) : Int) == mark then [i] else []).length ≤ fs.length := by
    have : ∀ l : List Nat, (l.flatMap fun i => if ((fs.getD i 0 : Nat) : Int) == mark then [i] else []).length ≤ l.length := by
      intro l
      induction l with
      | nil => simp
      | cons a l ih => rw [List.flatMap_cons, List.length_append, List.length_cons]; split <;> simp only [List.length_singleton, List.length_nil] <;> omega
    have := this (List.range fs.length)
    rwa [List.length_range] at this
  omega
theorem endsOf_le (fs : List Nat) (mark : Int) : ∀ e ∈ endsOf fs mark, e ≤ fs.length := fun e he => by
  unfold endsOf at he
  rcases List.mem_append.mp he with h | h
  · obtain ⟨i, hi, h⟩ := List.mem_flatMap.mp h
    rw [List.mem_range] at hi
    split at h
    · rw [List.mem_singleton.mp h]; omega
    · cases h
  · rw [List.mem_singleton.mp h]; exact Nat.le_refl _
/-- the ends but the last lie inside -/
theorem endsOf_lt (fs : List Nat) (mark : Int) (k : Nat) (h : k + 1 < (endsOf fs mark).length) : (endsOf fs mark).getD k 0 < fs.length := by
  unfold endsOf at h ⊢
  rw [List.length_append, List.length_singleton] at h
  have hk : k < ((List.range fs.length).flatMap fun i => if ((fs.getD i 0 : Nat) : Int) == mark then [i] else []).length := by omega
  rw [List.getD_eq_getElem?_getD, List.getElem?_append_left hk, List.getElem?_eq_getElem hk]
  have hm := List.getElem_mem hk
  obtain ⟨i, hi, h⟩ := List.mem_flatMap.mp hm
  rw [List.mem_range] at hi
  split at h
  · rw [Option.getD_some, List.mem_singleton.mp h]; exact hi
  · cases h
theorem begs_le (fs : List Nat) (mark : Int) (k : Nat) (h : k < (endsOf fs mark).length) : (begsOf fs mark).getD k 0 ≤ fs.length := by
  cases k with
  | zero => simp [begsOf]
  | succ k =>
    have := endsOf_lt fs mark k h
    have e : (begsOf fs mark).getD (k + 1) 0 = (endsOf fs mark).getD k 0 + 1 := by
      unfold begsOf
      rw [List.getD_cons_succ, List.getD_eq_getElem?_getD, List.getElem?_map, List.getD_eq_getElem?_getD, List.getElem?_eq_getElem (by omega)]
      rfl
    omega
theorem ends_le (fs : List Nat) (mark : Int) (k : Nat) (h : k < (endsOf fs mark).length) : (endsOf fs mark).getD k 0 ≤ fs.length := by
  refine endsOf_le fs mark _ ?_
  rw [List.getD_eq_getElem?_getD, List.getElem?_eq_getElem h]
  exact List.getElem_mem h
theorem begsOf_length (fs : List Nat) (mark : Int) : (begsOf fs mark).length = (endsOf fs mark).length + 1 := by simp [begsOf]
theorem bounds_any {n a b : Nat} (ha : a ≤ n) (hb : b ≤ n) : sliceBounds (some (a : Int)) (some (b : Int)) none n = ((a : Int), (b : Int), 1) := by
  simp [sliceBounds]; omega

theorem Isl.addrs {g : Part} : ∀ {vs : List Value} {as : List Addr}, Isl g vs (as.map D.addr) → vs = as.map Value.ref
  | _, [], .nil => rfl
  | _, a :: as, .cons x y => by cases x; rw [List.map_cons, Isl.addrs y]
theorem isl_addrs (g : Part) : ∀ as : List Addr, Isl g (as.map Value.ref) (as.map D.addr)
  | [] => .nil
  | a :: as => .cons (.addr a) (isl_addrs g as)
def adrs (inn : Own) : List D := inn.map fun p => .addr p.1
theorem adrs_eq (inn : Own) : adrs inn = (inn.map (·.1)).map D.addr := by simp [adrs]

/-- owned lists in an owned list, all frozen -/
theorem freeze_all {h : Heap} {g : Part} {a : Addr} {inn : Own} (hown : ∀ p ∈ (a, adrs inn) :: inn, g p.1 = none ∧ ∃ vs n, h.get? p.1 = some { cls := .type "list", data := .seq vs.toArray n } ∧ Isl g vs p.2) (hinn : Inn g h) :
    ∃ g', Sub g g' ∧ Inn g' h ∧ (∀ b o, g' b = some o → g b = some o ∨ b ∈ ((a, adrs inn) :: inn).map (·.1)) ∧ Is g' (.ref a) (.list (inn.map fun p => .list p.2)) ∧ ∀ b, b ∉ ((a, adrs inn) :: inn).map (·.1) → g' b = g b := by
  have hsub : Sub g (fun b => if b ∈ ((a, adrs inn) :: inn).map (·.1) then h.get? b else g b) := fun b o e => by
    have : b ∉ ((a, adrs inn) :: inn).map (·.1) := fun q => by
      obtain ⟨p, hp, rfl⟩ := List.mem_map.mp q
      rw [(hown p hp).1] at e; cases e
    simp only [this, if_false]; exact e
  refine ⟨fun b => if b ∈ ((a, adrs inn) :: inn).map (·.1) then h.get? b else g b, hsub, fun b o e => ?_, fun b o e => ?_, ?_, fun b hb => if_neg hb⟩
  · dsimp only at e
    split at e
    · exact e
    · exact hinn b o e
  · dsimp only at e
    split at e
    · right; assumption
    · exact .inl e
  · obtain ⟨_, vs, n, hva, hI⟩ := hown (a, adrs inn) (.head _)
    have hvs : vs = (inn.map (·.1)).map Value.ref := by
      have hI' : Isl g vs ((inn.map (·.1)).map D.addr) := by rw [← adrs_eq]; exact hI
      exact hI'.addrs
    refine .list (vs := vs) ⟨{ cls := .type "list", data := .seq vs.toArray n }, n, ?_, rfl, rfl⟩ ?_
    · show (if a ∈ ((a, adrs inn) :: inn).map (·.1) then h.get? a else g a) = _
      rw [if_pos (by simp)]; exact hva
    · rw [hvs]
      have all : ∀ l : Own, (∀ p ∈ l, p ∈ inn) → Isl (fun b => if b ∈ ((a, adrs inn) :: inn).map (·.1) then h.get? b else g b) ((l.map (·.1)).map Value.ref) (l.map fun p => .list p.2) := by
        intro l
        induction l with
        | nil => intro _; exact .nil
        | cons p l ih =>
          intro hl
          obtain ⟨_, us, m, hua, hIu⟩ := hown p (.tail _ (hl p (.head _)))
          refine .cons (.list (vs := us) ⟨{ cls := .type "list", data := .seq us.toArray m }, m, ?_, rfl, rfl⟩ (hIu.sub hsub)) (ih fun q hq => hl q (.tail _ hq))
          show (if p.1 ∈ ((a, adrs inn) :: inn).map (·.1) then h.get? p.1 else g p.1) = _
          rw [if_pos (List.mem_map_of_mem (f := (·.1)) (List.mem_cons_of_mem _ (hl p (.head _))))]; exact hua
      exact all inn fun p hp => hp

theorem Evo.pushOwn {c : Cx} {g g' : Part} {own own' : Own} {h h' : Heap} (G' : Grow g h g' h') (o : Obj) (hm : ∀ b ∈ own'.map (·.1), b ∈ own.map (·.1) ∨ b = h'.objs.size) : Evo c [] g own h g' own' (h'.push o) := by
  have e := (Evo.ofGrow (c := c) (ex := []) (own := own) G').trans (Evo.ofGrow (Grow.ofKeep G'.inn (Keep.push h' o)))
  refine ⟨e.sub, e.kept, fun b hb => ?_, e.live, e.gnew⟩
  rcases hm b hb with q | rfl
  · exact .inl q
  · exact .inr (G'.keep.none (get?_size_none h'))
/-- a call of _law_pieces: the pieces are new lists, each by itself -/
def ConO (prog : Program) (w : World) (mg mb : Str → Option Value) (room : Nat) (i : Nat) (ds : List D) (xss : List (List D)) : Prop :=
  ∀ (A : Around) (g : Part) (s : Shared) (f : Addr) (dV kV : Value) (vs : List Value) (Q E : Value → Shared → Prop), Room A room → Glb mg mb s.heap → FnAt mg s.heap i f dV kV → Inn g s.heap → Isl g vs ds →
    (∀ a inn g' h' k, inn.map (·.2) = xss → CompRes s g a (adrs inn) inn g' h' → Q (.ref a) { s with heap := h', toks := k }) → wpAny (model prog w) A (call (.ref f) vs []) Q E s
theorem ConO.con {prog : Program} {w : World} {mg mb : Str → Option Value} {room i : Nat} {ds : List D} {xss : List (List D)} (h : ConO prog w mg mb room i ds xss) : Con prog w mg mb room i [] ds (.list (xss.map .list)) := by
  intro A g s f dV kV vs kvs Q E R G hf inn hI hkn hkI hQ
  obtain rfl : kvs = [] := by simpa using hkn
  refine h A g s f dV kV vs Q E R G hf inn hI fun a own g' h' k e R => ?_
  obtain ⟨g'', h1, h2, h3, h4, h5⟩ := freeze_all (h := h') (g := g') (a := a) (inn := own) (fun p hp => let ⟨q1, _, q3⟩ := R.owns p hp; ⟨q1, q3⟩) R.grow.inn
  refine hQ _ g'' h' k ⟨R.grow.sub.trans h1, h2, R.grow.keep, fun b o eb => ?_⟩ ?_
  · rcases h3 b o eb with q | q
    · exact R.grow.new b o q
    · obtain ⟨p, hp, rfl⟩ := List.mem_map.mp q
      exact .inr (R.owns p hp).2.1
  · rw [← e, List.map_map]; exact h4

section
variable {prog : Program} {w : World} {mg mb : Str → Option Value}
theorem range_flatMap_one {α : Type} (n : Nat) (f : Nat → α) : (List.range n).flatMap (fun i => [f i]) = (List.range n).map f := flatMap_one _ _
theorem con_piecesO (fs : List Nat) (mark : Int) (hl : fs.length ≤ 1000) : ConO prog w mg mb 1 21 [nl fs, .int mark] ((piecesOf fs mark).map inD) := by
  intro A g s f dV kV vs Q E R G hf inn hI hQ
  obtain rfl : dV = .none := FnAt.noDef hf (by decide)
  refine fn_call [("figures", nl fs), ("mark", .int mark)] R G hf inn (fun doc pm an cd ct => ?_) fun cd h₁ tk F => ?_
  · cases hI with
    | cons a b => cases b with
      | cons b z => cases z; exact ⟨[("figures", _), ("mark", _)], BindsTo.of_eq rfl, rfl, .cons a (.cons b .nil)⟩
  have hel := endsOf_length fs mark
  have hpre : Ex (fnCx prog w A 0 mg mb 21 s.heap.objs.size f cd s.heap g) (bindVars [("figures", nl fs), ("mark", .int mark)] fun _ => none) [] ((fnBody 21).take 1) (fun fl ρ own => fl = .next ∧ own = [] ∧ ρ "figures" = some (nl fs) ∧ ρ "ends" = some (nl (endsOf fs mark))) := by
    have e : nl (endsOf fs mark) = .list (((List.range ((zs fs).map D.int).length).flatMap fun i => if ((fs.getD i 0 : Nat) : Int) == mark then [D.int (i : Int)] else []) ++ [D.int (fs.length : Nat)]) := by
      rw [zsD_length]
      unfold endsOf nl
      rw [zs_append, List.map_append]
      congr 2
      unfold zs
      rw [map_flatMap, map_flatMap]
      congr 1
      funext i
      split <;> rfl
    refine Ex.assign (d := nl (endsOf fs mark)) ?_ (Ex.nil ⟨rfl, rfl, rfl, rfl⟩)
    rw [e]
    refine Ev.addList ?_ (Ev.list (.cons (lenNat (Ev.name rfl) (by omega)) (by intro _ _ q; cases q) .nil)) ?_
    · refine Ev.compP (ItSrc.enum (ds := (zs fs).map .int) (Ev.name rfl)) (compOk_of rfl (.cons rfl .nil) rfl rfl rfl rfl rfl) (fun i => if ((fs.getD i 0 : Nat) : Int) == mark then [D.int (i : Int)] else []) ?_ (by rw [zsD_length]; omega) rfl rfl (fun _ _ _ => ⟨rfl, rfl⟩)
      intro C h₀' g₀' own' i hi
      rw [zsD_length] at hi
      rw [zsD_getD _ _ hi]
      exact ElOut.test (Et.eqi (Ev.name rfl) (Ev.name rfl)) fun _ => Ev.name rfl
    · have h2 := endsOf_length fs mark
      have : (((List.range ((zs fs).map D.int).length).flatMap fun i => if ((fs.getD i 0 : Nat) : Int) == mark then [D.int (i : Int)] else []) ++ [D.int (fs.length : Nat)]).length = (endsOf fs mark).length := by
        have := congrArg (fun d => match d with | D.list l => l.length | _ => 0) e
        simp only [nl] at this
        rw [← this, zsD_length]
      rw [List.length_append] at this
      omega
  rw [← List.take_append_drop 1 (fnBody 21)]
  refine wpAny_execs_append (wpAny_mono (hpre g _ _ F) (fun fl s' p => ?_) fun _ _ e => e)
  obtain ⟨fl', g', h', k, ρ', own', rfl, a2, F', a4, rfl, rfl, h1, h2⟩ := p
  cases a4
  refine wpAny_execs_cons (wpAny_Return_some ?_)
  have hmin : min ((zs (begsOf fs mark)).map D.int).length ((zs (endsOf fs mark)).map D.int).length = (endsOf fs mark).length := by
    rw [zsD_length, zsD_length, begsOf_length]; omega
  refine comp_eval (c := fnCx prog w A 0 mg mb 21 s.heap.objs.size f cd s.heap g) (ρ := ρ') (own := []) (ItSrc.zip (ds := (zs (begsOf fs mark)).map D.int) (es := (zs (endsOf fs mark)).map D.int) ?_ (Ev.name h2)) (compOk_of rfl (.cons rfl .nil) rfl rfl rfl rfl rfl) (by rw [hmin]; omega)
    (fun i ds inn => ds = adrs inn ∧ inn.map (·.2) = ((piecesOf fs mark).map inD).take i) ⟨rfl, rfl⟩ ?_ (by intro _; rfl) F' fun a g'' h'' k' ds inn' hJ Rs => ?_
  · have e : D.list ((zs (begsOf fs mark)).map D.int) = .list ([D.int 0] ++ (List.range ((zs (endsOf fs mark)).map D.int).length).flatMap fun j => [D.int (((endsOf fs mark).getD j 0 + 1 : Nat) : Int)]) := by
      rw [zsD_length, flatMap_one]
      unfold begsOf zs
      rw [List.map_cons, List.map_cons]
      congr 1
      show _ :: _ = _ :: _
      congr 1
      have : (List.range (endsOf fs mark).length).map (fun j => D.int (((endsOf fs mark).getD j 0 + 1 : Nat) : Int)) = ((List.range (endsOf fs mark).length).map fun j => (endsOf fs mark).getD j 0).map fun n => D.int ((n + 1 : Nat) : Int) := by rw [List.map_map]; rfl
      show _ = (List.range (endsOf fs mark).length).map (fun j => D.int (((endsOf fs mark).getD j 0 + 1 : Nat) : Int))
      rw [this, range_getD, List.map_map, List.map_map]; rfl
    rw [e]
    refine Ev.addList (Ev.list (.cons Ev.int (by intro _ _ q; cases q) .nil)) ?_ ?_
    · refine Ev.compN (ItSrc.listD (ds := (zs (endsOf fs mark)).map .int) (Ev.name h2)) (compOk_of rfl .nil rfl rfl rfl rfl rfl) (fun j => [D.int (((endsOf fs mark).getD j 0 + 1 : Nat) : Int)]) ?_ (by rw [zsD_length]; omega) rfl (fun _ _ _ => rfl)
      intro C h₀' g₀' own' j hj
      rw [zsD_length] at hj
      rw [zsD_getD _ _ hj]
      exact .plain (Ev.eq (Ev.add (Ev.name rfl) Ev.int) (by push_cast; rfl))
    · rw [flatMap_one, List.length_map, List.length_range, zsD_length]; simp; omega
  · rintro C h₀' g₀' a i ds inn' hi ⟨rfl, hin⟩
    rw [hmin] at hi
    have hb := begs_le fs mark i hi
    have he := ends_le fs mark i hi
    have hbl : i < (begsOf fs mark).length := by rw [begsOf_length]; omega
    refine ⟨fun ρ => (ρ.set "begin" (.int ((begsOf fs mark).getD i 0 : Nat))).set "end" (.int ((endsOf fs mark).getD i 0 : Nat)), fun g v h g' hs hit _ => ?_, true, fun g s Q E F hQ => wpAny_tests_nil (hQ g s.heap s.toks (Grow.refl F.inn)), fun _ => ?_, fun q => (nomatch q), fun x d hx => ?_⟩
    · obtain ⟨T, v₀, v₁, e, hT, I₀, I₁⟩ := hit
      dsimp only at I₀ I₁
      rw [zsD_getD _ _ hbl] at I₀
      rw [zsD_getD _ _ hi] at I₁
      exact Bind.pair ⟨T, v₀, v₁, e, hT, I₀.sub hs, I₁.sub hs⟩ rfl rfl
    · intro g s E F
      refine slice_raw (ds := (zs fs).map .int) (a := (begsOf fs mark).getD i 0) (b := (endsOf fs mark).getD i 0) (Ev.name (by exact h1)) (.some (Ev.name rfl)) (.some (Ev.name rfl)) (by rw [zsD_length]; exact bounds_any hb he) (by rw [zsD_length]; omega) F fun g' h' k vs G' I' => ?_
      have hpc : (((zs fs).map D.int).drop ((begsOf fs mark).getD i 0)).take ((endsOf fs mark).getD i 0 - (begsOf fs mark).getD i 0) = inD ((piecesOf fs mark).getD i []) := by
        have : (piecesOf fs mark).getD i [] = (fs.drop ((begsOf fs mark).getD i 0)).take ((endsOf fs mark).getD i 0 - (begsOf fs mark).getD i 0) := by
          unfold piecesOf
          rw [List.getD_eq_getElem?_getD, List.getElem?_map, List.getElem?_range hi]; rfl
        rw [this]; simp [inD, zs, List.map_drop, List.map_take]
      rw [hpc] at I'
      have F₁ := F.grow G'
      have ho : (h'.push { cls := .type "list", data := .seq vs.toArray }).get? h'.objs.size = some { cls := .type "list", data := .seq vs.toArray } := Heap.get?_push_size _ rfl
      have F₂ := F₁.addOwn (Keep.push h' _) (get?_size_none h') ho I'
      have pm : ((a, adrs inn') :: (inn' ++ [(h'.objs.size, inD ((piecesOf fs mark).getD i []))])).Perm ((h'.objs.size, inD ((piecesOf fs mark).getD i [])) :: (a, adrs inn') :: inn') :=
        ((List.perm_append_singleton _ _).cons _).trans (List.Perm.swap _ _ _)
      refine ⟨g', _, k, inn' ++ [(h'.objs.size, inD ((piecesOf fs mark).getD i []))], .addr h'.objs.size, rfl, Evo.pushOwn G' _ (fun b hb => ?_), F₂.perm pm, .addr _, ?_, ?_⟩
      · rw [(pm.map (·.1)).mem_iff] at hb
        rcases List.mem_cons.mp hb with rfl | hb
        · exact .inr rfl
        · exact .inl hb
      · simp [adrs]
      · have hip : i < ((piecesOf fs mark).map inD).length := by simp [piecesOf]; exact hi
        rw [List.map_append, hin, List.take_add_one, List.getElem?_eq_getElem hip]
        have : i < (piecesOf fs mark).length := by simpa using hip
        simp [List.getD, this]
    · have h4 := cap_set (ρ := ρ') (x := "begin") (cl := [("figures", s.heap.objs.size + 1)]) rfl (.int ((begsOf fs mark).getD i 0 : Nat)) x d hx
      by_cases q : x = "end"
      · subst q; exact absurd hx (by intro z; cases z)
      · simp only [Vars.set, q, if_false] at h4 ⊢; exact h4
  · obtain ⟨rfl, hin⟩ := hJ
    rw [hmin] at hin
    refine hQ a inn' g'' h'' k' ?_ ⟨⟨F'.sub₀.trans Rs.grow.sub, Rs.grow.inn, F'.keep₀.trans Rs.grow.keep, fun b o e => ?_⟩, fun p hp => ?_, Rs.nd⟩
    · rw [hin, List.take_of_length_le]; simp [piecesOf]
    · rcases Rs.grow.new b o e with q | q
      · exact F'.new₀ b o q
      · exact .inr (F'.keep₀.none q)
    · obtain ⟨q1, q2, q3⟩ := Rs.owns p hp
      exact ⟨q1, F'.keep₀.none q2, q3⟩
theorem con_pieces (fs : List Nat) (mark : Int) (hl : fs.length ≤ 1000) : Con prog w mg mb 1 21 [] [nl fs, .int mark] (.list ((piecesOf fs mark).map nl)) := by
  have := (con_piecesO (prog := prog) (w := w) (mg := mg) (mb := mb) fs mark hl).con
  rw [List.map_map] at this
  exact this
end
end Mine

/-! text M27 -/
namespace Mine

section
variable {c : Cx} {ρ : Vars} {own : Own}

theorem Ex.drop {own' dr : Own} {ss : List Stmt} {Φ : Fl → Vars → Own → Prop} (p : own.Perm (own' ++ dr)) (h : Ex c ρ own' ss Φ) : Ex c ρ own ss Φ := fun g s E F => by
  have hsub : ∀ q ∈ own', q ∈ own := fun q hq => p.mem_iff.mpr (List.mem_append_left _ hq)
  have hmem : ∀ b ∈ own'.map (·.1), b ∈ own.map (·.1) := fun b hb => by
    obtain ⟨q, hq, rfl⟩ := List.mem_map.mp hb
    exact List.mem_map_of_mem (f := (·.1)) (hsub q hq)
  have hnd : (own'.map (·.1)).Nodup := by
    have := (p.map (·.1)).nodup_iff.mp F.nd
    rw [List.map_append] at this
    exact (List.nodup_append.mp this).1
  refine wpAny_mono (h g s E (F.pickOwn hsub hnd)) (fun f s' ⟨fl, g', h', k, ρ', own'', e, a2, a3, a4, a5⟩ => ⟨fl, g', h', k, ρ', own'', e, ⟨a2.sub, fun b o e hL hc ho hx => a2.kept b o e hL hc (fun q => ho (hmem b q)) hx, fun b hb => (a2.news b hb).imp (hmem b) id, a2.live, fun a o e => (a2.gnew a o e).imp id fun q => q.imp (hmem a) id⟩, a3, a4, a5⟩) fun _ _ e => e

theorem Fm.addRes {s : Shared} {a : Addr} {ds : List D} {inn : Own} {g g' : Part} {h' : Heap} (F : Fm c ρ own g s.heap) (R : CompRes s g a ds inn g' h') : Fm c ρ ((a, ds) :: inn ++ own) g' h' := by
  have F' := F.grow R.grow
  refine ⟨F'.ok, F'.inn, F'.keep₀, F'.sub₀, F'.new₀, F'.loc, F'.offL, F'.newL, F'.cel, F'.celAt, F'.celInj, fun p hp => ?_, ?_⟩
  · rcases List.mem_append.mp hp with h | h
    · obtain ⟨q1, q2, q3⟩ := R.owns p h
      exact ⟨q1, F.keep₀.none q2, q3⟩
    · exact F'.owns p h
  · rw [List.map_append]
    refine List.nodup_append.mpr ⟨R.nd, F.nd, fun x hx y hy e => ?_⟩
    subst e
    obtain ⟨p, hp, rfl⟩ := List.mem_map.mp hx
    obtain ⟨q, hq, e⟩ := List.mem_map.mp hy
    obtain ⟨_, q2, _⟩ := R.owns p hp
    obtain ⟨_, _, vs, n, hv, _⟩ := F.owns q hq
    rw [e, q2] at hv; cases hv
theorem Evo.addRes {s : Shared} {a : Addr} {ds : List D} {inn : Own} {g g' : Part} {h' : Heap} (R : CompRes s g a ds inn g' h') : Evo c [] g own s.heap g' ((a, ds) :: inn ++ own) h' := by
  have e := Evo.ofGrow (c := c) (ex := []) (own := own) R.grow
  refine ⟨e.sub, e.kept, fun b hb => ?_, e.live, e.gnew⟩
  rw [List.map_append] at hb
  rcases List.mem_append.mp hb with h | h
  · obtain ⟨p, hp, rfl⟩ := List.mem_map.mp h
    exact .inr (R.owns p hp).2.1
  · exact .inl h

/-- `x = b if test else f(..)`, the call's lists owned -/
theorem Ex.assignIfO {x y : Str} {i : Nat} {test body : Expr} {es : List Expr} {ds : List D} {xss : List (List D)} {p p' pos cpos ipos : Pos} {room : Nat} {rest : List Stmt} {Φ : Fl → Vars → Own → Prop} (ht : Et c ρ own test false) (hC : ConO c.prog c.w c.mg c.mb room i ds xss) (h : Evs c ρ own es ds)
    (hr : ∀ a inn, inn.map (·.2) = xss → Ex c (ρ.set x (.addr a)) ((a, adrs inn) :: inn ++ own) rest Φ)
    (hx : fnName i = y := by rfl) (hi : i ∈ defIdx := by decide) (hrm : room ≤ c.room := by exact Nat.le_of_ble_eq_true rfl) (hk : c.env.kindOf y = some .globalImplicit := by rfl) (hd : (y == ("__debug__" : Str)) = false := by rfl) (hst : mayStore c x = true := by rfl)
    (hs : swapsWith (.IfExp test body (.Call (.Name y p) es [] cpos) ipos) (some (.Name x p')) pos.line c.env = pure false := by rfl) :
    Ex c ρ own (.Assign [.Name x p'] (.IfExp test body (.Call (.Name y p) es [] cpos) ipos) pos :: rest) Φ := Ex.cons fun g s E F => by
  refine wpAny_Assign_Name (IfExp_ (ht g s _ E F fun g₁ h₁ k₁ G₁ => ?_)) hs
  have F₁ := F.grow G₁
  have G := F₁.ok.glb.keep F₁.keep₀
  obtain ⟨f, dV, kV, hf⟩ := G.fn i hi
  obtain ⟨o, doc, pm, an, cd, ct, hf1, hf2, hf3⟩ := hf.o
  refine wpAny_Call_Name_kw (load_glb F₁ hk (hx ▸ hf.g) hd ?_)
  refine Calls.callWith_function (o := o) (h.evalArgs F₁ fun vs g₂ h₂ k₂ G₂ I₂ => ⟨⟨G₂.keep _ _ hf1, hf2⟩, ?_⟩)
  have F₂ := F₁.grow G₂
  refine hC c.A g₂ _ f dV kV vs _ _ (F.ok.rm.le hrm) (G.keep G₂.keep) (hf.keep G₂.keep) F₂.inn I₂ fun a inn g₃ h₃ k₃ he R => ?_
  have F₃ := F₂.addRes R
  have e₃ := ((Evo.ofGrow (c := c) (ex := []) (own := own) G₁).trans (Evo.ofGrow G₂)).trans (Evo.addRes R)
  refine F₃.store (.addr a) hst fun h₄ k₄ e₄ F₄ => ?_
  exact ⟨.next, g₃, h₄, k₄, _, _, rfl, e₃.trans e₄, F₄, .next, hr a inn he⟩

/-- the second operand of += -/
theorem heOwn {e : Expr} {b : Addr} {ys : List D} (h : Ev c ρ own e (.addr b)) (hm : (b, ys) ∈ own) (g : Part) (s : Shared) (Q E : Value → Shared → Prop) (F : Fm c ρ own g s.heap) (hQ : ∀ b us g' h' k, Grow g s.heap g' h' → h'.IsList b us.toArray → Isl g' us ys → Q (.ref b) { s with heap := h', toks := k }) :
    wpAny c.M c.A (eval e c.env) Q E s := h g s _ E F fun v g' h' k G I => by
  cases I
  obtain ⟨_, _, vs, n, hva, hI⟩ := (F.grow G).owns (b, ys) hm
  exact hQ b vs g' h' k G ⟨_, hva, rfl, n, rfl⟩ hI
theorem heList {e : Expr} {ys : List D} (h : Ev c ρ own e (.list ys)) (g : Part) (s : Shared) (Q E : Value → Shared → Prop) (F : Fm c ρ own g s.heap) (hQ : ∀ b us g' h' k, Grow g s.heap g' h' → h'.IsList b us.toArray → Isl g' us ys → Q (.ref b) { s with heap := h', toks := k }) :
    wpAny c.M c.A (eval e c.env) Q E s := h g s _ E F fun v g' h' k G I => by
  cases I with
  | list hl hI => exact hQ _ _ g' h' k G (hl.inn G.inn) hI

/-- owned lists in an owned list are frozen -/
theorem Ex.freezeAll {x : Str} {P : Addr} {all : Own} {ss : List Stmt} {Φ : Fl → Vars → Own → Prop} (hx : ρ x = some (.addr P)) (h : Ex c (ρ.set x (.list (all.map fun p => .list p.2))) [] ss Φ) : Ex c ρ ((P, adrs all) :: all) ss Φ := fun g s E F => by
  obtain ⟨g', hsub, hinn, hnew, I, heq⟩ := freeze_all (h := s.heap) (g := g) (a := P) (inn := all) (fun p hp => let ⟨q1, _, q3⟩ := F.owns p hp; ⟨q1, q3⟩) F.inn
  obtain ⟨m, hn, hm⟩ := F.loc
  have offOwn : ∀ b, (∃ m, s.heap.Ns b m) ∨ (∃ v, s.heap.IsCell b v) → b ∉ ((P, adrs all) :: all).map (·.1) := fun b hb q => by
    obtain ⟨p, hp, rfl⟩ := List.mem_map.mp q
    obtain ⟨_, _, vs, n, hva, _⟩ := F.owns p hp
    rcases hb with ⟨m, hb⟩ | ⟨v, hb⟩
    · exact ns_ne_list hb hva rfl rfl
    · exact cell_ne_list hb hva rfl rfl
  have F' : Fm c (ρ.set x (.list (all.map fun p => .list p.2))) [] g' s.heap := by
    refine ⟨F.ok, hinn, F.keep₀, F.sub₀.trans hsub, fun b o e => ?_, ⟨m, hn, fun y d e k => ?_⟩, by rw [heq _ (offOwn _ (.inl ⟨m, hn⟩))]; exact F.offL, F.newL, fun y b e => ?_, fun y d e k => ?_, F.celInj, fun p hp => (nomatch hp), List.nodup_nil⟩
    · rcases hnew b o e with q | q
      · exact F.new₀ b o q
      · obtain ⟨p, hp, rfl⟩ := List.mem_map.mp q
        exact .inr (F.owns p hp).2.1
    · by_cases q : y = x
      · subst q; simp only [Vars.set, if_true] at e; cases e
        obtain ⟨v, h1, h2⟩ := hm y _ hx k
        cases h2; exact ⟨_, h1, I⟩
      · simp only [Vars.set, q, if_false] at e
        obtain ⟨v, h1, h2⟩ := hm y d e k
        exact ⟨v, h1, h2.sub hsub⟩
    · obtain ⟨h1, h2, v, h3, h4⟩ := F.cel y b e
      refine ⟨by rw [heq _ (offOwn _ (.inr ⟨v, h3⟩))]; exact h1, h2, v, h3, fun d hd k => ?_⟩
      by_cases q : y = x
      · subst q; simp only [Vars.set, if_true] at hd; cases hd
        obtain ⟨u, h5, h6⟩ := h4 _ hx k
        cases h6; exact ⟨_, h5, I⟩
      · simp only [Vars.set, q, if_false] at hd
        obtain ⟨u, h5, h6⟩ := h4 d hd k
        exact ⟨u, h5, h6.sub hsub⟩
    · by_cases q : y = x
      · subst q; exact F.celAt y _ hx k
      · simp only [Vars.set, q, if_false] at e; exact F.celAt y d e k
  refine wpAny_mono (h g' s E F') (fun f s' p => ?_) fun _ _ e => e
  obtain ⟨fl, g₂, h₂, k, ρ', own', rfl, a2, a3, a4, a5⟩ := p
  refine ⟨fl, g₂, h₂, k, ρ', own', rfl, ⟨hsub.trans a2.sub, fun b o e hL hc ho hx => a2.kept b o e hL hc (fun q => nomatch q) hx, fun b hb => (a2.news b hb).imp (fun q => (nomatch q)) id, a2.live, fun b o e => ?_⟩, a3, a4, a5⟩
  rcases a2.gnew b o e with q | q | q
  · rcases hnew b o q with q | q
    · exact .inl q
    · exact .inr (.inl q)
  · exact (nomatch q)
  · exact .inr (.inr q)

/-- `parts, inside, odd = ([[]], False, False)` -/
theorem Ex.initParts {x y z : Str} {px py pz tp vp lp lp2 bp1 bp2 pos : Pos} {kk vk k1 k2 : Nat} {rest : List Stmt} {Φ : Fl → Vars → Own → Prop}
    (hr : ∀ P a, Ex c (((ρ.set z (.bool false)).set y (.bool false)).set x (.addr P)) ((P, [.addr a]) :: (a, []) :: own) rest Φ) (hx : mayStore c x = true := by rfl) (hy : mayStore c y = true := by rfl) (hz : mayStore c z = true := by rfl)
    (hs : swapsWithSole [.Tuple [.Name x px, .Name y py, .Name z pz] kk tp] (.Tuple [.List [.List [] lp2] lp, .Constant (.bool false) k1 bp1, .Constant (.bool false) k2 bp2] vk vp) pos.line c.env = pure false := by rfl)
    (hw : swappedStores [.Tuple [.Name x px, .Name y py, .Name z pz] kk tp] (.Tuple [.List [.List [] lp2] lp, .Constant (.bool false) k1 bp1, .Constant (.bool false) k2 bp2] vk vp) c.env = pure (some [x, y, z]) := by rfl) :
    Ex c ρ own (.Assign [.Tuple [.Name x px, .Name y py, .Name z pz] kk tp] (.Tuple [.List [.List [] lp2] lp, .Constant (.bool false) k1 bp1, .Constant (.bool false) k2 bp2] vk vp) pos :: rest) Φ := Ex.cons fun g s E F => by
  refine Assign_Tuple_swapped (names := [x, y, z]) ?_ hs hw
  refine Tuple_ (wpAny_spliced_cons (List_ (wpAny_spliced_cons (List_ (wpAny_pure ?_)))))
  refine newSeq_gp (c := c) (vs := []) F.inn (by simp) ?_
  refine wpAny_pure ?_
  have F₁ := F.addOwn (Keep.push s.heap { cls := .type "list", data := .seq ([] : List Value).toArray }) (get?_size_none s.heap) (Heap.get?_push_size _ rfl) (ds := []) .nil
  have e₁ : Evo c [] g own s.heap g ((s.heap.objs.size, []) :: own) (s.heap.push { cls := .type "list", data := .seq ([] : List Value).toArray }) := Evo.pushOwn (Grow.refl F.inn) _ fun b hb => by
    rcases List.mem_cons.mp hb with rfl | hb
    · exact .inr rfl
    · exact .inl hb
  generalize s.heap.push { cls := .type "list", data := .seq ([] : List Value).toArray } = H₁ at F₁ e₁
  refine newSeq_gp (c := c) (vs := [.ref s.heap.objs.size]) (s := { s with heap := H₁ }) F₁.inn (by simp [sizeLine_eq]) ?_
  have F₂ := F₁.addOwn (Keep.push H₁ { cls := .type "list", data := .seq [Value.ref s.heap.objs.size].toArray }) (get?_size_none H₁) (Heap.get?_push_size _ rfl) (ds := [.addr s.heap.objs.size]) (.cons (.addr _) .nil)
  have e₂ : Evo c [] g ((s.heap.objs.size, []) :: own) H₁ g ((H₁.objs.size, [.addr s.heap.objs.size]) :: (s.heap.objs.size, []) :: own) (H₁.push { cls := .type "list", data := .seq [Value.ref s.heap.objs.size].toArray }) := Evo.pushOwn (Grow.refl F₁.inn) _ fun b hb => by
    rcases List.mem_cons.mp hb with rfl | hb
    · exact .inr rfl
    · exact .inl hb
  have e₁₂ := e₁.trans e₂
  dsimp only at F₂ e₁₂ ⊢
  generalize H₁.push { cls := .type "list", data := .seq [Value.ref s.heap.objs.size].toArray } = H₂ at F₂ e₁₂
  refine wpAny_spliced_cons (Constant_bool (env := c.env) (k := k1) (pos := bp1) (wpAny_spliced_cons (Constant_bool (env := c.env) (k := k2) (pos := bp2) (wpAny_pure ?_))))
  refine newSeq_gp (c := c) (vs := [.ref H₁.objs.size, .bool false, .bool false]) (s := { s with heap := H₂ }) F₂.inn (by simp [sizeLine_eq]) ?_
  have kT : Keep H₂ (H₂.push { cls := .type "tuple", data := .seq [Value.ref H₁.objs.size, .bool false, .bool false].toArray }) := Keep.push _ _
  have hT : (H₂.push { cls := .type "tuple", data := .seq [Value.ref H₁.objs.size, .bool false, .bool false].toArray }).get? H₂.objs.size = some { cls := .type "tuple", data := .seq [Value.ref H₁.objs.size, .bool false, .bool false].toArray } := Heap.get?_push_size _ rfl
  have F₃ := F₂.grow (Grow.ofKeep F₂.inn kT)
  have e₃ := e₁₂.trans (Evo.ofGrow (Grow.ofKeep F₂.inn kT))
  dsimp only at F₃ e₃ hT ⊢
  generalize H₂.push { cls := .type "tuple", data := .seq [Value.ref H₁.objs.size, .bool false, .bool false].toArray } = H₃ at F₃ e₃ hT
  refine unpackItems_tuple (A := c.A) (items := [Value.ref H₁.objs.size, .bool false, .bool false].toArray) F.ok.rm.hand ⟨_, hT, rfl, _, rfl⟩ fun h₄ hx₄ => ?_
  have k₄ : Keep H₃ h₄ := fun b o e => hx₄ b o (Nat.ne_of_lt (Heap.lt_size e)) e
  have F₄ := F₃.grow (Grow.ofKeep F₃.inn k₄)
  have e₄ := e₃.trans (Evo.ofGrow (Grow.ofKeep F₃.inn k₄))
  show wpAny _ c.A (do holding [.bool false, .ref H₁.objs.size] (bindName c.env z (.bool false)); do holding [.ref H₁.objs.size] (bindName c.env y (.bool false)); do holding [] (bindName c.env x (.ref H₁.objs.size)); pure ()) _ _ _
  refine wpAny_bind (wpAny_holding (wpAny_bindName (F₄.store (.bool false) hz fun h₅ k₅ e₅ F₅ => ?_)))
  refine wpAny_bind (wpAny_holding (wpAny_bindName (F₅.store (.bool false) hy fun h₆ k₆ e₆ F₆ => ?_)))
  refine wpAny_bind (wpAny_holding (wpAny_bindName (F₆.store (.addr H₁.objs.size) hx fun h₇ k₇ e₇ F₇ => wpAny_pure ?_)))
  exact ⟨.next, g, h₇, k₇, _, _, rfl, ((e₄.trans e₅).trans e₆).trans e₇, F₇, .next, hr _ _⟩
end
end Mine

/-! text M28 -/
namespace Mine

/-! ## _law_parts -/
structure LSt where
  ps : List (List Nat)
  inside : Bool
  odd : Bool
def addLast (ps : List (List Nat)) (xs : List Nat) : List (List Nat) := ps.dropLast ++ [ps.getLastD [] ++ xs]
theorem addLast_snoc (ps : List (List Nat)) (y xs : List Nat) : addLast (ps ++ [y]) xs = ps ++ [y ++ xs] := by simp [addLast]
def LSt.step (comma quote slash : Int) (st : LSt) (k : Nat) (piece : List Nat) : LSt :=
  let inside := if k = 0 then st.inside else (st.odd || !st.inside)
  let ps := if k = 0 then st.ps else addLast st.ps [quote.toNat]
  let cuts := if inside then [halved piece slash] else piecesOf piece comma
  ⟨addLast ps (cuts.headD []) ++ cuts.tail, inside, inside && runOf piece slash % 2 == 1⟩
def lawSt (fs : List Nat) (comma quote slash : Int) (i : Nat) : LSt := (List.range i).foldl (fun st k => st.step comma quote slash k ((piecesOf fs quote).getD k [])) ⟨[[]], false, false⟩
theorem lawSt_succ (fs : List Nat) (comma quote slash : Int) (i : Nat) : lawSt fs comma quote slash (i + 1) = (lawSt fs comma quote slash i).step comma quote slash i ((piecesOf fs quote).getD i []) := by
  unfold lawSt; rw [List.range_succ, List.foldl_append]; rfl
def partsOf (fs : List Nat) (comma quote slash : Int) : List (List Nat) :=
  let ps := (lawSt fs comma quote slash (piecesOf fs quote).length).ps
  if (ps.getLastD []).isEmpty then ps.dropLast else ps

theorem piecesOf_length (fs : List Nat) (mark : Int) : (piecesOf fs mark).length = (endsOf fs mark).length := by simp [piecesOf]
theorem piecesOf_pos (fs : List Nat) (mark : Int) : 0 < (piecesOf fs mark).length := by rw [piecesOf_length]; unfold endsOf; simp
theorem piecesOf_le (fs : List Nat) (mark : Int) : ∀ p ∈ piecesOf fs mark, p.length ≤ fs.length := fun p hp => by
  obtain ⟨k, _, rfl⟩ := List.mem_map.mp hp
  rw [List.length_take, List.length_drop]; omega
theorem piecesOf_getD_le (fs : List Nat) (mark : Int) (k : Nat) : ((piecesOf fs mark).getD k []).length ≤ fs.length := by
  rw [List.getD_eq_getElem?_getD]
  cases h : (piecesOf fs mark)[k]? with
  | none => simp
  | some p => exact piecesOf_le fs mark p (List.mem_of_getElem? h)
theorem flat_le (l : List Nat) (f : Nat → List Nat) (h : ∀ x, (f x).length ≤ 1) : (l.flatMap f).length ≤ l.length := by
  induction l with
  | nil => simp
  | cons a l ih => rw [List.flatMap_cons, List.length_append, List.length_cons]; have := h a; omega
theorem halved_le (piece : List Nat) (slash : Int) : (halved piece slash).length ≤ piece.length := by
  unfold halved
  have := flat_le (List.range piece.length) (fun i => if ((piece.getD i 0 : Int) != slash || runOf (piece.take (i + 1)) slash % 2 == 0) then [piece.getD i 0] else []) (fun x => by split <;> simp)
  rwa [List.length_range] at this
/-- a second piece has the mark ahead of it -/
theorem mark_pos {fs : List Nat} {mark : Int} {k : Nat} (h : k < (piecesOf fs mark).length) (hk : k ≠ 0) : 0 ≤ mark := by
  rw [piecesOf_length] at h
  unfold endsOf at h
  rw [List.length_append, List.length_singleton] at h
  have hne : ((List.range fs.length).flatMap fun i => if ((fs.getD i 0 : Nat) : Int) == mark then [i] else []) ≠ [] := fun q => by rw [q] at h; simp at h; omega
  obtain ⟨x, hx⟩ := List.exists_mem_of_ne_nil _ hne
  obtain ⟨i, _, hi⟩ := List.mem_flatMap.mp hx
  split at hi
  · rename_i e; have := beq_iff_eq.mp e; omega
  · cases hi

theorem snoc_of_ne {α : Type} {l : List α} (h : l ≠ []) : ∃ a b, l = a ++ [b] := ⟨l.dropLast, l.getLast h, (List.dropLast_concat_getLast h).symm⟩
theorem addLast_ne (ps : List (List Nat)) (xs : List Nat) : addLast ps xs ≠ [] := by simp [addLast]
theorem step_ne (comma quote slash : Int) (st : LSt) (k : Nat) (piece : List Nat) : (st.step comma quote slash k piece).ps ≠ [] := by simp [LSt.step, addLast]
theorem lawSt_ne (fs : List Nat) (comma quote slash : Int) (i : Nat) : (lawSt fs comma quote slash i).ps ≠ [] := by
  cases i with
  | zero => simp [lawSt]
  | succ i => rw [lawSt_succ]; exact step_ne _ _ _ _ _ _

theorem addLast_bound {ps : List (List Nat)} {xs : List Nat} {B : Nat} (h : ∀ p ∈ ps, p.length ≤ B) (hne : ps ≠ []) : (addLast ps xs).length = ps.length ∧ ∀ p ∈ addLast ps xs, p.length ≤ B + xs.length := by
  obtain ⟨a, b, rfl⟩ := snoc_of_ne hne
  rw [addLast_snoc]
  refine ⟨by simp, fun p hp => ?_⟩
  rcases List.mem_append.mp hp with q | q
  · have := h p (List.mem_append_left _ q); omega
  · rw [List.mem_singleton.mp q, List.length_append]
    have := h b (List.mem_append_right _ (.head _)); omega
theorem lawSt_bound (fs : List Nat) (comma quote slash : Int) : ∀ i, (lawSt fs comma quote slash i).ps.length ≤ 1 + (fs.length + 1) * i ∧ ∀ p ∈ (lawSt fs comma quote slash i).ps, p.length ≤ (fs.length + 1) * i
  | 0 => by simp [lawSt]
  | i + 1 => by
    obtain ⟨h1, h2⟩ := lawSt_bound fs comma quote slash i
    have hne := lawSt_ne fs comma quote slash i
    rw [lawSt_succ]
    have hp := piecesOf_getD_le fs quote i
    generalize (piecesOf fs quote).getD i [] = piece at hp
    have hcl : ∀ cuts : List (List Nat), cuts.length ≤ fs.length + 1 → (∀ q ∈ cuts, q.length ≤ fs.length) → ∀ ps : List (List Nat), ps ≠ [] → ps.length ≤ 1 + (fs.length + 1) * i → (∀ p ∈ ps, p.length ≤ (fs.length + 1) * i + 1) →
        (addLast ps (cuts.headD []) ++ cuts.tail).length ≤ 1 + (fs.length + 1) * (i + 1) ∧ ∀ p ∈ addLast ps (cuts.headD []) ++ cuts.tail, p.length ≤ (fs.length + 1) * (i + 1) := by
      intro cuts hc1 hc2 ps hps hl hb
      have hh : (cuts.headD []).length ≤ fs.length := by
        cases cuts with
        | nil => simp
        | cons a l => exact hc2 a (.head _)
      obtain ⟨b1, b2⟩ := addLast_bound (xs := cuts.headD []) hb hps
      refine ⟨?_, fun p hp => ?_⟩
      · rw [List.length_append, b1, List.length_tail]; rw [Nat.mul_succ]; omega
      · rcases List.mem_append.mp hp with q | q
        · have := b2 p q; rw [Nat.mul_succ]; omega
        · have := hc2 p (List.mem_of_mem_tail q); rw [Nat.mul_succ]; omega
    have hcuts : ∀ b : Bool, (if b then [halved piece slash] else piecesOf piece comma).length ≤ fs.length + 1 ∧ ∀ q ∈ (if b then [halved piece slash] else piecesOf piece comma), q.length ≤ fs.length := fun b => by
      cases b with
      | true => simp only [if_true]; refine ⟨by simp, fun q hq => ?_⟩; rw [List.mem_singleton.mp hq]; exact Nat.le_trans (halved_le _ _) hp
      | false =>
        simp only [Bool.false_eq_true, if_false]
        refine ⟨?_, fun q hq => Nat.le_trans (piecesOf_le _ _ q hq) hp⟩
        rw [piecesOf_length]; have := endsOf_length piece comma; omega
    show (addLast _ _ ++ _).length ≤ _ ∧ _
    have hps : ∀ ps, ps = (if i = 0 then (lawSt fs comma quote slash i).ps else addLast (lawSt fs comma quote slash i).ps [quote.toNat]) → ps ≠ [] ∧ ps.length ≤ 1 + (fs.length + 1) * i ∧ ∀ p ∈ ps, p.length ≤ (fs.length + 1) * i + 1 := by
      rintro ps rfl
      split
      · exact ⟨hne, h1, fun p hp => Nat.le_succ_of_le (h2 p hp)⟩
      · obtain ⟨b1, b2⟩ := addLast_bound (xs := [quote.toNat]) h2 hne
        exact ⟨addLast_ne _ _, by rw [b1]; exact h1, fun p hp => b2 p hp⟩
    obtain ⟨p1, p2, p3⟩ := hps _ rfl
    exact hcl _ (hcuts _).1 (hcuts _).2 _ p1 p2 p3

theorem bounds_from1 {n : Nat} (h : 1 ≤ n) : sliceBounds (some (1 : Int)) none none n = (((1 : Nat) : Int), ((n : Nat) : Int), 1) := by
  simp [sliceBounds]; omega
theorem bounds_butLast {n : Nat} (h : 1 ≤ n) : sliceBounds none (some (-1 : Int)) none n = (((0 : Nat) : Int), ((n - 1 : Nat) : Int), 1) := by
  simp [sliceBounds]; omega

section
variable {prog : Program} {w : World} {mg mb : Str → Option Value}
theorem inD_nl (ns : List Nat) : D.list (inD ns) = nl ns := rfl
theorem map_snoc_inv {all : Own} {ps : List (List Nat)} {y : List Nat} (h : all.map (·.2) = (ps ++ [y]).map inD) : ∃ inn l, all = inn ++ [(l, inD y)] ∧ inn.map (·.2) = ps.map inD := by
  rw [List.map_append] at h
  obtain ⟨a, b, rfl, h1, h2⟩ := List.map_eq_append_iff.mp h
  obtain ⟨p, t, rfl, h3, h4⟩ := List.map_eq_cons_iff.mp h2
  obtain rfl : t = [] := List.map_eq_nil_iff.mp h4
  exact ⟨a, p.1, by rw [← h3], h1⟩
theorem adrs_append (a b : Own) : adrs (a ++ b) = adrs a ++ adrs b := by simp [adrs]
theorem adrs_length (a : Own) : (adrs a).length = a.length := by simp [adrs]

/-- the parts' own form: the last part ahead -/
theorem perm_last (P l : Addr) (x : List D) (inn : Own) (y : List D) : ((P, y) :: (inn ++ [(l, x)])).Perm ((l, x) :: (P, y) :: inn) :=
  ((List.perm_append_singleton _ _).cons _).trans (List.Perm.swap _ _ _)

theorem con_parts (fs : List Nat) (comma quote slash : Int) (hl : fs.length ≤ 100) : Con prog w mg mb 3 24 [] [nl fs, .int comma, .int quote, .int slash] (.list ((partsOf fs comma quote slash).map nl)) := by
  refine Con.intro [("figures", nl fs), ("comma", .int comma), ("quote", .int quote), ("slash", .int slash)] (fun s g vs kvs f dV kV doc pm an cd ct G hf hI hkn hkI => ?_) fun A L f cd h₀ g₀ => ?_
  · obtain rfl : dV = .none := FnAt.noDef hf (by decide)
    obtain rfl : kvs = [] := by simpa using hkn
    cases hI with
    | cons a b => cases b with
      | cons b d => cases d with
        | cons d e => cases e with
          | cons e z => cases z; exact ⟨[("figures", _), ("comma", _), ("quote", _), ("slash", _)], BindsTo.of_eq rfl, rfl, .cons a (.cons b (.cons d (.cons e .nil)))⟩
  refine Ex.initParts fun P a => ?_
  have hpl := endsOf_length fs quote
  refine Ex.for (ItSrc.enum (ds := (piecesOf fs quote).map nl) (Ev.call (con_pieces fs quote (by omega)) (.cons (Ev.name rfl) (by intro _ _ q; cases q) (.cons (Ev.name rfl) (by intro _ _ q; cases q) .nil))))
    (fun i ρ own => ∃ P all, own = (P, adrs all) :: all ∧ all.map (·.2) = (lawSt fs comma quote slash i).ps.map inD ∧ ρ "parts" = some (.addr P) ∧ ρ "inside" = some (.bool (lawSt fs comma quote slash i).inside) ∧ ρ "odd" = some (.bool (lawSt fs comma quote slash i).odd) ∧
      ρ "comma" = some (.int comma) ∧ ρ "quote" = some (.int quote) ∧ ρ "slash" = some (.int slash)) ⟨P, [(a, [])], rfl, rfl, rfl, rfl, rfl, rfl, rfl, rfl⟩ ?_ ?_
  · rintro i ρ own hi ⟨P, all, rfl, hall, h1, h2, h3, h4, h5, h6⟩
    have hi : i < (piecesOf fs quote).length := by simpa using hi
    have hi2 : i ≤ 101 := by rw [piecesOf_length] at hi; omega
    have hpd : ((piecesOf fs quote).map nl).getD i .none = nl ((piecesOf fs quote).getD i []) := by simp [List.getD, hi]
    have hple := piecesOf_getD_le fs quote i
    obtain ⟨hb1, hb2⟩ := lawSt_bound fs comma quote slash i
    have hmul : (fs.length + 1) * i ≤ 101 * 101 := Nat.mul_le_mul (by omega) hi2
    rw [lawSt_succ]
    generalize (piecesOf fs quote).getD i [] = piece at hpd hple
    obtain ⟨ps, y, hps⟩ := snoc_of_ne (lawSt_ne fs comma quote slash i)
    rw [hps] at hall hb1 hb2
    generalize hst : lawSt fs comma quote slash i = st at hps h2 h3
    have hyl : y.length ≤ 101 * 101 := Nat.le_trans (hb2 y (List.mem_append_right _ (.head _))) hmul
    rw [List.length_append, List.length_singleton] at hb1
    refine ⟨fun ρ => (ρ.set "number" (.int i)).set "piece" (nl piece), fun g v h g' hs hit _ => ?_, ?_⟩
    · obtain ⟨T, v₀, v₁, e, hT, I₀, I₁⟩ := hit
      dsimp only at I₁
      rw [hpd] at I₁
      exact Bind.pair ⟨T, v₀, v₁, e, hT, I₀.sub hs, I₁.sub hs⟩ rfl rfl
    obtain ⟨inn, l, rfl, hinn⟩ := map_snoc_inv hall
    have hinl : inn.length = ps.length := by have := congrArg List.length hinn; simpa using this
    -- what follows the first statement
    have body : ∀ (ρ' : Vars) (y' : List Nat) (ins : Bool), y'.length ≤ 101 * 101 + 1 → ins = (if i = 0 then st.inside else (st.odd || !st.inside)) → ps ++ [y'] = (if i = 0 then st.ps else addLast st.ps [quote.toNat]) →
        ρ' "parts" = some (.addr P) → ρ' "inside" = some (.bool ins) → ρ' "comma" = some (.int comma) → ρ' "quote" = some (.int quote) → ρ' "slash" = some (.int slash) → ρ' "piece" = some (nl piece) →
        Ex (fnCx prog w A 2 mg mb 24 L f cd h₀ g₀) ρ' ((l, inD y') :: (P, adrs inn ++ [.addr l]) :: inn) ((match (fnBody 24).drop 1 with | .For _ _ b _ _ :: _ => b | _ => []).drop 1) (fun fl ρ₂ own₂ => match fl with
          | .next | .cont => ∃ P all, own₂ = (P, adrs all) :: all ∧ all.map (·.2) = (st.step comma quote slash i piece).ps.map inD ∧ ρ₂ "parts" = some (.addr P) ∧ ρ₂ "inside" = some (.bool (st.step comma quote slash i piece).inside) ∧ ρ₂ "odd" = some (.bool (st.step comma quote slash i piece).odd) ∧ ρ₂ "comma" = some (.int comma) ∧ ρ₂ "quote" = some (.int quote) ∧ ρ₂ "slash" = some (.int slash)
          | .brk => Ex (fnCx prog w A 2 mg mb 24 L f cd h₀ g₀) ρ₂ own₂ ((fnBody 24).drop 2) (RetIs (.list ((partsOf fs comma quote slash).map nl)))
          | .ret d => RetIs (.list ((partsOf fs comma quote slash).map nl)) (.ret d) ρ₂ own₂) := by
      intro ρ' y' ins hy' hins hpse k1 k2 k3 k4 k5 k6
      have hstep : ∀ (c0 : List Nat) (ct : List (List Nat)), (if ins then [halved piece slash] else piecesOf piece comma) = c0 :: ct → (st.step comma quote slash i piece).ps = ps ++ [y' ++ c0] ++ ct ∧ (st.step comma quote slash i piece).inside = ins ∧ (st.step comma quote slash i piece).odd = (ins && runOf piece slash % 2 == 1) := fun c0 ct e => by
        unfold LSt.step
        rw [← hins, ← hpse]
        dsimp only
        rw [e]
        exact ⟨by rw [addLast_snoc]; rfl, rfl, rfl⟩
      cases ins with
      | true =>
        obtain ⟨s1, s2, s3⟩ := hstep (halved piece slash) [] rfl
        have hhl := halved_le piece slash
        refine Ex.assign (d := .list [nl (halved piece slash)]) (Ev.ifexp (d₂ := .none) (Et.bool (Ev.name k2)) (fun _ => Ev.list (.cons (Ev.call (con_halved piece slash (by omega)) (.cons (Ev.name k6) (by intro _ _ q; cases q) (.cons (Ev.name k5) (by intro _ _ q; cases q) .nil))) (by intro _ _ q; cases q) .nil)) fun q => nomatch q) ?_
        refine Ex.iaddLast (ys := inD (halved piece slash)) (Ev.name (by exact k1)) (Ev.neg Ev.int) (heList (Ev.itemList (ds := [nl (halved piece slash)]) (k := 0) (Ev.name rfl) Ev.int (by decide) (by decide) rfl)) ?_ (by rw [inD_length, inD_length]; omega)
        refine Ex.perm (List.Perm.swap _ _ _) ?_
        refine Ex.iaddOwn (es := []) (by exact k1) (Ev.sliceList (ds := [nl (halved piece slash)]) (a := 1) (b := 1) (Ev.name rfl) (.some Ev.int) .none (bounds_from1 (by simp)) (by simp)) ?_ (by rw [List.length_append, adrs_length]; simp; omega)
        refine Ex.assign (Ev.and2 (Ev.name (by exact k2)) fun _ => Ev.eqi (Ev.mod (Ev.call (con_run piece slash (by omega)) (.cons (Ev.name (by exact k6)) (by intro _ _ q; cases q) (.cons (Ev.name (by exact k5)) (by intro _ _ q; cases q) .nil))) Ev.int (by decide)) Ev.int) ?_
        refine Ex.perm (own := (P, adrs (inn ++ [(l, inD y' ++ inD (halved piece slash))])) :: (inn ++ [(l, inD y' ++ inD (halved piece slash))])) ?_ (Ex.nil ⟨P, inn ++ [(l, inD y' ++ inD (halved piece slash))], rfl, ?_, k1, ?_, ?_, k3, k4, k5⟩)
        · rw [List.append_nil, adrs_append]
          exact ((List.perm_append_singleton _ _).symm).cons _
        · rw [s1]; simp [hinn, inD, zs]
        · rw [s2]; exact k2
        · rw [s3]
          have : ((runOf piece slash : Int) % 2 == 1) = (runOf piece slash % 2 == 1) := by rw [Bool.eq_iff_iff]; simp; omega
          show some (D.bool (true && ((runOf piece slash : Int) % 2 == 1))) = _
          rw [this]
      | false =>
        have hcpos := piecesOf_pos piece comma
        obtain ⟨c0, ct, hcc⟩ : ∃ c0 ct, piecesOf piece comma = c0 :: ct := by
          cases h : piecesOf piece comma with
          | nil => rw [h] at hcpos; simp at hcpos
          | cons a b => exact ⟨a, b, rfl⟩
        obtain ⟨s1, s2, s3⟩ := hstep c0 ct hcc
        have hc0 : c0.length ≤ piece.length := piecesOf_le piece comma c0 (by rw [hcc]; exact .head _)
        have hctl : ct.length ≤ piece.length := by
          have := endsOf_length piece comma
          rw [← piecesOf_length, hcc] at this
          simpa using this
        refine Ex.assignIfO (Et.bool (Ev.name k2)) (con_piecesO piece comma (by omega)) (.cons (Ev.name k6) (by intro _ _ q; cases q) (.cons (Ev.name k3) (by intro _ _ q; cases q) .nil)) fun a cin hcin => ?_
        rw [hcc, List.map_cons] at hcin
        obtain ⟨⟨b0, x0⟩, cit, rfl, hx0, hcit⟩ := List.map_eq_cons_iff.mp hcin
        simp only at hx0
        subst hx0
        have hcl : cit.length = ct.length := by have := congrArg List.length hcit; simpa using this
        refine Ex.perm (own := (l, inD y') :: (P, adrs inn ++ [.addr l]) :: (inn ++ ((a, adrs ((b0, inD c0) :: cit)) :: (b0, inD c0) :: cit))) ?_ ?_
        · refine (List.perm_append_comm).trans ?_
          exact List.Perm.refl _
        refine Ex.iaddLast (ys := inD c0) (Ev.name (by exact k1)) (Ev.neg Ev.int) (heOwn (b := b0) (Ev.itemOwn (a := a) (ds := adrs ((b0, inD c0) :: cit)) (k := 0) (Ev.name rfl) Ev.int (by simp) (by decide) (by decide) rfl) (by simp)) ?_ (by rw [inD_length, inD_length]; omega)
        refine Ex.perm (List.Perm.swap _ _ _) ?_
        refine Ex.iaddOwn (es := adrs cit) (by exact k1) (Ev.eq (Ev.sliceOwn (x := a) (ds := adrs ((b0, inD c0) :: cit)) (a := 1) (b := (adrs ((b0, inD c0) :: cit)).length) (Ev.name rfl) (by simp) (.some Ev.int) .none (bounds_from1 (by simp [adrs])) (by rw [adrs_length]; simp; omega)) ?_) ?_ (by rw [List.length_append, adrs_length, adrs_length]; simp; omega)
        · have e : adrs ((b0, inD c0) :: cit) = .addr b0 :: adrs cit := rfl
          rw [e, List.length_cons, Nat.add_sub_cancel, List.drop_succ_cons, List.drop_zero, List.take_length]
        refine Ex.drop (own' := (P, adrs (inn ++ [(l, inD y' ++ inD c0)] ++ cit)) :: (inn ++ [(l, inD y' ++ inD c0)] ++ cit)) (dr := [(a, adrs ((b0, inD c0) :: cit)), (b0, inD c0)]) ?_ ?_
        · rw [adrs_append, adrs_append]
          refine List.Perm.cons _ ?_
          have p1 : ((l, inD y' ++ inD c0) :: (inn ++ ((a, adrs ((b0, inD c0) :: cit)) :: (b0, inD c0) :: cit))).Perm ((inn ++ [(l, inD y' ++ inD c0)]) ++ ((a, adrs ((b0, inD c0) :: cit)) :: (b0, inD c0) :: cit)) := by
            rw [← List.cons_append]
            exact (List.perm_append_singleton _ _).symm.append_right _
          refine p1.trans ?_
          show ((inn ++ [(l, inD y' ++ inD c0)]) ++ ((a, adrs ((b0, inD c0) :: cit)) :: (b0, inD c0) :: cit)).Perm (((inn ++ [(l, inD y' ++ inD c0)]) ++ cit) ++ [(a, adrs ((b0, inD c0) :: cit)), (b0, inD c0)])
          rw [List.append_assoc (inn ++ [(l, inD y' ++ inD c0)])]
          refine List.Perm.append_left _ ?_
          exact (List.perm_append_comm (l₁ := [(a, adrs ((b0, inD c0) :: cit)), (b0, inD c0)]) (l₂ := cit))
        refine Ex.assign (Ev.and2 (t := false) (u := true) (Ev.name (by exact k2)) fun q => nomatch q) (Ex.nil ⟨P, inn ++ [(l, inD y' ++ inD c0)] ++ cit, rfl, ?_, k1, ?_, ?_, k3, k4, k5⟩)
        · rw [s1]; simp [hinn, hcit, inD, zs]
        · rw [s2]; exact k2
        · rw [s3]; rfl
    refine Ex.ite (Et.int (Ev.name rfl)) (fun hn => ?_) fun hn => Ex.nil ?_
    · have hi0 : i ≠ 0 := by have : ((i : Int) != 0) = true := hn; simpa using this
      have hq := mark_pos hi hi0
      refine Ex.assign (Ev.or2 (Ev.name (by exact h3)) fun _ => Ev.notb (Ev.name (by exact h2))) ?_
      refine Ex.perm (perm_last P l _ inn _) ?_
      rw [adrs_append]
      refine Ex.append (d := .int (quote.toNat : Nat)) (Ev.itemOwnNeg (ds := adrs inn ++ adrs [(l, inD y)]) (k := -1) (Ev.name (by exact h1)) (Ev.neg Ev.int) (.tail _ (.head _)) (by decide) ?_ (by decide) ?_) (Ev.eq (Ev.name (by exact h5)) (by congr 1; omega)) (Ex.nil ?_) (by rw [inD_length]; omega)
      · rw [List.length_append, adrs_length]; simp [adrs]; omega
      · rw [List.length_append, adrs_length, adrs_length]
        have : (-1 + ((inn.length + [(l, inD y)].length : Nat) : Int)).toNat = (adrs inn).length := by rw [adrs_length]; simp; omega
        rw [this]; simp [adrs]
      · rw [← inD_append]
        refine body _ (y ++ [quote.toNat]) (st.odd || !st.inside) (by rw [List.length_append]; simp; omega) (by rw [if_neg hi0]) (by rw [if_neg hi0, hps, addLast_snoc]) h1 rfl h4 h5 h6 rfl
    · have hi0 : i = 0 := by have : ((i : Int) != 0) = false := hn; simpa using this
      refine Ex.perm (perm_last P l _ inn _) ?_
      rw [adrs_append]
      exact body _ y st.inside (by omega) (by rw [if_pos hi0]) (by rw [if_pos hi0, hps]) h1 h2 h4 h5 h6 rfl
  · rintro ρ own ⟨P, all, rfl, hall, h1, h2, h3, h4, h5, h6⟩
    have hn : ((piecesOf fs quote).map nl).length = (piecesOf fs quote).length := by simp
    rw [hn] at hall
    have hpl2 : (piecesOf fs quote).length ≤ 101 := by rw [piecesOf_length]; omega
    obtain ⟨hb1, hb2⟩ := lawSt_bound fs comma quote slash (piecesOf fs quote).length
    have hmul : (fs.length + 1) * (piecesOf fs quote).length ≤ 101 * 101 := Nat.mul_le_mul (by omega) hpl2
    obtain ⟨ps, y, hps⟩ := snoc_of_ne (lawSt_ne fs comma quote slash (piecesOf fs quote).length)
    rw [hps] at hall hb1 hb2
    have hyl : y.length ≤ 101 * 101 := Nat.le_trans (hb2 y (List.mem_append_right _ (.head _))) hmul
    rw [List.length_append, List.length_singleton] at hb1
    refine Ex.freezeAll h1 ?_
    have hd : all.map (fun p => D.list p.2) = (ps ++ [y]).map nl := by
      have : all.map (fun p => D.list p.2) = (all.map (·.2)).map D.list := by rw [List.map_map]; rfl
      rw [this, hall, List.map_map]; rfl
    rw [hd]
    have hfin : partsOf fs comma quote slash = if y.isEmpty then ps else ps ++ [y] := by
      unfold partsOf; rw [hps]; simp
    have hlen : ((ps ++ [y]).map nl).length = ps.length + 1 := by simp
    refine Ex.ret (Ev.eq (Ev.ifexp (Et.list (ds := (zs y).map .int) (Ev.itemListNeg (ds := (ps ++ [y]).map nl) (k := -1) (Ev.name rfl) (Ev.neg Ev.int) (by decide) (by rw [hlen]; omega) (by decide) ?_) (by rw [zsD_length]; omega)) (fun _ => Ev.name rfl) fun _ => Ev.sliceList (ds := (ps ++ [y]).map nl) (a := 0) (b := ((ps ++ [y]).map nl).length - 1) (Ev.name rfl) .none (.some (Ev.neg Ev.int)) (bounds_butLast (by rw [hlen]; omega)) (by rw [hlen]; omega)) ?_) rfl
    · rw [hlen]
      have : (-1 + ((ps.length + 1 : Nat) : Int)).toNat = ps.length := by omega
      rw [this]; simp; rfl
    · rw [hfin, hlen]
      cases y with
      | nil => simp [zs]
      | cons a y => simp [zs]
end
end Mine

/-! text M29 -/
namespace Mine

section
variable {prog : Program} {w : World} {A : Around} {R : Result → Shared → Prop} {s : Shared}
theorem codeAny_compStart_1 {elt t₁ i₁ t₂ i₂ : Expr} {scope : Scope} {pos : Pos} {it acc : Value} {env : Env}
    (h0 : codeAny (model prog w) A (.compLoop (.ListComp elt [⟨t₁, i₁, [], 0⟩, ⟨t₂, i₂, [], 0⟩] scope pos) 1 it acc env) R s)
    (h : wpAny (model prog w) A (pyIter it) (fun it' s' => codeAny (model prog w) A (.compLoop (.ListComp elt [⟨t₁, i₁, [], 0⟩, ⟨t₂, i₂, [], 0⟩] scope pos) 1 it' acc env) R s')
      (notedBy (model prog w) A env fun x s' => R (.error x) s') s) :
    codeAny (model prog w) A (.compStart (.ListComp elt [⟨t₁, i₁, [], 0⟩, ⟨t₂, i₂, [], 0⟩] scope pos) 1 it acc env) R s := by
  refine codeAny_of_tree ?_
  show wpAny _ _ ((compStart (.ListComp elt [⟨t₁, i₁, [], 0⟩, ⟨t₂, i₂, [], 0⟩] scope pos) 1 it acc env).onRaise (fun x => do noteFrame x env; standAt theWindowsPlace)) _ _ s
  refine wpAny_notedAt ?_
  unfold compStart
  show wpAny _ _ (ask >>= _) _ _ s
  refine wpAny_bind (wpAny_askSetting (wpAny_ite ?_))
  split
  · first
      | exact wpAny_bind (wpAny_pure (wpAny_pure (And.intro rfl h0)))
      | exact wpAny_pure (And.intro rfl h0)
  · first
      | exact wpAny_bind (wpAny_rule (wpAny_bind (wpAny_standAt (wpAny_bind (wpAny_mono h (fun it' s' h' => wpAny_pure (And.intro rfl h')) fun _ _ x => x)))))
      | (refine wpAny_bind (wpAny_rule ?_); show wpAny _ _ (standAt i₂.pos >>= _) _ _ s; exact wpAny_bind (wpAny_standAt (wpAny_bind (wpAny_mono h (fun it' s' h' => wpAny_pure (And.intro rfl h')) fun _ _ x => x))))
theorem compTurn_0 (elt t₁ i₁ t₂ i₂ : Expr) (scope : Scope) (pos : Pos) (it acc : Value) (env : Env) :
    compTurn (.ListComp elt [⟨t₁, i₁, [], 0⟩, ⟨t₂, i₂, [], 0⟩] scope pos) 0 it acc env = (do
      standAt i₁.pos
      match ← pyNext it with
      | none => pure (.done .next)
      | some v =>
        letOwnedTupleGo t₁ it v
        PySem.assign t₁ env v
        let mut ok := true
        for cc in ([] : List Expr) do
          if ok then ok ← isTrue cc env (eval cc env)
        if ok then (do
          let x ← eval i₂ env
          standAt i₂.pos
          let x ← foldedSetIterable i₂ env x
          let _ ← runOwn (.compStart (.ListComp elt [⟨t₁, i₁, [], 0⟩, ⟨t₂, i₂, [], 0⟩] scope pos) 1 (← holding [x] (pyIter x)) acc env) env)
        again (.compLoop (.ListComp elt [⟨t₁, i₁, [], 0⟩, ⟨t₂, i₂, [], 0⟩] scope pos) 0 it acc env)) := by
  have e : compTurn (.ListComp elt [⟨t₁, i₁, [], 0⟩, ⟨t₂, i₂, [], 0⟩] scope pos) 0 it acc env = (do
      standAt i₁.pos
      match ← pyNext it with
      | none => pure (.done .next)
      | some v =>
        letOwnedTupleGo t₁ it v
        PySem.assign t₁ env v
        let mut ok := true
        for cc in ([] : List Expr) do
          if ok then ok ← isTrue cc env (eval cc env)
        if ok then
          let x ← eval i₂ env
          standAt i₂.pos
          let x ← foldedSetIterable i₂ env x
          let _ ← runOwn (.compStart (.ListComp elt [⟨t₁, i₁, [], 0⟩, ⟨t₂, i₂, [], 0⟩] scope pos) 1 (← holding [x] (pyIter x)) acc env) env
        again (.compLoop (.ListComp elt [⟨t₁, i₁, [], 0⟩, ⟨t₂, i₂, [], 0⟩] scope pos) 0 it acc env)) := rfl
  rw [e]
  congr 1; funext _
  congr 1; funext r
  cases r with
  | none => rfl
  | some v => simp only [bind_assoc, pure_bind]
theorem compTurn_1 (elt t₁ i₁ t₂ i₂ : Expr) (scope : Scope) (pos : Pos) (it acc : Value) (env : Env) :
    compTurn (.ListComp elt [⟨t₁, i₁, [], 0⟩, ⟨t₂, i₂, [], 0⟩] scope pos) 1 it acc env = (do
      standAt i₂.pos
      match ← pyNext it with
      | none => pure (.done .next)
      | some v =>
        letOwnedTupleGo t₂ it v
        PySem.assign t₂ env v
        let mut ok := true
        for cc in ([] : List Expr) do
          if ok then ok ← isTrue cc env (eval cc env)
        if ok then (do let _ ← call (.builtin "list.append") [acc, ← eval elt env])
        again (.compLoop (.ListComp elt [⟨t₁, i₁, [], 0⟩, ⟨t₂, i₂, [], 0⟩] scope pos) 1 it acc env)) := by rfl
end

/-- what a turn of the first clause does -/
def innerAct (elt t₁ i₁ t₂ i₂ : Expr) (scope : Scope) (pos : Pos) (acc : Value) (env : Env) : Sem Unit := do
  let x ← eval i₂ env
  standAt i₂.pos
  let x ← foldedSetIterable i₂ env x
  let _ ← runOwn (.compStart (.ListComp elt [⟨t₁, i₁, [], 0⟩, ⟨t₂, i₂, [], 0⟩] scope pos) 1 (← holding [x] (pyIter x)) acc env) env

section
variable {c : Cx} {ρ : Vars} {own : Own}
theorem comp_core2 {elt target iter t₂ i₂ : Expr} {scope : Scope} {pos : Pos} {n : Nat} {It : Part → Nat → Value → Heap → Prop} {cl : List (Str × Addr)} (src : ItSrc c ρ own iter target n It) (ok : CompOk c scope cl) (hn : n ≤ 15000000)
    (J : Nat → List D → Own → Prop) (h0 : J 0 [] [])
    (step : ∀ C h₀' g₀' a i ds inn, i < n → J i ds inn → ∃ f : Vars → Vars, (∀ g v h g', Sub g g' → It g i v h → Inn g' h → Bind (compCx c scope cl C h₀' g₀') ((a, ds) :: inn) target v g' h f) ∧
      (∀ g₁ (s₁ : Shared) (E₁ : Value → Shared → Prop), Fm (compCx c scope cl C h₀' g₀') (f (capVars cl ρ)) ((a, ds) :: inn) g₁ s₁.heap → wpAny c.M c.A (innerAct elt target iter t₂ i₂ scope pos (.ref a) (compEnvC scope cl C c.env))
        (fun _ s₂ => ∃ g₂ h₂ k₂ ds' inn', s₂ = { s₁ with heap := h₂, toks := k₂ } ∧ Evo (compCx c scope cl C h₀' g₀') [] g₁ ((a, ds) :: inn) s₁.heap g₂ ((a, ds') :: inn') h₂ ∧ Fm (compCx c scope cl C h₀' g₀') (f (capVars cl ρ)) ((a, ds') :: inn') g₂ h₂ ∧ J (i + 1) ds' inn') E₁ s₁) ∧
      (∀ x d, capVars cl ρ x = some d → f (capVars cl ρ) x = some d))
    {g : Part} {s : Shared} {E : Value → Shared → Prop} (F : Fm c ρ own g s.heap) {RR : Value → Addr → Result → Shared → Prop}
    (fin : ∀ a C g' h' k ds inn, J n ds inn → s.heap.get? C = none → g' C = none → (∀ p ∈ (a, ds) :: inn, p.1 ≠ C) → (∃ m, h'.Ns C m) → CompRes s g a ds inn g' h' → RR (.ref a) C (.ok .next) { s with heap := h', toks := k }) :
    wpAny c.M c.A (eval iter c.env) (fun x s₁ => wpAny c.M c.A (pyIter x) (fun it s₂ => wpAny c.M c.A (newList []) (fun acc s₃ =>
      wpAny c.M c.A (newFunctionEnv scope c.env.globals cl [] c.env.qual none .none (some c.env)) (fun cenv s₄ =>
        codeAny c.M c.A (.compStart (.ListComp elt [⟨target, iter, [], 0⟩, ⟨t₂, i₂, [], 0⟩] scope pos) 0 it acc { cenv with scope := relabel scope c.env }) (RR acc cenv.locals) s₄) E s₃) E s₂) E s₁) E s := by
  refine src g s _ E F fun I g₁ h₁ k₁ wr St G₁ T => ?_
  have F₁ := F.grow G₁
  refine wpAny_newObj_type (wpAny_newFunctionEnv (fun y hy q => ?_) (by intro y hy; simp at hy) (fun h₂ hns hsb => ?_) ok.kind)
  · have := List.all_eq_true.mp ok.cell y hy; rw [q] at this; cases this
  dsimp only at hns hsb ⊢
  generalize hH2 : h₁.push { cls := .type "list", dict := none, data := .seq ([] : List Value).toArray } = H2 at hns hsb ⊢
  have hC : H2.objs.size = h₁.objs.size + 1 := by rw [← hH2, Heap.size_push]
  have k12 : Keep h₁ h₂ := fun b o e => hsb.extBut b o (by rw [hC]; exact Nat.ne_of_lt (Nat.lt_succ_of_lt (Heap.lt_size e))) (Heap.get?_push_of_some _ (hH2 ▸ Heap.get?_push_of_some _ e))
  have hD : h₂.get? h₁.objs.size = some { cls := .type "list", data := .seq ([] : List Value).toArray } := hsb.extBut _ _ (by rw [hC]; exact Nat.ne_of_lt (Nat.lt_succ_self _)) (Heap.get?_push_of_some _ (hH2 ▸ Heap.get?_push_size _ rfl))
  have hC₁ : h₁.get? H2.objs.size = none := by
    cases q : h₁.get? H2.objs.size with
    | none => rfl
    | some o => have := Heap.lt_size q; rw [hC] at this; exact absurd this (Nat.not_lt.mpr (Nat.le_succ _))
  have hC₀ : s.heap.get? H2.objs.size = none := G₁.keep.none hC₁
  have hD₁ := get?_size_none h₁
  have hD₀ : s.heap.get? h₁.objs.size = none := G₁.keep.none hD₁
  have hDC : h₁.objs.size ≠ H2.objs.size := by rw [hC]; exact Nat.ne_of_lt (Nat.lt_succ_self _)
  have ks2 : Keep s.heap h₂ := G₁.keep.trans k12
  have lookup' : ∀ x a, cl.lookup x = some a → c.env.cells.lookup x = some a := ok.clo.lookup
  -- the comprehension's own frame
  have F₂ : Fm (compCx c scope cl H2.objs.size s.heap g₁) (capVars cl ρ) [(h₁.objs.size, [])] g₁ h₂ := by
    refine ⟨⟨ok.kind, F.ok.glo, F.ok.bns, F.ok.glb.keep F.keep₀, F.ok.rm⟩, fun b o e => k12 b o (G₁.inn b o e), ks2, Sub.refl _, fun a o e => .inl e, ⟨_, hns, fun x d e k => ?_⟩, G₁.inn.none hC₁, hC₀, fun x a e => ?_, fun x d e k => ?_, fun x y a e1 e2 => F.celInj x y a (lookup' x a e1) (lookup' y a e2), fun p hp => ?_, List.nodup_cons.mpr ⟨fun q => (nomatch q), List.nodup_nil⟩⟩
    · unfold capVars at e
      split at e
      · rename_i hq
        obtain ⟨a, ha⟩ := Option.isSome_iff_exists.mp hq
        have k' : (relabel scope c.env).names.lookup x = some .local := k
        rcases capOk.at ok.cap x a ha with q | q <;> (rw [k'] at q; cases q)
      · cases e
    · obtain ⟨q1, q2, v, q3, q4⟩ := F₁.cel x a (lookup' x a e)
      refine ⟨q1, fun q => (nomatch q), v, q3.keeps k12, fun d hd hk => ?_⟩
      unfold capVars at hd
      split at hd
      · exact q4 d hd (capOk.at ok.par x a e)
      · cases hd
    · unfold capVars at e
      split at e
      · rename_i hq; exact Option.isSome_iff_exists.mp hq
      · cases e
    · rw [List.mem_singleton.mp hp]
      exact ⟨G₁.inn.none hD₁, hD₀, [], _, hD, .nil⟩
  have T' : Itr (compCx c scope cl H2.objs.size s.heap g₁) target n It I g₁ s.heap h₁ wr St := ⟨T.turns, T.st, T.wrN, T.live, T.self⟩
  have st₂ : St 0 h₂ := by
    obtain ⟨fp, P, Md, W, _, _, _⟩ := T.turns
    exact W.frame _ _ _ T.st fun b _ o e => k12 b o e
  have loop : ∀ s₃ : Shared, s₃ = { s with heap := h₂, toks := k₁ + ([] : List (Str × Value)).length } →
      codeAny c.M c.A (.compLoop (.ListComp elt [⟨target, iter, [], 0⟩, ⟨t₂, i₂, [], 0⟩] scope pos) 0 (.ref I) (.ref h₁.objs.size) (compEnvC scope cl H2.objs.size c.env)) (RR (.ref h₁.objs.size) H2.objs.size) s₃ := by
    rintro s₃ rfl
    refine comp_loop (c := compCx c scope cl H2.objs.size s.heap g₁) (ρ := capVars cl ρ) (gB := g) (ownB := []) (hB := s.heap) (g := g₁) (own₀ := [(h₁.objs.size, [])]) (ipos := iter.pos) (ifs := [])
      (act := innerAct elt target iter t₂ i₂ scope pos (.ref h₁.objs.size) (compEnvC scope cl H2.objs.size c.env)) T' (fun i own' => ∃ ds inn, own' = (h₁.objs.size, ds) :: inn ∧ J i ds inn) ?_ F₂ (Sub.refl _) st₂ k12 ?_ ?_ ?_ ?_ ⟨[], [], rfl, h0⟩ ?_ ?_
    · exact compTurn_0 elt target iter t₂ i₂ scope pos (.ref I) (.ref h₁.objs.size) (compEnvC scope cl H2.objs.size c.env)
    · intro b hb0 hb1
      refine ⟨fun q => hb1 (q ▸ hC₁), fun x q => ?_, fun q => ?_⟩
      · obtain ⟨_, _, v, ⟨o, q3, _⟩, _⟩ := F.cel x b (lookup' x b q)
        rw [hb0] at q3; cases q3
      · have : b = h₁.objs.size := by simpa using q
        exact hb1 (this ▸ hD₁)
    · intro b hb
      exact ⟨(T.wrN b hb).2, (T.wrN b hb).1⟩
    · refine ⟨G₁.sub, fun b o e _ _ _ _ => ks2 b o e, fun b hb => .inr ?_, fun b e => ks2.none e, fun a o e => (G₁.new a o e).elim .inl fun q => .inr (.inr q)⟩
      have : b = h₁.objs.size := by simpa using hb
      rw [this]; exact hD₀
    · intro b hb; exact (T.wrN b hb).1
    · rintro i own₁ hi ⟨ds, inn, rfl, hJ⟩
      obtain ⟨f, hf, hact, hfρ⟩ := step H2.objs.size s.heap g₁ h₁.objs.size i ds inn hi hJ
      refine ⟨f, hf, true, fun g s Q E F hQ => wpAny_tests_nil (hQ g s.heap s.toks (Grow.refl F.inn)), fun _ g₃ s₃ E₃ F₃ => ?_, fun q => (nomatch q), hfρ⟩
      refine wpAny_mono (hact g₃ s₃ E₃ F₃) (fun _ s₄ q => ?_) fun _ _ e => e
      obtain ⟨g₄, h₄, k₄, ds', inn', rfl, e₄, F₄, hJ'⟩ := q
      exact ⟨g₄, h₄, k₄, _, rfl, e₄, F₄, ds', inn', rfl, hJ'⟩
    · rintro g' own' h' k eB F' ⟨ds, inn, rfl, hJ⟩
      obtain ⟨m, hm, _⟩ := F'.loc
      refine fin _ _ g' h' k ds inn hJ hC₀ F'.offL (fun p hp q => ?_) ⟨m, hm⟩ ⟨⟨eB.sub, F'.inn, F'.keep₀, fun a o e => ?_⟩, fun p hp => F'.owns p hp, F'.nd⟩
      · obtain ⟨_, _, vs, nn, q3, _⟩ := F'.owns p hp
        exact ns_ne_list hm q3 rfl q.symm
      · rcases eB.gnew a o e with q | q | q
        · exact .inl q
        · exact absurd q (by simp)
        · exact .inr q
  exact codeAny_compStart_list (rest := [⟨t₂, i₂, [], 0⟩]) (loop _ rfl) (T.self 0 _ _ _ st₂ (loop _ rfl))

/-- the assignment of a comprehension, which the machine binds ahead of letting its variables go -/
theorem Ex.assignComp2 {elt target iter t₂ i₂ : Expr} {scope : Scope} {pos p' spos : Pos} {n : Nat} {It : Part → Nat → Value → Heap → Prop} {cl : List (Str × Addr)} {y : Str} {out : List D} {Φ : Fl → Vars → Own → Prop} {rest : List Stmt} (src : ItSrc c ρ own iter target n It) (ok : CompOk c scope cl) (hn : n ≤ 15000000)
    (J : Nat → List D → Own → Prop) (h0 : J 0 [] [])
    (step : ∀ C h₀' g₀' a i ds inn, i < n → J i ds inn → ∃ f : Vars → Vars, (∀ g v h g', Sub g g' → It g i v h → Inn g' h → Bind (compCx c scope cl C h₀' g₀') ((a, ds) :: inn) target v g' h f) ∧
      (∀ g₁ (s₁ : Shared) (E₁ : Value → Shared → Prop), Fm (compCx c scope cl C h₀' g₀') (f (capVars cl ρ)) ((a, ds) :: inn) g₁ s₁.heap → wpAny c.M c.A (innerAct elt target iter t₂ i₂ scope pos (.ref a) (compEnvC scope cl C c.env))
        (fun _ s₂ => ∃ g₂ h₂ k₂ ds' inn', s₂ = { s₁ with heap := h₂, toks := k₂ } ∧ Evo (compCx c scope cl C h₀' g₀') [] g₁ ((a, ds) :: inn) s₁.heap g₂ ((a, ds') :: inn') h₂ ∧ Fm (compCx c scope cl C h₀' g₀') (f (capVars cl ρ)) ((a, ds') :: inn') g₂ h₂ ∧ J (i + 1) ds' inn') E₁ s₁) ∧
      (∀ x d, capVars cl ρ x = some d → f (capVars cl ρ) x = some d))
    (hout : ∀ ds inn, J n ds inn → ds = out)
    (hr : Ex c (ρ.set y (.list out)) own rest Φ)
    (hsw : swapsWith (.ListComp elt [⟨target, iter, [], 0⟩, ⟨t₂, i₂, [], 0⟩] scope pos) (some (.Name y p')) spos.line c.env = pure true)
    (hy : mayStore c y = true := by rfl)
    (hs : ∀ x, foldedSetIterable iter c.env x = pure x := by intro _; rfl) :
    Ex c ρ own (.Assign [.Name y p'] (.ListComp elt [⟨target, iter, [], 0⟩, ⟨t₂, i₂, [], 0⟩] scope pos) spos :: rest) Φ := Ex.cons fun g s E F => by
  rw [exec_Assign_Name_used _ _ _ _ hsw]
  refine wpAny_bind (wpAny_standAt (wpAny_bind ?_))
  show wpAny _ c.A (do let _ ← comprehension (.ListComp elt [⟨target, iter, [], 0⟩, ⟨t₂, i₂, [], 0⟩] scope pos) scope c.env _ (newList []) false (eval iter c.env) (some (PySem.assign (.Name y p') c.env))) _ _ s
  refine wpAny_bind (wpAny_mono (wpAny_comprehension_free (use := some (PySem.assign (.Name y p') c.env)) (Q := fun _ s' => Post c (Then c rest Φ) own g s .next s') rfl hs ok.clos ok.kind (fun y hy q => ?_)
    (comp_core2 (t₂ := t₂) (i₂ := i₂) (elt := elt) (pos := pos) src ok hn J h0 step F (RR := fun acc C => compPost c.M c.A E (some (PySem.assign (.Name y p') c.env)) (fun _ s' => Post c (Then c rest Φ) own g s .next s') acc C) fun a C g' h' k ds inn hJ hC₀ hCg hne ⟨m, hm⟩ R => ?_)) (fun _ s' hq => wpAny_pure (wpAny_pure hq)) fun _ _ e => e)
  · have := List.all_eq_true.mp ok.names y hy; rw [q] at this; simpa using this
  · obtain ⟨g'', G, I, hG⟩ := R.freeze
    have F' := F.grow G
    have hda : ds = out := hout ds inn hJ
    subst hda
    show wpAny _ c.A (PySem.assign (.Name y p') c.env (.ref a)) _ _ _
    refine wpAny_assign_Name (F'.store I hy fun h₂ k₂ e₂ F₂ => ?_)
    have hCL : C ≠ c.env.locals := by
      rintro rfl
      obtain ⟨m', ⟨o, _, _, q, _⟩, _⟩ := F.loc
      rw [hC₀] at q; cases q
    have hCc : ∀ x, c.env.cells.lookup x ≠ some C := fun x q => by
      obtain ⟨_, _, v, ⟨o, q3, _⟩, _⟩ := F.cel x C q
      rw [hC₀] at q3; cases q3
    have hCo : C ∉ own.map (·.1) := fun q => by
      obtain ⟨p, hp, e⟩ := List.mem_map.mp q
      obtain ⟨_, _, vs, nn, q3, _⟩ := F.owns p hp
      rw [show p.1 = C from e, hC₀] at q3; cases q3
    have hCg'' : g'' C = none := by rw [hG C (Ne.symm (hne (a, ds) (.head _)))]; exact hCg
    obtain ⟨oC, esC, epC, hoC, rC⟩ := hm
    refine ⟨m, ⟨oC, esC, epC, e₂.kept C oC hoC hCL hCc hCo (fun q => nomatch q), rC⟩, fun h₃ hs₃ => ?_⟩
    have F₃ : Fm c (ρ.set y (.list ds)) own g'' h₃ := F₂.turn (wr := [C]) (fun b o hb e => hs₃.extBut b o (fun q => hb (by rw [q]; exact .head _)) e) fun b hb => by
      rw [List.mem_singleton.mp hb]
      exact ⟨hCg'', F.keep₀.none hC₀, hCL, hCc, hCo⟩
    refine ⟨.next, g'', h₃, k₂, _, own, rfl, ?_, F₃, .next, hr⟩
    have e3 := (Evo.ofGrow (c := c) (ex := []) (own := own) G).trans e₂
    refine ⟨e3.sub, fun b o e hL hc ho hx => hs₃.extBut b o (by rintro rfl; rw [hC₀] at e; cases e) (e3.kept b o e hL hc ho hx), e3.news, fun b e => ?_, e3.gnew⟩
    by_cases q : b = C
    · rw [q]; exact hC₀
    · rw [hs₃.2 b q] at e; exact e3.live b e

end
end Mine

/-! text M30 -/
namespace Mine

section
variable {c : Cx} {ρ : Vars} {own₁ : Own}
/-- the second clause's loop -/
theorem inner_loop {elt t₁ i₁ t₂ i₂ : Expr} {scope : Scope} {pos : Pos} {a : Addr} {n : Nat} {It : Part → Nat → Value → Heap → Prop} (src : ItSrc c ρ own₁ i₂ t₂ n It) (J : Nat → Own → Prop) (h0 : J 0 own₁)
    (step : ∀ i own, i < n → J i own → ∃ f : Vars → Vars, (∀ g v h g', Sub g g' → It g i v h → Inn g' h → Bind c own t₂ v g' h f) ∧
      (∀ (g₁ : Part) (s₁ : Shared) (E : Value → Shared → Prop), Fm c (f ρ) own g₁ s₁.heap → wpAny c.M c.A (do let _ ← call (.builtin "list.append") [.ref a, ← eval elt c.env]) (fun _ s₂ => ∃ g₂ h₂ k₂ own₂, s₂ = { s₁ with heap := h₂, toks := k₂ } ∧ Evo c [] g₁ own s₁.heap g₂ own₂ h₂ ∧ Fm c (f ρ) own₂ g₂ h₂ ∧ J (i + 1) own₂) E s₁) ∧
      (∀ x d, ρ x = some d → f ρ x = some d))
    (hs : ∀ x, foldedSetIterable i₂ c.env x = pure x)
    (g₁ : Part) (s₁ : Shared) (E : Value → Shared → Prop) (F : Fm c ρ own₁ g₁ s₁.heap) :
    wpAny c.M c.A (innerAct elt t₁ i₁ t₂ i₂ scope pos (.ref a) c.env) (fun _ s₂ => ∃ g₂ h₂ k₂ own₂, s₂ = { s₁ with heap := h₂, toks := k₂ } ∧ Evo c [] g₁ own₁ s₁.heap g₂ own₂ h₂ ∧ Fm c ρ own₂ g₂ h₂ ∧ J n own₂) E s₁ := by
  unfold innerAct
  refine wpAny_bind (wpAny_mono (src g₁ s₁ (fun it s₂ => wpAny c.M c.A (do let _ ← runOwn (.compStart (.ListComp elt [⟨t₁, i₁, [], 0⟩, ⟨t₂, i₂, [], 0⟩] scope pos) 1 it (.ref a) c.env) c.env) (fun _ s₂ => ∃ g₂ h₂ k₂ own₂, s₂ = { s₁ with heap := h₂, toks := k₂ } ∧ Evo c [] g₁ own₁ s₁.heap g₂ own₂ h₂ ∧ Fm c ρ own₂ g₂ h₂ ∧ J n own₂) E s₂) E F fun I g' h' k wr St G T => ?_)
    (fun x s₂ h => wpAny_bind (wpAny_standAt (wpAny_bind (wpAny_of_eq (hs x) (wpAny_bind (wpAny_holding h)))))) fun _ _ e => e)
  have F' := F.grow G
  have loop : ∀ s₃ : Shared, s₃ = { s₁ with heap := h', toks := k } → codeAny c.M c.A (.compLoop (.ListComp elt [⟨t₁, i₁, [], 0⟩, ⟨t₂, i₂, [], 0⟩] scope pos) 1 (.ref I) (.ref a) c.env)
      (fun r s' => match r with | .ok f => wpAny c.M c.A (pure ()) (fun _ s₂ => ∃ g₂ h₂ k₂ own₂, s₂ = { s₁ with heap := h₂, toks := k₂ } ∧ Evo c [] g₁ own₁ s₁.heap g₂ own₂ h₂ ∧ Fm c ρ own₂ g₂ h₂ ∧ J n own₂) E s' | .error e => cameBackBy c.M c.A c.env E e s') s₃ := by
    rintro s₃ rfl
    refine comp_loop (c := c) (ρ := ρ) (gB := g₁) (ownB := own₁) (hB := s₁.heap) (g := g') (own₀ := own₁) (ipos := i₂.pos) (ifs := []) (act := do let _ ← call (.builtin "list.append") [.ref a, ← eval elt c.env]) T J (compTurn_1 elt t₁ i₁ t₂ i₂ scope pos (.ref I) (.ref a) c.env) F' (Sub.refl _) T.st (Keep.refl _) ?_ ?_ (Evo.ofGrow G) ?_ h0 ?_ ?_
    · intro b hb0 hb1
      refine ⟨fun q => ?_, fun x q => ?_, fun q => ?_⟩
      · obtain ⟨m, ⟨o, _, _, e, _⟩, _⟩ := F.loc; rw [← q, hb0] at e; cases e
      · obtain ⟨_, _, v, ⟨o, e, _⟩, _⟩ := F.cel x b q; rw [hb0] at e; cases e
      · obtain ⟨p, hp, rfl⟩ := List.mem_map.mp q
        obtain ⟨_, _, vs, n, e, _⟩ := F.owns p hp; rw [hb0] at e; cases e
    · intro b hb; exact ⟨(T.wrN b hb).2, F.keep₀.none (T.wrN b hb).1⟩
    · intro b hb; exact (T.wrN b hb).1
    · intro i own hi hJ
      obtain ⟨f, hf, hact, hfρ⟩ := step i own hi hJ
      exact ⟨f, hf, true, fun g s Q E F hQ => wpAny_tests_nil (hQ g s.heap s.toks (Grow.refl F.inn)), fun _ => hact, fun q => (nomatch q), hfρ⟩
    · intro g₂ own₂ h₂ k₂ e₂ F₂ hJ
      exact wpAny_pure ⟨g₂, h₂, k₂, own₂, rfl, e₂, F₂, hJ⟩
  refine wpAny_bind (wpAny_runOwn (h := none) ?_)
  rw [Around.mark_none]
  exact codeAny_compStart_1 (loop _ rfl) (T.self 0 _ _ _ T.st (loop _ rfl))
end

/-! ## enumerate of a tuple -/
section
variable {c : Cx} {ρ : Vars} {own : Own}
end
end Mine

/-! text M31 -/
namespace Mine

/-! ## enumerate of a tuple -/
section
variable {prog : Program} {w : World} {A : Around} {E : Value → Shared → Prop} {s : Shared}
theorem nextOf_tuple_item {it l : Addr} {i : Nat} {items : Array Value} {x : Value} {Q : Value → Shared → Prop} (hit : s.heap.IsTupleIter it l i) (hl : s.heap.IsTuple l items) (hx : items[i]? = some x)
    (hQ : ∀ h', h'.IsTupleIter it l (i + 1) → Heap.SameBut it s.heap h' → Q x { s with heap := h' }) : wpAny (model prog w) A (Builtin.SmallTypes.nextOf (.ref it)) Q E s := by
  obtain ⟨o, ho, hc, hd⟩ := id hit
  obtain ⟨ol, hol, _, nl, hdl⟩ := hl
  unfold Builtin.SmallTypes.nextOf
  refine wpAny_bind (wpAny_callSpecial?_slot (name := Str.ofString "__next__") hit.typeIs F.slot_tuple_iterator_next
    (wpAny_call_entry F.slot_tuple_iterator_next hit.typeIs F.entry_tuple_iterator_next ?_ (F.args_tuple_iterator_next_1 _)))
  show wpAny _ _ (field (.ref it) 0 >>= _) _ _ s
  refine wpAny_bind (wpAny_field ho hd (x := .ref l) rfl ?_)
  show wpAny _ _ (if (Value.ref l == Value.none) = true then _ else _) _ _ s
  rw [if_neg (show ¬ ((Value.ref l == Value.none) = true) from Bool.false_ne_true)]
  show wpAny _ _ (field (.ref it) 1 >>= _) _ _ s
  refine wpAny_bind (wpAny_field ho hd (x := .int i 0) rfl ?_)
  show wpAny _ _ (seqItems? (.ref l) >>= _) _ _ s
  refine wpAny_bind (wpAny_seqItems hol hdl ?_)
  simp only [Int.toNat_natCast, hx]
  refine wpAny_bind (wpAny_setField ho hd (by simp) (wpAny_pure ⟨x, rfl, wpAny_pure (hQ _ ?_ (Heap.SameBut.update ..))⟩))
  exact ⟨_, Heap.get?_update_self _ ho (Obj.isFreed_of_fields (Obj.data_mapFields hd _)), (Obj.cls_mapFields ..).trans hc, by
    rw [Obj.data_mapFields hd]; simp [rawInt]⟩
theorem nextOf_tuple_end {it l : Addr} {i : Nat} {items : Array Value} {Q : Value → Shared → Prop} (hh : A.handled = none) (hit : s.heap.IsTupleIter it l i) (hl : s.heap.IsTuple l items) (hx : items[i]? = none)
    (hE : ∀ h' e, Heap.ExtBut it s.heap h' → (∃ o, h'.get? e = some o ∧ o.cls = .type "StopIteration") → E (.ref e) { s with heap := h' }) :
    wpAny (model prog w) A (Builtin.SmallTypes.nextOf (.ref it)) Q E s := by
  obtain ⟨o, ho, hc, hd⟩ := id hit
  obtain ⟨ol, hol, _, nl, hdl⟩ := hl
  unfold Builtin.SmallTypes.nextOf
  refine wpAny_bind (wpAny_callSpecial?_slot (name := Str.ofString "__next__") hit.typeIs F.slot_tuple_iterator_next
    (wpAny_call_entry F.slot_tuple_iterator_next hit.typeIs F.entry_tuple_iterator_next ?_ (F.args_tuple_iterator_next_1 _)))
  show wpAny _ _ (field (.ref it) 0 >>= _) _ _ s
  refine wpAny_bind (wpAny_field ho hd (x := .ref l) rfl ?_)
  show wpAny _ _ (if (Value.ref l == Value.none) = true then _ else _) _ _ s
  rw [if_neg (show ¬ ((Value.ref l == Value.none) = true) from Bool.false_ne_true)]
  show wpAny _ _ (field (.ref it) 1 >>= _) _ _ s
  refine wpAny_bind (wpAny_field ho hd (x := .int i 0) rfl ?_)
  show wpAny _ _ (seqItems? (.ref l) >>= _) _ _ s
  refine wpAny_bind (wpAny_seqItems hol hdl ?_)
  simp only [Int.toNat_natCast, hx]
  refine wpAny_bind (wpAny_rule (wpAny_bind (wpAny_setField ho hd (by simp) ?_)))
  show wpAny _ _ (newExc (.type "StopIteration") [] >>= _) _ _ _
  refine wpAny_bind ?_
  simp only [newExc, newTuple]
  refine wpAny_bind (wpAny_newObj_type ?_ (by size_fits))
  refine wpAny_bind (m := firstArgMember _ _) (wpAny_of_eq (a := Value.none) (by first | rfl | (simp only [firstArgMember]; rfl)) ?_)
  refine wpAny_newObj_type ?_ (by size_fits)
  simp only [raiseNew]
  refine wpAny_bind (wpAny_handled ?_)
  first | rw [show A.in1.handled = none from hh] | rw [hh]
  refine wpAny_bind (wpAny_pure (wpAny_throw ?_))
  exact hE _ _ (((Heap.SameBut.update ..).extBut.push _).push _) ⟨_, Heap.get?_push_size _ rfl, rfl⟩
end
theorem draws_tuple {prog : Program} {w : World} {A : Around} (hh : A.handled = none) (it l : Addr) (hne : l ≠ it) (items : Array Value) :
    Draws prog w A it [it, l] items.size (fun i v => items[i]? = some v) (fun i h => h.IsTupleIter it l i ∧ h.IsTuple l items) where
  live := fun _ _ st => let ⟨o, ho, _⟩ := st.1; ⟨o, ho⟩
  frame := fun _ _ _ st hk => ⟨st.1.at fun o e => hk it (by simp) o e, st.2.at fun o e => hk l (by simp) o e⟩
  item := fun i s Q E hi st hQ => by
    refine nextOf_tuple_item st.1 st.2 (x := items[i]) (by simp [hi]) fun h' hit' hs' => ?_
    exact hQ _ h' s.toks (by simp [hi]) ⟨hit', st.2.extBut hs'.extBut hne⟩ hs'
  done := fun s Q E st hE => nextOf_tuple_end hh st.1 st.2 (by simp) hE
section
open AutoSeq1 (wpAny_loadPart')
theorem meets_enum_tuple (l : Addr) (items : Array Value) (n : Nat) (dct : Option Addr) (sl : Array (Option Value)) :
    Meets (Builtin.«enumerate.__new__» ⟨[.type "enumerate", .ref l], []⟩) (fun _ R s => s.heap.get? l = some { cls := .type "tuple", dict := dct, data := .seq items n, slots := sl } ∧
      R (.ok (.ret (.ref (s.heap.push { cls := .type "tuple_iterator", data := .fields #[.ref l, .int 0 0] }).objs.size)))
        { s with heap := (s.heap.push { cls := .type "tuple_iterator", data := .fields #[.ref l, .int 0 0] }).push { cls := .type "enumerate", data := .fields #[.none, .bool false, .ref s.heap.objs.size, rawInt 0, .none, .none] } }) :=
  .of_wp fun prog w A R s h => by
    obtain ⟨hp, g, d, tk, os⟩ := s; obtain ⟨hl, h⟩ := h
    have hsub := PySem.sub_enumerate
    have hL : Heap.IsTuple (Shared.heap ⟨hp, g, d, tk, os⟩) l items := ⟨_, hl, rfl, n, rfl⟩
    wp_walk using wpAny_loadPart' hl
    refine wpAny_stack_any fun st => wpAny_pure ?_
    split
    · rename_i c _ _ _ _ _
      cases (c == Value.type "enumerate")
      · wp_walk using wpAny_loadPart' hl, wpAny_pyIter_tuple hL
        exact ⟨_, rfl, h⟩
      · wp_walk using wpAny_loadPart' hl, wpAny_pyIter_tuple hL
        exact ⟨_, rfl, h⟩
    · wp_walk using wpAny_loadPart' hl, wpAny_pyIter_tuple hL
      exact ⟨_, rfl, h⟩
end
section
variable {prog : Program} {w : World} {A : Around} {E : Value → Shared → Prop} {s : Shared}
theorem call_enumerate_tuple {l : Addr} {items : Array Value} {Q : Value → Shared → Prop} (hL : s.heap.IsTuple l items)
    (h : ∀ h', IsEnum h' (s.heap.objs.size + 1) s.heap.objs.size 0 .none → h'.IsTupleIter s.heap.objs.size l 0 → h'.objs.size = s.heap.objs.size + 2 →
      (∀ b o, s.heap.get? b = some o → h'.get? b = some o) → Q (.ref (s.heap.objs.size + 1)) { s with heap := h' }) :
    wpAny (model prog w) A (call (.type "enumerate") [.ref l]) Q E s := by
  obtain ⟨⟨c, dct, dt, sl⟩, hl, hc, n, hd⟩ := hL
  replace hc : c = .type "tuple" := hc
  replace hd : dt = .seq items n := hd
  subst hc hd
  refine callType_new F.called_enumerate (by decide) (F.typeCall_enumerate_1 _) (F.newCall_enumerate_1 _) (fun obj => F.args_object_init_2 obj _) F.entry_enumerate_new
    (meets_enum_tuple l items n dct sl) ⟨hl, ?_⟩
  have hz : (s.heap.push { cls := .type "tuple_iterator", data := .fields #[.ref l, .int 0 0] }).objs.size = s.heap.objs.size + 1 := Heap.size_push ..
  show _ ∧ _
  rw [hz]
  have he : IsEnum ((s.heap.push { cls := .type "tuple_iterator", data := .fields #[.ref l, .int 0 0] }).push
      { cls := .type "enumerate", data := .fields #[.none, .bool false, .ref s.heap.objs.size, rawInt 0, .none, .none] }) (s.heap.objs.size + 1) s.heap.objs.size 0 .none := by
    have := Heap.get?_push_size (s.heap.push { cls := .type "tuple_iterator", data := .fields #[.ref l, .int 0 0] })
      (o := { cls := .type "enumerate", data := .fields #[.none, .bool false, .ref s.heap.objs.size, rawInt 0, .none, .none] }) rfl
    rw [hz] at this; exact this
  refine ⟨⟨_, he, rfl⟩, h _ he ⟨_, Heap.get?_push_of_some _ (Heap.get?_push_size _ rfl), rfl, rfl⟩ (by rw [Heap.size_push, hz]) fun b o x => Heap.get?_push_of_some _ (Heap.get?_push_of_some _ x)⟩
end
section
variable {c : Cx} {ρ : Vars} {own : Own}
theorem ItSrc.enumT {e : Expr} {elts : List Expr} {kk : Nat} {p pos pt : Pos} {ds : List D} (h : Ev c ρ own e (.tuple ds)) (hs : ∀ x p, e ≠ .Starred x p := by intro _ _ q; cases q) (hk : c.env.kindOf "enumerate" = some .globalImplicit := by rfl) :
    ItSrc c ρ own (.Call (.Name "enumerate" p) [e] [] pos) (.Tuple elts kk pt) ds.length (ItP (fun i => .int i) fun i => ds.getD i .none) := fun g s Q E F hQ => by
  refine callTy_wp F Boot.enumerate (.cons h hs .nil) (fun vs g₁ h₁ k₁ G₁ I₁ => ?_) (by decide) hk (by decide) rfl
  cases I₁ with
  | cons a b =>
    cases b
    cases a with
    | @tuple a us _ hl hI =>
    have hls := hl.inn G₁.inn
    obtain ⟨ol, nl, hga, hcl, hdl⟩ := hl
    have halt : a < h₁.objs.size := Heap.lt_size (G₁.inn _ _ hga)
    refine call_enumerate_tuple hls fun h₂ he hit hz hkp => ?_
    dsimp only at he hit hz hkp ⊢
    have kH : Keep h₁ h₂ := hkp
    refine wpAny_pyIter_enum he ?_
    have hn : us.toArray.size = ds.length := by simp [hI.length]
    have W := WalksT.enumerateD (prog := c.prog) (w := c.w) (A := c.A) (draws_tuple (by rw [Around.in1_handled]; exact F.ok.rm.hand) h₁.objs.size a (Nat.ne_of_lt halt) us.toArray) (h₁.objs.size + 1) (Nat.succ_ne_self _) (by simp only [List.mem_cons, List.not_mem_nil, or_false]; rintro (q | q); exact absurd q (Nat.succ_ne_self _); exact absurd q (Nat.ne_of_gt (Nat.lt_succ_of_lt halt))) (by simp)
    rw [hn] at W
    have nn : ∀ b, h₁.objs.size ≤ b → h₁.get? b = none := fun b hb => by
      cases q : h₁.get? b with
      | none => rfl
      | some o => exact absurd (Heap.lt_size q) (Nat.not_lt.mpr hb)
    refine hQ (h₁.objs.size + 1) g₁ h₂ k₁ [h₁.objs.size + 1, h₁.objs.size] _ ⟨G₁.sub, fun b o e => kH b o (G₁.inn b o e), G₁.keep.trans kH, G₁.new⟩
      ⟨⟨_, _, _, KTurns.ofWalksU W.toU, ?_, ?_, ?_⟩, ⟨⟨_, he⟩, hit, hls.at fun o e => kH _ o e⟩, ?_, ?_, fun i s₁ Q₁ E₁ st q => W.self i s₁ Q₁ E₁ st q⟩
    · intro b hb
      simp only [List.mem_cons, List.not_mem_nil, or_false] at hb
      rcases hb with rfl | rfl | rfl
      · exact .inr (G₁.keep.none (nn _ (Nat.le_succ _)))
      · exact .inr (G₁.keep.none (nn _ (Nat.le_refl _)))
      · exact .inl ⟨ol, hga⟩
    · intro b hb
      simp only [List.mem_cons, List.not_mem_nil, or_false] at hb
      rcases hb with rfl | rfl | rfl
      · have he' : h₂.get? (h₁.objs.size + 1) = some _ := he
        rw [he']; intro q; cases q
      · obtain ⟨o, ho, _⟩ := hit; rw [ho]; intro q; cases q
      · rw [kH _ _ (G₁.inn _ _ hga)]; intro q; cases q
    · rintro i v k ⟨T, vals, rfl, ⟨t, x, hx, rfl⟩, hT⟩
      obtain ⟨d, e, I⟩ := Isl.get hI i x (by simpa using hx)
      exact ⟨T, _, _, rfl, hT, .int _ _, by dsimp only; rw [List.getD_eq_getElem?_getD, e]; exact I⟩
    · intro b hb
      simp only [List.mem_cons, List.not_mem_nil, or_false] at hb
      rcases hb with rfl | rfl
      · exact ⟨G₁.keep.none (nn _ (Nat.le_succ _)), G₁.inn.none (nn _ (Nat.le_succ _))⟩
      · exact ⟨G₁.keep.none (nn _ (Nat.le_refl _)), G₁.inn.none (nn _ (Nat.le_refl _))⟩
    · rintro i k ⟨⟨old, q1⟩, q2, _⟩ b hb
      simp only [List.mem_cons, List.not_mem_nil, or_false] at hb
      rcases hb with rfl | rfl
      · have q1' : k.get? (h₁.objs.size + 1) = some _ := q1
        rw [q1']; intro q; cases q
      · obtain ⟨o, ho, _⟩ := q2; rw [ho]; intro q; cases q


end
end Mine

/-! text M32 -/
namespace Mine

theorem Evo.exMono {c : Cx} {ex ex' : List Addr} {g g' : Part} {own own' : Own} {h h' : Heap} (x : Evo c ex g own h g' own' h') (hs : ∀ b ∈ ex, b ∈ ex') : Evo c ex' g own h g' own' h' :=
  ⟨x.sub, fun b o e hL hc ho hx => x.kept b o e hL hc ho (fun q => hx (hs b q)), x.news, x.live, x.gnew⟩

section
variable {c : Cx} {ρ : Vars} {own : Own}
/-- objects' notes may change -/
theorem GrowU.live {X : List Addr} {g g' : Part} {h h' : Heap} (G : GrowU X g h g' h') (hX : ∀ b ∈ X, ∃ m, h.Ns b m) : ∀ b, h'.get? b = none → h.get? b = none := fun b e => by
  cases q : h.get? b with
  | none => rfl
  | some o =>
    by_cases hb : b ∈ X
    · obtain ⟨m, hn⟩ := hX b hb
      obtain ⟨o', _, _, e', _⟩ := G.up b hb m hn
      rw [e] at e'; cases e'
    · rw [G.keep b o hb q] at e; cases e
theorem GrowU.off {X : List Addr} {g g' : Part} {h h' : Heap} (G : GrowU X g h g' h') {a : Addr} (hg : g a = none) (hh : h.get? a ≠ none) : g' a = none := by
  cases q : g' a with
  | none => rfl
  | some o => rcases G.new a o q with e | e
              · rw [hg] at e; cases e
              · exact absurd e hh
theorem Fm.growU {X : List Addr} {g g' : Part} {h h' : Heap} (F : Fm c ρ own g h) (G : GrowU X g h g' h') (hX : ∀ b ∈ X, c.h₀.get? b = none ∧ ∃ m, h.Ns b m) : Fm c ρ own g' h' where
  ok := F.ok
  inn := G.inn
  keep₀ := fun a o e => G.keep a o (fun q => by rw [(hX a q).1] at e; cases e) (F.keep₀ a o e)
  sub₀ := F.sub₀.trans G.sub
  new₀ := fun a o e => (G.new a o e).elim (F.new₀ a o) fun n => .inr (F.keep₀.none n)
  loc := by
    obtain ⟨m, n, q⟩ := F.loc
    refine ⟨m, ?_, fun x d e k => let ⟨v, a, b⟩ := q x d e k; ⟨v, a, b.sub G.sub⟩⟩
    by_cases hb : c.env.locals ∈ X
    · exact G.up _ hb m n
    · obtain ⟨o, es, ep, e, r⟩ := n
      exact ⟨o, es, ep, G.keep _ o hb e, r⟩
  offL := G.off F.offL (by obtain ⟨m, ⟨o, _, _, e, _⟩, _⟩ := F.loc; rw [e]; intro q; cases q)
  newL := F.newL
  cel := fun x a e => by
    obtain ⟨h1, h2, v, h3, h4⟩ := F.cel x a e
    have hne : a ∉ X := fun q => by
      obtain ⟨_, m, hn⟩ := hX a q
      exact ns_ne_cell hn h3 rfl
    obtain ⟨o, ho, ho'⟩ := h3
    exact ⟨G.off h1 (by rw [ho]; intro q; cases q), h2, v, ⟨o, G.keep a o hne ho, ho'⟩, fun d q k => let ⟨u, e1, e2⟩ := h4 d q k; ⟨u, e1, e2.sub G.sub⟩⟩
  celAt := F.celAt
  celInj := F.celInj
  owns := fun p hp => by
    obtain ⟨h1, h2, vs, n, h3, h4⟩ := F.owns p hp
    have hne : p.1 ∉ X := fun q => by
      obtain ⟨_, m, hn⟩ := hX p.1 q
      exact ns_ne_list hn h3 rfl rfl
    exact ⟨G.off h1 (by rw [h3]; intro q; cases q), h2, vs, n, G.keep _ _ hne h3, h4.sub G.sub⟩
  nd := F.nd
theorem Evo.ofGrowU {X : List Addr} {g g' : Part} {h h' : Heap} (G : GrowU X g h g' h') (hX : ∀ b ∈ X, ∃ m, h.Ns b m) : Evo c X g own h g' own h' :=
  ⟨G.sub, fun b o e _ _ _ hx => G.keep b o hx e, fun b hb => .inl hb, G.live hX, fun a o e => (G.new a o e).elim .inl fun n => .inr (.inr n)⟩
theorem Grow.u {X : List Addr} {g g' : Part} {h h' : Heap} (G : Grow g h g' h') : GrowU X g h g' h' := ⟨G.sub, G.inn, fun b o _ e => G.keep b o e, fun b _ m hn => hn.keeps G.keep, G.new⟩
theorem GrowU.trans {X : List Addr} {g₁ g₂ g₃ : Part} {h₁ h₂ h₃ : Heap} (x : GrowU X g₁ h₁ g₂ h₂) (y : GrowU X g₂ h₂ g₃ h₃) (hX : ∀ b ∈ X, ∃ m, h₁.Ns b m) : GrowU X g₁ h₁ g₃ h₃ :=
  ⟨x.sub.trans y.sub, y.inn, fun b o hb e => y.keep b o hb (x.keep b o hb e), fun b hb m hn => y.up b hb m (x.up b hb m hn), fun a o e => (y.new a o e).elim (x.new a o) fun n => .inr (x.live hX a n)⟩

/-- an expression gives d; the frame's own notes may change -/
def EvU (c : Cx) (ρ : Vars) (own : Own) (e : Expr) (d : D) : Prop :=
  ∀ (g : Part) (s : Shared) (Q E : Value → Shared → Prop), Fm c ρ own g s.heap →
    (∀ v g' h' k, GrowU [c.env.locals] g s.heap g' h' → Is g' v d → Q v { s with heap := h', toks := k }) → wpAny c.M c.A (eval e c.env) Q E s
theorem Fm.locX {g : Part} {h : Heap} (F : Fm c ρ own g h) : ∀ b ∈ [c.env.locals], c.h₀.get? b = none ∧ ∃ m, h.Ns b m := fun b hb => by
  rw [List.mem_singleton.mp hb]
  obtain ⟨m, hn, _⟩ := F.loc
  exact ⟨F.newL, m, hn⟩
/-- `if l != r: ..`, where the two lists are alike -/
theorem Ex.iteNeU {l r : Expr} {body rest : List Stmt} {p pos : Pos} {ds : List D} {Φ : Fl → Vars → Own → Prop} (hl : EvU c ρ own l (.list ds)) (hr : Ev c ρ own r (.list ds)) (hd : ds.all D.flat = true) (hrest : Ex c ρ own rest Φ) (hm : behindInMarks .NotEq r = false := by with_unfolding_all rfl) :
    Ex c ρ own (.If (.Compare l [.NotEq] [r] p) body [] pos :: rest) Φ := Ex.cons fun g s E F => by
  refine wpAny_If (wpAny_isTrue_Compare1 (hl g s _ E F fun va g₁ h₁ k₁ G₁ I₁ => ?_) hm)
  have F₁ := F.growU G₁ F.locX
  refine hr g₁ _ _ E F₁ fun vb g₂ h₂ k₂ G₂ I₂ => ?_
  have F₂ := F₁.grow G₂
  refine gp_neSame hd (I₁.sub G₂.sub) I₂ _ _ _ F₂.ok F₂.keep₀ F₂.inn fun v g₃ h₃ k₃ G₃ I₃ => ?_
  cases I₃
  refine wpAny_truthy_bool ?_
  have F₃ := F₂.grow G₃
  have e₁ : Evo c [] g own s.heap g₁ own h₁ := by
    have e := Evo.ofGrowU (c := c) (own := own) G₁ (fun b hb => (F.locX b hb).2)
    exact ⟨e.sub, fun b o eb hL hc ho _ => e.kept b o eb hL hc ho (fun q => hL (List.mem_singleton.mp q)), e.news, e.live, e.gnew⟩
  refine wpAny_execs_nil ⟨.next, g₃, h₃, k₃, ρ, own, rfl, (e₁.trans (Evo.ofGrow G₂)).trans (Evo.ofGrow G₃), F₃, .next, hrest⟩
/-- a loop of a comprehension over an iterator: the frame is the comprehension's own; D is what is built -/
theorem comp_loopU {elt target : Expr} {ifs : List Expr} {gens : List Comprehension} {scope : Scope} {pos ipos : Pos} {depth : Nat} {D : Addr} {act : Sem Unit} {n : Nat} {It : Part → Nat → Value → Heap → Prop} {I : Addr} {gI : Part} {hI₀ hI : Heap} {wr : List Addr} {St : Nat → Heap → Prop}
    (T : Itr c target n It I gI hI₀ hI wr St) (J : Nat → Own → Prop) {own₀ ownB : Own} {g gB : Part} {hB : Heap} {s : Shared} {R : Result → Shared → Prop}
    (heq : compTurn (.ListComp elt gens scope pos) depth (.ref I) (.ref D) c.env = (do
      standAt ipos
      match ← pyNext (.ref I) with
      | none => pure (.done .next)
      | some v =>
        letOwnedTupleGo target (.ref I) v
        assign target c.env v
        let mut ok := true
        for cc in ifs do
          if ok then ok ← isTrue cc c.env (eval cc c.env)
        if ok then act
        again (.compLoop (.ListComp elt gens scope pos) depth (.ref I) (.ref D) c.env)))
    (F : Fm c ρ own₀ g s.heap) (hsub : Sub gI g) (hst : St 0 s.heap)
    (keepI : Keep hI s.heap) (hoff₀ : ∀ b, hI₀.get? b = none → hI.get? b ≠ none → b ≠ c.env.locals ∧ (∀ x, c.env.cells.lookup x ≠ some b) ∧ b ∉ own₀.map (·.1))
    (xs : List Addr) (hxs : ∀ b ∈ xs, gI b = none ∧ hI₀.get? b ≠ none ∧ s.heap.get? b ≠ none ∧ b ≠ c.env.locals ∧ (∀ x, c.env.cells.lookup x ≠ some b) ∧ b ∉ own₀.map (·.1)) (KP : Part → Heap → Prop) (hKP : ∀ (g : Part) (h : Heap) (g' : Part) (h' : Heap), (∀ b ∈ xs, ∀ o, h.get? b = some o → h'.get? b = some o) → (∀ b ∈ xs, g b = none → g' b = none) → KP g h → KP g' h') (hKP0 : KP g s.heap) (hgw : ∀ b ∈ wr, g b = none ∧ c.h₀.get? b = none) (EB : Evo c (wr ++ xs) gB ownB hB g own₀ s.heap) (hBw : ∀ b ∈ wr, hB.get? b = none)
    (h0 : J 0 own₀)
    (step : ∀ i own₁, i < n → J i own₁ → ∃ f : Vars → Vars, (∀ g v h g', Sub g g' → It g i v h → Inn g' h → Bind c own₁ target v g' h f) ∧ ∃ b, Gb c (f ρ) own₁ (testsOf ifs c.env) b ∧
      (b = true → ∀ (g₁ : Part) (s₁ : Shared) (E : Value → Shared → Prop), Fm c (f ρ) own₁ g₁ s₁.heap → KP g₁ s₁.heap → wpAny c.M c.A act (fun _ s₂ => ∃ g₂ h₂ k₂ own₂, s₂ = { s₁ with heap := h₂, toks := k₂ } ∧ Evo c xs g₁ own₁ s₁.heap g₂ own₂ h₂ ∧ Fm c (f ρ) own₂ g₂ h₂ ∧ J (i + 1) own₂ ∧ KP g₂ h₂) E s₁) ∧
      (b = false → J (i + 1) own₁) ∧ (∀ x d, ρ x = some d → f ρ x = some d))
    (fin : ∀ g' own' h' k, Evo c xs gB ownB hB g' own' h' → Fm c ρ own' g' h' → J n own' → KP g' h' → R (.ok .next) { s with heap := h', toks := k }) :
    codeAny c.M c.A (.compLoop (.ListComp elt gens scope pos) depth (.ref I) (.ref D) c.env) R s := by
  obtain ⟨fp, P, Md, W, hfp, hfl, hP⟩ := T.turns
  refine codeAny_compLoop_act (fun k s' => ∃ i g' h' tk own', s' = { s with heap := h', toks := tk } ∧ k = n + 1 - i ∧ i ≤ n ∧ Evo c (wr ++ xs) g own₀ s.heap g' own' h' ∧ Fm c ρ own' g' h' ∧ St i h' ∧ J i own' ∧ KP g' h') heq ?_ (n + 1)
    ⟨0, g, s.heap, s.toks, own₀, rfl, rfl, Nat.zero_le _, Evo.refl, F, hst, h0, hKP0⟩
  rintro k s' ⟨i, g', h', tk, own', rfl, rfl, hi, a2, F', hst', hJ, hP'⟩
  have lvI : ∀ b, hI.get? b ≠ none → s.heap.get? b ≠ none := fun b hb q => hb (keepI.none q)
  have hoff : ∀ b ∈ fp, b ≠ c.env.locals ∧ (∀ x, c.env.cells.lookup x ≠ some b) ∧ b ∉ own'.map (·.1) := fun b hb => by
    rcases hfp b hb with ⟨o, e⟩ | e
    · have e' := a2.sub b o (hsub b o e)
      refine ⟨fun q => (by rw [q, F'.offL] at e'; cases e'), fun x q => ?_, fun q => ?_⟩
      · rw [(F'.cel x b q).1] at e'; cases e'
      · obtain ⟨p, hp, rfl⟩ := List.mem_map.mp q
        rw [(F'.owns p hp).1] at e'; cases e'
    · obtain ⟨o1, o2, o3⟩ := hoff₀ b e (hfl b hb)
      exact ⟨o1, o2, fun q => (a2.news b q).elim o3 (lvI b (hfl b hb))⟩
  have hxf : ∀ b ∈ xs, b ∉ fp := fun b hb q => by
    rcases hfp b q with ⟨o, e⟩ | e
    · rw [(hxs b hb).1] at e; cases e
    · exact (hxs b hb).2.1 e
  have hwf : ∀ b ∈ wr, g' b = none ∧ c.h₀.get? b = none ∧ b ≠ c.env.locals ∧ (∀ x, c.env.cells.lookup x ≠ some b) ∧ b ∉ own'.map (·.1) := fun b hb => by
    have hbf := W.sub b hb
    obtain ⟨o1, o2, o3⟩ := hoff b hbf
    obtain ⟨_, _, o4⟩ := hoff₀ b (T.wrN b hb).1 (hfl b hbf)
    refine ⟨?_, (hgw b hb).2, o1, o2, o3⟩
    cases q : g' b with
    | none => rfl
    | some o => rcases a2.gnew b o q with e | e | e
                · rw [(hgw b hb).1] at e; cases e
                · exact absurd e o4
                · exact absurd e (lvI b (hfl b hbf))
  by_cases hlt : i < n
  · refine W.item i _ _ _ hlt hst' fun v h₂ tk₂ hMd hk₂ => ?_
    refine W.go i v _ _ _ hMd fun h₃ hPi hst₃ hk₃ => ?_
    have hk : ∀ b o, b ∉ wr → h'.get? b = some o → h₃.get? b = some o := fun b o hb e => hk₃ b o hb (hk₂ b o hb e)
    have F₃ := F'.turn hk hwf
    have hxo : ∀ b ∈ xs, b ∉ own'.map (·.1) := fun b hb q => (a2.news b q).elim (hxs b hb).2.2.2.2.2 (hxs b hb).2.2.1
    have P₃ : KP g' h₃ := hKP g' h' g' h₃ (fun b hb o e => hk b o (fun q => hxf b hb (W.sub b q)) e) (fun _ _ e => e) hP'
    have lv₃ : ∀ b, h₃.get? b = none → h'.get? b = none ∨ b ∈ wr := fun b e => by
      by_cases hb : b ∈ wr
      · exact .inr hb
      · left
        cases q : h'.get? b with
        | none => rfl
        | some o => rw [hk b o hb q] at e; cases e
    have a3 : Evo c (wr ++ xs) g own₀ s.heap g' own' h₃ := ⟨a2.sub, fun b o e hL hc ho hx => hk b o (fun q => hx (List.mem_append_left _ q)) (a2.kept b o e hL hc ho hx), a2.news, fun b e => (lv₃ b e).elim (a2.live b) fun hb => absurd e (T.live _ _ hst₃ b hb), a2.gnew⟩
    obtain ⟨f, hf, b, hb, hact, hskip, hfρ⟩ := step i own' hlt hJ
    refine hf gI v h₃ g' (hsub.trans a2.sub) (hP i v h₃ hPi) F₃.inn ρ _ _ _ rfl F₃ fun g₄ h₄ k₄ e₄ F₄ => ?_
    refine hb g₄ _ _ _ F₄ fun g₅ h₅ k₅ G₅ => ?_
    have F₅ := F₄.grow G₅
    have hxl : ∀ b ∈ xs, h₃.get? b ≠ none := fun b hb q => (lv₃ b q).elim (fun z => (hxs b hb).2.2.1 (a2.live b z)) fun z => hxf b hb (W.sub b z)
    have P₄ : KP g₄ h₄ := hKP g' h₃ g₄ h₄ (fun b hb o e => e₄.kept b o e (hxs b hb).2.2.2.1 (hxs b hb).2.2.2.2.1 (hxo b hb) (fun q => nomatch q)) (fun b hb e => by
      cases q : g₄ b with
      | none => rfl
      | some o => rcases e₄.gnew b o q with z | z | z
                  · rw [e] at z; cases z
                  · exact absurd z (hxo b hb)
                  · exact absurd z (hxl b hb)) P₃
    have hxl4 : ∀ b ∈ xs, h₄.get? b ≠ none := fun b hb q => hxl b hb (e₄.live b q)
    have P₅ : KP g₅ h₅ := hKP g₄ h₄ g₅ h₅ (fun b hb o e => G₅.keep b o e) (fun b hb e => off_grow G₅ e (hxl4 b hb)) P₄
    have stay : ∀ g₆ h₆ own₆, Evo c xs g' own' h₃ g₆ own₆ h₆ → St (i + 1) h₆ := fun g₆ h₆ own₆ e₆ => W.frame _ _ _ hst₃ fun b hb o e => by
      obtain ⟨o1, o2, o3⟩ := hoff b hb
      exact e₆.kept b o e o1 o2 o3 (fun q => (hxf b q) hb)
    have e5 := (e₄.ex (ex := xs)).trans (Evo.ofGrow (c := c) (ex := xs) (own := own') G₅)
    cases b with
    | false =>
      exact ⟨n + 1 - (i + 1), by omega, i + 1, g₅, h₅, k₅, own', rfl, rfl, hlt, a3.trans (e5.exMono (fun b hb => List.mem_append_right _ hb)), F₅.weaken hfρ, stay _ _ _ e5, hskip rfl, P₅⟩
    | true =>
      refine wpAny_mono (hact rfl g₅ _ _ F₅ P₅) (fun _ s₆ q => ?_) fun _ _ e => e
      obtain ⟨g₆, h₆, k₆, own₆, rfl, e₆, F₆, hJ₆, hP₆⟩ := q
      have e6 := e5.trans e₆
      exact ⟨n + 1 - (i + 1), by omega, i + 1, g₆, h₆, k₆, own₆, rfl, rfl, hlt, a3.trans (e6.exMono (fun b hb => List.mem_append_right _ hb)), F₆.weaken hfρ, stay _ _ _ e6, hJ₆, hP₆⟩
  · have hin : i = n := by omega
    subst hin
    refine W.done _ _ _ hst' fun h₂ tk₂ hk₂ => ?_
    have F₂ := F'.turn hk₂ hwf
    have e₀ := EB.trans a2
    refine fin g' own' h₂ tk₂ ⟨e₀.sub, fun b o e hL hc ho hx => ?_, e₀.news, fun b e => ?_, e₀.gnew⟩ F₂ hJ (hKP g' h' g' h₂ (fun b hb o e => hk₂ b o (fun q => hxf b hb (W.sub b q)) e) (fun _ _ e => e) hP')
    · have hb : b ∉ wr := fun q => by rw [hBw b q] at e; cases e
      exact hk₂ b o hb (e₀.kept b o e hL hc ho (fun q => (List.mem_append.mp q).elim hb hx))
    · by_cases hb : b ∈ wr
      · exact hBw b hb
      · refine e₀.live b ?_
        cases q : h'.get? b with
        | none => rfl
        | some o => rw [hk₂ b o hb q] at e; cases e

end
end Mine

/-! text M33 -/
namespace Mine

section
variable {c : Cx} {ρ : Vars} {own : Own}
theorem EvU.comp {elt iter : Expr} {scope : Scope} {pos px : Pos} {x : Str} {n : Nat} {dat out : Nat → D} {cl : List (Str × Addr)} (src : ItSrc c ρ own iter (.Name x px) n (ItD dat)) (ok : CompOk c scope cl) (hn : n ≤ 15000000)
    (el : ∀ C h₀' g₀' a ds i, i < n → ∀ (g : Part) (s : Shared) (Q E : Value → Shared → Prop), Fm (compCx c scope cl C h₀' g₀') (Vars.set (capVars cl ρ) x (dat i)) [(a, ds)] g s.heap → h₀'.get? c.env.locals = none → (∃ m, s.heap.Ns c.env.locals m) → g c.env.locals = none →
      (∀ v g' h' k, GrowU [c.env.locals] g s.heap g' h' → Is g' v (out i) → Q v { s with heap := h', toks := k }) → wpAny c.M c.A (eval elt (compEnvC scope cl C c.env)) Q E s)
    (hx : cl.lookup x = none) (hst : ∀ C h₀' g₀', mayStore (compCx c scope cl C h₀' g₀') x = true)
    (hs : ∀ x, foldedSetIterable iter c.env x = pure x := by intro _; rfl) :
    EvU c ρ own (.ListComp elt [⟨.Name x px, iter, [], 0⟩] scope pos) (.list ((List.range n).map out)) := fun g s Q E F hQ => by
  rw [eval_ListComp]
  refine wpAny_comprehension_free (use := none) rfl hs ok.clos ok.kind (fun y hy q => ?_) ?_
  · have := List.all_eq_true.mp ok.names y hy; rw [q] at this; simpa using this
  obtain ⟨mL, hnL, _⟩ := id F.loc
  refine src g s _ E F fun I g₁ h₁ k₁ wr St G₁ T => ?_
  have F₁ := F.grow G₁
  refine wpAny_newObj_type (wpAny_newFunctionEnv (fun y hy q => ?_) (by intro y hy; simp at hy) (fun h₂ hns hsb => ?_) ok.kind)
  · have := List.all_eq_true.mp ok.cell y hy; rw [q] at this; cases this
  dsimp only at hns hsb ⊢
  generalize hH2 : h₁.push { cls := .type "list", dict := none, data := .seq ([] : List Value).toArray } = H2 at hns hsb ⊢
  have hC : H2.objs.size = h₁.objs.size + 1 := by rw [← hH2, Heap.size_push]
  have k12 : Keep h₁ h₂ := fun b o e => hsb.extBut b o (by rw [hC]; exact Nat.ne_of_lt (Nat.lt_succ_of_lt (Heap.lt_size e))) (Heap.get?_push_of_some _ (hH2 ▸ Heap.get?_push_of_some _ e))
  have hD : h₂.get? h₁.objs.size = some { cls := .type "list", data := .seq ([] : List Value).toArray } := hsb.extBut _ _ (by rw [hC]; exact Nat.ne_of_lt (Nat.lt_succ_self _)) (Heap.get?_push_of_some _ (hH2 ▸ Heap.get?_push_size _ rfl))
  have hC₁ : h₁.get? H2.objs.size = none := by
    cases q : h₁.get? H2.objs.size with
    | none => rfl
    | some o => have := Heap.lt_size q; rw [hC] at this; exact absurd this (Nat.not_lt.mpr (Nat.le_succ _))
  have hC₀ : s.heap.get? H2.objs.size = none := G₁.keep.none hC₁
  have hD₁ := get?_size_none h₁
  have hD₀ : s.heap.get? h₁.objs.size = none := G₁.keep.none hD₁
  have hDC : h₁.objs.size ≠ H2.objs.size := by rw [hC]; exact Nat.ne_of_lt (Nat.lt_succ_self _)
  have ks2 : Keep s.heap h₂ := G₁.keep.trans k12
  have hL₀ : s.heap.get? c.env.locals ≠ none := by obtain ⟨o, _, _, e, _⟩ := hnL; rw [e]; intro q; cases q
  have hid : ∀ b, s.heap.get? b = none → (hideAll s.heap [c.env.locals]).get? b = none := fun b hb => by
    cases q : (hideAll s.heap [c.env.locals]).get? b with
    | none => rfl
    | some o => rw [of_hideAll _ q] at hb; cases hb
  have lookup' : ∀ x a, cl.lookup x = some a → c.env.cells.lookup x = some a := ok.clo.lookup
  -- the comprehension's own frame
  have F₂ : Fm (compCx c scope cl H2.objs.size (hideAll s.heap [c.env.locals]) g₁) (capVars cl ρ) [(h₁.objs.size, [])] g₁ h₂ := by
    refine ⟨⟨ok.kind, F.ok.glo, F.ok.bns, F.ok.glb.keep (fun b o e => hideAll_get _ (F.keep₀ b o e) (fun q => by rw [List.mem_singleton.mp q, F.newL] at e; cases e)), F.ok.rm⟩, fun b o e => k12 b o (G₁.inn b o e), fun b o e => ks2 b o (of_hideAll _ e), Sub.refl _, fun a o e => .inl e, ⟨_, hns, fun x d e k => ?_⟩, G₁.inn.none hC₁, hid _ hC₀, fun x a e => ?_, fun x d e k => ?_, fun x y a e1 e2 => F.celInj x y a (lookup' x a e1) (lookup' y a e2), fun p hp => ?_, List.nodup_cons.mpr ⟨fun q => (nomatch q), List.nodup_nil⟩⟩
    · unfold capVars at e
      split at e
      · rename_i hq
        obtain ⟨a, ha⟩ := Option.isSome_iff_exists.mp hq
        have k' : (relabel scope c.env).names.lookup x = some .local := k
        rcases capOk.at ok.cap x a ha with q | q <;> (rw [k'] at q; cases q)
      · cases e
    · obtain ⟨q1, q2, v, q3, q4⟩ := F₁.cel x a (lookup' x a e)
      refine ⟨q1, fun q => (nomatch q), v, q3.keeps k12, fun d hd hk => ?_⟩
      unfold capVars at hd
      split at hd
      · exact q4 d hd (capOk.at ok.par x a e)
      · cases hd
    · unfold capVars at e
      split at e
      · rename_i hq; exact Option.isSome_iff_exists.mp hq
      · cases e
    · rw [List.mem_singleton.mp hp]
      exact ⟨G₁.inn.none hD₁, hid _ hD₀, [], _, hD, .nil⟩
  have T' : Itr (compCx c scope cl H2.objs.size (hideAll s.heap [c.env.locals]) g₁) (.Name x px) n (ItD dat) I g₁ s.heap h₁ wr St := ⟨T.turns, T.st, T.wrN, T.live, T.self⟩
  have st₂ : St 0 h₂ := by
    obtain ⟨fp, P, Md, W, _, _, _⟩ := T.turns
    exact W.frame _ _ _ T.st fun b _ o e => k12 b o e
  have loop : ∀ s₃ : Shared, s₃ = { s with heap := h₂, toks := k₁ + ([] : List (Str × Value)).length } →
      codeAny c.M c.A (.compLoop (.ListComp elt [⟨.Name x px, iter, [], 0⟩] scope pos) 0 (.ref I) (.ref h₁.objs.size) (compEnvC scope cl H2.objs.size c.env)) (compPost c.M c.A E none Q (.ref h₁.objs.size) H2.objs.size) s₃ := by
    rintro s₃ rfl
    refine comp_loopU (c := compCx c scope cl H2.objs.size (hideAll s.heap [c.env.locals]) g₁) (ρ := capVars cl ρ) (gB := g) (ownB := []) (hB := s.heap) (g := g₁) (own₀ := [(h₁.objs.size, [])]) (ipos := iter.pos) (ifs := [])
      (act := do let _ ← call (.builtin "list.append") [.ref h₁.objs.size, ← eval elt (compEnvC scope cl H2.objs.size c.env)]) T' (fun i own' => ∃ ds, own' = [(h₁.objs.size, ds)] ∧ ds = (List.range i).map out) ?_ F₂ (Sub.refl _) st₂ k12 ?_ [c.env.locals] ?_ (fun g h => g c.env.locals = none ∧ ∀ m, s.heap.Ns c.env.locals m → h.Ns c.env.locals m) ?_ ⟨F₁.offL, fun m hn => hn.keeps ks2⟩ ?_ ?_ ?_ ⟨[], rfl, rfl⟩ ?_ ?_
    · exact compTurn_list elt (.Name x px) iter [] scope pos (.ref I) (.ref h₁.objs.size) (compEnvC scope cl H2.objs.size c.env)
    · intro b hb0 hb1
      refine ⟨fun q => hb1 (q ▸ hC₁), fun x q => ?_, fun q => ?_⟩
      · obtain ⟨_, _, v, ⟨o, q3, _⟩, _⟩ := F.cel x b (lookup' x b q)
        rw [hb0] at q3; cases q3
      · have : b = h₁.objs.size := by simpa using q
        exact hb1 (this ▸ hD₁)
    · intro b hb
      rw [List.mem_singleton.mp hb]
      refine ⟨F₁.offL, hL₀, ?_, fun q => ?_, fun x q => ?_, fun q => ?_⟩
      · intro q; exact hL₀ (ks2.none q)
      · have q' : c.env.locals = H2.objs.size := q
        exact hL₀ (q' ▸ hC₀)
      · obtain ⟨_, _, v, h3, _⟩ := F.cel x _ (lookup' x _ q)
        exact ns_ne_cell hnL h3 rfl
      · have : c.env.locals = h₁.objs.size := by simpa using q
        exact hL₀ (this ▸ hD₀)
    · intro ga ha gb hb hk hg hP
      refine ⟨hg _ (.head _) hP.1, fun m hn => ?_⟩
      obtain ⟨o, es, ep, e, r⟩ := hP.2 m hn
      exact ⟨o, es, ep, hk _ (.head _) o e, r⟩
    · intro b hb
      exact ⟨(T.wrN b hb).2, hid _ (T.wrN b hb).1⟩
    · refine ⟨G₁.sub, fun b o e _ _ _ _ => ks2 b o e, fun b hb => .inr ?_, fun b e => ks2.none e, fun a o e => (G₁.new a o e).elim .inl fun q => .inr (.inr q)⟩
      have : b = h₁.objs.size := by simpa using hb
      rw [this]; exact hD₀
    · intro b hb; exact (T.wrN b hb).1
    · rintro i own₁ hi ⟨ds, rfl, rfl⟩
      refine ⟨(·.set x (dat i)), fun g v h g' hs hI _ => Bind.name (hI.sub hs) (hst _ _ _), true, fun g s Q E F hQ => wpAny_tests_nil (hQ g s.heap s.toks (Grow.refl F.inn)), fun _ g₃ s₃ E₃ F₃ P₃ => ?_, fun q => (nomatch q), cap_set hx _⟩
      have hns₃ := P₃.2 mL hnL
      refine wpAny_bind (el _ _ _ _ _ i hi g₃ s₃ _ _ F₃ (hideAll_none _ (.head _)) ⟨mL, hns₃⟩ P₃.1 fun v g₄ h₄ k₄ G₄ I₄ => ?_)
      have hX : ∀ b ∈ [c.env.locals], (compCx c scope cl H2.objs.size (hideAll s.heap [c.env.locals]) g₁).h₀.get? b = none ∧ ∃ m, s₃.heap.Ns b m := fun b hb => by
        rw [List.mem_singleton.mp hb]; exact ⟨hideAll_none _ (.head _), mL, hns₃⟩
      have F₄ := F₃.growU G₄ hX
      obtain ⟨ga, ha₀, vs, nn, hva, hI⟩ := F₄.owns (h₁.objs.size, (List.range i).map out) (.head _)
      have hlen : vs.length = i := by have := hI.length; simpa using this
      refine wpAny_bind (wpAny_list_append_plain (items := vs.toArray) ⟨nn, hva⟩ (fun h₅ hp hs => wpAny_pure ?_) (by rw [List.size_toArray, hlen, sizeLine_eq]; omega))
      obtain ⟨n₂, ho₂⟩ := hp
      have ho₂' : h₅.get? h₁.objs.size = some { cls := .type "list", data := .seq (vs ++ [v]).toArray n₂ } := by rw [ho₂]; simp
      have F₅ := F₄.setOwn hs ho₂' (hI.append (.cons I₄ .nil))
      have e₅ : Evo (compCx c scope cl H2.objs.size (hideAll s.heap [c.env.locals]) g₁) [c.env.locals] g₃ [(h₁.objs.size, (List.range i).map out)] s₃.heap g₄ [(h₁.objs.size, (List.range i).map out)] h₅ :=
        (Evo.ofGrowU G₄ fun b hb => (hX b hb).2).trans (evo_append hs (by rw [ho₂]; intro q; cases q)).ex
      refine ⟨g₄, h₅, k₄, [(h₁.objs.size, (List.range i).map out ++ [out i])], rfl, e₅.ownEq rfl, F₅, ⟨_, rfl, by rw [List.range_succ, List.map_append]; rfl⟩, G₄.off P₃.1 (by obtain ⟨o, _, _, e, _⟩ := hns₃; rw [e]; intro q; cases q), fun m hm => ?_⟩
      obtain ⟨o, es, ep, e, r⟩ := G₄.up _ (.head _) m (P₃.2 m hm)
      refine ⟨o, es, ep, (hs.2 _ (fun q => ?_)).trans e, r⟩
      exact hL₀ (q ▸ hD₀)
    · rintro g' own' h' k eB F' ⟨ds, rfl, rfl⟩ hP
      obtain ⟨m, hm, _⟩ := F'.loc
      obtain ⟨ga, ha₀, vs, nn, hva, hI⟩ := F'.owns (h₁.objs.size, (List.range n).map out) (.head _)
      have hCg : g' H2.objs.size = none := F'.offL
      refine ⟨m, hm, fun h'' hs'' => ?_⟩
      have hLC : c.env.locals ≠ H2.objs.size := fun q => hL₀ (q ▸ hC₀)
      have hDC' : h₁.objs.size ≠ H2.objs.size := hDC
      have hsub : Sub g' (g'.put h₁.objs.size { cls := .type "list", data := .seq vs.toArray nn }) := put_sub ga
      refine hQ _ (g'.put h₁.objs.size { cls := .type "list", data := .seq vs.toArray nn }) h'' k ⟨eB.sub.trans hsub, fun b o e => ?_, fun b o hb e => ?_, fun b hb m' hn => ?_, fun b o e => ?_⟩ (.list ⟨_, _, put_self _ _ _, rfl, rfl⟩ (hI.sub hsub))
      · by_cases q : b = h₁.objs.size
        · subst q; rw [put_self] at e; cases e; exact hs''.extBut _ _ hDC' hva
        · rw [put_ne q] at e; exact hs''.extBut b o (by rintro rfl; rw [hCg] at e; cases e) (F'.inn b o e)
      · have : (hideAll s.heap [c.env.locals]).get? b = some o := hideAll_get _ e hb
        exact hs''.extBut b o (by rintro rfl; rw [hC₀] at e; cases e) (F'.keep₀ b o this)
      · rw [List.mem_singleton.mp hb] at hn ⊢
        obtain ⟨o, es, ep, e, r⟩ := hP.2 m' hn
        exact ⟨o, es, ep, hs''.extBut _ _ hLC e, r⟩
      · by_cases q : b = h₁.objs.size
        · rw [q]; exact .inr hD₀
        · rw [put_ne q] at e
          rcases eB.gnew b o e with z | z | z
          · exact .inl z
          · exact absurd z (by simp)
          · exact .inr z
  exact codeAny_compStart_list (loop _ rfl) (T.self 0 _ _ _ st₂ (loop _ rfl))


end
end Mine

/-! text P1 -/
namespace Mine

/-! ## the plain law: splitting -/
def spl (mark : Int) : List Nat → List (List Nat)
  | [] => [[]]
  | x :: xs => if (x : Int) == mark then [] :: spl mark xs else match spl mark xs with
    | [] => [[x]]
    | p :: ps => (x :: p) :: ps
theorem spl_ne (mark : Int) : ∀ xs, spl mark xs ≠ []
  | [] => by simp [spl]
  | x :: xs => by
    unfold spl; split
    · simp
    · split <;> simp

theorem endsOf_cons (x : Nat) (xs : List Nat) (mark : Int) : endsOf (x :: xs) mark = (if (x : Int) == mark then [0] else []) ++ (endsOf xs mark).map (· + 1) := by
  unfold endsOf
  rw [List.length_cons, List.range_succ_eq_map, List.flatMap_cons, List.map_append, List.append_assoc]
  congr 1
  rw [List.flatMap_map, List.map_flatMap]
  congr 1
  congr 1
  funext i
  show (if (((x :: xs).getD (i + 1) 0 : Nat) : Int) == mark then [i + 1] else []) = _
  rw [List.getD_cons_succ]
  split <;> rfl
theorem getD_map_succ (l : List Nat) (k : Nat) (h : k < l.length) : (l.map (· + 1)).getD k 0 = l.getD k 0 + 1 := by simp [List.getD, h]

theorem piecesOf_eq (xs : List Nat) (mark : Int) : piecesOf xs mark = spl mark xs := by
  induction xs with
  | nil => simp [piecesOf, endsOf, begsOf, spl]
  | cons x xs ih =>
    have hcons := endsOf_cons x xs mark
    have hpos : 0 < (endsOf xs mark).length := by rw [← piecesOf_length]; exact piecesOf_pos xs mark
    by_cases hx : ((x : Int) == mark) = true
    · have hsp : spl mark (x :: xs) = [] :: spl mark xs := by rw [spl, if_pos hx]
      rw [hsp, ← ih]
      rw [if_pos hx] at hcons
      have hE : endsOf (x :: xs) mark = 0 :: (endsOf xs mark).map (· + 1) := hcons
      unfold piecesOf
      rw [hE, List.length_cons, List.length_map, List.range_succ_eq_map, List.map_cons, List.map_map]
      congr 1
      · apply List.map_congr_left
        intro k hk
        rw [List.mem_range] at hk
        show ((x :: xs).drop ((begsOf (x :: xs) mark).getD (k + 1) 0)).take ((0 :: (endsOf xs mark).map (· + 1)).getD (k + 1) 0 - (begsOf (x :: xs) mark).getD (k + 1) 0) = _
        have hb : (begsOf (x :: xs) mark).getD (k + 1) 0 = (begsOf xs mark).getD k 0 + 1 := by
          unfold begsOf
          rw [hE, List.getD_cons_succ, List.map_cons]
          cases k with
          | zero => simp
          | succ k =>
            rw [List.getD_cons_succ, List.getD_cons_succ, List.map_map]
            simp [List.getD, show k < (endsOf xs mark).length by omega]
        rw [hb, List.getD_cons_succ, getD_map_succ _ _ hk, List.drop_succ_cons, Nat.add_sub_add_right]
    · have hx' : ((x : Int) == mark) = false := by simpa using hx
      rw [hx'] at hcons
      have hE : endsOf (x :: xs) mark = (endsOf xs mark).map (· + 1) := by simpa using hcons
      have hsp : spl mark (x :: xs) = match spl mark xs with | [] => [[x]] | p :: ps => (x :: p) :: ps := by rw [spl, hx']; rfl
      rw [hsp, ← ih]
      obtain ⟨n, hn⟩ : ∃ n, (endsOf xs mark).length = n + 1 := ⟨(endsOf xs mark).length - 1, by omega⟩
      unfold piecesOf
      rw [hE, List.length_map, hn, List.range_succ_eq_map, List.map_cons, List.map_cons]
      dsimp only
      congr 1
      · have : ((endsOf xs mark).map (· + 1)).getD 0 0 = (endsOf xs mark).getD 0 0 + 1 := getD_map_succ _ _ (by omega)
        rw [this]
        simp [begsOf]
      · rw [List.map_map, List.map_map]
        apply List.map_congr_left
        intro k hk
        rw [List.mem_range] at hk
        have hk' : k < (endsOf xs mark).length := by omega
        show ((x :: xs).drop ((begsOf (x :: xs) mark).getD (k + 1) 0)).take (((endsOf xs mark).map (· + 1)).getD (k + 1) 0 - (begsOf (x :: xs) mark).getD (k + 1) 0) = (xs.drop ((begsOf xs mark).getD (k + 1) 0)).take ((endsOf xs mark).getD (k + 1) 0 - (begsOf xs mark).getD (k + 1) 0)
        have hb : (begsOf (x :: xs) mark).getD (k + 1) 0 = (begsOf xs mark).getD (k + 1) 0 + 1 := by
          unfold begsOf
          rw [hE, List.getD_cons_succ, List.getD_cons_succ, List.map_map]
          simp [List.getD, hk']
        rw [hb, getD_map_succ _ _ (by omega), List.drop_succ_cons, Nat.add_sub_add_right]
end Mine

/-! text P2 -/
namespace Mine

/-! ## the automaton over figures -/
def PSt.stepF (comma quote slash : Int) (s : PSt) (c : Nat) : PSt :=
  if s.esc then { s with part := s.part ++ [c], esc := false }
  else if s.quo then
    if (c : Int) == slash then { s with esc := true }
    else if (c : Int) == quote then { s with quo := false, part := s.part ++ [c] }
    else { s with part := s.part ++ [c] }
  else if (c : Int) == comma then { s with res := s.res ++ [s.part], part := [] }
  else if (c : Int) == quote then { s with quo := true, part := s.part ++ [c] }
  else { s with part := s.part ++ [c] }
def parseF (comma quote slash : Int) (cs : List Nat) : List (List Nat) := (cs.foldl (PSt.stepF comma quote slash) PSt.init).fin

theorem runOf_snoc (p : List Nat) (x : Nat) (slash : Int) : runOf (p ++ [x]) slash = if (x : Int) == slash then runOf p slash + 1 else 0 := by
  unfold runOf
  rw [List.reverse_append]
  show ((x :: p.reverse).takeWhile _).length = _
  rw [List.takeWhile_cons]
  split <;> simp
theorem halved_snoc (p : List Nat) (x : Nat) (slash : Int) : halved (p ++ [x]) slash = halved p slash ++ (if ((x : Int) != slash || runOf (p ++ [x]) slash % 2 == 0) then [x] else []) := by
  unfold halved
  rw [List.length_append, List.length_singleton, List.range_succ, List.flatMap_append]
  congr 1
  · rw [List.flatMap_def, List.flatMap_def]
    congr 1
    apply List.map_congr_left
    intro i hi
    rw [List.mem_range] at hi
    have h1 : (p ++ [x]).getD i 0 = p.getD i 0 := by simp [List.getD, List.getElem?_append_left hi]
    have h2 : (p ++ [x]).take (i + 1) = p.take (i + 1) := List.take_append_of_le_length (by omega)
    rw [h1, h2]
  · have h1 : (p ++ [x]).getD p.length 0 = x := by simp [List.getD]
    have h2 : (p ++ [x]).take (p.length + 1) = p ++ [x] := by rw [List.take_of_length_le]; simp
    rw [List.flatMap_cons, List.flatMap_nil, List.append_nil, h1, h2]

theorem snocInd {α : Type} {P : List α → Prop} (h0 : P []) (h1 : ∀ l x, P l → P (l ++ [x])) (l : List α) : P l := by
  rw [← List.reverse_reverse l]
  induction l.reverse with
  | nil => exact h0
  | cons a l ih => rw [List.reverse_cons]; exact h1 _ _ ih

variable {comma quote slash : Int}
/-- a piece in a quotation -/
theorem fold_inside (p : List Nat) (hq : ∀ x ∈ p, (x : Int) ≠ quote) (s : PSt) (he : s.esc = false) (hi : s.quo = true) :
    p.foldl (PSt.stepF comma quote slash) s = ⟨s.res, s.part ++ halved p slash, runOf p slash % 2 == 1, true⟩ := by
  revert hq
  induction p using snocInd with
  | h0 => intro _; obtain ⟨r, q, e, o⟩ := s; simp only at he hi; subst he hi; simp [halved, runOf]
  | h1 p x ih =>
    intro hq
    rw [List.foldl_append, ih (fun y hy => hq y (List.mem_append_left _ hy))]
    have hxq : ((x : Int) == quote) = false := by simpa using hq x (List.mem_append_right _ (.head _))
    rw [halved_snoc, runOf_snoc]
    show PSt.stepF comma quote slash _ x = _
    unfold PSt.stepF
    by_cases hr : runOf p slash % 2 = 1
    · have h1 : (runOf p slash % 2 == 1) = true := by simpa using hr
      simp only [h1, if_true]
      by_cases hx : ((x : Int) == slash) = true
      · have h2 : (runOf p slash + 1) % 2 = 0 := by omega
        simp [hx, h2]
      · have hx' : ((x : Int) == slash) = false := by simpa using hx
        simp [hx', bne]
    · have h1 : (runOf p slash % 2 == 1) = false := by simpa using hr
      simp only [h1, Bool.false_eq_true, if_false, if_true]
      by_cases hx : ((x : Int) == slash) = true
      · have h2 : (runOf p slash + 1) % 2 = 1 := by omega
        simp [hx, h2, bne]
      · have hx' : ((x : Int) == slash) = false := by simpa using hx
        simp [hx', hxq, bne]
/-- a piece outside of quotations -/
theorem fold_outside (p : List Nat) (hq : ∀ x ∈ p, (x : Int) ≠ quote) : ∀ (s : PSt), s.esc = false → s.quo = false →
    ∃ r q, p.foldl (PSt.stepF comma quote slash) s = ⟨r, q, false, false⟩ ∧ r ++ [q] = addLast (s.res ++ [s.part]) ((spl comma p).headD []) ++ (spl comma p).tail := by
  induction p with
  | nil => intro s he hi; obtain ⟨r, q, e, o⟩ := s; simp only at he hi; subst he hi; exact ⟨r, q, rfl, by simp [spl, addLast_snoc]⟩
  | cons x p ih =>
    intro s he hi
    have hxq : ((x : Int) == quote) = false := by simpa using hq x (.head _)
    have ih' := ih (fun y hy => hq y (.tail _ hy))
    rw [List.foldl_cons]
    by_cases hx : ((x : Int) == comma) = true
    · have e : PSt.stepF comma quote slash s x = ⟨s.res ++ [s.part], [], false, false⟩ := by unfold PSt.stepF; simp [he, hi, hx]
      rw [e]
      obtain ⟨r, q, h1, h2⟩ := ih' ⟨s.res ++ [s.part], [], false, false⟩ rfl rfl
      refine ⟨r, q, h1, ?_⟩
      rw [h2]
      have hs : spl comma (x :: p) = [] :: spl comma p := by rw [spl, if_pos hx]
      rw [hs]
      obtain ⟨c0, ct, hc⟩ : ∃ c0 ct, spl comma p = c0 :: ct := by
        cases h : spl comma p with
        | nil => exact absurd h (spl_ne comma p)
        | cons a b => exact ⟨a, b, rfl⟩
      rw [hc]
      show addLast ((s.res ++ [s.part]) ++ [[]]) c0 ++ ct = addLast (s.res ++ [s.part]) [] ++ (c0 :: ct)
      rw [addLast_snoc, addLast_snoc]; simp
    · have hx' : ((x : Int) == comma) = false := by simpa using hx
      have e : PSt.stepF comma quote slash s x = ⟨s.res, s.part ++ [x], false, false⟩ := by unfold PSt.stepF; simp [he, hi, hx', hxq]
      rw [e]
      obtain ⟨r, q, h1, h2⟩ := ih' ⟨s.res, s.part ++ [x], false, false⟩ rfl rfl
      refine ⟨r, q, h1, ?_⟩
      rw [h2]
      obtain ⟨c0, ct, hc⟩ : ∃ c0 ct, spl comma p = c0 :: ct := by
        cases h : spl comma p with
        | nil => exact absurd h (spl_ne comma p)
        | cons a b => exact ⟨a, b, rfl⟩
      have hs : spl comma (x :: p) = (x :: c0) :: ct := by rw [spl, hx', hc]; rfl
      rw [hs, hc]
      simp [addLast_snoc]

/-- the text out of the pieces -/
def joinQ (quote : Nat) : List (List Nat) → List Nat
  | [] => []
  | [p] => p
  | p :: ps => p ++ quote :: joinQ quote ps
theorem join_spl (quote : Nat) : ∀ xs : List Nat, joinQ quote (spl quote xs) = xs
  | [] => rfl
  | x :: xs => by
    have ih := join_spl quote xs
    obtain ⟨c0, ct, hc⟩ : ∃ c0 ct, spl quote xs = c0 :: ct := by
      cases h : spl quote xs with
      | nil => exact absurd h (spl_ne _ xs)
      | cons a b => exact ⟨a, b, rfl⟩
    rw [hc] at ih
    by_cases hx : ((x : Int) == (quote : Int)) = true
    · have hs : spl (quote : Int) (x :: xs) = [] :: c0 :: ct := by rw [spl, if_pos hx, hc]
      have hxe : x = quote := by have := beq_iff_eq.mp hx; omega
      rw [hs]
      show [] ++ quote :: joinQ quote (c0 :: ct) = _
      rw [ih, hxe]; rfl
    · have hx' : ((x : Int) == (quote : Int)) = false := by simpa using hx
      have hs : spl (quote : Int) (x :: xs) = (x :: c0) :: ct := by rw [spl, hx', hc]; rfl
      rw [hs]
      cases ct with
      | nil => show x :: c0 = _; rw [show c0 = xs from ih]
      | cons d ct => show (x :: c0) ++ quote :: joinQ quote (d :: ct) = _; rw [List.cons_append, show c0 ++ quote :: joinQ quote (d :: ct) = xs from ih]
theorem spl_free (mark : Int) : ∀ (xs : List Nat), ∀ p ∈ spl mark xs, ∀ x ∈ p, (x : Int) ≠ mark
  | [], p, hp, x, hx => by simp [spl] at hp; subst hp; cases hx
  | y :: xs, p, hp, x, hx => by
    have ih := spl_free mark xs
    by_cases hy : ((y : Int) == mark) = true
    · rw [spl, if_pos hy] at hp
      rcases List.mem_cons.mp hp with rfl | hp
      · cases hx
      · exact ih p hp x hx
    · have hy' : ((y : Int) == mark) = false := by simpa using hy
      obtain ⟨c0, ct, hc⟩ : ∃ c0 ct, spl mark xs = c0 :: ct := by
        cases h : spl mark xs with
        | nil => exact absurd h (spl_ne _ xs)
        | cons a b => exact ⟨a, b, rfl⟩
      have hs : spl mark (y :: xs) = (y :: c0) :: ct := by rw [spl, hy', hc]; rfl
      rw [hs] at hp
      rcases List.mem_cons.mp hp with rfl | hp
      · rcases List.mem_cons.mp hx with rfl | hx
        · simpa using hy'
        · exact ih c0 (by rw [hc]; exact .head _) x hx
      · exact ih p (by rw [hc]; exact .tail _ hp) x hx
end Mine

/-! text P3 -/
namespace Mine

theorem joinQ_snoc (q : Nat) (p : List Nat) : ∀ l : List (List Nat), l ≠ [] → joinQ q (l ++ [p]) = joinQ q l ++ q :: p
  | [], h => absurd rfl h
  | [a], _ => rfl
  | a :: b :: l, _ => by
    have ih := joinQ_snoc q p (b :: l) (by simp)
    show a ++ q :: joinQ q ((b :: l) ++ [p]) = (a ++ q :: joinQ q (b :: l)) ++ q :: p
    rw [ih]; simp
theorem spl_neg {mark : Int} (h : mark < 0) : ∀ xs, spl mark xs = [xs]
  | [] => rfl
  | x :: xs => by
    have hx : ((x : Int) == mark) = false := by simp; omega
    rw [spl, hx, spl_neg h xs]; rfl
theorem join_spl' (quote : Int) (xs : List Nat) : joinQ quote.toNat (spl quote xs) = xs := by
  by_cases h : quote < 0
  · rw [spl_neg h]; rfl
  · obtain ⟨q, rfl⟩ : ∃ q : Nat, quote = q := ⟨quote.toNat, by omega⟩
    exact join_spl q xs

/-- the automaton's state and the law's -/
structure SR (s : PSt) (t : LSt) : Prop where
  ps : t.ps = s.res ++ [s.part]
  inside : t.inside = s.quo
  odd : t.odd = s.esc
  he : s.esc = true → s.quo = true

variable {comma quote slash : Int}
theorem sr_piece (p : List Nat) (hq : ∀ x ∈ p, (x : Int) ≠ quote) {s : PSt} {ps : List (List Nat)} {inside : Bool} (hps : ps = s.res ++ [s.part]) (hi : inside = s.quo) (he : s.esc = false) :
    SR (p.foldl (PSt.stepF comma quote slash) s) ⟨addLast ps ((if inside then [halved p slash] else piecesOf p comma).headD []) ++ (if inside then [halved p slash] else piecesOf p comma).tail, inside, inside && runOf p slash % 2 == 1⟩ := by
  subst hps hi
  cases hb : s.quo with
  | true =>
    rw [fold_inside p hq s he hb]
    refine ⟨?_, rfl, by simp, fun _ => rfl⟩
    show addLast (s.res ++ [s.part]) (halved p slash) ++ [] = s.res ++ [s.part ++ halved p slash]
    rw [addLast_snoc, List.append_nil]
  | false =>
    obtain ⟨r, q, h1, h2⟩ := fold_outside (comma := comma) (quote := quote) (slash := slash) p hq s he hb
    rw [h1]
    refine ⟨?_, rfl, rfl, fun q => nomatch q⟩
    show addLast (s.res ++ [s.part]) ((piecesOf p comma).headD []) ++ (piecesOf p comma).tail = r ++ [q]
    rw [h2, piecesOf_eq]
theorem sr_quote {q : Nat} (hqc : (q : Int) ≠ comma) (hqs : (q : Int) ≠ slash) {s : PSt} {t : LSt} (H : SR s t) :
    (PSt.stepF comma q slash s q).res ++ [(PSt.stepF comma q slash s q).part] = addLast t.ps [q] ∧ (PSt.stepF comma q slash s q).esc = false ∧ (PSt.stepF comma q slash s q).quo = (t.odd || !t.inside) := by
  obtain ⟨a, b, c, d⟩ := H
  rw [a, b, c, addLast_snoc]
  have h1 : ((q : Int) == comma) = false := by simpa using hqc
  have h2 : ((q : Int) == slash) = false := by simpa using hqs
  unfold PSt.stepF
  cases he : s.esc with
  | true => have hd := d he; simp [hd]
  | false =>
    cases hq : s.quo with
    | true => simp [h2, he]
    | false => simp [h1, he]

theorem sr_main (fs : List Nat) (hqc : quote ≠ comma) (hqs : quote ≠ slash) : ∀ i, i + 1 ≤ (spl quote fs).length →
    SR ((joinQ quote.toNat ((spl quote fs).take (i + 1))).foldl (PSt.stepF comma quote slash) PSt.init) (lawSt fs comma quote slash (i + 1))
  | 0, h => by
    obtain ⟨c0, ct, hc⟩ : ∃ c0 ct, spl quote fs = c0 :: ct := by
      cases h : spl quote fs with
      | nil => exact absurd h (spl_ne _ fs)
      | cons a b => exact ⟨a, b, rfl⟩
    have hfree : ∀ x ∈ c0, (x : Int) ≠ quote := spl_free quote fs c0 (by rw [hc]; exact .head _)
    rw [lawSt_succ, piecesOf_eq, hc]
    exact sr_piece c0 hfree (s := PSt.init) (ps := [[]]) (inside := false) rfl rfl rfl
  | i + 1, h => by
    have ih := sr_main fs hqc hqs i (by omega)
    have hpos : 0 ≤ quote := mark_pos (fs := fs) (k := i + 1) (by rw [piecesOf_eq]; omega) (by omega)
    obtain ⟨q, hq⟩ : ∃ q : Nat, quote = q := ⟨quote.toNat, by omega⟩
    have hqt : quote.toNat = q := by omega
    have hlt : i + 1 < (spl quote fs).length := by omega
    have htk : (spl quote fs).take (i + 1 + 1) = (spl quote fs).take (i + 1) ++ [(spl quote fs).getD (i + 1) []] := by
      rw [List.take_succ, List.getElem?_eq_getElem hlt]; simp [List.getD, hlt]
    have hne : (spl quote fs).take (i + 1) ≠ [] := by
      intro e
      have := congrArg List.length e
      rw [List.length_take, List.length_nil] at this; omega
    rw [lawSt_succ, htk, joinQ_snoc _ _ _ hne, List.foldl_append, List.foldl_cons, piecesOf_eq]
    rw [hqt] at ih ⊢
    generalize hp : (spl quote fs).getD (i + 1) [] = p
    have hfree : ∀ x ∈ p, (x : Int) ≠ quote := spl_free quote fs p (by rw [← hp]; simp [List.getD, hlt])
    generalize lawSt fs comma quote slash (i + 1) = t at ih
    generalize (joinQ q ((spl quote fs).take (i + 1))).foldl (PSt.stepF comma quote slash) PSt.init = s at ih
    subst hq
    obtain ⟨h1, h2, h3⟩ := sr_quote hqc hqs ih
    have key := sr_piece (comma := comma) (slash := slash) p hfree (s := PSt.stepF comma q slash s q) (ps := addLast t.ps [q]) (inside := t.odd || !t.inside) h1.symm h3.symm h2
    unfold LSt.step
    simp only [Nat.add_eq_zero_iff, Nat.one_ne_zero, and_false, if_false, Int.toNat_natCast]
    exact key
theorem parseF_eq (fs : List Nat) (hqc : quote ≠ comma) (hqs : quote ≠ slash) : parseF comma quote slash fs = partsOf fs comma quote slash := by
  obtain ⟨n, hn⟩ : ∃ n, (spl quote fs).length = n + 1 := by
    cases h : spl quote fs with
    | nil => exact absurd h (spl_ne _ fs)
    | cons a b => exact ⟨b.length, rfl⟩
  have H := sr_main (comma := comma) (slash := slash) fs hqc hqs n (by omega)
  rw [← hn, List.take_length, join_spl'] at H
  unfold parseF partsOf
  rw [piecesOf_eq]
  generalize fs.foldl (PSt.stepF comma quote slash) PSt.init = s at H
  generalize lawSt fs comma quote slash (spl quote fs).length = t at H
  obtain ⟨a, b, c, d⟩ := H
  rw [a]
  unfold PSt.fin
  simp
end Mine

/-! text P4 -/
namespace Mine

/-! ## the six pairs -/
/-- the sign of a figure, with the pair as altchars -/
def sgP (p q n : Nat) : Nat := tr 43 47 p q (sg n)
def preSigns : List Nat := "ABCDEFGHIJKLMNOPQRSTUVWXYZabcdefghijklmnopqrstuvwxyz0123456789".toList.map (·.toNat)
def signsOf (p q : Nat) : List Nat := preSigns ++ [p, q] ++ [61]
def markOf (p q x : Nat) : Int := if x = p then 62 else if x = q then 63 else -1
def pairAt (p q n : Nat) : Bool :=
  ((sgP p q n == 44) == ((n : Int) == markOf p q 44)) && ((sgP p q n == 34) == ((n : Int) == markOf p q 34)) && ((sgP p q n == 92) == ((n : Int) == markOf p q 92)) &&
  decide (33 ≤ sgP p q n ∧ sgP p q n < 127) && (tr p q 43 47 (sgP p q n) == sg n) && ((signsOf p q)[n]? == some (sgP p q n))
structure PairOk (p q : Nat) : Prop where
  at_ : ∀ n, n < 65 → pairAt p q n = true
  hp : p < 128
  hq : q < 128
  h61 : tr p q 43 47 61 = 61
  hc : markOf p q 34 ≠ markOf p q 44
  hs : markOf p q 34 ≠ markOf p q 92
theorem pairOk_of {p q : Nat} (h : (List.range 65).all (pairAt p q) = true) (hp : p < 128) (hq : q < 128) (h61 : tr p q 43 47 61 = 61) (hc : markOf p q 34 ≠ markOf p q 44) (hs : markOf p q 34 ≠ markOf p q 92) : PairOk p q :=
  ⟨fun n hn => List.all_eq_true.mp h n (List.mem_range.mpr hn), hp, hq, h61, hc, hs⟩
def sixPairs : List (Nat × Nat) := [(44, 34), (44, 92), (34, 44), (34, 92), (92, 44), (92, 34)]
theorem six_ok : ∀ x ∈ sixPairs, PairOk x.1 x.2 := by
  intro x hx
  simp only [sixPairs, List.mem_cons, List.not_mem_nil, or_false] at hx
  rcases hx with rfl | rfl | rfl | rfl | rfl | rfl <;> exact pairOk_of (by decide +kernel) (by decide) (by decide) (by decide) (by decide) (by decide)

section
variable {p q : Nat}
theorem PairOk.comma (H : PairOk p q) {n : Nat} (h : n < 65) : (sgP p q n == 44) = ((n : Int) == markOf p q 44) := by
  have := H.at_ n h; unfold pairAt at this; simp only [Bool.and_eq_true] at this; exact beq_iff_eq.mp this.1.1.1.1.1
theorem PairOk.quote (H : PairOk p q) {n : Nat} (h : n < 65) : (sgP p q n == 34) = ((n : Int) == markOf p q 34) := by
  have := H.at_ n h; unfold pairAt at this; simp only [Bool.and_eq_true] at this; exact beq_iff_eq.mp this.1.1.1.1.2
theorem PairOk.slash (H : PairOk p q) {n : Nat} (h : n < 65) : (sgP p q n == 92) = ((n : Int) == markOf p q 92) := by
  have := H.at_ n h; unfold pairAt at this; simp only [Bool.and_eq_true] at this; exact beq_iff_eq.mp this.1.1.1.2
theorem PairOk.range (H : PairOk p q) {n : Nat} (h : n < 65) : 33 ≤ sgP p q n ∧ sgP p q n < 127 := by
  have := H.at_ n h; unfold pairAt at this; simp only [Bool.and_eq_true] at this; exact of_decide_eq_true this.1.1.2
theorem PairOk.back (H : PairOk p q) {n : Nat} (h : n < 65) : tr p q 43 47 (sgP p q n) = sg n := by
  have := H.at_ n h; unfold pairAt at this; simp only [Bool.and_eq_true] at this; exact beq_iff_eq.mp this.1.2
theorem PairOk.sign (H : PairOk p q) {n : Nat} (h : n < 65) : (signsOf p q)[n]? = some (sgP p q n) := by
  have := H.at_ n h; unfold pairAt at this; simp only [Bool.and_eq_true] at this; exact beq_iff_eq.mp this.2

/-! ## the automaton over signs is that over figures -/
def PSt.map (f : Nat → Nat) (s : PSt) : PSt := ⟨s.res.map (·.map f), s.part.map f, s.esc, s.quo⟩
theorem step_map (H : PairOk p q) (s : PSt) {c : Nat} (hc : c < 65) : (s.map (sgP p q)).step (sgP p q c) = (s.stepF (markOf p q 44) (markOf p q 34) (markOf p q 92) c).map (sgP p q) := by
  unfold PSt.step PSt.stepF
  rw [H.comma hc, H.quote hc, H.slash hc]
  obtain ⟨r, pt, e, o⟩ := s
  generalize ((c : Int) == markOf p q 44) = x
  generalize ((c : Int) == markOf p q 34) = y
  generalize ((c : Int) == markOf p q 92) = z
  cases e <;> cases o <;> cases x <;> cases y <;> cases z <;> simp [PSt.map]
theorem fold_map (H : PairOk p q) (fs : List Nat) : ∀ s : PSt, (∀ n ∈ fs, n < 65) → (fs.map (sgP p q)).foldl PSt.step (s.map (sgP p q)) = (fs.foldl (PSt.stepF (markOf p q 44) (markOf p q 34) (markOf p q 92)) s).map (sgP p q) := by
  induction fs with
  | nil => intro s _; rfl
  | cons c fs ih =>
    intro s h
    rw [List.map_cons, List.foldl_cons, List.foldl_cons, step_map H s (h c (.head _)), ih _ fun n hn => h n (.tail _ hn)]
theorem parse_map (H : PairOk p q) (fs : List Nat) (h : ∀ n ∈ fs, n < 65) : parse (fs.map (sgP p q)) = (partsOf fs (markOf p q 44) (markOf p q 34) (markOf p q 92)).map (·.map (sgP p q)) := by
  rw [← parseF_eq fs H.hc H.hs]
  unfold parse parseF
  have := fold_map H fs PSt.init h
  rw [show PSt.init.map (sgP p q) = PSt.init from rfl] at this
  rw [this]
  generalize fs.foldl _ PSt.init = s
  unfold PSt.fin PSt.map
  simp only [List.isEmpty_map]
  split <;> simp

theorem PSt.among_stepF {comma quote slash : Int} {s : PSt} {p : Nat → Prop} {c : Nat} (h : s.among p) (hc : p c) : (s.stepF comma quote slash c).among p := by
  obtain ⟨h1, h2⟩ := h
  have ha : ∀ x ∈ s.part ++ [c], p x := fun x hx => by
    rcases List.mem_append.mp hx with q | q
    · exact h1 x q
    · rw [List.mem_singleton.mp q]; exact hc
  unfold PSt.stepF; repeat' split
  all_goals first | exact ⟨ha, h2⟩ | exact ⟨h1, h2⟩ | skip
  refine ⟨by simp, fun r hr => ?_⟩
  rcases List.mem_append.mp hr with q | q
  · exact h2 r q
  · rw [List.mem_singleton.mp q]; exact h1
theorem foldF_among {comma quote slash : Int} {p : Nat → Prop} (cs : List Nat) : ∀ s : PSt, s.among p → (∀ x ∈ cs, p x) → (cs.foldl (PSt.stepF comma quote slash) s).among p := by
  induction cs with
  | nil => intro s h _; exact h
  | cons c cs ih => intro s h hc; exact ih _ (PSt.among_stepF h (hc c (.head _))) fun x hx => hc x (.tail _ hx)
theorem partsOf_among {comma quote slash : Int} {p : Nat → Prop} {fs : List Nat} (hqc : quote ≠ comma) (hqs : quote ≠ slash) (h : ∀ x ∈ fs, p x) : ∀ r ∈ partsOf fs comma quote slash, ∀ x ∈ r, p x := by
  rw [← parseF_eq fs hqc hqs]
  obtain ⟨h1, h2⟩ := foldF_among (p := p) (comma := comma) (quote := quote) (slash := slash) fs PSt.init ⟨by simp [PSt.init], by simp [PSt.init]⟩ h
  unfold parseF PSt.fin
  intro r hr
  split at hr
  · exact h2 r hr
  · rcases List.mem_append.mp hr with q | q
    · exact h2 r q
    · rw [List.mem_singleton.mp q]; exact h1
theorem partsOf_len (H : PairOk p q) (fs : List Nat) (h : ∀ n ∈ fs, n < 65) : ∀ r ∈ partsOf fs (markOf p q 44) (markOf p q 34) (markOf p q 92), r.length ≤ fs.length := fun r hr => by
  have := parse_len (fs.map (sgP p q)) (r.map (sgP p q)) (by rw [parse_map H fs h]; exact List.mem_map_of_mem hr)
  simpa using this
theorem partsOf_count (H : PairOk p q) (fs : List Nat) (h : ∀ n ∈ fs, n < 65) : (partsOf fs (markOf p q 44) (markOf p q 34) (markOf p q 92)).length ≤ fs.length + 1 := by
  have := parse_length (fs.map (sgP p q))
  rw [parse_map H fs h] at this
  simpa using this

/-! ## a part is read as what it is due -/
theorem sg_fig : ∀ k : Fin 64, fig (sg k.val) = k.val ∧ sg k.val ≠ 61 := by decide +kernel
theorem sg_sgn : ∀ k : Fin 65, sg k.val < 256 ∧ (sg k.val = 61 ∨ (0 ≤ b64v (sg k.val) ∧ b64v (sg k.val) < 64)) := by decide +kernel
theorem figsOf_sg (r : List Nat) (h : ∀ n ∈ r, n < 65) : figsOf (r.map sg) = r.filter (· < 64) := by
  induction r with
  | nil => rfl
  | cons n r ih =>
    have ih' := ih fun m hm => h m (.tail _ hm)
    have hn := h n (.head _)
    unfold figsOf at ih' ⊢
    by_cases h64 : n < 64
    · obtain ⟨h1, h2⟩ := sg_fig ⟨n, h64⟩
      have h2' : (sg n != 61) = true := by simpa using h2
      rw [List.map_cons, List.filter_cons_of_pos (p := fun x => x != 61) h2', List.map_cons, ih', List.filter_cons_of_pos (by simpa using h64)]
      rw [show fig (sg n) = n from h1]
    · have hn64 : n = 64 := by omega
      subst hn64
      have h2' : ¬ (sg 64 != 61) = true := by decide
      rw [List.map_cons, List.filter_cons_of_neg (p := fun x => x != 61) h2', ih', List.filter_cons_of_neg (by simp)]
theorem text_back (H : PairOk p q) (r : List Nat) (h : ∀ n ∈ r, n < 65) : (r.map (sgP p q) ++ [61, 61]).map (tr p q 43 47) = r.map sg ++ [61] ++ [61] := by
  rw [List.map_append, List.map_map, List.append_assoc]
  congr 1
  · apply List.map_congr_left
    intro n hn
    exact H.back (h n hn)
  · simp [H.h61]

theorem conU_law {prog : Program} {w : World} {mg mb : Str → Option Value} (H : PairOk p q) (r : List Nat) (hl : r.length ≤ 100) (h : ∀ n ∈ r, n < 65) : ConU prog w mg mb 4 26 [.str (tx (r.map (sgP p q))), .bytes (bA [p, q])] (dueOf r) := by
  have hb := text_back H r h
  have hf : figsOf ((r.map (sgP p q) ++ [61, 61]).map (tr p q 43 47)) = r.filter (· < 64) := by rw [hb, figsOf_pad, figsOf_pad, figsOf_sg r h]
  have hp2 : 2 ≤ padsOf ((r.map (sgP p q) ++ [61, 61]).map (tr p q 43 47)) := by rw [hb, padsOf_pad, padsOf_pad]; omega
  have hl' : (r.map (sgP p q)).length ≤ 900 := by rw [List.length_map]; omega
  have hc : ∀ c ∈ r.map (sgP p q), c < 128 := fun c hc => by
    obtain ⟨n, hn, rfl⟩ := List.mem_map.mp hc
    have := (H.range (h n hn)).2; omega
  have hn : ∀ n ∈ (r.map (sgP p q) ++ [61, 61]).map (tr p q 43 47), Sgn n := fun n hn => by
    rw [hb] at hn
    simp only [List.mem_append, List.mem_map, List.mem_singleton] at hn
    rcases hn with (⟨k, hk, rfl⟩ | rfl) | rfl
    · exact sg_sgn ⟨k, h k hk⟩
    · exact ⟨by decide, .inl rfl⟩
    · exact ⟨by decide, .inl rfl⟩
  have hp' := H.hp
  have hq' := H.hq
  unfold dueOf
  by_cases h4 : (r.filter (· < 64)).length % 4 = 1
  · rw [if_pos (by simpa using h4)]
    exact conU_reading _ p q hl' hc (by omega) (by omega) hn (by rw [hf]; exact h4)
  · rw [if_neg (by simpa using h4)]
    have := (con_reading (prog := prog) (w := w) (mg := mg) (mb := mb) _ p q hl' hc (by omega) (by omega) hn (by rw [hf]; exact h4) hp2).u
    rw [hf] at this
    exact this
end
end Mine

/-! text M34 -/
namespace Mine

/-! ## what the law builds -/
def numsOf (ns : List Int) : List Nat := (ns.take 5).map fun n => (n % 65536).toNat
def drawnOf (nums : List Nat) : List Nat := nums.flatMap fun n => [n % 256, n / 256]
def figOf (o : Nat) : Nat := if o % 4 > 1 then 62 + o % 2 else o / 4
def headFigs : List Nat := [62, 63, 62, 62, 63, 0, 62, 63, 63, 62, 63, 62]
def wholeOf (ns : List Int) : List Nat := octs (headFigs ++ (drawnOf (numsOf ns)).map figOf)

theorem numsOf_length (ns : List Int) : (numsOf ns).length ≤ 5 := by simp [numsOf]; omega
theorem numsOf_lt (ns : List Int) : ∀ n ∈ numsOf ns, n < 65536 := fun n hn => by
  obtain ⟨k, _, rfl⟩ := List.mem_map.mp hn
  omega
theorem drawnOf_length (nums : List Nat) : (drawnOf nums).length = 2 * nums.length := by
  induction nums with
  | nil => rfl
  | cons a l ih => simp [drawnOf] at ih ⊢; omega
theorem drawnOf_take {nums : List Nat} {i : Nat} (h : i < nums.length) : drawnOf (nums.take (i + 1)) = drawnOf (nums.take i) ++ [nums.getD i 0 % 256, nums.getD i 0 / 256] := by
  have e : nums.take (i + 1) = nums.take i ++ [nums.getD i 0] := by
    rw [List.take_add_one, List.getElem?_eq_getElem h, List.getD_eq_getElem?_getD, List.getElem?_eq_getElem h]; rfl
  rw [e]
  unfold drawnOf
  rw [List.flatMap_append]
  rfl
theorem intD_getD (l : List Int) (i : Nat) (h : i < l.length) : (l.map D.int).getD i .none = .int (l.getD i 0) := by
  rw [List.getD_eq_getElem?_getD, List.getD_eq_getElem?_getD, List.getElem?_map, List.getElem?_eq_getElem h]; rfl
theorem wholeOf_length (ns : List Int) : 9 ≤ (wholeOf ns).length ∧ (wholeOf ns).length ≤ 17 := by
  have h1 := numsOf_length ns
  have h2 := drawnOf_length (numsOf ns)
  have h3 : headFigs.length = 12 := rfl
  unfold wholeOf
  rw [octs_length, List.length_append, List.length_map, h2, h3]
  omega
theorem wholeOf_lt (ns : List Int) : ∀ n ∈ wholeOf ns, n < 256 := digits_lt (by decide)

/-- the octets left of a turn -/
def rowOf (ns : List Int) (k : Nat) : List Nat := (wholeOf ns).take ((wholeOf ns).length - (k + (numsOf ns).sum) % 3)

theorem zs_sum (ns : List Nat) : (zs ns).sum = ((ns.sum : Nat) : Int) := by
  induction ns with
  | nil => rfl
  | cons a l ih =>
    rw [show zs (a :: l) = (a : Int) :: zs l from rfl, List.sum_cons, ih, List.sum_cons]; push_cast; rfl
theorem bounds_upto (m n : Nat) : sliceBounds none (some (m : Int)) none n = (((0 : Nat) : Int), ((min m n : Nat) : Int), 1) := by
  simp [sliceBounds]; omega
theorem picked_take (ns : List Nat) {m : Nat} (h : m ≤ ns.length) : KBy.picked (bA ns) none (some (m : Int)) = bA (ns.take m) := by
  unfold KBy.picked
  rw [bA_size, bounds_upto]
  unfold Builtin.Bytes.sliced
  simp only [sliceRange_one, pick_run]
  rw [Nat.min_eq_left h]
  apply Array.ext'
  simp [bA, byteArr, zs, List.map_take]
theorem join_ones' (l : List Nat) (f : Nat → Nat) : Txt.join (tx []) (l.map fun n => tx [f n]) = tx (l.map f) := by
  show Builtin.Str.glued (tx []) _ = _
  rw [StrLaws.glued_eq_join]
  induction l with
  | nil => rfl
  | cons a l ih =>
    cases l with
    | nil => rfl
    | cons b l =>
      rw [List.map_cons, List.map_cons] at *
      show tx [f a] ++ tx [] ++ Str.join (tx []) (tx [f b] :: _) = _
      rw [ih, tx_append, tx_append]; rfl
theorem joinOk_ones (l : List Nat) (f : Nat → Nat) (h : l.length ≤ 1000) : JoinOk (tx []) (l.map fun n => tx [f n]) = true := by
  unfold JoinOk
  have : ∀ (l : List Nat) (k : Nat), (l.map fun n => tx [f n]).foldl (fun x1 x2 => x1 + x2.length + (tx []).length) k = k + l.length := by
    intro l
    induction l with
    | nil => intro k; rfl
    | cons a l ih => intro k; rw [List.map_cons, List.foldl_cons, ih, tx_length, tx_length]; simp; omega
  rw [List.foldl_toArray, this]
  unfold Builtin.Str.tooLong
  rw [sizeLine_eq]
  simp; omega

/-! ## a call that may note in the frames around -/
theorem callU {c : Cx} {ρ : Vars} {own : Own} {x : Str} {i : Nat} {es : List Expr} {ds : List D} {d : D} {p pos : Pos} {room : Nat} {outer : List Env} (hC : ConU c.prog c.w c.mg c.mb room i ds d) (h : Evs c ρ own es ds)
    {g : Part} {s : Shared} {Q E : Value → Shared → Prop} (F : Fm c ρ own g s.heap) (hA : c.A.frames = some outer) (hfr : Frs s.heap outer) (hg : ∀ b ∈ fas outer, g b = none)
    (hQ : ∀ v g' h' k, GrowU (fas outer) g s.heap g' h' → Is g' v d → Q v { s with heap := h', toks := k })
    (hx : fnName i = x := by rfl) (hi : i ∈ defIdx := by decide) (hr : room ≤ c.room := by exact Nat.le_of_ble_eq_true rfl) (hk : c.env.kindOf x = some .globalImplicit := by rfl) (hd : (x == ("__debug__" : Str)) = false := by rfl) :
    wpAny c.M c.A (eval (.Call (.Name x p) es [] pos) c.env) Q E s := by
  have G := F.ok.glb.keep F.keep₀
  obtain ⟨f, dV, kV, hf⟩ := G.fn i hi
  obtain ⟨o, doc, pm, an, cd, ct, hf1, hf2, hf3⟩ := hf.o
  refine wpAny_Call_Name_kw (load_glb F hk (hx ▸ hf.g) hd ?_)
  refine Calls.callWith_function (o := o) (h.evalArgs F fun vs g₁ h₁ k₁ G₁ I₁ => ⟨⟨G₁.keep _ _ hf1, hf2⟩, ?_⟩)
  have F₁ := F.grow G₁
  have hlive := hfr.live
  refine hC c.A g₁ _ f dV kV vs _ _ outer (F.ok.rm.le hr) hA (hfr.keep G₁.keep) (fun b hb => off_grow G₁ (hg b hb) ?_) (G.keep G₁.keep) (hf.keep G₁.keep) F₁.inn I₁ fun v g₂ h₂ k₂ G₂ I₂ => hQ v g₂ h₂ k₂ (GrowU.trans G₁.u G₂ hlive) I₂
  obtain ⟨m, o, _, _, e, _⟩ := hlive b hb
  rw [e]; intro q; cases q

section
variable {prog : Program} {w : World} {mg mb : Str → Option Value} {A : Around} {L f : Addr} {cd : Value} {h₀ : Heap} {g₀ : Part} {Φ : Fl → Vars → Own → Prop} {rest : List Stmt}

theorem law_numbers (ns : List Int) (hl : ns.length ≤ 63) {ρ : Vars} (hs : ρ "script" = some (.list (ns.map .int))) (hrest : Ex (fnCx prog w A 5 mg mb 27 L f cd h₀ g₀) (ρ.set "numbers" (nl (numsOf ns))) [] rest Φ) :
    Ex (fnCx prog w A 5 mg mb 27 L f cd h₀ g₀) ρ [] ((fnBody 27).take 1 ++ rest) Φ := by
  have hlen : ((ns.take 5).map D.int).length ≤ 5 := by simp; omega
  refine Ex.assignCompN (ItSrc.listD (ds := (ns.take 5).map .int) (Ev.eq (Ev.sliceList (ds := ns.map .int) (a := 0) (b := min 5 ns.length) (Ev.name hs) .none (.some Ev.int) ?_ (by simp; omega)) ?_)) (compOk_of rfl .nil rfl rfl rfl rfl rfl) (fun i => [.int (((((ns.take 5).getD i 0) % 65536).toNat : Nat) : Int)]) ?_ ?_ (by omega) rfl (fun _ _ _ => rfl)
  · rw [List.length_map]; exact bounds_upto 5 ns.length
  · congr 1
    rw [List.drop_zero, Nat.sub_zero, ← List.map_take]
    congr 1
    rcases Nat.le_total 5 ns.length with h | h
    · rw [Nat.min_eq_left h]
    · rw [Nat.min_eq_right h, List.take_of_length_le (Nat.le_refl _), List.take_of_length_le h]
  · intro C h₀' g₀' own' i hi
    rw [intD_getD (ns.take 5) i (by rwa [List.length_map] at hi)]
    refine .plain (Ev.eq (Ev.mod (Ev.callInt (Ev.name rfl)) (Ev.pow Ev.int Ev.int (by decide) (by decide) (by decide)) (by decide)) ?_)
    congr 1
    have : ((2 : Int) ^ (16 : Int).toNat) = 65536 := by decide
    rw [this]; omega
  · have e : D.list ((List.range ((ns.take 5).map D.int).length).flatMap fun i => [D.int (((((ns.take 5).getD i 0) % 65536).toNat : Nat) : Int)]) = nl (numsOf ns) := by
      rw [flatMap_one]
      unfold nl numsOf zs
      rw [List.map_map, List.map_map, List.length_map]
      congr 1
      have := range_getD (ns.take 5) 0
      conv => rhs; rw [← this]
      rw [List.map_map]; rfl
    rw [e]; exact hrest
end
end Mine

/-! text M35 -/
namespace Mine
theorem take_getD {α : Type} (l : List α) (d : α) {j : Nat} (h : j < l.length) : l.take j ++ [l.getD j d] = l.take (j + 1) := by
  rw [List.take_add_one, List.getD_eq_getElem?_getD, List.getElem?_eq_getElem h]; rfl
section
variable {prog : Program} {w : World} {mg mb : Str → Option Value} {A : Around} {L f : Addr} {cd : Value} {h₀ : Heap} {g₀ : Part} {Φ : Fl → Vars → Own → Prop} {rest : List Stmt}

theorem law_drawn (ns : List Int) {ρ : Vars} (hn : ρ "numbers" = some (nl (numsOf ns))) (hrest : Ex (fnCx prog w A 5 mg mb 27 L f cd h₀ g₀) (ρ.set "drawn" (nl (drawnOf (numsOf ns)))) [] rest Φ) :
    Ex (fnCx prog w A 5 mg mb 27 L f cd h₀ g₀) ρ [] (((fnBody 27).drop 1).take 1 ++ rest) Φ := by
  have hlen := numsOf_length ns
  refine Ex.assignComp2 (y := "drawn") (n := ((zs (numsOf ns)).map D.int).length) (out := (zs (drawnOf (numsOf ns))).map .int) (ItSrc.listD (ds := (zs (numsOf ns)).map .int) (Ev.name hn)) (compOk_of rfl .nil rfl rfl rfl rfl rfl) (by rw [zsD_length]; omega)
    (fun i ds inn => ds = (zs (drawnOf ((numsOf ns).take i))).map .int ∧ inn = []) ⟨rfl, rfl⟩ ?_ ?_ hrest (by rfl)
  · rintro C h₀' g₀' a i ds inn hi ⟨rfl, rfl⟩
    rw [zsD_length] at hi
    have hdlen := drawnOf_length ((numsOf ns).take i)
    rw [List.length_take] at hdlen
    refine ⟨(·.set "number" (.int ((numsOf ns).getD i 0 : Nat))), fun g v h g' hs hI _ => Bind.name (by have := Is.sub hs hI; dsimp only at this; rwa [zsD_getD _ _ hi] at this) rfl, ?_, cap_set rfl _⟩
    intro g₁ s₁ E₁ F₁
    generalize hn0 : (numsOf ns).getD i 0 = n0 at F₁
    have e0 : drawnOf ((numsOf ns).take (i + 1)) = drawnOf ((numsOf ns).take i) ++ [n0 % 256, n0 / 256] := by rw [drawnOf_take hi, hn0]
    generalize hdr : drawnOf ((numsOf ns).take i) = dr at F₁ hdlen e0
    have src := ItSrc.tupleD (c := compCx (fnCx prog w A 5 mg mb 27 L f cd h₀ g₀) (match (fnBody 27).drop 1 with | .Assign _ (.ListComp _ _ sc _) _ :: _ => sc | _ => (fnScope 27)) [] C h₀' g₀') (ρ := Vars.set (capVars [] ρ) "number" (.int (n0 : Nat))) (own := [(a, (zs dr).map .int)]) (x := "octet") (px := match (fnBody 27).drop 1 with | .Assign _ (.ListComp _ (_ :: ⟨.Name _ q, _, _, _⟩ :: _) _ _) _ :: _ => q | _ => default)
      (iter := match (fnBody 27).drop 1 with | .Assign _ (.ListComp _ (_ :: ⟨_, it, _, _⟩ :: _) _ _) _ :: _ => it | _ => default) (ds := [.int ((n0 % 256 : Nat) : Int), .int ((n0 / 256 : Nat) : Int)])
      (Ev.tuple (.cons (Ev.eq (Ev.mod (Ev.name rfl) Ev.int (by decide)) (by push_cast; rfl)) (by intro _ _ q; cases q) (.cons (Ev.eq (Ev.div (Ev.name rfl) Ev.int (by decide) (by decide)) (by push_cast; rfl)) (by intro _ _ q; cases q) .nil)))
    refine wpAny_mono (inner_loop src (fun j own => ∃ xs : List D, own = [(a, xs)] ∧ xs = (zs dr).map .int ++ ([D.int ((n0 % 256 : Nat) : Int), .int ((n0 / 256 : Nat) : Int)]).take j) ⟨_, rfl, by simp⟩ ?_ (by intro _; rfl) g₁ s₁ E₁ F₁) (fun _ s₂ q => ?_) fun _ _ e => e
    · rintro j own hj ⟨xs, rfl, rfl⟩
      refine ⟨(·.set "octet" (([D.int ((n0 % 256 : Nat) : Int), .int ((n0 / 256 : Nat) : Int)]).getD j .none)), fun g v h g' hs hI _ => Bind.name (Is.sub hs hI) rfl, ?_, fun x d hx => ?_⟩
      · intro g₂ s₂ E₂ F₂
        refine wpAny_mono (act_append (inn := []) (K := fun ds' inn' => inn' = [] ∧ ds' = (zs dr).map .int ++ ([D.int ((n0 % 256 : Nat) : Int), .int ((n0 / 256 : Nat) : Int)]).take (j + 1)) ?_ (ElOk.ev (Ev.name rfl) ⟨rfl, ?_⟩) g₂ s₂ E₂ F₂) (fun _ s₃ q => ?_) fun _ _ e => e
        · simp [zs]; omega
        · rw [List.append_assoc, take_getD _ _ hj]
        · obtain ⟨g₃, h₃, k₃, own₃, e1, e2, e3, ds', inn', rfl, _, rfl, rfl⟩ := q
          exact ⟨g₃, h₃, k₃, _, e1, e2, e3, _, rfl, rfl⟩
      · have hxo : x ≠ "octet" := by
          rintro rfl
          have hne : ("octet" : Str) ≠ "number" := by decide
          rw [Vars.set, if_neg hne] at hx
          cases hx
        simp [Vars.set, hxo] at hx ⊢
        exact hx
    · obtain ⟨g₂, h₂, k₂, own₂, e1, e2, e3, xs, rfl, rfl⟩ := q
      refine ⟨g₂, h₂, k₂, _, [], e1, e2, e3, ?_, rfl⟩
      rw [e0, zs_append, List.map_append]; rfl
  · rintro ds inn ⟨rfl, rfl⟩
    rw [zsD_length, List.take_length]
end
end Mine

/-! text M36 -/
namespace Mine
section
variable {prog : Program} {w : World} {mg mb : Str → Option Value} {A : Around} {L f : Addr} {cd : Value} {h₀ : Heap} {g₀ : Part} {Φ : Fl → Vars → Own → Prop} {rest : List Stmt}

theorem law_figures (ns : List Int) {ρ : Vars} (hn : ρ "drawn" = some (nl (drawnOf (numsOf ns)))) (hrest : Ex (fnCx prog w A 5 mg mb 27 L f cd h₀ g₀) (ρ.set "figures" (nl ((drawnOf (numsOf ns)).map figOf))) [] rest Φ) :
    Ex (fnCx prog w A 5 mg mb 27 L f cd h₀ g₀) ρ [] (((fnBody 27).drop 2).take 1 ++ rest) Φ := by
  have hlen := numsOf_length ns
  have hdl := drawnOf_length (numsOf ns)
  generalize drawnOf (numsOf ns) = dr at hn hrest hdl
  refine Ex.assignCompN (ItSrc.listD (ds := (zs dr).map .int) (Ev.name hn)) (compOk_of rfl .nil rfl rfl rfl rfl rfl) (fun i => [.int ((figOf (dr.getD i 0) : Nat) : Int)]) ?_ ?_ (by rw [zsD_length]; omega) rfl (fun _ _ _ => rfl)
  · intro C h₀' g₀' own' i hi
    rw [zsD_length] at hi
    rw [zsD_getD _ _ hi]
    generalize dr.getD i 0 = o
    refine .plain (Ev.eq (Ev.ifexp (Et.gt (Ev.mod (Ev.name rfl) Ev.int (by decide)) Ev.int) (fun _ => Ev.add Ev.int (Ev.mod (Ev.name rfl) Ev.int (by decide))) fun _ => Ev.div (Ev.name rfl) Ev.int (by decide) (by decide)) ?_)
    unfold figOf
    by_cases h : o % 4 > 1
    · have h' : (1 : Int) < (o : Int) % 4 := by omega
      rw [if_pos h, if_pos (by simpa using h')]
      push_cast; rfl
    · have h' : ¬ (1 : Int) < (o : Int) % 4 := by omega
      rw [if_neg h, if_neg (by simpa using h')]
      push_cast; rfl
  · have e : D.list ((List.range ((zs dr).map D.int).length).flatMap fun i => [D.int ((figOf (dr.getD i 0) : Nat) : Int)]) = nl (dr.map figOf) := by
      rw [flatMap_one, zsD_length, zsD_map (f := fun i => figOf (dr.getD i 0))]
      unfold nl
      congr 2
      have := range_getD dr 0
      conv => rhs; rw [← this]
      rw [List.map_map]; rfl
    rw [e]; exact hrest

def headD : List D := [.int 62, .int 63, .int 62, .int 62, .int 63, .int 0, .int 62, .int 63, .int 63, .int 62, .int 63, .int 62]
theorem headD_eq : headD = (zs headFigs).map .int := by simp only [headD, headFigs, zs, List.map_cons, List.map_nil]; rfl
theorem headD_length : headD.length = 12 := rfl
theorem headFigs_length : headFigs.length = 12 := rfl
theorem headD_len : headD.length ≤ 16000000 := by
  have : headD.length = 12 := rfl
  rw [this]; exact Nat.le_of_ble_eq_true rfl
theorem const_plain (i : Int) (k : Nat) (pos : Pos) (x : Expr) (p : Pos) : Expr.Constant (.int i) k pos ≠ .Starred x p := by intro q; cases q
theorem ev_list12 {c : Cx} {ρ : Vars} (p0 p1 p2 p3 p4 p5 p6 p7 p8 p9 p10 p11 p12 : Pos) : Ev c ρ [] (.List [.Constant (.int 62) 0 p1, .Constant (.int 63) 0 p2, .Constant (.int 62) 0 p3, .Constant (.int 62) 0 p4, .Constant (.int 63) 0 p5, .Constant (.int 0) 0 p6, .Constant (.int 62) 0 p7, .Constant (.int 63) 0 p8, .Constant (.int 63) 0 p9, .Constant (.int 62) 0 p10, .Constant (.int 63) 0 p11, .Constant (.int 62) 0 p12] p0) (.list headD) := by
  have hc : ∀ (i : Int) {k : Nat} {pos : Pos}, Ev c ρ [] (.Constant (.int i) k pos) (.int i) := fun _ _ _ => Ev.int
  have hE : Evs c ρ [] [.Constant (.int 62) 0 p1, .Constant (.int 63) 0 p2, .Constant (.int 62) 0 p3, .Constant (.int 62) 0 p4, .Constant (.int 63) 0 p5, .Constant (.int 0) 0 p6, .Constant (.int 62) 0 p7, .Constant (.int 63) 0 p8, .Constant (.int 63) 0 p9, .Constant (.int 62) 0 p10, .Constant (.int 63) 0 p11, .Constant (.int 62) 0 p12] headD :=
    .cons (hc 62) (const_plain _ _ _) (.cons (hc 63) (const_plain _ _ _) (.cons (hc 62) (const_plain _ _ _) (.cons (hc 62) (const_plain _ _ _) (.cons (hc 63) (const_plain _ _ _) (.cons (hc 0) (const_plain _ _ _) (.cons (hc 62) (const_plain _ _ _) (.cons (hc 63) (const_plain _ _ _) (.cons (hc 63) (const_plain _ _ _) (.cons (hc 62) (const_plain _ _ _) (.cons (hc 63) (const_plain _ _ _) (.cons (hc 62) (const_plain _ _ _) .nil)))))))))))
  exact @Ev.list c ρ [] _ p0 headD hE headD_len
theorem law_whole (ns : List Int) {ρ : Vars} (hn : ρ "figures" = some (nl ((drawnOf (numsOf ns)).map figOf))) (hrest : Ex (fnCx prog w A 5 mg mb 27 L f cd h₀ g₀) (ρ.set "whole" (.bytes (bA (wholeOf ns)))) [] rest Φ) :
    Ex (fnCx prog w A 5 mg mb 27 L f cd h₀ g₀) ρ [] (((fnBody 27).drop 3).take 1 ++ rest) Φ := by
  have hlen := numsOf_length ns
  have hdl := drawnOf_length (numsOf ns)
  have hfl : ((drawnOf (numsOf ns)).map figOf).length ≤ 10 := by rw [List.length_map]; omega
  generalize hfs : (drawnOf (numsOf ns)).map figOf = fs at hfl hn
  have hw : wholeOf ns = octs (headFigs ++ fs) := by unfold wholeOf; rw [hfs]
  rw [hw] at hrest
  have hh := headFigs_length
  obtain ⟨hd, e1, e2, e3⟩ : ∃ hd : List D, (∀ p0 p1 p2 p3 p4 p5 p6 p7 p8 p9 p10 p11 p12, Ev (fnCx prog w A 5 mg mb 27 L f cd h₀ g₀) ρ [] (.List [.Constant (.int 62) 0 p1, .Constant (.int 63) 0 p2, .Constant (.int 62) 0 p3, .Constant (.int 62) 0 p4, .Constant (.int 63) 0 p5, .Constant (.int 0) 0 p6, .Constant (.int 62) 0 p7, .Constant (.int 63) 0 p8, .Constant (.int 63) 0 p9, .Constant (.int 62) 0 p10, .Constant (.int 63) 0 p11, .Constant (.int 62) 0 p12] p0) (.list hd)) ∧ hd = (zs headFigs).map .int ∧ hd.length = 12 := ⟨headD, @ev_list12 (fnCx prog w A 5 mg mb 27 L f cd h₀ g₀) ρ, headD_eq, headD_length⟩
  generalize headFigs = hf at hh e2 hrest hw
  have hsum : hd.length + ((zs fs).map D.int).length ≤ 16000000 := by rw [zsD_length, e3]; omega
  have hfs100 : (hf ++ fs).length ≤ 100 := by rw [List.length_append, hh]; omega
  have hD : D.list (hd ++ (zs fs).map .int) = nl (hf ++ fs) := by unfold nl; rw [zs_append, List.map_append, e2]
  refine Ex.assign (d := .bytes (bA (octs (hf ++ fs)))) ?_ hrest
  refine Ev.call (con_octets (hf ++ fs) hfs100) (.cons ?_ (by intro _ _ q; cases q) .nil)
  rw [← hD]
  refine @Ev.addList (fnCx prog w A 5 mg mb 27 L f cd h₀ g₀) ρ [] _ _ _ hd ((zs fs).map .int) ?_ ?_ hsum
  · exact @e1 _ _ _ _ _ _ _ _ _ _ _ _ _
  · exact Ev.name hn

theorem law_pre (ns : List Int) (hl : ns.length ≤ 63) (hrest : ∀ ρ : Vars, ρ "numbers" = some (nl (numsOf ns)) → ρ "whole" = some (.bytes (bA (wholeOf ns))) → Ex (fnCx prog w A 5 mg mb 27 L f cd h₀ g₀) ρ [] ((fnBody 27).drop 4) Φ) :
    Ex (fnCx prog w A 5 mg mb 27 L f cd h₀ g₀) (bindVars [("script", .list (ns.map .int))] fun _ => none) [] (fnBody 27) Φ := by
  refine law_numbers (rest := (fnBody 27).drop 1) ns hl rfl ?_
  refine law_drawn (rest := (fnBody 27).drop 2) ns rfl ?_
  refine law_figures (rest := (fnBody 27).drop 3) ns rfl ?_
  refine law_whole (rest := (fnBody 27).drop 4) ns rfl ?_
  exact hrest _ rfl rfl
end
end Mine

/-! text M37 -/
namespace Mine
def loopBody : List Stmt := match (fnBody 27).drop 4 with | .For _ _ b _ _ :: _ => b | _ => []

theorem bA_append (a b : List Nat) : (bA a) ++ (bA b) = bA (a ++ b) := by
  apply Array.ext'; simp [bA, byteArr, zs]
theorem pre_signs : tx preSigns = Str.ofString "ABCDEFGHIJKLMNOPQRSTUVWXYZabcdefghijklmnopqrstuvwxyz0123456789" := by decide +kernel
theorem preSigns_length : preSigns.length = 62 := by decide +kernel
theorem signsOf_length (p q : Nat) : (signsOf p q).length = 65 := by unfold signsOf; rw [List.length_append, List.length_append, preSigns_length]; rfl
theorem tx_cps (l : List Nat) : (tx l).cps = l.toArray := rfl

/-- where a sign stands in a text -/
def occ (l : List Nat) (x : Nat) : List Nat := Builtin.Str.occurrences (tx l) (tx [x]) 0 (tx l).length 1
def occMark (l : List Nat) : Int := match l with
  | [] => -1
  | i :: _ => 62 + (i : Int)
theorem occ_six : ∀ y ∈ sixPairs, occMark (occ [y.1, y.2] 44) = markOf y.1 y.2 44 ∧ occMark (occ [y.1, y.2] 34) = markOf y.1 y.2 34 ∧ occMark (occ [y.1, y.2] 92) = markOf y.1 y.2 92 := by decide +kernel

section
variable {prog : Program} {w : World} {mg mb : Str → Option Value} {A : Around} {L f : Addr} {cd : Value} {h₀ : Heap} {g₀ : Part} {Φ : Fl → Vars → Own → Prop} {rest : List Stmt} {p q : Nat}

theorem law_alt (H : PairOk p q) {ρ : Vars} (hp : ρ "pair" = some (.str (tx [p, q]))) (hrest : Ex (fnCx prog w A 5 mg mb 27 L f cd h₀ g₀) (ρ.set "altchars" (.bytes (bA [p, q]))) [] rest Φ) :
    Ex (fnCx prog w A 5 mg mb 27 L f cd h₀ g₀) ρ [] (loopBody.take 1 ++ rest) Φ := by
  have h1 := H.hp
  have h2 := H.hq
  refine Ex.assign (d := .bytes (bA [p, q])) (Ev.eq (Ev.encode (x := tx [p, q]) (Ev.name hp) ?_ ?_) (by rw [asciiOf_tx])) hrest
  · intro y hy
    have : y = p ∨ y = q := by simpa [tx] using hy
    omega
  · show 2 ≤ 16000000; omega

theorem law_signs {ρ : Vars} (hp : ρ "pair" = some (.str (tx [p, q]))) (hrest : Ex (fnCx prog w A 5 mg mb 27 L f cd h₀ g₀) (ρ.set "signs" (.str (tx (signsOf p q)))) [] rest Φ) :
    Ex (fnCx prog w A 5 mg mb 27 L f cd h₀ g₀) ρ [] ((loopBody.drop 1).take 1 ++ rest) Φ := by
  have e0 : tx preSigns ++ tx [p, q] ++ tx [61] = tx (signsOf p q) := by rw [tx_append, tx_append]; rfl
  have z1 : (tx preSigns).length + (tx [p, q]).length ≤ 16000000 := by rw [tx_length, tx_length, preSigns_length]; show 64 ≤ 16000000; omega
  have z2 : (tx preSigns ++ tx [p, q]).length + (tx [61]).length ≤ 16000000 := by rw [tx_append, tx_length, tx_length, List.length_append, preSigns_length]; show 65 ≤ 16000000; omega
  rw [← e0] at hrest
  rw [pre_signs] at hrest z1 z2
  exact Ex.assign (Ev.addStr (y := tx [61]) (Ev.addStr Ev.cstr (Ev.name hp) z1) Ev.cstr z2) hrest

theorem law_row (ns : List Int) (k : Nat) (hk : k < 6) {ρ : Vars} (hw : ρ "whole" = some (.bytes (bA (wholeOf ns)))) (hkk : ρ "k" = some (.int (k : Nat))) (hn : ρ "numbers" = some (nl (numsOf ns)))
    (hrest : Ex (fnCx prog w A 5 mg mb 27 L f cd h₀ g₀) (ρ.set "row" (.bytes (bA (rowOf ns k)))) [] rest Φ) :
    Ex (fnCx prog w A 5 mg mb 27 L f cd h₀ g₀) ρ [] ((loopBody.drop 2).take 1 ++ rest) Φ := by
  obtain ⟨h9, h17⟩ := wholeOf_length ns
  have hnl := numsOf_length ns
  have hlt := numsOf_lt ns
  have hnz : (zs (numsOf ns)).length ≤ 1000 := by rw [zs_length]; omega
  have hz : (wholeOf ns).length ≤ 16000000 := by omega
  have hz' : (bA (wholeOf ns)).size ≤ 16000000 := by rw [bA_size]; exact hz
  have hint : ((wholeOf ns).length : Int) - (((k : Nat) : Int) + (zs (numsOf ns)).sum) % 3 = (((wholeOf ns).length - (k + (numsOf ns).sum) % 3 : Nat) : Int) := by
    rw [zs_sum]; omega
  refine Ex.assign (d := .bytes (bA (rowOf ns k))) (Ev.eq (Ev.sliceBytes (Ev.name hw) .none (.some (Ev.sub (lenBytesN (Ev.name hw) hz) (Ev.mod (Ev.add (Ev.name hkk) (Ev.sum (ns := zs (numsOf ns)) (Ev.name hn) (zs_mem (B := 65536) hlt) hnz)) Ev.int (by decide)))) hz') ?_) hrest
  rw [hint, picked_take _ (by omega)]; rfl

theorem law_marks (H : (p, q) ∈ sixPairs) {ρ : Vars} (hp : ρ "pair" = some (.str (tx [p, q]))) (hrest : Ex (fnCx prog w A 5 mg mb 27 L f cd h₀ g₀) (ρ.set "marks" (.list [.int (markOf p q 44), .int (markOf p q 34), .int (markOf p q 92)])) [] rest Φ) :
    Ex (fnCx prog w A 5 mg mb 27 L f cd h₀ g₀) ρ [] ((loopBody.drop 3).take 1 ++ rest) Φ := by
  obtain ⟨o1, o2, o3⟩ := occ_six (p, q) H
  have hstr : tx [44, 34, 92] = Str.ofString ",\"\\" := by decide
  have e : D.list ((List.range (tx [44, 34, 92]).cps.size).flatMap fun i => [D.int (occMark (occ [p, q] ((tx [44, 34, 92]).cps.getD i 0)))]) = .list [.int (markOf p q 44), .int (markOf p q 34), .int (markOf p q 92)] := by
    rw [← o1, ← o2, ← o3]; rfl
  rw [← e] at hrest
  refine Ex.assignCompN (ItSrc.strD (t := tx [44, 34, 92]) (by rw [hstr]; exact Ev.cstr)) (compOk_of rfl (.cons rfl .nil) rfl rfl rfl rfl rfl) (fun i => [D.int (occMark (occ [p, q] ((tx [44, 34, 92]).cps.getD i 0)))]) ?_ hrest (by show 3 ≤ 15000000; omega) rfl (fun _ _ _ => rfl)
  intro C h₀' g₀' own' i hi
  generalize (tx [44, 34, 92]).cps.getD i 0 = x
  have hb : (!(Builtin.Str.occurrences (tx [p, q]) (tx [x]) 0 (tx [p, q]).length 1).isEmpty) = !(occ [p, q] x).isEmpty := rfl
  have ho' : Builtin.Str.occurrences (tx [p, q]) (tx [x]) 0 (tx [p, q]).length 1 = occ [p, q] x := rfl
  generalize occ [p, q] x = oc at hb ho'
  cases oc with
  | nil =>
    refine .plain (Ev.eq (Ev.ifexp (t := false) (d₁ := .none) (Et.eq (Et.inStr (x := tx [p, q]) (y := tx [x]) (Ev.name rfl) (Ev.name hp)) hb) (fun z => nomatch z) fun _ => Ev.neg Ev.int) rfl)
  | cons j r =>
    refine .plain (Ev.eq (Ev.ifexp (t := true) (d₂ := .none) (Et.eq (Et.inStr (x := tx [p, q]) (y := tx [x]) (Ev.name rfl) (Ev.name hp)) hb) (fun _ => Ev.add Ev.int (Ev.index (x := tx [p, q]) (y := tx [x]) (Ev.name hp) (Ev.name rfl) ho')) fun z => nomatch z) rfl)
end
end Mine

/-! text M38 -/
namespace Mine

theorem bA_cons (c : Nat) (cs : List Nat) : bA (c :: cs) = (c.toUInt8 :: cs.map (·.toUInt8)).toArray := by
  apply Array.ext'; simp [bA, byteArr, zs]
theorem Ev.decodeN {c : Cx} {ρ : Vars} {own : Own} {o : Expr} {apos pos cp : Pos} {k : Nat} {cs : List Nat} (h : Ev c ρ own o (.bytes (bA cs))) (hne : cs ≠ []) (ha : ∀ y ∈ cs, y < 128) (hz : cs.length ≤ 16000000) (hline : (apos.endLine == pos.line) = true := by rfl) (hbase : attributeBase o "decode" c.env (eval o c.env) = eval o c.env := by rfl) :
    Ev c ρ own (.Call (.Attribute o "decode" apos) [.Constant (.str "ascii") k cp] [] pos) (.str (tx cs)) := by
  cases cs with
  | nil => exact absurd rfl hne
  | cons y ys =>
    have back : ∀ y, y < 128 → (y.toUInt8).toNat = y := fun y hy => by simp; omega
    rw [bA_cons] at h
    refine Ev.eq (Ev.decode h ?_ ?_ hline hbase) ?_
    · intro u hu
      rcases List.mem_cons.mp hu with rfl | hu
      · rw [back y (ha y (.head _))]; exact ha y (.head _)
      · obtain ⟨z, hz, rfl⟩ := List.mem_map.mp hu
        rw [back z (ha z (.tail _ hz))]; exact ha z (.tail _ hz)
    · simpa using hz
    · congr 1
      unfold tx
      congr 1
      apply Array.ext'
      simp only [List.map_toArray, List.map_cons, List.map_map]
      rw [back y (ha y (.head _))]
      congr 1
      conv => rhs; rw [← List.map_id ys]
      apply List.map_congr_left
      intro z hz
      exact back z (ha z (.tail _ hz))

theorem rowOf_length (ns : List Int) (k : Nat) : 7 ≤ (rowOf ns k).length ∧ (rowOf ns k).length ≤ 17 := by
  obtain ⟨h9, h17⟩ := wholeOf_length ns
  unfold rowOf
  rw [List.length_take]; omega
theorem rowOf_lt (ns : List Int) (k : Nat) : ∀ n ∈ rowOf ns k, n < 256 := fun n hn => wholeOf_lt ns n (List.mem_of_mem_take hn)
theorem figs_len (ns : List Int) (k : Nat) : 1 ≤ (figs (rowOf ns k)).length ∧ (figs (rowOf ns k)).length ≤ 30 := by
  obtain ⟨h7, h17⟩ := rowOf_length ns k
  rw [figs_length]; omega

/-- the parts, as the law's row says -/
def prt (fs : List Nat) (p q : Nat) : List (List Nat) := partsOf fs (markOf p q 44) (markOf p q 34) (markOf p q 92)

section
variable {prog : Program} {w : World} {mg mb : Str → Option Value} {A : Around} {L f : Addr} {cd : Value} {h₀ : Heap} {g₀ : Part} {Φ : Fl → Vars → Own → Prop} {rest : List Stmt} {p q : Nat}

theorem law_partsS (row : List Nat) (hl : row.length ≤ 60) (hr : ∀ n ∈ row, n < 256) {ρ : Vars} (hw : ρ "row" = some (.bytes (bA row))) (hm : ρ "marks" = some (.list [.int (markOf p q 44), .int (markOf p q 34), .int (markOf p q 92)]))
    (hrest : Ex (fnCx prog w A 5 mg mb 27 L f cd h₀ g₀) (ρ.set "parts" (.list ((prt (figs row) p q).map nl))) [] rest Φ) :
    Ex (fnCx prog w A 5 mg mb 27 L f cd h₀ g₀) ρ [] ((loopBody.drop 4).take 1 ++ rest) Φ := by
  have hfl : (figs row).length ≤ 100 := by rw [figs_length]; omega
  refine Ex.assign (Ev.call (con_parts (figs row) (markOf p q 44) (markOf p q 34) (markOf p q 92) hfl) (.cons (Ev.call (con_figures row (by omega) hr) (.cons (Ev.name hw) (by intro _ _ q; cases q) .nil)) (by intro _ _ q; cases q)
    (.cons (Ev.itemList (k := 0) (Ev.name hm) Ev.int (by decide) (by decide) rfl) (by intro _ _ q; cases q) (.cons (Ev.itemList (k := 1) (Ev.name hm) Ev.int (by decide) (by decide) rfl) (by intro _ _ q; cases q) (.cons (Ev.itemList (k := 2) (Ev.name hm) Ev.int (by decide) (by decide) rfl) (by intro _ _ q; cases q) .nil))))) hrest

theorem law_told (H : PairOk p q) (row : List Nat) (hl : row.length ≤ 60) (h1 : 1 ≤ (figs row).length) (hr : ∀ n ∈ row, n < 256) {ρ : Vars} (hw : ρ "row" = some (.bytes (bA row))) (ha : ρ "altchars" = some (.bytes (bA [p, q])))
    (hrest : Ex (fnCx prog w A 5 mg mb 27 L f cd h₀ g₀) (ρ.set "told" (.list (txs ((prt (figs row) p q).map (·.map (sgP p q)))))) [] rest Φ) :
    Ex (fnCx prog w A 5 mg mb 27 L f cd h₀ g₀) ρ [] ((loopBody.drop 5).take 1 ++ rest) Φ := by
  have hfl : (figs row).length ≤ 100 := by rw [figs_length]; omega
  have hpm : parse ((figs row).map (sgP p q)) = (prt (figs row) p q).map (·.map (sgP p q)) := parse_map H (figs row) (figs_le row)
  have hrng : ∀ c ∈ (figs row).map (sgP p q), 33 ≤ c ∧ c < 127 := fun c hc => by
    obtain ⟨n, hn, rfl⟩ := List.mem_map.mp hc
    exact H.range (figs_le row n hn)
  have hne : (figs row).map (sgP p q) ≠ [] := fun e => by
    have := congrArg List.length e
    rw [List.length_map, List.length_nil] at this; omega
  have hlen : ((figs row).map (sgP p q)).length ≤ 100 := by rw [List.length_map]; exact hfl
  rw [← hpm] at hrest
  refine Ex.assign (Ev.call (con_parse ((figs row).map (sgP p q)) (by omega) hrng) (.cons (Ev.decodeN (cs := (figs row).map (sgP p q)) (Ev.call (con_encode row p q (by omega) hr) (.cons (Ev.name hw) (by intro _ _ q; cases q) (.cons (Ev.name ha) (by intro _ _ q; cases q) .nil))) hne ?_ (by omega)) (by intro _ _ q; cases q) .nil)) hrest
  intro y hy
  have := (hrng y hy).2; omega

theorem txs_flat (ls : List (List Nat)) : (txs ls).all D.flat = true := by
  unfold txs; rw [List.all_map]; exact List.all_eq_true.mpr fun _ _ => rfl
theorem nls_getD (ls : List (List Nat)) (i : Nat) (h : i < ls.length) : (ls.map nl).getD i .none = nl (ls.getD i []) := by
  rw [List.getD_eq_getElem?_getD, List.getD_eq_getElem?_getD, List.getElem?_map, List.getElem?_eq_getElem h]; rfl
theorem getD_mem {α : Type} (l : List α) (d : α) {i : Nat} (h : i < l.length) : l.getD i d ∈ l := by
  rw [List.getD_eq_getElem?_getD, List.getElem?_eq_getElem h]; exact List.getElem_mem h

theorem law_if1 (H : PairOk p q) (parts : List (List Nat)) (hc : parts.length ≤ 1000) (hl : ∀ r ∈ parts, r.length ≤ 100) (h65 : ∀ r ∈ parts, ∀ n ∈ r, n < 65) {ρ : Vars} (hs : ρ "signs" = some (.str (tx (signsOf p q)))) (hp : ρ "parts" = some (.list (parts.map nl)))
    (ht : ρ "told" = some (.list (txs (parts.map (·.map (sgP p q)))))) (hrest : Ex (fnCx prog w A 5 mg mb 27 L f cd h₀ g₀) ρ [] rest Φ) :
    Ex (fnCx prog w A 5 mg mb 27 L f cd h₀ g₀) ρ [] ((loopBody.drop 6).take 1 ++ rest) Φ := by
  have e : D.list ((List.range (parts.map nl).length).flatMap fun i => [D.str (tx ((parts.getD i []).map (sgP p q)))]) = .list (txs (parts.map (·.map (sgP p q)))) := by
    rw [flatMap_one, List.length_map]
    unfold txs
    rw [List.map_map]
    congr 1
    have := range_getD parts []
    conv => rhs; rw [← this]
    rw [List.map_map]; rfl
  refine Ex.ite (Et.neSame (Ev.name ht) (Ev.eq (Ev.compN (ItSrc.listD (ds := parts.map nl) (Ev.name hp)) (compOk_of rfl (.cons rfl .nil) rfl rfl rfl rfl rfl) (fun i => [D.str (tx ((parts.getD i []).map (sgP p q)))]) ?_ (by rw [List.length_map]; omega) rfl (fun _ _ _ => rfl)) e) (txs_flat _)) (fun z => nomatch z) fun _ => Ex.nil hrest
  intro C h₀' g₀' own' i hi
  rw [List.length_map] at hi
  rw [nls_getD _ _ hi]
  have hrl := hl _ (getD_mem parts [] hi)
  have hr65 := h65 _ (getD_mem parts [] hi)
  generalize parts.getD i [] = r at hrl hr65
  have e2 : D.list ((List.range ((zs r).map D.int).length).flatMap fun j => [D.str (tx [sgP p q (r.getD j 0)])]) = .list ((r.map fun n => tx [sgP p q n]).map .str) := by
    rw [flatMap_one, zsD_length, List.map_map]
    congr 1
    have := range_getD r 0
    conv => rhs; rw [← this]
    rw [List.map_map]; rfl
  refine .plain (Ev.eq (Ev.join (x := tx []) (xs := r.map fun n => tx [sgP p q n]) Ev.cstr (Ev.eq (Ev.compN (ItSrc.listD (ds := (zs r).map .int) (Ev.name rfl)) (compOk_of rfl (.cons rfl .nil) rfl rfl rfl rfl rfl) (fun j => [D.str (tx [sgP p q (r.getD j 0)])]) ?_ (by rw [zsD_length]; omega) rfl (fun _ _ _ => rfl)) e2) (joinOk_ones r (sgP p q) (by omega))) (by rw [join_ones']))
  intro C' h₁' g₁' own'' j hj
  rw [zsD_length] at hj
  rw [zsD_getD _ _ hj]
  have hn65 := hr65 _ (getD_mem r 0 hj)
  generalize r.getD j 0 = n at hn65
  refine .plain (Ev.itemStr (x := tx (signsOf p q)) (Ev.name hs) (Ev.name rfl) (by omega) (by omega) ?_)
  rw [tx_cps, Int.toNat_natCast, List.getElem?_toArray]
  exact H.sign hn65
end
end Mine

/-! text M39 -/
namespace Mine
section
variable {prog : Program} {w : World} {mg mb : Str → Option Value} {A : Around} {L f : Addr} {cd : Value} {h₀ : Heap} {g₀ : Part} {Φ : Fl → Vars → Own → Prop} {rest : List Stmt} {p q : Nat}

theorem due_flat (r : List Nat) : (dueOf r).flat = true := by unfold dueOf; split <;> rfl
theorem map_getD_range {α β : Type} (l : List α) (d : α) (f : α → β) : (List.range l.length).map (fun i => f (l.getD i d)) = l.map f := by
  have := range_getD l d
  conv => rhs; rw [← this]
  rw [List.map_map]; rfl
theorem fas_law : fas [fnEnv 27 L f cd] = [L] := rfl

theorem law_if2 (hA : A.frames = some []) (H : PairOk p q) (parts : List (List Nat)) (hc : parts.length ≤ 1000) (hl : ∀ r ∈ parts, r.length ≤ 100) (h65 : ∀ r ∈ parts, ∀ n ∈ r, n < 65) {ρ : Vars} (ha : ρ "altchars" = some (.bytes (bA [p, q]))) (hp : ρ "parts" = some (.list (parts.map nl)))
    (ht : ρ "told" = some (.list (txs (parts.map (·.map (sgP p q)))))) (hrest : Ex (fnCx prog w A 5 mg mb 27 L f cd h₀ g₀) ρ [] rest Φ) :
    Ex (fnCx prog w A 5 mg mb 27 L f cd h₀ g₀) ρ [] ((loopBody.drop 7).take 1 ++ rest) Φ := by
  have htl : (txs (parts.map (·.map (sgP p q)))).length = parts.length := by simp [txs]
  have e : D.list ((List.range (parts.map nl).length).flatMap fun i => [dueOf (parts.getD i [])]) = .list (parts.map dueOf) := by
    rw [flatMap_one, List.length_map, map_getD_range]
  have e' : (List.range (txs (parts.map (·.map (sgP p q)))).length).map (fun i => dueOf (parts.getD i [])) = parts.map dueOf := by
    rw [htl, map_getD_range]
  have hread : EvU (fnCx prog w A 5 mg mb 27 L f cd h₀ g₀) ρ [] (match loopBody.drop 7 with | .If (.Compare l _ _ _) _ _ _ :: _ => l | _ => .Name "" default) (.list (parts.map dueOf)) := by
    rw [← e']
    refine EvU.comp (ItSrc.listD (ds := txs (parts.map (·.map (sgP p q)))) (Ev.name ht)) (compOk_of rfl (.cons rfl .nil) rfl rfl rfl rfl rfl) (by rw [htl]; omega) ?_ rfl (fun _ _ _ => rfl)
    intro C h₀' g₀' a ds i hi g s Q E F hL hns hgL hQ
    rw [htl] at hi
    rw [txs_getD _ _ (by rw [List.length_map]; exact hi)] at F
    have hgd : (parts.map (·.map (sgP p q))).getD i [] = (parts.getD i []).map (sgP p q) := by
      rw [List.getD_eq_getElem?_getD, List.getD_eq_getElem?_getD, List.getElem?_map, List.getElem?_eq_getElem hi]; rfl
    rw [hgd] at F
    have hrl := hl _ (getD_mem parts [] hi)
    have hr65 := h65 _ (getD_mem parts [] hi)
    generalize parts.getD i [] = r at hrl hr65 F hQ
    have hC := conU_law (prog := prog) (w := w) (mg := mg) (mb := mb) H r hrl hr65
    refine callU (c := compCx (fnCx prog w A 5 mg mb 27 L f cd h₀ g₀) (match loopBody.drop 7 with | .If (.Compare (.ListComp _ _ sc _) _ _ _) _ _ _ :: _ => sc | _ => fnScope 27) [("altchars", L + 1 + 1)] C h₀' g₀') (ρ := (capVars [("altchars", L + 1 + 1)] ρ).set "text" (.str (tx (r.map (sgP p q))))) (own := [(a, ds)]) (outer := [fnEnv 27 L f cd]) hC (.cons (Ev.name rfl) (by intro _ _ q; cases q) (.cons (Ev.name (by exact ha)) (by intro _ _ q; cases q) .nil)) F (Around.frames_deeper hA) ?_ ?_ ?_
    · intro env he
      rw [List.mem_singleton.mp he]
      obtain ⟨m, hm⟩ := hns
      exact ⟨(by intro z; cases z), L, m, rfl, hm⟩
    · intro b hb
      rw [fas_law] at hb
      rw [List.mem_singleton.mp hb]; exact hgL
    · rw [fas_law]; exact hQ
  refine Ex.iteNeU hread (Ev.eq (Ev.compN (ItSrc.listD (ds := parts.map nl) (Ev.name hp)) (compOk_of rfl .nil rfl rfl rfl rfl rfl) (fun i => [dueOf (parts.getD i [])]) ?_ (by rw [List.length_map]; omega) rfl (fun _ _ _ => rfl)) e) ?_ hrest
  · intro C h₀' g₀' own' i hi
    rw [List.length_map] at hi
    rw [nls_getD _ _ hi]
    exact .plain (Ev.call (con_due _ (hl _ (getD_mem parts [] hi))) (.cons (Ev.name rfl) (by intro _ _ q; cases q) .nil))
  · rw [List.all_map]; exact List.all_eq_true.mpr fun r _ => due_flat r

/-- a turn of the law's loop -/
theorem law_turn (hA : A.frames = some []) (ns : List Int) (k : Nat) (hk : k < 6) (Hm : (p, q) ∈ sixPairs) {ρ : Vars} (hn : ρ "numbers" = some (nl (numsOf ns))) (hw : ρ "whole" = some (.bytes (bA (wholeOf ns)))) (hkk : ρ "k" = some (.int (k : Nat))) (hp : ρ "pair" = some (.str (tx [p, q])))
    (hΦ : ∀ ρ' : Vars, ρ' "numbers" = some (nl (numsOf ns)) → ρ' "whole" = some (.bytes (bA (wholeOf ns))) → Φ .next ρ' []) :
    Ex (fnCx prog w A 5 mg mb 27 L f cd h₀ g₀) ρ [] loopBody Φ := by
  have H : PairOk p q := six_ok (p, q) Hm
  obtain ⟨hr7, hr17⟩ := rowOf_length ns k
  obtain ⟨hf1, hf30⟩ := figs_len ns k
  have hrlt := rowOf_lt ns k
  have h65 := figs_le (rowOf ns k)
  have hpl := partsOf_len H (figs (rowOf ns k)) h65
  have hpc := partsOf_count H (figs (rowOf ns k)) h65
  have hpa := partsOf_among (p := fun n => n < 65) H.hc H.hs h65
  refine law_alt (rest := loopBody.drop 1) H hp ?_
  refine law_signs (rest := loopBody.drop 2) (p := p) (q := q) hp ?_
  refine law_row (rest := loopBody.drop 3) ns k hk hw hkk hn ?_
  refine law_marks (rest := loopBody.drop 4) Hm hp ?_
  refine law_partsS (rest := loopBody.drop 5) (p := p) (q := q) (rowOf ns k) (by omega) hrlt rfl rfl ?_
  refine law_told (rest := loopBody.drop 6) H (rowOf ns k) (by omega) hf1 hrlt rfl rfl ?_
  refine law_if1 (rest := loopBody.drop 7) H (prt (figs (rowOf ns k)) p q) (Nat.le_trans hpc (by omega)) (fun r hr => Nat.le_trans (hpl r hr) (by omega)) hpa rfl rfl rfl ?_
  refine law_if2 (rest := []) hA H (prt (figs (rowOf ns k)) p q) (Nat.le_trans hpc (by omega)) (fun r hr => Nat.le_trans (hpl r hr) (by omega)) hpa rfl rfl rfl ?_
  exact Ex.nil (hΦ _ hn hw)
end
end Mine

/-! text M40 -/
namespace Mine
def sixD : List D := [.str (Str.ofString ",\""), .str (Str.ofString ",\\"), .str (Str.ofString "\","), .str (Str.ofString "\"\\"), .str (Str.ofString "\\,"), .str (Str.ofString "\\\"")]
theorem sixD_eq : sixD = sixPairs.map fun x => D.str (tx [x.1, x.2]) := by
  have e1 : Str.ofString ",\"" = tx [44, 34] := by decide
  have e2 : Str.ofString ",\\" = tx [44, 92] := by decide
  have e3 : Str.ofString "\"," = tx [34, 44] := by decide
  have e4 : Str.ofString "\"\\" = tx [34, 92] := by decide
  have e5 : Str.ofString "\\," = tx [92, 44] := by decide
  have e6 : Str.ofString "\\\"" = tx [92, 34] := by decide
  unfold sixD sixPairs
  rw [e1, e2, e3, e4, e5, e6]; rfl
theorem sixD_get (i : Nat) (h : i < 6) : ∃ p q, (p, q) ∈ sixPairs ∧ sixD.getD i .none = .str (tx [p, q]) := by
  have hl : i < sixPairs.length := h
  refine ⟨sixPairs[i].1, sixPairs[i].2, List.getElem_mem hl, ?_⟩
  rw [sixD_eq, List.getD_eq_getElem?_getD, List.getElem?_map, List.getElem?_eq_getElem hl]; rfl
theorem str_plain (x : Str) (k : Nat) (pos : Pos) (y : Expr) (p : Pos) : Expr.Constant (.str x) k pos ≠ .Starred y p := by intro q; cases q

section
variable {prog : Program} {w : World} {mg mb : Str → Option Value} {A : Around} {L f : Addr} {cd : Value} {h₀ : Heap} {g₀ : Part} {Φ : Fl → Vars → Own → Prop} {rest : List Stmt}
theorem law_body (hA : A.frames = some []) (ns : List Int) (hl : ns.length ≤ 63) :
    Ex (fnCx prog w A 5 mg mb 27 L f cd h₀ g₀) (bindVars [("script", .list (ns.map .int))] fun _ => none) [] (fnBody 27) (RetIs (.bool true)) := by
  refine law_pre ns hl fun ρ hn hw => ?_
  refine Ex.for (n := 6) (ItSrc.enumT (ds := sixD) (Ev.tuple (.cons Ev.cstr (str_plain _ _ _) (.cons Ev.cstr (str_plain _ _ _) (.cons Ev.cstr (str_plain _ _ _) (.cons Ev.cstr (str_plain _ _ _) (.cons Ev.cstr (str_plain _ _ _) (.cons Ev.cstr (str_plain _ _ _) .nil)))))) (by show 6 ≤ 16000000; omega)))
    (fun i ρ own => own = [] ∧ ρ "numbers" = some (nl (numsOf ns)) ∧ ρ "whole" = some (.bytes (bA (wholeOf ns)))) ⟨rfl, hn, hw⟩ ?_ ?_
  · rintro i ρ own hi ⟨rfl, h1, h2⟩
    obtain ⟨p, q, hm, hd⟩ := sixD_get i hi
    refine ⟨fun ρ => (ρ.set "k" (.int (i : Nat))).set "pair" (.str (tx [p, q])), fun g v h g' hs ⟨T, v₀, v₁, e, hT, I₀, I₁⟩ _ => Bind.pair ⟨T, v₀, v₁, e, hT, I₀.sub hs, Is.sub hs (show Is g v₁ (.str (tx [p, q])) from hd ▸ (show Is g v₁ (sixD.getD i .none) from I₁))⟩ rfl rfl, ?_⟩
    exact law_turn hA ns i hi hm h1 h2 rfl rfl fun ρ' a b => ⟨rfl, a, b⟩
  · rintro ρ own ⟨rfl, h1, h2⟩
    exact Ex.ret Ev.cbool rfl
end
end Mine

/-! text M41 -/
namespace Mine

/-! ## the globals, looked at in the heap behind the top -/
def recFn (h : Heap) (x : Str) : Option (Addr × FuncData) := match h.nsMap mainGlobals x with
  | some (.ref f) => (match h.get? f with
    | some ⟨_, _, .func fd, _⟩ => some (f, fd)
    | _ => none)
  | _ => none
def plainFd (fd : FuncData) : FuncData := { fd with defaults := .none, kwdefaults := .none, doc := .none, pyModule := .none, annotations := none, code := .none, closureTuple := .none }
def bareFn (i : Nat) : FuncData := fnObj i .none .none .none .none none .none .none
def codeOkH (h : Heap) (i : Nat) : Bool := match recFn h (fnName i) with
  | some (_, fd) => (match fd.code with
    | .ref c => (match h.get? c with
      | some ⟨_, _, .fields vs, _⟩ => (match (vs[1]? : Option Value) with
        | some (.str q _) => q == fnName i
        | _ => false)
      | _ => false)
    | _ => false)
  | none => false
def dflVals (h : Heap) (i : Nat) : Option (List Value) := match recFn h (fnName i) with
  | some (_, fd) => (match fd.defaults with
    | .none => none
    | .ref T => (match h.get? T with
      | some ⟨_, _, .seq vs _, _⟩ => some vs.toList
      | _ => some [])
    | _ => some [])
  | none => some []
def dflGood (i : Nat) : Option (List Value) := if i = 16 then some [.none] else if i = 17 then some [.none, .bool false] else none
theorem fd_of {fd : FuncData} {i : Nat} (h : plainFd fd = bareFn i) : fd = fnObj i fd.defaults fd.kwdefaults fd.doc fd.pyModule fd.annotations fd.code fd.closureTuple := by
  have e : ∀ a b c d e f g, fnObj i a b c d e f g = { bareFn i with defaults := a, kwdefaults := b, doc := c, pyModule := d, annotations := e, code := f, closureTuple := g } := fun _ _ _ _ _ _ _ => rfl
  rw [e, ← h]
  rfl
theorem recFn_spec {h : Heap} {x : Str} {f : Addr} {fd : FuncData} (e : recFn h x = some (f, fd)) : h.nsMap mainGlobals x = some (.ref f) ∧ ∃ c d sl, h.get? f = some ⟨c, d, .func fd, sl⟩ := by
  unfold recFn at e
  split at e
  · rename_i f' hf
    split at e
    · rename_i c d fd' sl ho
      cases e
      exact ⟨hf, c, d, sl, ho⟩
    · cases e
  · cases e
theorem dflOk_of {h : Heap} {i : Nat} {f : Addr} {fd : FuncData} (hr : recFn h (fnName i) = some (f, fd)) (h3 : dflVals h i = dflGood i) : DefOk h i fd.defaults := by
  unfold dflVals at h3
  rw [hr] at h3
  dsimp only at h3
  unfold DefOk
  unfold dflGood at h3
  by_cases h16 : i = 16
  · rw [if_pos h16] at h3 ⊢
    split at h3
    · cases h3
    · rename_i T hd
      split at h3
      · rename_i c' d' vs n' sl' hT
        have hv : vs = #[.none] := by apply Array.ext'; exact Option.some.inj h3
        subst hv
        exact ⟨T, _, n', hd, hT, rfl⟩
      · cases h3
    · cases h3
  · rw [if_neg h16] at h3 ⊢
    by_cases h17 : i = 17
    · rw [if_pos h17] at h3 ⊢
      split at h3
      · cases h3
      · rename_i T hd
        split at h3
        · rename_i c' d' vs n' sl' hT
          have hv : vs = #[.none, .bool false] := by apply Array.ext'; exact Option.some.inj h3
          subst hv
          exact ⟨T, _, n', hd, hT, rfl⟩
        · cases h3
      · cases h3
    · rw [if_neg h17] at h3 ⊢
      split at h3
      · assumption
      · split at h3 <;> cases h3
      · cases h3
theorem codeRec_of {h : Heap} {i : Nat} {f : Addr} {fd : FuncData} (hr : recFn h (fnName i) = some (f, fd)) (h2 : codeOkH h i = true) : h.CodeRec fd.code (fnName i) := by
  unfold codeOkH at h2
  rw [hr] at h2
  dsimp only at h2
  split at h2
  · rename_i cc hc
    split at h2
    · rename_i c' d' vs sl' ho
      split at h2
      · rename_i qn t hq
        have hq' : qn = fnName i := beq_iff_eq.mp h2
        exact ⟨cc, _, vs, t, hc, ho, rfl, by rw [hq, hq']⟩
      · cases h2
    · cases h2
  · cases h2
theorem fnAt_of {h : Heap} {i : Nat} (h1 : (recFn h (fnName i)).map (fun p => plainFd p.2) = some (bareFn i)) (h2 : codeOkH h i = true) (h3 : dflVals h i = dflGood i) : ∃ f dV kV, FnAt (h.nsMap mainGlobals) h i f dV kV := by
  cases hr : recFn h (fnName i) with
  | none => rw [hr] at h1; cases h1
  | some r =>
    obtain ⟨f, fd⟩ := r
    rw [hr] at h1
    obtain ⟨hn, c, d, sl, hl⟩ := recFn_spec hr
    exact ⟨f, fd.defaults, fd.kwdefaults, hn, dflOk_of hr h3, ⟨c, d, .func fd, sl⟩, fd.doc, fd.pyModule, fd.annotations, fd.code, fd.closureTuple, hl, congrArg Data.func (fd_of (Option.some.inj h1)), codeRec_of hr h2⟩

def b64H (h : Heap) : Option (Array UInt8) := match h.nsMap mainGlobals "_B64" with
  | some (.bytes b _) => some b
  | _ => none
def btH (h : Heap) : Option Obj := match h.nsMap mainGlobals "bytes_types" with
  | some (.ref T) => h.get? T
  | _ => none
def errH (h : Heap) : Option (List Value) := match h.nsMap mainGlobals "Error" with
  | some (.ref C) => (match h.get? C with
    | some ⟨_, _, .cls cd, _⟩ => some cd.mro.tail
    | _ => none)
  | _ => none
def freeH (h : Heap) (x : Str) : Bool := match h.nsMap mainGlobals x with
  | none => true
  | _ => false
def veMro : List Value := [.type "ValueError", .type "Exception", .type "BaseException", .type "object"]
def btGood : Obj := { cls := .type "tuple", data := .seq [.type "bytes", .type "bytearray"].toArray }

structure SaysM (mg : Str → Option Value) (h : Heap) : Prop where
  g : h.Ns mainGlobals mg
  fn : ∀ i ∈ 27 :: defIdx, ∃ f dV kV, FnAt mg h i f dV kV
  free : ∀ x ∈ bltNames, mg x = none
  b64 : ∃ t, mg "_B64" = some (.bytes b64Bytes.toArray t)
  bt : ∃ T, mg "bytes_types" = some (.ref T) ∧ h.get? T = some btGood
  err : ∃ C c d cd sl, mg "Error" = some (.ref C) ∧ h.get? C = some ⟨c, d, .cls cd, sl⟩ ∧ cd.mro.tail = veMro
theorem SaysM.keep {mg : Str → Option Value} {h h' : Heap} (x : SaysM mg h) (k : Keep h h') : SaysM mg h' :=
  ⟨x.g.keeps k, fun i hi => let ⟨f, dV, kV, q⟩ := x.fn i hi; ⟨f, dV, kV, q.keep k⟩, x.free, x.b64, let ⟨T, e1, e2⟩ := x.bt; ⟨T, e1, k _ _ e2⟩, let ⟨C, c, d, cd, sl, e1, e2, e3⟩ := x.err; ⟨C, c, d, cd, sl, e1, k _ _ e2, e3⟩⟩

abbrev Obs := (Bool × Bool) × List (Option FuncData) × List (Option (List Value)) × (Option (Array UInt8) × Option Obj × Option (List Value))
def obsH (s : Shared) : Obs :=
  ((s.heap.isNs mainGlobals && bltNames.all (freeH s.heap), (27 :: defIdx).all (codeOkH s.heap)), (27 :: defIdx).map (fun i => (recFn s.heap (fnName i)).map fun p => plainFd p.2), (27 :: defIdx).map (dflVals s.heap), (b64H s.heap, btH s.heap, errH s.heap))
def obsGood : Obs := ((true, true), (27 :: defIdx).map (fun i => some (bareFn i)), (27 :: defIdx).map dflGood, (some b64Bytes.toArray, some btGood, some veMro))

theorem says_of {s : Shared} (e : obsH s = obsGood) : SaysM (s.heap.nsMap mainGlobals) s.heap := by
  have e1 : (s.heap.isNs mainGlobals && bltNames.all (freeH s.heap)) = true := congrArg (fun x => x.1.1) e
  have e2 : (27 :: defIdx).all (codeOkH s.heap) = true := congrArg (fun x => x.1.2) e
  have e3 : (27 :: defIdx).map (fun i => (recFn s.heap (fnName i)).map fun p => plainFd p.2) = (27 :: defIdx).map (fun i => some (bareFn i)) := congrArg (fun x => x.2.1) e
  have e4 : (27 :: defIdx).map (dflVals s.heap) = (27 :: defIdx).map dflGood := congrArg (fun x => x.2.2.1) e
  have e5 : b64H s.heap = some b64Bytes.toArray := congrArg (fun x => x.2.2.2.1) e
  have e6 : btH s.heap = some btGood := congrArg (fun x => x.2.2.2.2.1) e
  have e7 : errH s.heap = some veMro := congrArg (fun x => x.2.2.2.2.2) e
  obtain ⟨hns, hfree⟩ := Bool.and_eq_true_iff.mp e1
  refine ⟨Heap.Ns.of_isNs hns, fun i hi => fnAt_of (List.map_inj_left.mp e3 i hi) (List.all_eq_true.mp e2 i hi) (List.map_inj_left.mp e4 i hi), fun x hx => ?_, ?_, ?_, ?_⟩
  · have h := List.all_eq_true.mp hfree x hx
    unfold freeH at h
    split at h
    · assumption
    · cases h
  · unfold b64H at e5
    split at e5
    · rename_i b t q
      cases e5
      exact ⟨t, q⟩
    · cases e5
  · unfold btH at e6
    split at e6
    · rename_i T q
      exact ⟨T, q, e6⟩
    · cases e6
  · unfold errH at e7
    split at e7
    · rename_i C q
      split at e7
      · rename_i c d cd sl ho
        exact ⟨C, c, d, cd, sl, q, ho, Option.some.inj e7⟩
      · cases e7
    · cases e7

/-- what the head is to look at -/
def lawHook : Hook := ⟨Obs, obsH, fun _ => obsGood, fun _ h => ∃ mg, SaysM mg h, fun _ _ e => ⟨_, says_of e⟩, fun _ _ _ x k => let ⟨mg, y⟩ := x; ⟨mg, y.keep k⟩⟩

theorem errAt_of {mg : Str → Option Value} {h : Heap} {bm : List Value} (S : SaysM mg h) {C : Addr} (O : OwnClsQ "Error" C bm "ValueError.__new__" mg h) : ErrAt mg h := by
  obtain ⟨hb, bm', N, nm, q, bs, hdct, sn, sub, ab, col, dd, k0, k1, k2, k3, k5, mN, hC, hN, hq, T⟩ := O
  obtain ⟨C', c, d, cd, sl, e1, e2, e3⟩ := S.err
  rw [hb] at e1
  cases e1
  rw [hC] at e2
  cases e2
  have hbm : bm' = veMro := e3
  subst hbm
  exact ⟨C, N, nm, q, bs, veMro, hdct, sn, sub, ab, col, dd, k0, k1, k2, k3, k5, "ValueError.__new__", "ValueError.__init__", "ValueError", mN, hb, hC, hN, hq _ (.head _), PySem.F.excBase_ValueError, by decide, by decide⟩

theorem glb_of {p : Program} {loose : List Str} {mean : ExcName → Option Value} {mg mb : Str → Option Value} {h : Heap} {bm : List Value} (S : SaysM mg h) (T : Top p loose mean mg mb h) (hs : specOf p "Error" = some ("ValueError.__new__", bm)) : Glb mg mb h where
  g := T.g
  b := T.b
  blt := T.builtins
  lim := T.nolimit
  fn := fun i hi => S.fn i (.tail _ hi)
  free := S.free
  b64 := S.b64
  bt := S.bt
  err := by
    obtain ⟨C, O, _⟩ := T.ownAt hs
    exact errAt_of S O
end Mine

/-! text M42 -/
namespace Mine

theorem isl_ints {g : Part} {vs : List Value} {ns : List Int} (h : IntsAre vs ns) : Isl g vs (ns.map .int) := by
  induction h with
  | nil => exact .nil
  | cons n t _ ih => exact .cons (.int n t) ih
/-- the part of the heap that is just one object -/
def onePart (h : Heap) (a : Addr) : Part := fun b => if b = a then h.get? a else none
theorem onePart_inn (h : Heap) (a : Addr) : Inn (onePart h a) h := fun b o e => by
  unfold onePart at e
  split at e
  · rename_i q; rw [q]; exact e
  · cases e
theorem room_law : Room callerA 6 := ⟨rfl, by decide +kernel, by decide +kernel⟩

theorem law_call {prog : Program} {w : World} {mg mb : Str → Option Value} {s : Shared} {fa a : Addr} {dV kV : Value} {vs : List Value} {ns : List Int} {Q E : Value → Shared → Prop} (G : Glb mg mb s.heap) (hf : FnAt mg s.heap 27 fa dV kV)
    (hl : s.heap.IsList a vs.toArray) (hI : IntsAre vs ns) (hn : ns.length ≤ 63) (hQ : ∀ h' k, Keep s.heap h' → Q (.bool true) { s with heap := h', toks := k }) : wpAny (model prog w) callerA (call (.ref fa) [.ref a] []) Q E s := by
  obtain rfl : dV = .none := FnAt.noDef hf (by decide)
  obtain ⟨o, ho, hc, n, hd⟩ := hl
  have hg : onePart s.heap a a = some o := by unfold onePart; rw [if_pos rfl, ho]
  have hIs : Is (onePart s.heap a) (.ref a) (.list (ns.map .int)) := .list ⟨o, n, hg, hc, hd⟩ (isl_ints hI)
  refine fn_call [("script", .list (ns.map .int))] (room := 5) (g := onePart s.heap a) room_law G hf (onePart_inn _ _) (fun doc pm an cd ct => ⟨[("script", .ref a)], BindsTo.of_eq rfl, rfl, .cons hIs .nil⟩) fun cd h₁ tk F => ?_
  refine wpAny_mono (law_body (prog := prog) (w := w) (mg := mg) (mb := mb) (A := callerA) (L := s.heap.objs.size) (f := fa) (cd := cd) (h₀ := s.heap) (g₀ := onePart s.heap a) rfl ns hn _ _ _ F) (fun fl s₂ p => ?_) fun _ _ e => e
  obtain ⟨fl', g', h', k, ρ', own', rfl, a2, a3, a4, a5⟩ := p
  cases a4 with
  | next => exact nomatch (show D.bool true = .none from a5)
  | cont => exact a5.elim
  | brk => exact a5.elim
  | ret hI' =>
    rw [show _ = D.bool true from a5] at hI'
    cases hI'
    exact hQ h' k a3.keep₀

theorem law_end {c : ClaimW} {cl : Str → Option Addr} {mean : ExcName → Option Value} {args : List WData} {s₁ : Shared} {h' : Heap} {k : Nat} (hk : Keep s₁.heap h') (hg : s₁.gens = #[]) (hr : ∀ cls, c.raises args cls = false) (hp : c.post args (.bool true) args = true) :
    GoodWG c cl mean args s₁ (.ok (.ret (.bool true))) { s₁ with heap := h', toks := k } :=
  GoodW.toG ⟨.inl ⟨_, .bool true, [], rfl, hr, .bool true, hp, fun _ => ⟨List.nodup_nil, fun _ q => nomatch q⟩⟩, hk, rfl, hg⟩

theorem law_final {prog : Program} {w : World} {p : Program} {loose : List Str} {mean : ExcName → Option Value} {mg mb : Str → Option Value} {s : Shared} {fa a : Addr} {bm vs : List Value} {ns : List Int} {Q E : Value → Shared → Prop}
    (S : ∃ mg', SaysM mg' s.heap) (T : Top p loose mean mg mb s.heap) (hm : mg (fnName 27) = some (.ref fa)) (hl : s.heap.IsList a vs.toArray) (hI : IntsAre vs ns) (hn : ¬ ((63 : Nat) : Int) < (ns.length : Int)) (hs : specOf p "Error" = some ("ValueError.__new__", bm))
    (hQ : ∀ h' k, Keep s.heap h' → Q (.bool true) { s with heap := h', toks := k }) : wpAny (model prog w) callerA (call (.ref fa) [.ref a] []) Q E s := by
  obtain ⟨mg', S⟩ := S
  obtain rfl : mg' = mg := by rw [S.g.eq_nsMap, T.g.eq_nsMap]
  obtain ⟨f, dV, kV, hf⟩ := S.fn 27 (.head _)
  have hff : f = fa := by have := hf.g; rw [hm] at this; cases this; rfl
  subst hff
  exact law_call (glb_of S T hs) hf hl hI (by omega) hQ
end Mine

/-! text M43 -/
namespace Mine
/-! ## the head, by hand: the looks at the text in parts, the top's run as one check -/
abbrev lp : Program := PySem.Challenge.rw_pa0011_01.row.prog
theorem said_1 : sreFenced lp.main = true := by kernel_rfl
theorem said_2 : namesResolve lp = true := by
  first
    | (rw [PySem.W.Fast.te8377067652309620493]; kernel_rfl)
    | kernel_rfl
theorem said_3 : (lp.boundNames.all fun n => !worldNames.contains n) = true := by
  first
    | (rw [PySem.W.Fast.te18344453789297297638, PySem.W.Fast.te14412699480532031325]; kernel_rfl)
    | kernel_rfl
theorem said_4 : noRoadLSs { strict := !(importedModules lp.main.body).all cThrough.contains, foot := none, bare := (["vars", "dir", "locals"] : List Str).filter (readsOut lp lp.main.body) } lp.main.body = true := by
  first
    | (rw [PySem.W.Fast.te8326940854005059898, PySem.W.Fast.te5923862056798008813, PySem.W.Fast.te17691160309236699985, PySem.W.Fast.te13343964577679436407]; kernel_rfl)
    | kernel_rfl
theorem said_5 : (namesMeet lp lp.main.body fun _ n => attrL n) = true := by
  first
    | (rw [PySem.W.Fast.te17119622794617984870, PySem.W.Fast.te17868728402115742887]; kernel_rfl)
    | kernel_rfl
theorem said_looks : looksOpen lp = true := by
  delta looksOpen
  exact look_both (look_both (look_both (look_both (look_both said_1 (by kernel_rfl)) said_2) said_3) said_4) said_5
theorem said_row : PySem.Challenge.rw_pa0011_01.row.wellSaid = true := by
  delta OpenRow.wellSaid OpenRow.partSaid
  rw [said_looks]
  first
    | (rw [PySem.W.Fast.te12749700546528644094]; kernel_rfl)
    | kernel_rfl
theorem law_said : PySem.Challenge.rw_pa0011_01.wellSaid = true := by
  delta OpenLaw.wellSaid
  rw [said_row]
  first
    | (rw [PySem.W.Fast.te8326940854005059898, PySem.W.Fast.te17119622794617984870]; kernel_rfl)
    | kernel_rfl

def pickAt (i : Nat) : Stmt := match PySem.Challenge.pw_pa0011_01.main.body.drop i with
  | st :: _ => st
  | [] => .Pass default
def view : Program := { PySem.Challenge.pw_pa0011_01 with main := { PySem.Challenge.pw_pa0011_01.main with body := [pickAt 0, pickAt 2, pickAt 5, pickAt 7, pickAt 8, pickAt 9, pickAt 10, pickAt 11, pickAt 12, pickAt 19, pickAt 20, pickAt 21, pickAt 22, pickAt 23, pickAt 24, pickAt 25, pickAt 26, pickAt 27] } }
def loose5 : List Str := ["bytes_types", "a2b_base64", "b2a_base64", "b64encode", "b64decode"]
theorem law_left : LeftO PySem.Challenge.rw_pa0011_01.row.prog view loose5 (fun s => xlAt view [] s && recOk (RowW.records PySem.Challenge.rw_pa0011_01.row.toRowW) s) (Hook.obs lawHook) (Hook.val lawHook) 1846 := by
  intro w
  delta openEnds fencedOpening topFrom
  first
    | (rw [PySem.W.Fast.te14364793385576792824, PySem.W.Fast.te10274390034422433532, PySem.W.Fast.te1435165496053646825, PySem.W.Fast.te14289696077712309145, PySem.W.Fast.te14082659384304107361, PySem.W.Fast.te8920871248978507458, PySem.W.Fast.te5923862056798008813, PySem.W.Fast.te4187177175401517315]; kernel_rfl)
    | kernel_rfl
end Mine

set_option maxRecDepth 100000 in
set_option maxHeartbeats 8000000 in
theorem PySem.Challenge.cw_pa0011_01_holds : PySem.Challenge.rw_pa0011_01.Holds := by
  w_on
  refine holds_law Mine.law_said fun said => ?_
  refine holds_open (q := Mine.view) (loose := Mine.loose5) (Xt := fun s => xlAt Mine.view [] s && recOk (RowW.records PySem.Challenge.rw_pa0011_01.row.toRowW) s) (XP := XL Mine.view []) (Yf := Hook.obs Mine.lawHook) (Ya := Hook.val Mine.lawHook) (YP := Hook.says Mine.lawHook) (N := 1846) Mine.law_left (Hook.of Mine.lawHook) (Hook.keeps Mine.lawHook) (fun s e => xl_of s (Bool.and_eq_true_iff.mp e).1) XL.keeps (by rfl) (by rfl) (by rfl) (fun s e => recFacts_of (Bool.and_eq_true_iff.mp e).2) (by rfl) said (by decide +kernel) ⟨rfl, rfl, rfl, rfl, rfl, by decide +kernel⟩ ?hw ?hc
  (case hw => w_witness2)
  intro w s₀ s₁ mg mb G Y fa o pm cd doc dV kV ho hd hcd hD hmg hg args vals as hpre hlay hrd hwl hlo
  have S : ∃ mg', Mine.SaysM mg' s₁.heap := Y
  clear ho hd hcd hD
  wrow_args hpre hlay hrd hwl hlo
  refine Mine.law_final S G.T hmg (by assumption) (by assumption) (by assumption) (bm := Mine.veMro) (by kernel_rfl) fun h' k hk => ?_
  refine Mine.law_end hk hg ?_ ?_
  · intro cls; rfl
  · wrow_post
