import PyProof.Rows.All
import Wide.All
import OpenK.AllK
import Wide.FinOn
import PySem.Challenge.RW_pe0040_01
set_option Elab.async false
set_option maxRecDepth 100000
set_option linter.all false
namespace Mine
open PySem PySem.Spec PySem.Calls PyProof.Rows PySem.W

/-- pure data -/
inductive AV where
  | none
  | bool (b : Bool)
  | int (i : Int)
  | list (xs : List AV)
  | tup (xs : List AV)
  | dict (es : List (Int × Int))
  | ptr (a : Addr)

def Ext (h h' : Heap) : Prop := ∀ b o, h.get? b = some o → h'.get? b = some o
theorem Ext.refl (h : Heap) : Ext h h := fun _ _ e => e
theorem Ext.trans {a b c : Heap} (x : Ext a b) (y : Ext b c) : Ext a c := fun k o e => y k o (x k o e)
theorem Ext.push (h : Heap) (o : Obj) : Ext h (h.push o) := fun _ _ e => Heap.get?_push_of_some o e

/-- all but the addresses of Y is kept -/
def ExtB (Y : List Addr) (h h' : Heap) : Prop := ∀ b o, b ∉ Y → h.get? b = some o → h'.get? b = some o
theorem ExtB.refl (Y : List Addr) (h : Heap) : ExtB Y h h := fun _ _ _ e => e
theorem ExtB.trans {Y : List Addr} {a b c : Heap} (x : ExtB Y a b) (y : ExtB Y b c) : ExtB Y a c := fun k o n e => y k o n (x k o n e)
theorem Ext.but {Y : List Addr} {a b : Heap} (x : Ext a b) : ExtB Y a b := fun k o _ e => x k o e
theorem ExtB.mono {Y Y' : List Addr} {a b : Heap} (x : ExtB Y a b) (h : ∀ k ∈ Y, k ∈ Y') : ExtB Y' a b := fun k o n e => x k o (fun m => n (h k m)) e
theorem ExtB.of_same {Y : List Addr} {a : Addr} {h h' : Heap} (hs : Heap.SameBut a h h') (ha : a ∈ Y) : ExtB Y h h' := fun b _ n e => (hs.2 b (fun q => n (q ▸ ha))).trans e

def PlainTup (h : Heap) (a : Addr) (items : List Value) : Prop := ∃ n, h.get? a = some { cls := .type "tuple", data := .seq items.toArray n }
def big : Nat := 1000000

def RepD : List (Int × Int) → List (Int × Value) → Prop
  | [], kvs => kvs = []
  | e :: es, kvs => ∃ v kvs', kvs = (e.1, v) :: kvs' ∧ (∃ t, v = .int e.2 t) ∧ RepD es kvs'

mutual
def Rep (p : Program × World) (h : Heap) (X : List Addr) : AV → Value → Prop
  | .none, v => v = .none
  | .bool b, v => v = .bool b
  | .int i, v => ∃ t, v = .int i t
  | .list xs, v => ∃ a vs, v = .ref a ∧ a ∉ X ∧ h.PlainList a (List.toArray vs) ∧ vs.length ≤ big ∧ RepL p h X xs vs
  | .tup xs, v => ∃ a vs, v = .ref a ∧ a ∉ X ∧ PlainTup h a vs ∧ vs.length ≤ big ∧ RepL p h X xs vs
  | .dict es, v => ∃ a kvs, v = .ref a ∧ a ∉ X ∧ (a == sysModules) = false ∧ h.DictOf (intKind p.1 p.2) a kvs ∧ kvs.length ≤ big ∧ RepD es kvs
  | .ptr a, v => v = .ref a
def RepL (p : Program × World) (h : Heap) (X : List Addr) : List AV → List Value → Prop
  | [], vs => vs = []
  | x :: xs, vs => ∃ v vs', vs = v :: vs' ∧ Rep p h X x v ∧ RepL p h X xs vs'
end

section
variable {p : Program × World} {h h' : Heap} {X X' : List Addr}
mutual
theorem Rep.mono (hX : ExtB X h h') : ∀ {d : AV} {v : Value}, Rep p h X d v → Rep p h' X d v
  | .none, _, r => r
  | .bool _, _, r => r
  | .int _, _, r => r
  | .list _, _, ⟨a, vs, e, n, ⟨k, g⟩, z, r⟩ => ⟨a, vs, e, n, ⟨k, hX a _ n g⟩, z, RepL.mono hX r⟩
  | .tup _, _, ⟨a, vs, e, n, ⟨k, g⟩, z, r⟩ => ⟨a, vs, e, n, ⟨k, hX a _ n g⟩, z, RepL.mono hX r⟩
  | .dict _, _, ⟨a, kvs, e, n, q, g, z, r⟩ => ⟨a, kvs, e, n, q, g.at (fun o e => hX a o n e), z, r⟩
  | .ptr _, _, r => r
theorem RepL.mono (hX : ExtB X h h') : ∀ {xs : List AV} {vs : List Value}, RepL p h X xs vs → RepL p h' X xs vs
  | [], _, r => r
  | _ :: _, _, ⟨v, vs', e, r, rs⟩ => ⟨v, vs', e, Rep.mono hX r, RepL.mono hX rs⟩
end
mutual
theorem Rep.weak (hX : ∀ a ∈ X', a ∈ X) : ∀ {d : AV} {v : Value}, Rep p h X d v → Rep p h X' d v
  | .none, _, r => r
  | .bool _, _, r => r
  | .int _, _, r => r
  | .list _, _, ⟨a, vs, e, n, g, z, r⟩ => ⟨a, vs, e, fun m => n (hX a m), g, z, RepL.weak hX r⟩
  | .tup _, _, ⟨a, vs, e, n, g, z, r⟩ => ⟨a, vs, e, fun m => n (hX a m), g, z, RepL.weak hX r⟩
  | .dict _, _, ⟨a, kvs, e, n, q, g, z, r⟩ => ⟨a, kvs, e, fun m => n (hX a m), q, g, z, r⟩
  | .ptr _, _, r => r
theorem RepL.weak (hX : ∀ a ∈ X', a ∈ X) : ∀ {xs : List AV} {vs : List Value}, RepL p h X xs vs → RepL p h X' xs vs
  | [], _, r => r
  | _ :: _, _, ⟨v, vs', e, r, rs⟩ => ⟨v, vs', e, Rep.weak hX r, RepL.weak hX rs⟩
end
theorem Rep.ext (hX : Ext h h') {d : AV} {v : Value} (r : Rep p h X d v) : Rep p h' X d v := Rep.mono hX.but r
theorem RepL.ext (hX : Ext h h') {d : List AV} {v : List Value} (r : RepL p h X d v) : RepL p h' X d v := RepL.mono hX.but r
theorem RepL.length : ∀ {xs : List AV} {vs : List Value}, RepL p h X xs vs → vs.length = xs.length
  | [], _, r => by cases r; rfl
  | _ :: _, _, ⟨_, _, e, _, rs⟩ => by rw [e, List.length_cons, List.length_cons, RepL.length rs]
theorem RepL.get : ∀ {xs : List AV} {vs : List Value} {i : Nat} {d : AV}, RepL p h X xs vs → xs[i]? = some d → ∃ v, vs[i]? = some v ∧ Rep p h X d v
  | [], _, _, _, _, e => by cases e
  | _ :: _, _, 0, _, ⟨v, _, e, r, _⟩, q => by cases q; exact ⟨v, by rw [e]; rfl, r⟩
  | _ :: xs, _, i + 1, _, ⟨_, vs', e, _, rs⟩, q => by
    rw [List.getElem?_cons_succ] at q
    obtain ⟨v, hv, r⟩ := RepL.get rs q
    exact ⟨v, by rw [e, List.getElem?_cons_succ]; exact hv, r⟩
theorem RepL.get' : ∀ {xs : List AV} {vs : List Value} {i : Nat} {v : Value}, RepL p h X xs vs → vs[i]? = some v → ∃ d, xs[i]? = some d ∧ Rep p h X d v
  | [], _, _, _, r, e => by cases r; cases e
  | x :: _, _, 0, _, ⟨v, _, e, r, _⟩, q => by subst e; cases q; exact ⟨x, rfl, r⟩
  | _ :: xs, _, i + 1, _, ⟨_, vs', e, _, rs⟩, q => by
    subst e
    rw [List.getElem?_cons_succ] at q
    obtain ⟨d, hd, r⟩ := RepL.get' rs q
    exact ⟨d, by rw [List.getElem?_cons_succ]; exact hd, r⟩
theorem RepL.append : ∀ {xs ys : List AV} {vs ws : List Value}, RepL p h X xs vs → RepL p h X ys ws → RepL p h X (xs ++ ys) (vs ++ ws)
  | [], _, _, _, r, s => by cases r; exact s
  | _ :: _, _, _, _, ⟨v, vs', e, r, rs⟩, s => ⟨v, vs' ++ _, by rw [e]; rfl, r, RepL.append rs s⟩
theorem RepL.take : ∀ {xs : List AV} {vs : List Value} (n : Nat), RepL p h X xs vs → RepL p h X (xs.take n) (vs.take n)
  | [], _, n, r => by cases r; simp [RepL]
  | _ :: _, _, 0, _ => by simp [RepL]
  | _ :: _, _, n + 1, ⟨v, vs', e, r, rs⟩ => ⟨v, vs'.take n, by rw [e]; rfl, r, RepL.take n rs⟩
theorem RepL.drop : ∀ {xs : List AV} {vs : List Value} (n : Nat), RepL p h X xs vs → RepL p h X (xs.drop n) (vs.drop n)
  | [], _, n, r => by cases r; simp [RepL]
  | _ :: _, _, 0, r => r
  | _ :: _, _, n + 1, ⟨v, vs', e, r, rs⟩ => by rw [e]; exact RepL.drop n rs
theorem RepL.set : ∀ {xs : List AV} {vs : List Value} {d : AV} {v : Value} (n : Nat), RepL p h X xs vs → Rep p h X d v → RepL p h X (xs.set n d) (vs.set n v)
  | [], _, _, _, n, r, _ => by cases r; simp [RepL]
  | _ :: _, _, _, _, 0, ⟨_, vs', e, _, rs⟩, q => ⟨_, vs', by rw [e]; rfl, q, rs⟩
  | _ :: _, _, _, _, n + 1, ⟨v', vs', e, r, rs⟩, q => ⟨v', _, by rw [e]; rfl, r, RepL.set n rs q⟩
theorem RepL.nil : RepL p h X [] [] := rfl
theorem RepL.cons {d : AV} {v : Value} {xs : List AV} {vs : List Value} (r : Rep p h X d v) (rs : RepL p h X xs vs) : RepL p h X (d :: xs) (v :: vs) := ⟨v, vs, rfl, r, rs⟩
end
theorem RepL.of_get {p : Program × World} {h : Heap} {X : List Addr} : ∀ {xs : List AV} {vs : List Value}, vs.length = xs.length → (∀ (i : Nat) v d, vs[i]? = some v → xs[i]? = some d → Rep p h X d v) → RepL p h X xs vs
  | [], vs, e, _ => by cases vs; rfl; cases e
  | x :: xs, [], e, _ => by cases e
  | x :: xs, v :: vs, e, f => ⟨v, vs, rfl, f 0 v x rfl rfl, RepL.of_get (by simpa using e) fun i v d h1 h2 => f (i + 1) v d (by simpa using h1) (by simpa using h2)⟩

/-- ints as data -/
abbrev AV.ints (ns : List Int) : AV := .list (ns.map .int)
theorem RepL.ints {p : Program × World} {h : Heap} {X : List Addr} : ∀ {ns : List Int} {vs : List Value}, RepL p h X (ns.map .int) vs → IntsAre vs ns
  | [], _, r => by cases r; exact .nil
  | n :: ns, _, ⟨v, vs', e, ⟨t, q⟩, rs⟩ => by subst e; subst q; exact .cons n t (RepL.ints rs)
theorem RepL.of_ints {p : Program × World} {h : Heap} {X : List Addr} : ∀ {ns : List Int} {vs : List Value}, IntsAre vs ns → RepL p h X (ns.map .int) vs
  | [], _, .nil => rfl
  | n :: ns, _, .cons _ t r => ⟨_, _, rfl, ⟨t, rfl⟩, RepL.of_ints r⟩
theorem big_le : big ≤ sizeLine := by rw [sizeLine_eq]; decide
end Mine
namespace Mine
open PySem PySem.Spec PySem.Calls PyProof.Rows PySem.W

structure Kp (s s' : Shared) : Prop where
  is : Keeps s s'
namespace Kp
theorem ext {s s' : Shared} (k : Kp s s') : Ext s.heap s'.heap := by obtain ⟨h', tk, rfl, hk⟩ := k.is; exact hk
theorem refl (s : Shared) : Kp s s := ⟨s.heap, s.toks, rfl, fun _ _ e => e⟩
theorem trans {a b c : Shared} (x : Kp a b) (y : Kp b c) : Kp a c := by
  obtain ⟨h, tk, rfl, hk⟩ := x
  obtain ⟨h', tk', rfl, hk'⟩ := y
  exact ⟨h', tk', rfl, fun b o e => hk' b o (hk b o e)⟩
theorem tok {a b : Shared} (x : Kp a b) (t : Nat) : Kp a { b with toks := t } := by
  obtain ⟨h, tk, rfl, hk⟩ := x; exact ⟨h, t, rfl, hk⟩
theorem push {a b : Shared} (x : Kp a b) (o : Obj) : Kp a { b with heap := b.heap.push o } := by
  obtain ⟨h, tk, rfl, hk⟩ := x; exact ⟨h.push o, tk, rfl, fun b o' e => Heap.get?_push_of_some _ (hk b o' e)⟩
theorem of_ext {a b : Shared} (x : Kp a b) {h' : Heap} {tk : Nat} (e : Ext b.heap h') : Kp a { b with heap := h', toks := tk } := by
  obtain ⟨h, tk, rfl, hk⟩ := x; exact ⟨h', _, rfl, fun b o q => e b o (hk b o q)⟩
end Kp

structure Room (A : Around) (k : Nat) : Prop where
  handled : A.handled = none
  depth : A.depth + k < recursionLimit
  units : A.units + 10 * k < cLine
theorem Room.le {A : Around} {k j : Nat} (r : Room A k) (h : j ≤ k) : Room A j := ⟨r.handled, by have := r.depth; omega, by have := r.units; omega⟩
theorem Room.deeper {A : Around} {k : Nat} {env : Env} (r : Room A (k + 1)) : Room (A.deeper env) k :=
  ⟨r.handled, by have := r.depth; show A.depth + 1 + k < _; omega, by have := r.units; show A.units + 3 + 10 * k < _; omega⟩

/-- what the top has laid: names -/
structure Tp where
  p : Program × World
  H₀ : Heap
  mg : Str → Option Value
  mb : Str → Option Value
structure Tp.Ok (T : Tp) : Prop where
  lim : T.H₀.NoLimit
  g : T.H₀.Ns mainGlobals T.mg
  b : T.H₀.Ns builtinsNs T.mb

structure Cx where
  T : Tp
  A : Around
  k : Nat
  env : Env
  H : Heap
  X : List Addr
  ρ : List (Str × AV)

/-- a variable holds v -/
def VarIs (env : Env) (h : Heap) (m : Str → Option Value) (x : Str) (v : Value) : Prop :=
  (env.kindOf x = some .local → m x = some v) ∧ (env.kindOf x = some .cell → ∃ c, env.cells.lookup x = some c ∧ h.IsCell c (some v))

def Vars (p : Program × World) (env : Env) (X : List Addr) (ρ : List (Str × AV)) (h : Heap) : Prop :=
  ∃ m, h.Ns env.locals m ∧ ∀ x d, ρ.lookup x = some d → ∃ v, Rep p h X d v ∧ VarIs env h m x v

structure Cx.Ok (c : Cx) : Prop where
  top : c.T.Ok
  room : Room c.A c.k
  old : Ext c.T.H₀ c.H
  kind : c.env.scope.kind = .function
  glob : c.env.globals = mainGlobals
  blt : c.env.builtins = builtinsNs
  xs : ∀ a ∈ c.X, ∃ o, c.H.get? a = some o
  vars : Vars c.T.p c.env c.X c.ρ c.H

abbrev Cx.M (c : Cx) : Model := model c.T.p.1 c.T.p.2

/-- the expression evaluates to the data, and keeps the heap -/
def PE (c : Cx) (e : Expr) (d : AV) : Prop :=
  ∀ (s : Shared) (Q : Value → Shared → Prop) (E : Value → Shared → Prop), Ext c.H s.heap → (∀ v s', Kp s s' → Rep c.T.p s'.heap c.X d v → Q v s') → wpAny c.M c.A (eval e c.env) Q E s
def PEL (c : Cx) (pos : Pos) (es : List Expr) (ds : List AV) : Prop :=
  ∀ (s : Shared) (Q : List Value → Shared → Prop) (E : Value → Shared → Prop), Ext c.H s.heap → (∀ vs s', Kp s s' → RepL c.T.p s'.heap c.X ds vs → Q vs s') → wpAny c.M c.A (spliced (backTo pos (starEach es c.env))) Q E s
/-- a test -/
def PT (c : Cx) (e : Expr) (b : Bool) : Prop :=
  ∀ (s : Shared) (Q : Bool → Shared → Prop) (E : Value → Shared → Prop), Ext c.H s.heap → (∀ s', Kp s s' → Q b s') → wpAny c.M c.A (isTrue e c.env (eval e c.env)) Q E s

section
variable {c : Cx} {pos : Pos}
theorem fresh_not {X : List Addr} {H h : Heap} (xs : ∀ a ∈ X, ∃ o, H.get? a = some o) (e : Ext H h) {a : Addr} (n : h.get? a = none) : a ∉ X := fun m => by
  obtain ⟨o, ho⟩ := xs a m
  rw [e a o ho] at n; cases n
theorem none_size (h : Heap) : h.get? h.objs.size = none := by
  cases e : h.get? h.objs.size with
  | none => rfl
  | some o => exact absurd (Heap.lt_size e) (Nat.lt_irrefl _)

theorem PE.int {i : Int} {k : Nat} : PE c (.Constant (.int i) k pos) (.int i) := fun s Q E _ K => wpAny_Constant_int (K _ _ ((Kp.refl s).tok _) ⟨_, rfl⟩)
theorem PE.tt {k : Nat} {b : Bool} : PE c (.Constant (.bool b) k pos) (.bool b) := fun s Q E _ K => wpAny_pure (K _ _ (Kp.refl s) rfl)

theorem PE.name {x : Str} {d : AV} (ok : c.Ok) (h : c.ρ.lookup x = some d) (hk : c.env.kindOf x = some .local ∨ c.env.kindOf x = some .cell := by first | exact Or.inl rfl | exact Or.inr rfl)
    (hd : (x == ("__debug__" : Str)) = false := by decide) : PE c (.Name x pos) d := fun s Q E e K => by
  obtain ⟨m, hn, hv⟩ := ok.vars
  obtain ⟨v, r, hl, hc⟩ := hv x d h
  refine wpAny_Name ?_ hd
  rcases hk with q | q
  · exact wpAny_loadName_local ok.kind q (hn.keeps e) (hl q) (K v s (Kp.refl s) (r.ext e))
  · obtain ⟨a, ha, hi⟩ := hc q
    exact wpAny_loadName_cell ok.kind q ha (hi.keeps e) (K v s (Kp.refl s) (r.ext e))

theorem PE.bin {l r : Expr} {op : Operator} {d1 d2 d : AV} (hl : PE c l d1) (hr : PE c r d2)
    (h : ∀ (s : Shared) Q E v1 v2, Ext c.H s.heap → Rep c.T.p s.heap c.X d1 v1 → Rep c.T.p s.heap c.X d2 v2 → (∀ v s', Kp s s' → Rep c.T.p s'.heap c.X d v → Q v s') → wpAny c.M c.A (binaryOp op v1 v2) Q E s) :
    PE c (.BinOp l op r pos) d := fun s Q E e K =>
  wpAny_BinOp (hl s _ _ e fun v1 s1 k1 r1 => hr s1 _ _ (e.trans k1.ext) fun v2 s2 k2 r2 => h s2 _ _ v1 v2 (e.trans (k1.trans k2).ext) (r1.ext k2.ext) r2 fun v s' k r => K v s' ((k1.trans k2).trans k) r)
theorem PE.add {l r : Expr} {a b : Int} (hl : PE c l (.int a)) (hr : PE c r (.int b)) : PE c (.BinOp l .Add r pos) (.int (a + b)) :=
  PE.bin hl hr fun s Q E v1 v2 _ ⟨t, e1⟩ ⟨u, e2⟩ K => by subst e1; subst e2; exact add_int (K _ _ ((Kp.refl s).tok _) ⟨_, rfl⟩)
theorem PE.sub {l r : Expr} {a b : Int} (hl : PE c l (.int a)) (hr : PE c r (.int b)) : PE c (.BinOp l .Sub r pos) (.int (a - b)) :=
  PE.bin hl hr fun s Q E v1 v2 _ ⟨t, e1⟩ ⟨u, e2⟩ K => by subst e1; subst e2; exact sub_int (K _ _ ((Kp.refl s).tok _) ⟨_, rfl⟩)
theorem PE.mul {l r : Expr} {a b : Int} (hl : PE c l (.int a)) (hr : PE c r (.int b)) (hm : IntMulOk a b) : PE c (.BinOp l .Mult r pos) (.int (a * b)) :=
  PE.bin hl hr fun s Q E v1 v2 _ ⟨t, e1⟩ ⟨u, e2⟩ K => by subst e1; subst e2; exact mul_int (K _ _ ((Kp.refl s).tok _) ⟨_, rfl⟩) hm
theorem PE.mod {l r : Expr} {a b : Int} (hl : PE c l (.int a)) (hr : PE c r (.int b)) (hb : b ≠ 0) : PE c (.BinOp l .Mod r pos) (.int (a.fmod b)) :=
  PE.bin hl hr fun s Q E v1 v2 _ ⟨t, e1⟩ ⟨u, e2⟩ K => by subst e1; subst e2; exact mod_int' hb (K _ _ ((Kp.refl s).tok _) ⟨_, rfl⟩)
theorem PE.div {l r : Expr} {a b : Int} (hl : PE c l (.int a)) (hr : PE c r (.int b)) (hb : b ≠ 0) (hg : Builtin.divisionGoesByPylong a b = false) : PE c (.BinOp l .FloorDiv r pos) (.int (a.fdiv b)) :=
  PE.bin hl hr fun s Q E v1 v2 _ ⟨t, e1⟩ ⟨u, e2⟩ K => by subst e1; subst e2; exact floordiv_int hb (K _ _ ((Kp.refl s).tok _) ⟨_, rfl⟩) (.inl hg)
theorem PE.pow {l r : Expr} {a n : Int} (hl : PE c l (.int a)) (hr : PE c r (.int n)) (h0 : 0 ≤ n) (hb : (Builtin.Int.intBits a : Int) * n ≤ 2 ^ 27) : PE c (.BinOp l .Pow r pos) (.int (a ^ n.toNat)) :=
  PE.bin hl hr fun s Q E v1 v2 _ ⟨t, e1⟩ ⟨u, e2⟩ K => by subst e1; subst e2; exact pow_int h0 hb (K _ _ ((Kp.refl s).tok _) ⟨_, rfl⟩)
theorem PE.neg {x : Expr} {a : Int} (h : PE c x (.int a)) : PE c (.UnaryOp .USub x pos) (.int (-a)) := fun s Q E e K =>
  wpAny_UnaryOp (h s _ _ e fun v s1 k1 ⟨t, e1⟩ => by subst e1; exact neg_int (K _ _ (k1.tok _) ⟨_, rfl⟩))

theorem PE.cmp {l r : Expr} {op : CmpOp} {d1 d2 d : AV} (hl : PE c l d1) (hr : PE c r d2) (hm : behindInMarks op r = false)
    (h : ∀ (s : Shared) Q E v1 v2, Ext c.H s.heap → Rep c.T.p s.heap c.X d1 v1 → Rep c.T.p s.heap c.X d2 v2 → (∀ v s', Kp s s' → Rep c.T.p s'.heap c.X d v → Q v s') → wpAny c.M c.A (compareOp op v1 v2) Q E s) :
    PE c (.Compare l [op] [r] pos) d := fun s Q E e K =>
  wpAny_Compare1 (hl s _ _ e fun v1 s1 k1 r1 => hr s1 _ _ (e.trans k1.ext) fun v2 s2 k2 r2 => h s2 _ _ v1 v2 (e.trans (k1.trans k2).ext) (r1.ext k2.ext) r2 fun v s' k r => K v s' ((k1.trans k2).trans k) r) hm
theorem PT.cmp {l r : Expr} {op : CmpOp} {d1 d2 : AV} {b : Bool} (hl : PE c l d1) (hr : PE c r d2) (hm : behindInMarks op r = false)
    (h : ∀ (s : Shared) Q E v1 v2, Ext c.H s.heap → Rep c.T.p s.heap c.X d1 v1 → Rep c.T.p s.heap c.X d2 v2 → (∀ v s', Kp s s' → Rep c.T.p s'.heap c.X (.bool b) v → Q v s') → wpAny c.M c.A (compareOp op v1 v2) Q E s) :
    PT c (.Compare l [op] [r] pos) b := fun s Q E e K =>
  wpAny_isTrue_Compare1 (hl s _ _ e fun v1 s1 k1 r1 => hr s1 _ _ (e.trans k1.ext) fun v2 s2 k2 r2 => h s2 _ _ v1 v2 (e.trans (k1.trans k2).ext) (r1.ext k2.ext) r2 fun v s' k r => by
    cases r; exact wpAny_truthy_bool (K s' ((k1.trans k2).trans k))) hm

/-- the comparison of two data -/
def CmpTo (c : Cx) (op : CmpOp) (d1 d2 : AV) (b : Bool) : Prop :=
  ∀ (s : Shared) Q E v1 v2, Ext c.H s.heap → Rep c.T.p s.heap c.X d1 v1 → Rep c.T.p s.heap c.X d2 v2 → (∀ v s', Kp s s' → Rep c.T.p s'.heap c.X (.bool b) v → Q v s') → wpAny c.M c.A (compareOp op v1 v2) Q E s
theorem CmpTo.eqI (a b : Int) : CmpTo c .Eq (.int a) (.int b) (a == b) := fun s Q E v1 v2 _ ⟨t, e1⟩ ⟨u, e2⟩ K => by subst e1; subst e2; exact eq_int (K _ _ (Kp.refl s) rfl)
theorem CmpTo.neI (a b : Int) : CmpTo c .NotEq (.int a) (.int b) (a != b) := fun s Q E v1 v2 _ ⟨t, e1⟩ ⟨u, e2⟩ K => by subst e1; subst e2; exact ne_int (K _ _ (Kp.refl s) rfl)
theorem PE.cmpTo {l r : Expr} {op : CmpOp} {d1 d2 : AV} {b : Bool} (h : CmpTo c op d1 d2 b) (hl : PE c l d1) (hr : PE c r d2) (hm : behindInMarks op r = false := by with_unfolding_all rfl) : PE c (.Compare l [op] [r] pos) (.bool b) := PE.cmp hl hr hm h
theorem PT.cmpTo {l r : Expr} {op : CmpOp} {d1 d2 : AV} {b : Bool} (h : CmpTo c op d1 d2 b) (hl : PE c l d1) (hr : PE c r d2) (hm : behindInMarks op r = false := by with_unfolding_all rfl) : PT c (.Compare l [op] [r] pos) b := PT.cmp hl hr hm h

theorem PT.or {x y : Expr} {a b : Bool} (hx : PT c x a) (hy : a = false → PT c y b) : PT c (.BoolOp .Or [x, y] pos) (a || b) := fun s Q E e K => by
  refine isTrue_or (hx s _ _ e fun s1 k1 => ?_)
  cases a with
  | true => exact K s1 k1
  | false =>
    simp only [Bool.false_eq_true, if_false]
    refine isTrue_or (hy rfl s1 _ _ (e.trans k1.ext) fun s2 k2 => ?_)
    cases b with
    | true => exact K s2 (k1.trans k2)
    | false => simp only [Bool.false_eq_true, if_false]; exact isTrue_or_nil (K s2 (k1.trans k2))
theorem PE.ife {t x y : Expr} {b : Bool} {d : AV} (ht : PT c t b) (hx : b = true → PE c x d) (hy : b = false → PE c y d) : PE c (.IfExp t x y pos) d := fun s Q E e K => by
  refine wpAny_IfExp (ht s _ _ e fun s1 k1 => ?_)
  cases b with
  | true => simp only [if_true]; exact hx rfl s1 _ _ (e.trans k1.ext) fun v s2 k2 r => K v s2 (k1.trans k2) r
  | false => simp only [Bool.false_eq_true, if_false]; exact hy rfl s1 _ _ (e.trans k1.ext) fun v s2 k2 r => K v s2 (k1.trans k2) r

theorem seqIndex_of {k : Int} {n : Nat} (h0 : 0 ≤ k) (h : k.toNat < n) : seqIndex? k n = some k.toNat := by
  unfold seqIndex?
  have h1 : ¬ k < 0 := by omega
  have h2 : k < n := by omega
  simp [h1, h0, h2]
/-- an item -/
theorem PE.item {e i : Expr} {xs : List AV} {k : Int} {d : AV} (he : PE c e (.list xs)) (hi : PE c i (.int k)) (h0 : 0 ≤ k) (hd : xs[k.toNat]? = some d)
    (hs : ∀ o j, subscripted i false o j = operate [o, j] (getItem o j) := by intro _ _; with_unfolding_all rfl) : PE c (.Subscript e i pos) d := fun s Q E ex K =>
  Subscript_ (he s _ _ ex fun v s1 k1 r1 => hi s1 _ _ (ex.trans k1.ext) fun v2 s2 k2 ⟨t, e2⟩ => by
    obtain ⟨a, vs, rfl, hX, hp, hz, rl⟩ := r1.ext k2.ext
    subst e2
    obtain ⟨v, hv, r⟩ := rl.get hd
    have hlt : k.toNat < vs.length := (List.getElem?_eq_some_iff.mp hv).1
    have hb : (big : Int) < 2 ^ 63 := by decide
    exact tail_any hp.isList.typeIs slot_list_getitem.lookup (wpAny_getItem_list hp.isList h0 (by omega) (by simpa using hv) (K v s2 (k1.trans k2) r)) (hs _ _))
theorem PE.itemT {e i : Expr} {xs : List AV} {k : Int} {d : AV} (he : PE c e (.tup xs)) (hi : PE c i (.int k)) (h0 : 0 ≤ k) (hd : xs[k.toNat]? = some d)
    (hs : ∀ o j, subscripted i false o j = operate [o, j] (getItem o j) := by intro _ _; with_unfolding_all rfl) : PE c (.Subscript e i pos) d := fun s Q E ex K =>
  Subscript_ (he s _ _ ex fun v s1 k1 r1 => hi s1 _ _ (ex.trans k1.ext) fun v2 s2 k2 ⟨t, e2⟩ => by
    obtain ⟨a, vs, rfl, hX, ⟨n, hp⟩, hz, rl⟩ := r1.ext k2.ext
    subst e2
    obtain ⟨v, hv, r⟩ := rl.get hd
    have hlt : k.toNat < vs.length := (List.getElem?_eq_some_iff.mp hv).1
    have hb : (big : Int) < 2 ^ 63 := by decide
    exact item_tupleT (l := vs) ⟨_, hp, rfl, n, rfl⟩ (by omega) (by omega) (j := k.toNat) (seqIndex_of h0 hlt) hv (K v s2 (k1.trans k2) r) (hs _ _))
theorem PE.itemNeg {e i : Expr} {xs : List AV} {k : Int} {d : AV} (he : PE c e (.list xs)) (hi : PE c i (.int k)) (h0 : k < 0) (h1 : -(xs.length : Int) ≤ k) (hd : xs[(k + xs.length).toNat]? = some d)
    (hs : ∀ o j, subscripted i false o j = operate [o, j] (getItem o j) := by intro _ _; with_unfolding_all rfl) : PE c (.Subscript e i pos) d := fun s Q E ex K =>
  Subscript_ (he s _ _ ex fun v s1 k1 r1 => hi s1 _ _ (ex.trans k1.ext) fun v2 s2 k2 ⟨t, e2⟩ => by
    obtain ⟨a, vs, rfl, hX, hp, hz, rl⟩ := r1.ext k2.ext
    subst e2
    have hl := rl.length
    obtain ⟨v, hv, r⟩ := rl.get hd
    have hb : (big : Int) < 2 ^ 63 := by decide
    exact tail_any hp.isList.typeIs slot_list_getitem.lookup (wpAny_getItem_list_neg hp.isList h0 (by simpa [hl] using h1) (by omega) (by simpa [hl] using hv) (K v s2 (k1.trans k2) r)) (hs _ _))

/-- lists of expressions -/
theorem PEL.nil : PEL c pos [] [] := fun s Q E _ K => spliced_nil (K [] s (Kp.refl s) rfl)
theorem PEL.cons {e : Expr} {es : List Expr} {d : AV} {ds : List AV} (h : PE c e d) (hs : PEL c pos es ds) (he : starEach (e :: es) c.env = (false, eval e c.env) :: starEach es c.env := by rfl) :
    PEL c pos (e :: es) (d :: ds) := fun s Q E ex K => by
  rw [he]
  refine spliced_cons (h s _ _ ex fun v s1 k1 r1 => hs s1 _ _ (ex.trans k1.ext) fun vs s2 k2 r2 => K (v :: vs) s2 (k1.trans k2) ⟨v, vs, rfl, r1.ext k2.ext, r2⟩)

theorem Rep.newL {p : Program × World} {h : Heap} {X : List Addr} {ds : List AV} {vs : List Value} (hX : h.objs.size ∉ X) (r : RepL p h X ds vs) (hz : vs.length ≤ big) :
    Rep p (h.push { cls := .type "list", data := .seq vs.toArray }) X (.list ds) (.ref h.objs.size) :=
  ⟨_, vs, rfl, hX, ⟨0, Heap.get?_push_size _ rfl⟩, hz, r.ext (Ext.push _ _)⟩
theorem Rep.newT {p : Program × World} {h : Heap} {X : List Addr} {ds : List AV} {vs : List Value} (hX : h.objs.size ∉ X) (r : RepL p h X ds vs) (hz : vs.length ≤ big) :
    Rep p (h.push { cls := .type "tuple", data := .seq vs.toArray }) X (.tup ds) (.ref h.objs.size) :=
  ⟨_, vs, rfl, hX, ⟨0, Heap.get?_push_size _ rfl⟩, hz, r.ext (Ext.push _ _)⟩
theorem PE.listD {es : List Expr} {ds : List AV} (ok : c.Ok) (h : PEL c pos es ds) (hz : ds.length ≤ big := by decide) : PE c (.List es pos) (.list ds) := fun s Q E ex K =>
  wpAny_List_spliced (h s _ _ ex fun vs s1 k1 r => ⟨by have := r.length; have := big_le; omega, K _ _ (k1.push _) (Rep.newL (fresh_not ok.xs (ex.trans k1.ext) (none_size _)) r (by have := r.length; omega))⟩)
theorem PE.tupD {es : List Expr} {k : Nat} {ds : List AV} (ok : c.Ok) (h : PEL c pos es ds) (hz : ds.length ≤ big := by decide) : PE c (.Tuple es k pos) (.tup ds) := fun s Q E ex K =>
  Tuple_ (h s _ _ ex fun vs s1 k1 r => by
    unfold newTuple
    exact wpAny_newObj_type (K _ _ (k1.push _) (Rep.newT (fresh_not ok.xs (ex.trans k1.ext) (none_size _)) r (by have := r.length; omega))) (by show vs.toArray.size ≤ sizeLine; have := r.length; have := big_le; simp; omega))

/-- list + list -/
theorem PE.cat {l r : Expr} {xs ys : List AV} (ok : c.Ok) (hl : PE c l (.list xs)) (hr : PE c r (.list ys)) (hz : xs.length + ys.length ≤ big) : PE c (.BinOp l .Add r pos) (.list (xs ++ ys)) :=
  PE.bin hl hr fun s Q E v1 v2 ex ⟨a, vs, e1, _, p1, _, r1⟩ ⟨b, ws, e2, _, p2, _, r2⟩ K => by
    subst e1; subst e2
    obtain ⟨n1, g1⟩ := p1
    obtain ⟨n2, g2⟩ := p2
    have l1 := r1.length
    have l2 := r2.length
    have bl := big_le
    refine concat_meets ⟨_, g1, rfl⟩ ⟨_, g2, rfl⟩ noFill_list_add seq_list_add PySem.F.slot_list_add PySem.F.entry_list_add (PySem.F.args_list_add_2 _ _) (list_addW a b vs.toArray ws.toArray n1 n2 none none #[] #[] (by simp; omega)) ⟨g1, g2, ?_⟩
    have e : vs.toArray ++ ws.toArray = (vs ++ ws).toArray := by simp
    rw [e]
    exact K _ _ ((Kp.refl s).push _) (Rep.newL (fresh_not ok.xs ex (none_size _)) (r1.append r2) (by rw [List.length_append]; omega))
end
end Mine
namespace Mine
open PySem PySem.Spec PySem.Calls PyProof.Rows PySem.W
section
variable {c : Cx} {pos : Pos}

/-- slices -/
def PO (c : Cx) (e : Option Expr) (k : Option Int) : Prop :=
  ∀ (s : Shared) (Q : Value → Shared → Prop) (E : Value → Shared → Prop), Ext c.H s.heap → (∀ v s', Kp s s' → IsPart v k → Q v s') → wpAny c.M c.A (evalPart e c.env) Q E s
theorem PO.none : PO c none none := fun s Q E _ K => wpAny_pure (K _ s (Kp.refl s) .none)
theorem PO.some {e : Expr} {k : Int} (h : PE c e (.int k)) : PO c (some e) (some k) := fun s Q E ex K => h s _ _ ex fun v s1 k1 ⟨t, e1⟩ => by subst e1; exact K _ _ k1 (.int k t)
theorem PE.slice {e : Expr} {lo hi st : Option Expr} {p : Pos} {xs : List AV} {a b k : Option Int} {ys : List AV} (ok : c.Ok) (he : PE c e (.list xs)) (hlo : PO c lo a) (hhi : PO c hi b) (hst : PO c st k) (h0 : k ≠ some 0)
    (hy : ∀ h vs, vs.length = xs.length → RepL c.T.p h c.X xs vs → RepL c.T.p h c.X ys (slicePick vs.toArray a b k).toList) : PE c (.Subscript e (.Slice lo hi st p) pos) (.list ys) := fun s Q E ex K =>
  Subscript_ (he s _ _ ex fun v s1 k1 r1 => wpAny_Slice (hlo s1 _ _ (ex.trans k1.ext) fun vl s2 k2 pl => hhi s2 _ _ (ex.trans (k1.trans k2).ext) fun vu s3 k3 pu => hst s3 _ _ (ex.trans ((k1.trans k2).trans k3).ext) fun vst s4 k4 pst => by
    have kk := ((k1.trans k2).trans k3).trans k4
    obtain ⟨l, vs, rfl, hX, hp, hz, rl⟩ := (r1.ext ((k2.trans k3).trans k4).ext).ext (Ext.push s4.heap { cls := .type "slice", data := .fields #[vl, vu, vst] })
    have hle := rl.length
    have bl := big_le
    have hsl : (slicePick vs.toArray a b k).size ≤ vs.length := by have := slicePick_size_le vs.toArray a b k; simpa using this
    have ops : ∃ ops, subscripted (.Slice lo hi st p) false (.ref l) (.ref s4.heap.objs.size) = operate ops (getItem (.ref l) (.ref s4.heap.objs.size)) := by cases st <;> exact ⟨_, rfl⟩
    obtain ⟨ops, hops⟩ := ops
    refine tail_any hp.isList.typeIs slot_list_getitem.lookup (wpAny_getItem_list_slice hp.isList (Heap.IsSliceOf.new ..) pl pu pst h0 ?_ (by simp; omega)) hops
    have hr := hy _ vs hle rl
    have := Rep.newL (fresh_not ok.xs ((ex.trans kk.ext).trans (Ext.push _ _)) (none_size _)) hr (by simp; omega)
    exact K _ _ ((kk.push _).push _) this))
theorem PE.sliceFrom {e lo : Expr} {p : Pos} {xs : List AV} {k : Int} (ok : c.Ok) (he : PE c e (.list xs)) (hlo : PE c lo (.int k)) (h0 : 0 ≤ k) : PE c (.Subscript e (.Slice (some lo) none none p) pos) (.list (xs.drop k.toNat)) :=
  PE.slice ok he (PO.some hlo) PO.none PO.none (by simp) fun h vs _ r => by
    have e : (some k : Option Int) = some ((k.toNat : Nat) : Int) := by rw [Int.toNat_of_nonneg h0]
    rw [e, slicePick_from']; simpa using r.drop k.toNat
theorem PE.sliceTo {e hi : Expr} {p : Pos} {xs : List AV} {k : Int} (ok : c.Ok) (he : PE c e (.list xs)) (hhi : PE c hi (.int k)) (h0 : 0 ≤ k) : PE c (.Subscript e (.Slice none (some hi) none p) pos) (.list (xs.take k.toNat)) :=
  PE.slice ok he PO.none (PO.some hhi) PO.none (by simp) fun h vs _ r => by
    have e : (some k : Option Int) = some ((k.toNat : Nat) : Int) := by rw [Int.toNat_of_nonneg h0]
    rw [e, slicePick_upto']; simpa using r.take k.toNat
theorem PE.sliceAll {e : Expr} {p : Pos} {xs : List AV} (ok : c.Ok) (he : PE c e (.list xs)) : PE c (.Subscript e (.Slice none none none p) pos) (.list xs) :=
  PE.slice ok he PO.none PO.none PO.none (by simp) fun h vs _ r => by rw [slicePick_all]; simpa using r
theorem PE.sliceStep {e lo st : Expr} {p : Pos} {ns : List Int} {k j : Int} (ok : c.Ok) (he : PE c e (AV.ints ns)) (hlo : PE c lo (.int k)) (hst : PE c st (.int j)) (h0 : j ≠ 0) :
    PE c (.Subscript e (.Slice (some lo) none (some st) p) pos) (AV.ints (pickNums ns (some k) none (some j))) :=
  PE.slice ok he (PO.some hlo) PO.none (PO.some hst) (by simpa using h0) fun h vs _ r => RepL.of_ints (r.ints.pick (some k) none (some j))

/-- names of the top and of the world -/
def Glob (c : Cx) (x : Str) (v : Value) : Prop := ∀ (pos : Pos) (s : Shared) (Q : Value → Shared → Prop) (E : Value → Shared → Prop), Ext c.H s.heap → Q v s → wpAny c.M c.A (eval (.Name x pos) c.env) Q E s
theorem Glob.top {x : Str} {v : Value} (ok : c.Ok) (h : c.T.mg x = some v) (hk : c.env.kindOf x = some .globalImplicit := by rfl) (hd : (x == ("__debug__" : Str)) = false := by decide) : Glob c x v := fun pos s Q E ex K =>
  Name_function_global ok.kind hk (loadGlobal_global (mg := c.T.mg) (by rw [ok.glob]; exact ok.top.g.keeps (ok.old.trans ex)) h K) hd
theorem Glob.blt {x : Str} {v : Value} (ok : c.Ok) (h : c.T.mg x = none) (hb : c.T.mb x = some v) (hk : c.env.kindOf x = some .globalImplicit := by rfl) (hd : (x == ("__debug__" : Str)) = false := by decide) : Glob c x v := fun pos s Q E ex K =>
  Name_function_global ok.kind hk (loadGlobal_builtin (mg := c.T.mg) (mb := c.T.mb) (by rw [ok.glob]; exact ok.top.g.keeps (ok.old.trans ex)) h (by rw [ok.blt]; exact ok.top.b.keeps (ok.old.trans ex)) hb K) hd

/-- built-ins -/
theorem PE.callB {x : Str} {np : Pos} {id : String} {e : Expr} {es : List Expr} {ds : List AV} {d : AV} (hg : Glob c x (.builtin id)) (ha : PEL c pos (e :: es) ds)
    (h : ∀ (s : Shared) Q E vs, Ext c.H s.heap → RepL c.T.p s.heap c.X ds vs → (∀ v s', Kp s s' → Rep c.T.p s'.heap c.X d v → Q v s') → wpAny c.M c.A (call (.builtin id) vs) Q E s)
    (he : starEach (e :: es) c.env = (false, eval e c.env) :: starEach es c.env := by rfl) (hp : (backTo pos (starEach es c.env)).any (·.1) = false := by rfl) :
    PE c (.Call (.Name x np) (e :: es) [] pos) d := fun s Q E ex K =>
  wpAny_Call_NameR (hg np s _ _ ex (PyProof.Rows.callWith_builtin1 (ha s _ _ ex fun vs s1 k1 r => h s1 _ _ vs (ex.trans k1.ext) r fun v s' k r => K v s' (k1.trans k) r) he hp))
theorem PE.len {np : Pos} {e : Expr} {xs : List AV} (hg : Glob c "len" (.builtin "len")) (h : PE c e (.list xs)) (he : starEach [e] c.env = [(false, eval e c.env)] := by rfl) : PE c (.Call (.Name "len" np) [e] [] pos) (.int xs.length) :=
  PE.callB hg (PEL.cons h PEL.nil he) (fun s Q E vs ex ⟨v, vs', e1, ⟨a, ws, e2, _, hp, hz, rl⟩, e3⟩ K => by
    subst e1; cases e3; subst e2
    have hl := rl.length
    have hb : (big : Int) < 2 ^ 63 := by decide
    refine len_list hp.isList (by simp; omega) ?_
    have := K (.int xs.length (s.toks + 1)) { s with toks := s.toks + 1 + 1 } ((Kp.refl s).tok _) ⟨_, rfl⟩
    simpa [hl] using this) he rfl
theorem PE.sum {np : Pos} {e : Expr} {ns : List Int} (ok : c.Ok) (hg : Glob c "sum" (.builtin "sum")) (h : PE c e (AV.ints ns)) (he : starEach [e] c.env = [(false, eval e c.env)] := by rfl) : PE c (.Call (.Name "sum" np) [e] [] pos) (.int ns.sum) :=
  PE.callB hg (PEL.cons h PEL.nil he) (fun s Q E vs ex ⟨v, vs', e1, ⟨a, ws, e2, _, hp, hz, rl⟩, e3⟩ K => by
    subst e1; cases e3; subst e2
    have hi := rl.ints
    obtain ⟨xs, hx⟩ := hi.allInts.items
    have hnum : numsOf ws = ns := hi.numsOf
    refine sum_intListG (xs := xs) ok.room.handled (hx ▸ hp.isList) fun h' tk t' hk => ?_
    have e : preSum (numAt xs) xs.size = ns.sum := by
      rw [preSum_eq, List.take_of_length_le (by simp), ← hnum]
      have : numsOf (intItems xs).toList = numsOf ws := by rw [← hx]
      rw [← this, nums_intItems]
    rw [e]
    exact K _ _ ((Kp.refl s).of_ext hk) ⟨_, rfl⟩) he rfl
end
end Mine
namespace Mine
open PySem PySem.Spec PySem.Calls PyProof.Rows PySem.W
section
variable {c : Cx} {pos : Pos}

theorem RepD.keys : ∀ {es : List (Int × Int)} {kvs : List (Int × Value)}, RepD es kvs → kvs.map (·.1) = es.map (·.1)
  | [], _, r => by cases r; rfl
  | _ :: _, _, ⟨_, _, e, _, r⟩ => by rw [e, List.map_cons, List.map_cons, RepD.keys r]
theorem RepD.length {es : List (Int × Int)} {kvs : List (Int × Value)} (r : RepD es kvs) : kvs.length = es.length := by simpa using congrArg List.length r.keys
/-- what stands under a key -/
def lookI (es : List (Int × Int)) (k : Int) : Option Int := (es.find? fun e => e.1 = k).map (·.2)
theorem RepD.look : ∀ {es : List (Int × Int)} {kvs : List (Int × Value)} (k : Int), RepD es kvs → (lookI es k = none ∧ valueAt kvs k = none) ∨ ∃ i t, lookI es k = some i ∧ valueAt kvs k = some (.int i t)
  | [], _, _, r => by cases r; exact .inl ⟨rfl, rfl⟩
  | e :: es, _, k, ⟨v, kvs', h, ⟨t, hv⟩, r⟩ => by
    subst h; subst hv
    by_cases q : e.1 = k
    · exact .inr ⟨e.2, t, by simp [lookI, q], by simp [valueAt, q]⟩
    · have := RepD.look k r
      simpa [lookI, valueAt, q] using this

/-- a method of a built-in kind -/
theorem PE.meth {o : Expr} {name : Str} {apos : Pos} {e : Expr} {es : List Expr} {d0 d : AV} {ds : List AV} {T id : String} (ho : PE c o d0) (ha : PEL c pos (e :: es) ds)
    (hat : PlainAttrs T) (hs : Slot T name id) (hty : typeOf (.builtin id) = pure (.type "method_descriptor"))
    (hT : ∀ (s : Shared) v, Rep c.T.p s.heap c.X d0 v → s.TypeIs v T ∧ ∀ a, v = .ref a → ∃ ob, s.heap.get? a = some ob ∧ ob.dict = none)
    (h : ∀ (s : Shared) Q E v vs, Ext c.H s.heap → Rep c.T.p s.heap c.X d0 v → RepL c.T.p s.heap c.X ds vs → (∀ v s', Kp s s' → Rep c.T.p s'.heap c.X d v → Q v s') → wpAny c.M c.A (call (.builtin id) (v :: vs)) Q E s)
    (hb : attributeBase o name c.env (eval o c.env) = eval o c.env := by rfl)
    (hpl : (((backTo pos (starEach (e :: es) c.env)).all fun x => !x.fst) && (backToKw pos (keywordEach [] c.env)).all (fun x => x.fst.isSome) && decide (((e :: es).length + ([] : List Keyword).length + if ([] : List Keyword).isEmpty = true then 0 else 1) < 30)) = true := by rfl)
    (hl : (apos.endLine == pos.line) = true := by rfl) (he : starEach (e :: es) c.env = (false, eval e c.env) :: starEach es c.env := by rfl) (hpp : (backTo pos (starEach es c.env)).any (·.1) = false := by rfl) :
    PE c (.Call (.Attribute o name apos) (e :: es) [] pos) d := fun s Q E ex K => by
  refine wpAny_Call_method hb hpl hl hat hs hty (ho s _ _ ex fun v s1 k1 r1 => ⟨(hT s1 v r1).1, (hT s1 v r1).2, ?_⟩)
  have ha' := ha s1
  rw [he] at ha' ⊢
  refine Calls.callWith_builtin (by show (false || (backTo pos (starEach es c.env)).any (·.1)) = false; rw [hpp]; rfl) (Calls.evalArgs_plain (ha' _ _ (ex.trans k1.ext) fun vs s2 k2 r2 => ?_))
  exact h s2 _ _ v vs (ex.trans (k1.trans k2).ext) (r1.ext k2.ext) r2 fun v s' k r => K v s' ((k1.trans k2).trans k) r

theorem rep_dict_type {p : Program × World} {s : Shared} {X : List Addr} {es : List (Int × Int)} {v : Value} (r : Rep p s.heap X (.dict es) v) : s.TypeIs v "dict" ∧ ∀ a, v = .ref a → ∃ ob, s.heap.get? a = some ob ∧ ob.dict = none := by
  obtain ⟨a, kvs, rfl, _, _, hd, _, _⟩ := r
  exact ⟨hd.typeIs, hd.mapOf.noDict⟩
theorem rep_list_type {p : Program × World} {s : Shared} {X : List Addr} {es : List AV} {v : Value} (r : Rep p s.heap X (.list es) v) : s.TypeIs v "list" ∧ ∀ a, v = .ref a → ∃ ob, s.heap.get? a = some ob ∧ ob.dict = none := by
  obtain ⟨a, kvs, rfl, _, ⟨n, g⟩, _, _⟩ := r
  exact ⟨⟨_, g, rfl⟩, fun b e => by cases e; exact ⟨_, g, rfl⟩⟩
theorem PE.get {o k z : Expr} {apos : Pos} {es : List (Int × Int)} {i j : Int} (ho : PE c o (.dict es)) (hk : PE c k (.int i)) (hz : PE c z (.int j))
    (hb : attributeBase o "get" c.env (eval o c.env) = eval o c.env := by rfl)
    (he : starEach [k, z] c.env = (false, eval k c.env) :: starEach [z] c.env := by rfl) (e2 : starEach [z] c.env = [(false, eval z c.env)] := by rfl) (hl : (apos.endLine == pos.line) = true := by rfl) :
    PE c (.Call (.Attribute o "get" apos) [k, z] [] pos) (.int ((lookI es i).getD j)) := by
  refine PE.meth ho (PEL.cons hk (PEL.cons hz PEL.nil e2) he) F.plainAttrs_dict F.slot_dict_get F.type_dict_get (fun s v r => rep_dict_type r) ?_ hb (by rw [he, e2]; rfl) hl he (by rw [e2]; rfl)
  rintro s Q E v vs ex ⟨a, kvs, rfl, _, hS, hd, _, rd⟩ ⟨v1, vs1, rfl, ⟨t1, rfl⟩, v2, vs2, rfl, ⟨t2, rfl⟩, rfl⟩ K
  refine call_meetsIn F.slot_dict_get hd.typeIs F.entry_dict_get (F.args_dict_get_3 _ _ _) (meets_dict_get_default (intKind c.T.p.1 c.T.p.2) a (intKind_is _ _ i t1) hS (.int j t2)) ⟨_, hd.mapOf, ?_⟩
  refine K _ _ ((Kp.refl s).tok _) ?_
  rcases rd.look i with ⟨h1, h2⟩ | ⟨x, t, h1, h2⟩
  · rw [h1]; simp only [h2]; exact ⟨t2, rfl⟩
  · rw [h1]; simp only [h2]; exact ⟨t, rfl⟩
theorem countP_ints {x : Int} {e : Value → Bool} (he : ∀ a t, e (.int a t) = (a == x)) : ∀ {ns : List Int} {vs : List Value}, IntsAre vs ns → vs.countP e = ns.count x
  | [], _, .nil => rfl
  | n :: ns, _, .cons _ t r => by simp only [List.countP_cons, he, List.count_cons, countP_ints he r]
theorem PE.count {o k : Expr} {apos : Pos} {ns : List Int} {i : Int} (ho : PE c o (AV.ints ns)) (hk : PE c k (.int i))
    (hb : attributeBase o "count" c.env (eval o c.env) = eval o c.env := by rfl)
    (he : starEach [k] c.env = [(false, eval k c.env)] := by rfl) (hl : (apos.endLine == pos.line) = true := by rfl) :
    PE c (.Call (.Attribute o "count" apos) [k] [] pos) (.int (ns.count i : Nat)) := by
  refine PE.meth ho (PEL.cons hk PEL.nil he) F.plainAttrs_list F.slot_list_count F.type_list_count (fun s v r => rep_list_type r) ?_ hb (by rw [he]; rfl) hl he rfl
  rintro s Q E v vs ex ⟨a, ws, rfl, _, ⟨n, g⟩, hz, rl⟩ ⟨v1, vs1, rfl, ⟨t1, rfl⟩, rfl⟩ K
  have hi := rl.ints
  refine call_meets F.slot_list_count ⟨_, g, rfl⟩ F.entry_list_count (F.args_list_count_2 _ _) (MeetsSeq.list_count a ws.toArray n (.int i t1) (fun y => match y with | .int b _ => b == i | _ => false) fun y hy => ?_) ⟨g, ?_⟩
  · obtain ⟨b, t, rfl⟩ := hi.allInts y (by simpa using hy)
    exact MeetsSeq.EqGives.int b i t t1
  · refine K _ _ ((Kp.refl s).tok _) ⟨s.toks, ?_⟩
    rw [show ws.toArray.toList = ws from rfl, countP_ints (fun _ _ => rfl) hi]

/-- a def of the text -/
def FnP (T : Tp) (k : Nat) (a : Addr) (args : List AV) (d : AV) : Prop :=
  ∀ (A : Around) (s : Shared) (Q E : Value → Shared → Prop) (X : List Addr) (vs : List Value), Room A k → Ext T.H₀ s.heap → (∀ x ∈ X, ∃ o, s.heap.get? x = some o) → RepL T.p s.heap X args vs →
    (∀ v s', Kp s s' → Rep T.p s'.heap X d v → Q v s') → wpAny (model T.p.1 T.p.2) A (call (.ref a) vs) Q E s
theorem PE.callF {x : Str} {np : Pos} {e : Expr} {es : List Expr} {ds : List AV} {d : AV} {a : Addr} {o : Obj} {fd : FuncData} {k : Nat} (ok : c.Ok) (hg : Glob c x (.ref a)) (ho : c.T.H₀.get? a = some o) (hd : o.data = .func fd)
    (hF : FnP c.T k a ds d) (hk : k ≤ c.k) (ha : PEL c pos (e :: es) ds) (he : starEach (e :: es) c.env = (false, eval e c.env) :: starEach es c.env := by rfl) :
    PE c (.Call (.Name x np) (e :: es) [] pos) d := fun s Q E ex K =>
  wpAny_Call_NameR (hg np s _ _ ex (callWith_def hd (ha s _ _ ex fun vs s1 k1 r => ⟨k1.ext _ _ (ex _ _ (ok.old _ _ ho)), hF c.A s1 _ _ c.X vs (ok.room.le hk) ((ok.old.trans ex).trans k1.ext) (fun x hx => let ⟨o, h⟩ := ok.xs x hx; ⟨o, k1.ext _ _ (ex _ _ h)⟩) r fun v s' k r => K v s' (k1.trans k) r⟩) he))
end
end Mine
namespace Mine
open PySem PySem.Spec PySem.Calls PyProof.Rows PySem.W

section
variable {p : Program × World} {h : Heap} {X X' : List Addr}
mutual
theorem Rep.strong (hX : ∀ a ∈ X', h.get? a = none ∨ a ∈ X) : ∀ {d : AV} {v : Value}, Rep p h X d v → Rep p h X' d v
  | .none, _, r => r
  | .bool _, _, r => r
  | .int _, _, r => r
  | .list _, _, ⟨a, vs, e, n, ⟨k, g⟩, z, r⟩ => ⟨a, vs, e, fun m => (hX a m).elim (fun q => by rw [g] at q; cases q) n, ⟨k, g⟩, z, RepL.strong hX r⟩
  | .tup _, _, ⟨a, vs, e, n, ⟨k, g⟩, z, r⟩ => ⟨a, vs, e, fun m => (hX a m).elim (fun q => by rw [g] at q; cases q) n, ⟨k, g⟩, z, RepL.strong hX r⟩
  | .dict _, _, ⟨a, kvs, e, n, q, g, z, r⟩ => ⟨a, kvs, e, fun m => (hX a m).elim (fun q => by obtain ⟨o, _, _, ho, _⟩ := g; rw [ho] at q; cases q) n, q, g, z, r⟩
  | .ptr _, _, r => r
theorem RepL.strong (hX : ∀ a ∈ X', h.get? a = none ∨ a ∈ X) : ∀ {xs : List AV} {vs : List Value}, RepL p h X xs vs → RepL p h X' xs vs
  | [], _, r => r
  | _ :: _, _, ⟨v, vs', e, r, rs⟩ => ⟨v, vs', e, Rep.strong hX r, RepL.strong hX rs⟩
end
end

/-- an iterator over data -/
structure It (c : Cx) (xs : List AV) (h₁ : Heap) (s' : Shared) (I : Addr) (fp wr : List Addr) (P : Nat → Value → Prop) (St : Nat → Heap → Prop) : Prop where
  walks : Walks c.T.p.1 c.T.p.2 c.A I fp wr xs.length P St
  st : St 0 s'.heap
  lt : ∀ b ∈ fp, b < s'.heap.objs.size
  notX : ∀ b ∈ fp, b ∉ c.X
  new : ∀ b ∈ wr, h₁.get? b = none
  old : Ext c.H h₁
  up : Ext h₁ s'.heap
  items : ∀ i v, i < xs.length → P i v → ∃ d, xs[i]? = some d ∧ Rep c.T.p h₁ c.X d v
  small : xs.length ≤ big
  alive : ∀ i h, St i h → ∀ b ∈ wr, ∃ o, h.get? b = some o
def PI (c : Cx) (e : Expr) (xs : List AV) : Prop :=
  ∀ (s : Shared) (Q : Value → Shared → Prop) (E : Value → Shared → Prop), Ext c.H s.heap → (∀ h₁ s' I fp wr P St, Ext s.heap h₁ → Kp s s' → It c xs h₁ s' I fp wr P St → Q (.ref I) s') →
    wpAny c.M c.A (eval e c.env) (fun xv s₁ => wpAny c.M c.A (pyIter xv) Q E s₁) E s
/-- an iterator that keeps itself alone -/
def PIs (c : Cx) (e : Expr) (xs : List AV) : Prop :=
  ∀ (s : Shared) (Q : Value → Shared → Prop) (E : Value → Shared → Prop), Ext c.H s.heap → (∀ h₁ s' I wr P St, Ext s.heap h₁ → Kp s s' → It c xs h₁ s' I wr wr P St → Q (.ref I) s') →
    wpAny c.M c.A (eval e c.env) (fun xv s₁ => wpAny c.M c.A (pyIter xv) Q E s₁) E s
section
variable {c : Cx} {pos : Pos}
theorem none_succ (h : Heap) : h.get? (h.objs.size + 1) = none := by
  cases e : h.get? (h.objs.size + 1) with
  | none => rfl
  | some o => exact absurd (Heap.lt_size e) (Nat.not_lt.mpr (Nat.le_succ _))
theorem PI.list {e : Expr} {xs : List AV} (ok : c.Ok) (h : PE c e (.list xs)) : PI c e xs := fun s Q E ex K => h s _ _ ex fun v s1 k1 ⟨a, vs, e1, hX, hp, hz, rl⟩ => by
  subst e1
  have hlt : a < s1.heap.objs.size := by obtain ⟨n, g⟩ := hp; exact Heap.lt_size g
  have W := Walks.list (prog := c.T.p.1) (w := c.T.p.2) ok.room.handled s1.heap.objs.size a (Nat.ne_of_lt hlt) vs.toArray
  rw [show vs.toArray.size = xs.length by simp [rl.length]] at W
  refine wpAny_pyIter_list hp.isList (K s1.heap _ _ _ _ _ _ k1.ext (k1.push _) (It.mk W ?_ ?_ ?_ ?_ (ex.trans k1.ext) (Ext.push _ _) ?_ (by have := rl.length; omega) ?_))
  · exact ⟨⟨_, Heap.get?_push_size _ rfl, rfl, rfl⟩, hp.isList.push _⟩
  · intro b hb
    show b < (s1.heap.push _).objs.size
    rw [Heap.size_push]
    rcases List.mem_cons.mp hb with rfl | hb
    · exact Nat.lt_succ_self _
    · rw [List.mem_singleton.mp hb]; exact Nat.lt_succ_of_lt hlt
  · intro b hb
    rcases List.mem_cons.mp hb with rfl | hb
    · exact fresh_not ok.xs (ex.trans k1.ext) (none_size _)
    · rw [List.mem_singleton.mp hb]; exact hX
  · intro b hb
    rw [List.mem_singleton.mp hb]; exact none_size _
  · intro i v _ hv
    exact rl.get' (by simpa using hv)
  · rintro i h ⟨⟨o, ho, _⟩, _⟩ b hb
    rw [List.mem_singleton.mp hb]; exact ⟨o, ho⟩
theorem PIs.range {np : Pos} {e : Expr} {n : Int} (ok : c.Ok) (hg : Glob c "range" (.type "range")) (h : PE c e (.int n)) (h0 : 0 ≤ n) (hb : n ≤ big) (he : starEach [e] c.env = [(false, eval e c.env)] := by rfl) :
    PIs c (.Call (.Name "range" np) [e] [] pos) ((List.range n.toNat).map fun (i : Nat) => .int (i : Int)) := fun s Q E ex K => by
  refine wpAny_Call_NameR (hg np s _ _ ex ?_)
  rw [show backTo pos (starEach [e] c.env) = [(false, eval e c.env)] by rw [he]; rfl]
  refine PySem.callWith_type rfl (Calls.evalArgs_plain (Calls.spliced_cons (h s _ _ ex fun v s1 k1 ⟨t, e1⟩ => Calls.spliced_nil ?_)))
  subst e1
  have hbig : (big : Int) < 2 ^ 62 := by decide
  have hsz : Builtin.Range.rangeSize 0 n 1 = (n.toNat : Int) := by rw [rangeSize_one]; split <;> omega
  have W := Walks.range (prog := c.T.p.1) (w := c.T.p.2) ok.room.handled (s1.heap.objs.size + 1) 0 1 n.toNat
  refine call_range_1 (wpAny_pyIter_range (IsRange.new ..) (small_one (by decide) (by decide) (by omega) (by omega)) ?_)
  have hI : (s1.heap.push { cls := .type "range", data := .fields #[.int 0 s1.toks, .int n t, .int 1 (s1.toks + 1)] }).objs.size = s1.heap.objs.size + 1 := Heap.size_push ..
  have ee : Ext s1.heap ((s1.heap.push { cls := .type "range", data := .fields #[.int 0 s1.toks, .int n t, .int 1 (s1.toks + 1)] }).push { cls := .type "range_iterator", data := .fields #[rawInt 0, rawInt (Builtin.Range.rangeSize 0 n 1), rawInt 1] }) := (Ext.push _ _).trans (Ext.push _ _)
  dsimp only
  rw [hI]
  refine K s1.heap _ _ _ _ _ k1.ext (((k1.push _).tok _).push _) (It.mk (by rw [List.length_map, List.length_range]; exact W) ?_ ?_ ?_ ?_ (ex.trans k1.ext) ee ?_ (by simp; omega) ?_)
  · show IsRangeIter _ _ (0 + ((0 : Nat) : Int) * 1) ((n.toNat : Int) - ((0 : Nat) : Int)) 1
    have e1 : (0 + ((0 : Nat) : Int) * 1) = 0 := by simp
    have e2 : ((n.toNat : Int) - ((0 : Nat) : Int)) = Builtin.Range.rangeSize 0 n 1 := by rw [hsz]; simp
    rw [e1, e2]
    have := Heap.get?_push_size (s1.heap.push { cls := .type "range", data := .fields #[.int 0 s1.toks, .int n t, .int 1 (s1.toks + 1)] }) (o := { cls := .type "range_iterator", data := .fields #[rawInt 0, rawInt (Builtin.Range.rangeSize 0 n 1), rawInt 1] }) rfl
    rw [hI] at this
    exact this
  · intro b hb
    rw [List.mem_singleton.mp hb]
    simp [Heap.size_push]
  · intro b hb
    rw [List.mem_singleton.mp hb]
    refine fresh_not ok.xs (ex.trans k1.ext) ?_
    exact none_succ _
  · intro b hb
    rw [List.mem_singleton.mp hb]
    exact none_succ _
  · rintro i v hlt ⟨t', rfl⟩
    rw [List.length_map, List.length_range] at hlt
    exact ⟨.int i, by simp [hlt], t', by simp⟩
  · intro i h hs b hb
    rw [List.mem_singleton.mp hb]; exact ⟨_, hs⟩
theorem PI.range {np : Pos} {e : Expr} {n : Int} (ok : c.Ok) (hg : Glob c "range" (.type "range")) (h : PE c e (.int n)) (h0 : 0 ≤ n) (hb : n ≤ big) (he : starEach [e] c.env = [(false, eval e c.env)] := by rfl) :
    PI c (.Call (.Name "range" np) [e] [] pos) ((List.range n.toNat).map fun (i : Nat) => .int (i : Int)) := fun s Q E ex K => PIs.range ok hg h h0 hb he s Q E ex fun h₁ s' I wr P St a b it => K h₁ s' I wr wr P St a b it
theorem RepD.get : ∀ {es : List (Int × Int)} {kvs : List (Int × Value)} {i : Nat} {k : Int} {v : Value}, RepD es kvs → kvs[i]? = some (k, v) → ∃ e, es[i]? = some e ∧ e.1 = k ∧ ∃ t, v = .int e.2 t
  | [], _, _, _, _, r, q => by cases r; cases q
  | e :: _, _, 0, _, _, ⟨_, _, h, ⟨t, ht⟩, _⟩, q => by subst h; cases q; exact ⟨e, rfl, rfl, t, ht⟩
  | _ :: _, _, i + 1, _, _, ⟨_, _, h, _, r⟩, q => by subst h; rw [List.getElem?_cons_succ] at q; obtain ⟨e, a, b⟩ := RepD.get r q; exact ⟨e, by rw [List.getElem?_cons_succ]; exact a, b⟩
theorem PI.values {o : Expr} {apos : Pos} {es : List (Int × Int)} (ok : c.Ok) (ho : PE c o (.dict es)) (hb : attributeBase o "values" c.env (eval o c.env) = eval o c.env := by rfl) (hl : (apos.endLine == pos.line) = true := by rfl) :
    PI c (.Call (.Attribute o "values" apos) [] [] pos) (es.map fun e => .int e.2) := fun s Q E ex K => by
  refine wpAny_Call_method (T := "dict") (id := "dict.values") hb rfl hl F.plainAttrs_dict F.slot_dict_values F.type_dict_values (ho s _ _ ex fun v s1 k1 r1 => ⟨(rep_dict_type r1).1, (rep_dict_type r1).2, ?_⟩)
  obtain ⟨d, kvs, rfl, hX, hS, hd, hz, rd⟩ := r1
  obtain ⟨ep, hda⟩ := hd.dictAt
  have hlt : d < s1.heap.objs.size := hda.lt_size
  have hI : (s1.heap.push { cls := .type "dict_values", data := .fields #[.ref d] }).objs.size = s1.heap.objs.size + 1 := Heap.size_push ..
  refine method_meetsIn F.slot_dict_values F.entry_dict_values rfl (PySem.evalArgs_none ⟨rfl, hd.typeIs, F.args_dict_values_1 _, _, meets_dict_values (intKind c.T.p.1 c.T.p.2) d hS, ⟨kvs, hd⟩, ?_⟩)
  refine wpAny_pyIter_values (knd := intKind c.T.p.1 c.T.p.2) (d := d) (kvs := kvs) (ep := ep) ⟨_, Heap.get?_push_size _ rfl, rfl, rfl⟩ (hda.push _) ?_
  have W := Walks.dictValues (knd := intKind c.T.p.1 c.T.p.2) (A := c.A) ok.room.handled (s1.heap.objs.size + 1) d (Nat.ne_of_lt (Nat.lt_succ_of_lt hlt)) kvs ep
  rw [rd.length] at W
  have none1 : s1.heap.get? (s1.heap.objs.size + 1) = none := none_succ _
  dsimp only
  rw [hI]
  refine K s1.heap _ _ _ _ _ _ k1.ext ((k1.push _).push _) (It.mk (by rw [List.length_map]; exact W) ?_ ?_ ?_ ?_ (ex.trans k1.ext) ((Ext.push _ _).trans (Ext.push _ _)) ?_ (by have := rd.length; simp; omega) ?_)
  · have := Heap.get?_push_size (s1.heap.push { cls := .type "dict_values", data := .fields #[.ref d] }) (o := { cls := .type "dict_valueiterator", data := .fields #[.ref d, .int 0 0, .int kvs.length 0, .int ep 0] }) rfl
    rw [hI] at this
    rw [← rd.length]
    exact ⟨⟨_, this, rfl, rfl⟩, (hda.push _).push _⟩
  · intro b hb
    simp only [Heap.size_push]
    rcases List.mem_cons.mp hb with rfl | hb
    · exact Nat.lt_succ_self _
    · rw [List.mem_singleton.mp hb]; exact Nat.lt_succ_of_lt (Nat.lt_succ_of_lt hlt)
  · intro b hb
    rcases List.mem_cons.mp hb with rfl | hb
    · exact fresh_not ok.xs (ex.trans k1.ext) none1
    · rw [List.mem_singleton.mp hb]; exact hX
  · intro b hb
    rw [List.mem_singleton.mp hb]; exact none1
  · rintro i v _ ⟨k, hk⟩
    obtain ⟨e, he, _, t, rfl⟩ := rd.get hk
    exact ⟨.int e.2, by simp [he], t, rfl⟩
  · rintro i h ⟨⟨o, ho, _⟩, _⟩ b hb
    rw [List.mem_singleton.mp hb]; exact ⟨o, ho⟩
end
end Mine
namespace Mine
open PySem PySem.Spec PySem.Calls PyProof.Rows PySem.W

/-- the cells that a comprehension takes along -/
def clOf (names : List (Str × NameKind)) (cells : List (Str × Addr)) : List (Str × Addr) → List (Str × Addr) := fun acc =>
  names.foldl (fun cs x => if x.2 == .free then (x.1, (cells.lookup x.1).getD 0) :: cs else cs) acc
theorem closure_go {env : Env} : ∀ (names : List (Str × NameKind)) (acc : List (Str × Addr)), (names.all fun x => x.2 != .free || (env.cells.lookup x.1).isSome) = true →
    (forIn names acc fun (x : Str × NameKind) cs => if x.2 == .free then (do let a ← cellOf env x.1; pure (ForInStep.yield ((x.1, a) :: cs))) else pure (ForInStep.yield cs) : Sem (List (Str × Addr))) = pure (clOf names env.cells acc)
  | [], acc, _ => rfl
  | x :: r, acc, h => by
    rw [List.all_cons, Bool.and_eq_true] at h
    rw [List.forIn_cons]
    by_cases hk : (x.2 == .free) = true
    · rw [if_pos hk]
      have h1 : (env.cells.lookup x.1).isSome = true := by
        rcases (Bool.or_eq_true _ _).mp h.1 with q | q
        · rw [bne, hk] at q; cases q
        · exact q
      obtain ⟨a, ha⟩ := Option.isSome_iff_exists.mp h1
      have e : cellOf env x.1 = pure a := by unfold cellOf; rw [ha]
      rw [e, pure_bind, pure_bind]
      have := closure_go r ((x.1, a) :: acc) h.2
      refine Eq.trans this ?_
      unfold clOf
      rw [List.foldl_cons, if_pos hk, ha]; rfl
    · rw [if_neg hk, pure_bind]
      refine Eq.trans (closure_go r acc h.2) ?_
      unfold clOf
      rw [List.foldl_cons, if_neg hk]
theorem closureFor_eq {scope : Scope} {env : Env} (h : (scope.names.all fun x => x.2 != .free || (env.cells.lookup x.1).isSome) = true) : closureFor scope env = pure (clOf scope.names env.cells []) := by
  unfold closureFor
  have := closure_go scope.names [] h
  simp only [bind_pure]
  refine Eq.trans ?_ this
  congr 1
theorem clOf_lookup {cells : List (Str × Addr)} {y : Str} : ∀ (names : List (Str × NameKind)) (acc : List (Str × Addr)), (acc.lookup y = none ∨ acc.lookup y = some ((cells.lookup y).getD 0)) →
    ((acc.lookup y).isSome = true ∨ (names.any fun x => x.2 == .free && x.1 == y) = true) → (clOf names cells acc).lookup y = some ((cells.lookup y).getD 0)
  | [], acc, h, q => by
    rcases h with h | h
    · rcases q with q | q
      · rw [h] at q; cases q
      · simp at q
    · exact h
  | x :: r, acc, h, q => by
    unfold clOf
    rw [List.foldl_cons]
    by_cases hk : (x.2 == .free) = true
    · rw [if_pos hk]
      refine clOf_lookup r _ ?_ ?_
      · by_cases hy : (y == x.1) = true
        · have e := beq_iff_eq.mp hy
          right; rw [List.lookup_cons, hy, e]
        · rw [List.lookup_cons]; simp only [Bool.eq_false_iff.mpr hy]; exact h
      · by_cases hy : (y == x.1) = true
        · left; rw [List.lookup_cons, hy]; rfl
        · rcases q with q | q
          · left; rw [List.lookup_cons]; simp only [Bool.eq_false_iff.mpr hy]; exact q
          · right
            rw [List.any_cons, Bool.or_eq_true] at q
            rcases q with q | q
            · rw [Bool.and_eq_true] at q
              exact absurd (beq_iff_eq.mpr (beq_iff_eq.mp q.2).symm) hy
            · exact q
    · rw [if_neg hk]
      refine clOf_lookup r acc h ?_
      rcases q with q | q
      · exact .inl q
      · right
        rw [List.any_cons, Bool.or_eq_true] at q
        rcases q with q | q
        · rw [Bool.and_eq_true] at q; exact absurd q.1 hk
        · exact q

theorem cellsFrom_app : ∀ (names : List (Str × NameKind)) (n : Nat) (acc : List (Str × Addr)), cellsFrom n names acc = cellsFrom n names [] ++ acc
  | [], _, _ => rfl
  | (y, k) :: r, n, acc => by
    unfold cellsFrom
    split
    · rw [cellsFrom_app r (n + 1) ((y, n) :: acc), cellsFrom_app r (n + 1) [(y, n)], List.append_assoc]; rfl
    · exact cellsFrom_app r n acc
theorem cellsFrom_shift : ∀ (names : List (Str × NameKind)) (n m : Nat), (cellsFrom n names []).map (·.1) = (cellsFrom m names []).map (·.1)
  | [], _, _ => rfl
  | (y, k) :: r, n, m => by
    unfold cellsFrom
    split
    · rw [cellsFrom_app r (n + 1), cellsFrom_app r (m + 1), List.map_append, List.map_append, cellsFrom_shift r (n + 1) (m + 1)]; rfl
    · exact cellsFrom_shift r n m

theorem lookup_none_map {α : Type} {y : Str} : ∀ {l : List (Str × α)}, l.lookup y = none ↔ y ∉ l.map (·.1)
  | [] => by simp
  | (n, a) :: r => by
    rw [List.lookup_cons, List.map_cons, List.mem_cons]
    by_cases h : (y == n) = true
    · rw [h]; simp [beq_iff_eq.mp h]
    · have h' : y ≠ n := fun e => h (beq_iff_eq.mpr e)
      rw [Bool.eq_false_iff.mpr h]
      simp only [h', false_or]
      exact lookup_none_map
theorem lookup_append {α : Type} {y : Str} : ∀ {l l' : List (Str × α)}, (l ++ l').lookup y = (l.lookup y).or (l'.lookup y)
  | [], _ => by simp
  | (n, a) :: r, l' => by
    rw [List.cons_append, List.lookup_cons, List.lookup_cons]
    cases y == n with
    | true => rfl
    | false => exact lookup_append

section
variable {M : Model} {A : Around} {E : Value → Shared → Prop} {s : Shared}
theorem newCompEnv {scope : Scope} {globals : Addr} {cl : List (Str × Addr)} {qual : Str} {env : Env} {Q : Env → Shared → Prop}
    (h : Q (newEnv scope s.heap.objs.size globals (cellsFrom (s.heap.objs.size + 1) scope.names cl) qual none .none (some env) builtinsNs) { s with heap := pushCells (s.heap.push { cls := .type "dict", data := .dict #[] }) scope.names }) :
    wpAny M A (newFunctionEnv scope globals cl [] qual none .none (some env)) Q E s := by
  simp only [newFunctionEnv, Option.isSome_some, if_true]
  refine wpAny_bind (wpAny_alloc ?_)
  refine wpAny_bind (wpAny_layCells _ (fun name kind cells => by cases hkc : kind == NameKind.cell <;> simp [hkc]) _ _ _ _ ?_)
  rw [show ({ s with heap := s.heap.push { cls := .type "dict", data := .dict #[] } } : Shared).heap.objs.size = s.heap.objs.size + 1 from Heap.size_push ..]
  exact wpAny_bind (wpAny_pure (wpAny_pure h))
end
end Mine
namespace Mine
open PySem PySem.Spec PySem.Calls PyProof.Rows PySem.W

/-- the variables of the outer frame that a comprehension sees -/
def seen (scope : Scope) (env : Env) (x : Str) (ρ : List (Str × AV)) : List (Str × AV) :=
  ρ.filter fun y => env.kindOf y.1 == some .cell && scope.names.lookup y.1 == some .free && ((cellsFrom 0 scope.names []).lookup y.1).isNone && !(y.1 == x)
def compCells (scope : Scope) (env : Env) (C : Addr) : List (Str × Addr) := cellsFrom (C + 1) scope.names (clOf scope.names env.cells [])
def cEnv (scope : Scope) (env : Env) (C : Addr) : Env := compEnvC scope (compCells scope env C) C env
/-- the context in a comprehension -/
def cCx (c : Cx) (scope : Scope) (x : Str) (d : AV) (C : Addr) (H : Heap) (X : List Addr) : Cx :=
  ⟨c.T, c.A, c.k, cEnv scope c.env C, H, X, (x, d) :: seen scope c.env x c.ρ⟩

theorem filter_lookup {P : Str → Bool} : ∀ {ρ : List (Str × AV)} {y : Str} {d : AV}, (ρ.filter fun z => P z.1).lookup y = some d → ρ.lookup y = some d ∧ P y = true
  | [], _, _, h => by cases h
  | (n, a) :: r, y, d, h => by
    rw [List.filter_cons] at h
    by_cases hn : P n = true
    · rw [if_pos hn, List.lookup_cons] at h
      rw [List.lookup_cons]
      cases q : y == n with
      | true => rw [q] at h; exact ⟨h, (beq_iff_eq.mp q) ▸ hn⟩
      | false => rw [q] at h; exact filter_lookup h
    · rw [if_neg hn] at h
      have ih := filter_lookup h
      rw [List.lookup_cons]
      cases q : y == n with
      | true => exact absurd ((beq_iff_eq.mp q) ▸ ih.2) hn
      | false => exact ih

theorem lookup_relabel_cell {env : Env} (hk : env.scope.kind = .function) : ∀ {names : List (Str × NameKind)} {x : Str}, names.lookup x = some .cell →
    (names.map fun (n, k) => if (k == NameKind.free && env.scope.kind == .function && env.kindOf n == some .cell) then (n, NameKind.cell) else (n, k)).lookup x = some .cell
  | [], _, h => by simp at h
  | (n, k) :: r, x, h => by
    show List.lookup x ((if (k == NameKind.free && env.scope.kind == .function && env.kindOf n == some .cell) = true then (n, NameKind.cell) else (n, k)) :: _) = _
    rw [List.lookup_cons] at h
    by_cases hc : (k == NameKind.free && env.scope.kind == .function && env.kindOf n == some .cell) = true
    · rw [if_pos hc, List.lookup_cons]
      cases hx : x == n with
      | true => rfl
      | false => rw [hx] at h; exact lookup_relabel_cell hk h
    · rw [if_neg hc, List.lookup_cons]
      cases hx : x == n with
      | true => rw [hx] at h; exact h
      | false => rw [hx] at h; exact lookup_relabel_cell hk h
theorem lookup_relabel_free {env : Env} (hk : env.scope.kind = .function) {x : Str} (hx : env.kindOf x = some .cell) : ∀ {names : List (Str × NameKind)}, names.lookup x = some .free →
    (names.map fun (n, k) => if (k == NameKind.free && env.scope.kind == .function && env.kindOf n == some .cell) then (n, NameKind.cell) else (n, k)).lookup x = some .cell
  | [], h => by simp at h
  | (n, k) :: r, h => by
    show List.lookup x ((if (k == NameKind.free && env.scope.kind == .function && env.kindOf n == some .cell) = true then (n, NameKind.cell) else (n, k)) :: _) = _
    rw [List.lookup_cons] at h
    cases hq : x == n with
    | true =>
      rw [hq] at h
      cases h
      have e := beq_iff_eq.mp hq
      subst e
      rw [if_pos (by rw [hk, hx]; rfl), List.lookup_cons, hq]
    | false =>
      rw [hq] at h
      have ih := lookup_relabel_free hk hx (names := r) h
      by_cases hc : (k == NameKind.free && env.scope.kind == .function && env.kindOf n == some .cell) = true
      · rw [if_pos hc, List.lookup_cons, hq]; exact ih
      · rw [if_neg hc, List.lookup_cons, hq]; exact ih
theorem any_free_of_lookup {y : Str} : ∀ {names : List (Str × NameKind)}, names.lookup y = some .free → (names.any fun x => x.2 == .free && x.1 == y) = true
  | [], h => by simp at h
  | (n, k) :: r, h => by
    rw [List.lookup_cons] at h
    rw [List.any_cons]
    cases hq : y == n with
    | true => rw [hq] at h; cases h; rw [show (n == y) = true from by rw [beq_iff_eq] at hq ⊢; exact hq.symm]; rfl
    | false => rw [hq] at h; rw [any_free_of_lookup h, Bool.or_true]

theorem Vars.ext {p : Program × World} {env : Env} {X : List Addr} {ρ : List (Str × AV)} {h h' : Heap} (v : Vars p env X ρ h) (e : Ext h h') : Vars p env X ρ h' := by
  obtain ⟨m, hn, hv⟩ := v
  refine ⟨m, hn.keeps e, fun x d hx => ?_⟩
  obtain ⟨v, r, a, b⟩ := hv x d hx
  exact ⟨v, r.ext e, a, fun q => let ⟨cc, h1, h2⟩ := b q; ⟨cc, h1, h2.keeps e⟩⟩

/-- in a turn of a comprehension the context is sound -/
theorem cCx_ok {c : Cx} {scope : Scope} {x : Str} {d : AV} {C : Addr} {H : Heap} {X' : List Addr} {v : Value} {m : Str → Option Value} (ok : c.Ok) (hkind : scope.kind = .function) (hcl : (scope.names.all fun x => x.2 != .free || (c.env.cells.lookup x.1).isSome) = true)
    (e : Ext c.H H) (hX : ∀ a ∈ X', c.H.get? a = none ∨ a ∈ c.X) (hXs : ∀ a ∈ X', ∃ o, H.get? a = some o) (hn : H.Ns C m) (r : Rep c.T.p H X' d v) (hv : VarIs (cEnv scope c.env C) H m x v) : (cCx c scope x d C H X').Ok := by
  refine ⟨ok.top, ok.room, ok.old.trans e, hkind, ok.glob, ok.blt, hXs, m, hn, fun y d' hy => ?_⟩
  have hy' : ((x, d) :: seen scope c.env x c.ρ).lookup y = some d' := hy
  rw [List.lookup_cons] at hy'
  cases q : y == x with
  | true =>
    rw [q] at hy'; cases hy'
    have := beq_iff_eq.mp q
    subst this
    exact ⟨v, r, hv⟩
  | false =>
    rw [q] at hy'
    obtain ⟨h1, h2⟩ := filter_lookup (P := fun y => c.env.kindOf y == some .cell && scope.names.lookup y == some .free && ((cellsFrom 0 scope.names []).lookup y).isNone && !(y == x)) hy'
    simp only [Bool.and_eq_true, beq_iff_eq] at h2
    obtain ⟨⟨⟨k1, k2⟩, k3⟩, _⟩ := h2
    obtain ⟨m0, hn0, hv0⟩ := ok.vars
    obtain ⟨v', r', _, b⟩ := hv0 y d' h1
    obtain ⟨cc, c1, c2⟩ := b k1
    have hkc : (cEnv scope c.env C).kindOf y = some .cell := lookup_relabel_free ok.kind k1 k2
    refine ⟨v', (Rep.strong hX r').ext e, And.intro (fun q => by rw [show (cCx c scope x d C H X').env.kindOf y = some .cell from hkc] at q; cases q) fun _ => ⟨cc, ?_, c2.keeps e⟩⟩
    show (cellsFrom (C + 1) scope.names (clOf scope.names c.env.cells [])).lookup y = some cc
    rw [cellsFrom_app, lookup_append]
    have : (cellsFrom (C + 1) scope.names []).lookup y = none := by
      rw [lookup_none_map, cellsFrom_shift _ _ 0, ← lookup_none_map]
      exact Option.isNone_iff_eq_none.mp k3
    rw [this, Option.none_or, clOf_lookup scope.names [] (.inl rfl) (.inr (any_free_of_lookup k2)), c1]; rfl
end Mine
namespace Mine
open PySem PySem.Spec PySem.Calls PyProof.Rows PySem.W

structure CompOk (c : Cx) (scope : Scope) (x : Str) : Prop where
  kind : scope.kind = .function
  free : (scope.names.all fun y => y.2 != .free || (c.env.cells.lookup y.1).isSome) = true
  var : scope.names.lookup x = some .local ∨ (scope.names.lookup x = some .cell ∧ ((cellsFrom 0 scope.names []).lookup x).isSome = true)
  names : (scope.names.all fun y => y.2 != .local || scope.names.lookup y.1 == some .local) = true

def PTs (c : Cx) (ifs : List Expr) (b : Bool) : Prop :=
  ∀ (s : Shared) (Q : Bool → Shared → Prop) (E : Value → Shared → Prop), Ext c.H s.heap → (∀ s', Kp s s' → Q b s') →
    wpAny c.M c.A (forIn ifs true fun e r => if r = true then do let ok ← isTrue e c.env (eval e c.env); pure (ForInStep.yield ok) else pure (ForInStep.yield r)) Q E s
theorem PTs.nil {c : Cx} : PTs c [] true := fun s Q E _ K => by rw [List.forIn_nil]; exact wpAny_pure (K s (Kp.refl s))
theorem PTs.one {c : Cx} {t : Expr} {b : Bool} (h : PT c t b) : PTs c [t] b := fun s Q E ex K => by
  rw [List.forIn_cons]
  refine wpAny_bind ?_
  simp only [if_true]
  refine wpAny_bind (h s _ _ ex fun s1 k1 => wpAny_pure ?_)
  dsimp only
  rw [List.forIn_nil]
  exact wpAny_pure (K s1 k1)

theorem cellsFrom_lookup_shift : ∀ (names : List (Str × NameKind)) (n m : Nat) (y : Str), ((cellsFrom n names []).lookup y).isSome = ((cellsFrom m names []).lookup y).isSome := fun names n m y => by
  cases h : (cellsFrom n names []).lookup y with
  | none =>
    have := lookup_none_map.mp h
    rw [cellsFrom_shift names n m] at this
    rw [lookup_none_map.mpr this]
  | some a =>
    cases h' : (cellsFrom m names []).lookup y with
    | none =>
      have := lookup_none_map.mp h'
      rw [cellsFrom_shift names m n] at this
      rw [lookup_none_map.mpr this] at h; cases h
    | some b => rfl

section
variable {c : Cx} {elt iter : Expr} {x : Str} {px : Pos} {ifs : List Expr} {scope : Scope} {pos : Pos} {E : Value → Shared → Prop}

/-- the store of a comprehension's name -/
theorem comp_store {C : Addr} {Y : List Addr} {s : Shared} {v : Value} {m : Str → Option Value} {Q : Unit → Shared → Prop} {E' : Value → Shared → Prop} (ok : c.Ok) (co : CompOk c scope x) (hn : s.heap.Ns C m) (hC : C ∈ Y)
    (hcell : ∀ cc, (cellsFrom (C + 1) scope.names []).lookup x = some cc → cc ∈ Y ∧ cc ≠ C ∧ ∃ v0, s.heap.IsCell cc v0)
    (h : ∀ h' tk m', h'.Ns C m' → VarIs (cEnv scope c.env C) h' m' x v → ExtB Y s.heap h' → (∀ a, (∃ o, s.heap.get? a = some o) → ∃ o, h'.get? a = some o) →
      (∀ cc, (cellsFrom (C + 1) scope.names []).lookup x = some cc → ∃ v0, h'.IsCell cc v0) → Q () { s with heap := h', toks := tk }) :
    wpAny c.M c.A (assign (.Name x px) (cEnv scope c.env C) v) Q E' s := by
  refine wpAny_assign_Name ?_
  have hkind : (cEnv scope c.env C).scope.kind = .function := co.kind
  rcases co.var with hl | ⟨hl, hs⟩
  · have hk : (cEnv scope c.env C).kindOf x = some .local := lookup_relabel_local hl
    refine wpAny_storeName_local hk hn (fun h' hn' hs' => h h' _ _ hn' ⟨fun _ => by simp, fun q => by rw [hk] at q; cases q⟩ (ExtB.of_same hs' hC) ?_ ?_) (by rw [hkind]; rfl)
    · rintro a ⟨o, ho⟩
      by_cases e : a = C
      · subst e; obtain ⟨o', _, _, ho', _⟩ := hn'; exact ⟨o', ho'⟩
      · exact ⟨o, (hs'.2 a e).trans ho⟩
    · intro cc hcc
      obtain ⟨_, ne, v0, o, ho, hd⟩ := hcell cc hcc
      exact ⟨v0, o, (hs'.2 cc ne).trans ho, hd⟩
  · have hk : (cEnv scope c.env C).kindOf x = some .cell := lookup_relabel_cell ok.kind hl
    rw [cellsFrom_lookup_shift _ 0 (C + 1)] at hs
    obtain ⟨cc, hcc⟩ := Option.isSome_iff_exists.mp hs
    obtain ⟨hY, ne, v0, hc⟩ := hcell cc hcc
    have hlk : (cEnv scope c.env C).cells.lookup x = some cc := by
      show (cellsFrom (C + 1) scope.names (clOf scope.names c.env.cells [])).lookup x = some cc
      rw [cellsFrom_app, lookup_append, hcc]; rfl
    refine wpAny_storeName_cell hkind hk hlk hc fun h' hc' hs' => h h' _ m (hn.sameBut hs' (Ne.symm ne)) ⟨fun q => (by rw [hk] at q; cases q), fun _ => ⟨cc, hlk, hc'⟩⟩ (ExtB.of_same hs' hY) ?_ ?_
    · rintro a ⟨o, ho⟩
      by_cases e : a = cc
      · subst e; obtain ⟨o', ho', _⟩ := hc'; exact ⟨o', ho'⟩
      · exact ⟨o, (hs'.2 a e).trans ho⟩
    · intro cc' hcc'
      rw [hcc] at hcc'; cases hcc'
      exact ⟨_, hc'⟩

theorem get_map_some {α : Type} {enc : α → AV} {src : List α} {i : Nat} {d : AV} (h : (src.map enc)[i]? = some d) : ∃ a, src[i]? = some a ∧ d = enc a := by
  rw [List.getElem?_map] at h
  cases q : src[i]? with
  | none => rw [q] at h; cases h
  | some a => rw [q] at h; cases h; exact ⟨a, rfl, rfl⟩

theorem cellsFrom_ge : ∀ (names : List (Str × NameKind)) (n : Nat) (y : Str) (a : Addr), (y, a) ∈ cellsFrom n names [] → n ≤ a
  | [], _, _, _, h => by cases h
  | (z, k) :: r, n, y, a, h => by
    unfold cellsFrom at h
    split at h
    · rw [cellsFrom_app] at h
      rcases List.mem_append.mp h with h | h
      · exact Nat.le_of_succ_le (cellsFrom_ge r (n + 1) y a h)
      · rcases List.mem_singleton.mp h with e
        cases e; exact Nat.le_refl _
    · exact cellsFrom_ge r n y a h
def ownC (scope : Scope) (C : Addr) : List Addr := C :: (cellsFrom (C + 1) scope.names []).map (·.2)
theorem ownC_ge {scope : Scope} {C a : Addr} (h : a ∈ ownC scope C) : C ≤ a := by
  rcases List.mem_cons.mp h with rfl | h
  · exact Nat.le_refl _
  · obtain ⟨⟨y, b⟩, hm, rfl⟩ := List.mem_map.mp h
    exact Nat.le_of_succ_le (cellsFrom_ge _ _ _ _ hm)
theorem ownC_of_lookup {scope : Scope} {C cc : Addr} {x : Str} (h : (cellsFrom (C + 1) scope.names []).lookup x = some cc) : cc ∈ ownC scope C ∧ cc ≠ C := by
  have hm := mem_of_lookup h
  exact ⟨List.mem_cons_of_mem _ (List.mem_map.mpr ⟨_, hm, rfl⟩), Nat.ne_of_gt (cellsFrom_ge _ _ _ _ hm)⟩
theorem none_ge {h : Heap} {a : Addr} (q : h.objs.size ≤ a) : h.get? a = none := by
  cases e : h.get? a with
  | none => rfl
  | some o => exact absurd (Heap.lt_size e) (Nat.not_lt.mpr q)

theorem comp_loop {α : Type} (enc : α → AV) (src : List α) (b : α → Bool) (f : α → AV) {R : Result → Shared → Prop} {s₂ s : Shared} {h₁ : Heap} {I C D : Addr} {fp wr : List Addr} {P : Nat → Value → Prop} {St : Nat → Heap → Prop} {m : Str → Option Value}
    (ok : c.Ok) (co : CompOk c scope x) (it : It c (src.map enc) h₁ s₂ I fp wr P St)
    (htest : ∀ a ∈ src, ∀ C H X', (cCx c scope x (enc a) C H X').Ok → PTs (cCx c scope x (enc a) C H X') ifs (b a))
    (helt : ∀ a ∈ src, b a = true → ∀ C H X', (cCx c scope x (enc a) C H X').Ok → PE (cCx c scope x (enc a) C H X') elt (f a))
    (hD : s₂.heap.objs.size ≤ D) (hDC : D < C)
    (hs : ∃ h tk, s = { s₂ with heap := h, toks := tk } ∧ Ext s₂.heap h) (halive : ∀ a ∈ D :: ownC scope C, ∃ o, s.heap.get? a = some o)
    (hacc : s.heap.PlainList D #[]) (hn : s.heap.Ns C m) (hcell : ∀ cc, (cellsFrom (C + 1) scope.names []).lookup x = some cc → ∃ v0, s.heap.IsCell cc v0)
    (hR : ∀ h' tk m' ys, h'.Ns C m' → h'.PlainList D (List.toArray ys) → ys.length ≤ big → RepL c.T.p h' (D :: ownC scope C ++ wr ++ c.X) ((src.filter b).map f) ys → ExtB (D :: ownC scope C ++ wr) s₂.heap h' → R (.ok .next) { s₂ with heap := h', toks := tk }) :
    codeAny c.M c.A (.compLoop (.ListComp elt [⟨.Name x px, iter, ifs, 0⟩] scope pos) 0 (.ref I) (.ref D) (cEnv scope c.env C)) R s := by
  have W := it.walks
  have hlen : (src.map enc).length = src.length := List.length_map ..
  rw [hlen] at W
  have hsmall : src.length ≤ big := hlen ▸ it.small
  have hNge : ∀ a ∈ D :: ownC scope C, s₂.heap.objs.size ≤ a := fun a ha => by
    rcases List.mem_cons.mp ha with rfl | ha
    · exact hD
    · exact Nat.le_trans hD (Nat.le_trans (Nat.le_of_lt hDC) (ownC_ge ha))
  have hDo : D ∉ ownC scope C := fun h => absurd (ownC_ge h) (Nat.not_le.mpr hDC)
  have hX1 : ∀ a ∈ D :: ownC scope C ++ wr ++ c.X, h₁.get? a = none ∨ a ∈ c.X := fun a ha => by
    rcases List.mem_append.mp ha with ha | ha
    · rcases List.mem_append.mp ha with ha | ha
      · left
        cases e : h₁.get? a with
        | none => rfl
        | some o => have := it.up a o e; rw [none_ge (hNge a ha)] at this; cases this
      · exact .inl (it.new a ha)
    · exact .inr ha
  have hXH : ∀ a ∈ D :: ownC scope C ++ wr ++ c.X, c.H.get? a = none ∨ a ∈ c.X := fun a ha => (hX1 a ha).imp (fun q => by
    cases e : c.H.get? a with
    | none => rfl
    | some o => rw [it.old a o e] at q; cases q) id
  have hfpN : ∀ a ∈ fp, a ∉ D :: ownC scope C := fun a ha hm => absurd (it.lt a ha) (Nat.not_lt.mpr (hNge a hm))
  have hwrN : ∀ a ∈ D :: ownC scope C, a ∉ wr := fun a ha hm => hfpN a (W.sub _ hm) ha
  have up1 : ∀ {h' : Heap}, ExtB (D :: ownC scope C ++ wr) s₂.heap h' → Ext h₁ h' := fun {h'} e a o ho => e a o (fun hm => by
    rcases List.mem_append.mp hm with hm | hm
    · have := it.up a o ho; rw [none_ge (hNge a hm)] at this; cases this
    · rw [it.new a hm] at ho; cases ho) (it.up a o ho)
  refine codeAny_compLoop_tests (fun n s' => ∃ h' tk m' ys i, s' = { s₂ with heap := h', toks := tk } ∧ i ≤ src.length ∧ n = src.length + 1 - i ∧ St i h' ∧ h'.PlainList D (List.toArray ys) ∧ ys.length ≤ i ∧ h'.Ns C m' ∧
      RepL c.T.p h' (D :: ownC scope C ++ wr ++ c.X) (((src.take i).filter b).map f) ys ∧ ExtB (D :: ownC scope C ++ wr) s₂.heap h' ∧ (∀ a ∈ D :: ownC scope C, ∃ o, h'.get? a = some o) ∧
      (∀ cc, (cellsFrom (C + 1) scope.names []).lookup x = some cc → ∃ v0, h'.IsCell cc v0)) ?_ (src.length + 1) ?_
  · rintro n s' ⟨h', tk, m', ys, i, rfl, hi, rfl, hst, hDl, hys, hnC, hrep, hext, hal, hce⟩
    by_cases hlt : i < src.length
    · refine W.item i _ _ _ hlt hst fun v h₂ tk₂ hP hst₂ hk₂ => ?_
      obtain ⟨d, hd, r0⟩ := it.items i v (by rw [hlen]; exact hlt) hP
      obtain ⟨a, ha, rfl⟩ := get_map_some hd
      have ha' : a ∈ src := List.mem_of_getElem? ha
      have E2 : ExtB (D :: ownC scope C ++ wr) s₂.heap h₂ := fun b o nb e => hk₂ b o (fun q => nb (List.mem_append_right _ q)) (hext b o nb e)
      have hCw : C ∉ wr := hwrN C (List.mem_cons_of_mem _ (List.mem_cons_self))
      have hDw : D ∉ wr := hwrN D List.mem_cons_self
      have hn₂ : h₂.Ns C m' := hnC.at' fun o e => hk₂ _ o hCw e
      have hal₂ : ∀ a ∈ D :: ownC scope C, ∃ o, h₂.get? a = some o := fun a ha => let ⟨o, ho⟩ := hal a ha; ⟨o, hk₂ a o (hwrN a ha) ho⟩
      refine comp_store (Y := ownC scope C) ok co hn₂ List.mem_cons_self (fun cc hcc => ⟨(ownC_of_lookup hcc).1, (ownC_of_lookup hcc).2, ?_⟩) fun h₃ tk₃ m₃ hn₃ hv₃ he₃ hal₃ hce₃ => ?_
      · obtain ⟨v0, o, ho, hd0⟩ := hce cc hcc
        exact ⟨v0, o, hk₂ cc o (hwrN cc (List.mem_cons_of_mem _ (ownC_of_lookup hcc).1)) ho, hd0⟩
      have hst₃ : St (i + 1) h₃ := W.frame _ _ _ hst₂ fun b hb o e => he₃ b o (fun q => hfpN b hb (List.mem_cons_of_mem _ q)) e
      have E3 : ExtB (D :: ownC scope C ++ wr) s₂.heap h₃ := fun b o nb e => he₃ b o (fun q => nb (List.mem_append_left _ (List.mem_cons_of_mem _ q))) (E2 b o nb e)
      have e1 := up1 E3
      have r3 : Rep c.T.p h₃ (D :: ownC scope C ++ wr ++ c.X) (enc a) v := (Rep.strong hX1 r0).ext e1
      have hal3 : ∀ a ∈ D :: ownC scope C, ∃ o, h₃.get? a = some o := fun a ha => hal₃ a (hal₂ a ha)
      have hXs : ∀ a ∈ D :: ownC scope C ++ wr ++ c.X, ∃ o, h₃.get? a = some o := fun a ha => by
        rcases List.mem_append.mp ha with ha | ha
        · rcases List.mem_append.mp ha with ha | ha
          · exact hal3 a ha
          · exact it.alive _ _ hst₃ a ha
        · obtain ⟨o, ho⟩ := ok.xs a ha
          exact ⟨o, e1 a o (it.old a o ho)⟩
      have ok' := cCx_ok ok co.kind co.free (it.old.trans e1) hXH hXs hn₃ r3 hv₃
      have hD3 : h₃.PlainList D (List.toArray ys) := (hDl.at fun o e => hk₂ _ o hDw e).at fun o e => he₃ D o hDo e
      have hrep3 : RepL c.T.p h₃ (D :: ownC scope C ++ wr ++ c.X) (((src.take i).filter b).map f) ys := by
        refine RepL.mono (h := h') (fun k o nk e => ?_) hrep
        have n1 : k ∉ D :: ownC scope C ++ wr := fun q => nk (List.mem_append_left _ q)
        exact he₃ k o (fun q => n1 (List.mem_append_left _ (List.mem_cons_of_mem _ q))) (hk₂ k o (fun q => n1 (List.mem_append_right _ q)) e)
      have htake : src.take (i + 1) = src.take i ++ [a] := by rw [List.take_add_one, ha]; rfl
      refine htest a ha' C h₃ _ ok' { s₂ with heap := h₃, toks := tk₃ } _ _ (Ext.refl h₃) fun s₄ k₄ => ?_
      obtain ⟨h₄, tk₄, rfl, hk₄⟩ := k₄.is
      have hk₄ : Ext h₃ h₄ := hk₄
      cases hb : b a with
      | false =>
        simp only [Bool.false_eq_true, if_false]
        refine ⟨src.length + 1 - (i + 1), by omega, h₄, tk₄, m₃, ys, i + 1, rfl, hlt, rfl, W.frame _ _ _ hst₃ fun b _ o e => hk₄ b o e, hD3.at fun o e => hk₄ _ o e, Nat.le_succ_of_le hys, hn₃.keeps hk₄, ?_, E3.trans hk₄.but, fun a ha => let ⟨o, ho⟩ := hal3 a ha; ⟨o, hk₄ a o ho⟩, fun cc hcc => let ⟨v0, hv0⟩ := hce₃ cc hcc; ⟨v0, hv0.keeps hk₄⟩⟩
        rw [htake, List.filter_append]
        simpa [hb] using hrep3.ext hk₄
      | true =>
        simp only [if_true]
        refine helt a ha' hb C h₃ _ ok' { s₂ with heap := h₄, toks := tk₄ } _ _ hk₄ fun y s₅ k₅ r₅ => ?_
        obtain ⟨h₅, tk₅, rfl, hk₅⟩ := k₅.is
        have hk₅ : Ext h₄ h₅ := hk₅
        have bl := big_le
        refine wpAny_list_append_plain (hsz := by simp; omega) (hD3.at fun o e => hk₅ _ o (hk₄ _ o e)) fun h₆ hl₆ hs₆ => ?_
        have hs₆ : Heap.SameBut D h₅ h₆ := hs₆
        have e6 : ExtB (D :: ownC scope C ++ wr) h₅ h₆ := ExtB.of_same hs₆ (List.mem_append_left _ List.mem_cons_self)
        have e35 : Ext h₃ h₅ := hk₄.trans hk₅
        refine ⟨src.length + 1 - (i + 1), by omega, h₆, tk₅, m₃, ys ++ [y], i + 1, rfl, hlt, rfl, W.frame _ _ _ hst₃ fun b hb' o e => hs₆.extBut b o (fun q => hfpN b hb' (q ▸ List.mem_cons_self)) (e35 b o e), by simpa using hl₆, by simpa using hys,
          (hn₃.keeps e35).sameBut hs₆ (Nat.ne_of_gt hDC), ?_, (E3.trans e35.but).trans e6, fun a ha => ?_, fun cc hcc => ?_⟩
        · rw [htake, List.filter_append, List.map_append]
          have e6' : ExtB (D :: ownC scope C ++ wr ++ c.X) h₅ h₆ := e6.mono fun k hk => List.mem_append_left _ hk
          have z : RepL c.T.p h₆ (D :: ownC scope C ++ wr ++ c.X) ((src.take i |>.filter b).map f ++ [f a]) (ys ++ [y]) := RepL.append ((hrep3.ext e35).mono e6') (RepL.cons (r₅.mono e6') RepL.nil)
          simpa [hb] using z
        · by_cases q : a = D
          · subst q; obtain ⟨n, g⟩ := hl₆; exact ⟨_, g⟩
          · obtain ⟨o, ho⟩ := hal3 a ha
            exact ⟨o, (hs₆.2 a q).trans (e35 a o ho)⟩
        · obtain ⟨v0, o, ho, hd0⟩ := hce₃ cc hcc
          exact ⟨v0, o, (hs₆.2 cc (fun q => hDo (q ▸ (ownC_of_lookup hcc).1))).trans (e35 cc o ho), hd0⟩
    · have hin : i = src.length := by omega
      subst hin
      refine W.done _ _ _ hst fun h₂ tk₂ hk₂ => ?_
      rw [List.take_length] at hrep
      refine hR h₂ tk₂ m' ys (hnC.at' fun o e => hk₂ _ o (hwrN C (List.mem_cons_of_mem _ List.mem_cons_self)) e) (hDl.at fun o e => hk₂ _ o (hwrN D List.mem_cons_self) e) (Nat.le_trans hys hsmall) (hrep.mono fun k o nk e => hk₂ k o (fun q => nk (List.mem_append_left _ (List.mem_append_right _ q))) e) fun k o nk e => hk₂ k o (fun q => nk (List.mem_append_right _ q)) (hext k o nk e)
  · obtain ⟨h0, tk0, rfl, e0⟩ := hs
    exact ⟨h0, tk0, m, [], 0, rfl, Nat.zero_le _, rfl, W.frame _ _ _ it.st fun b _ o e => e0 b o e, hacc, Nat.zero_le _, hn, rfl, e0.but, halive, hcell⟩
end
end Mine
namespace Mine
open PySem PySem.Spec PySem.Calls PyProof.Rows PySem.W

section
variable {c : Cx} {elt iter : Expr} {x : Str} {px : Pos} {ifs : List Expr} {scope : Scope} {pos : Pos} {E : Value → Shared → Prop}

theorem comp_block {α : Type} (enc : α → AV) (src : List α) (b : α → Bool) (f : α → AV) {RR : Value → Addr → Result → Shared → Prop} {s₂ : Shared} {h₁ : Heap} {I : Addr} {fp wr : List Addr} {P : Nat → Value → Prop} {St : Nat → Heap → Prop}
    (ok : c.Ok) (co : CompOk c scope x) (it : It c (src.map enc) h₁ s₂ I fp wr P St)
    (htest : ∀ a ∈ src, ∀ C H X', (cCx c scope x (enc a) C H X').Ok → PTs (cCx c scope x (enc a) C H X') ifs (b a))
    (helt : ∀ a ∈ src, b a = true → ∀ C H X', (cCx c scope x (enc a) C H X').Ok → PE (cCx c scope x (enc a) C H X') elt (f a))
    (hR : ∀ D C h' tk m' ys, s₂.heap.objs.size ≤ D → D < C → h'.Ns C m' → h'.PlainList D (List.toArray ys) → ys.length ≤ big → RepL c.T.p h' (D :: ownC scope C ++ wr ++ c.X) ((src.filter b).map f) ys → ExtB (D :: ownC scope C ++ wr) s₂.heap h' →
      RR (.ref D) C (.ok .next) { s₂ with heap := h', toks := tk }) :
    wpAny c.M c.A (newList []) (fun acc s₃ => wpAny c.M c.A (newFunctionEnv scope c.env.globals (clOf scope.names c.env.cells []) [] c.env.qual none .none (some c.env)) (fun cenv s₄ =>
      codeAny c.M c.A (.compStart (.ListComp elt [⟨.Name x px, iter, ifs, 0⟩] scope pos) 0 (.ref I) acc { cenv with scope := relabel scope c.env }) (RR acc cenv.locals) s₄) E s₃) E s₂ := by
  refine wpAny_newObj_type (newCompEnv ?_)
  dsimp only
  generalize hH2 : s₂.heap.push { cls := .type "list", dict := none, data := .seq ([] : List Value).toArray } = H2
  have hC : H2.objs.size = s₂.heap.objs.size + 1 := by rw [← hH2, Heap.size_push]
  have hDC : s₂.heap.objs.size < H2.objs.size := by rw [hC]; exact Nat.lt_succ_self _
  have e0 : Ext s₂.heap (pushCells (H2.push { cls := .type "dict", data := .dict #[] }) scope.names) := fun b o e => pushCells_keeps _ _ b o (Heap.get?_push_of_some _ (hH2 ▸ Heap.get?_push_of_some _ e))
  have okc := cellsFrom_ok scope.names (H2.push { cls := .type "dict", data := .dict #[] }) (H2.objs.size + 1) [] ⟨fun _ _ hm => (nomatch hm), List.Pairwise.nil⟩ (by rw [Heap.size_push]; exact Nat.le_refl _)
  rw [Heap.size_push] at okc
  have hD0 : (pushCells (H2.push { cls := .type "dict", data := .dict #[] }) scope.names).get? s₂.heap.objs.size = some { cls := .type "list", dict := none, data := .seq ([] : List Value).toArray } :=
    pushCells_keeps _ _ _ _ (Heap.get?_push_of_some _ (hH2 ▸ Heap.get?_push_size _ rfl))
  have hn0 : (pushCells (H2.push { cls := .type "dict", data := .dict #[] }) scope.names).Ns H2.objs.size (fun _ => none) := (Heap.Ns.new H2 (.type "dict")).keeps (pushCells_keeps _ _)
  have loop : ∀ s : Shared, s = { s₂ with heap := pushCells (H2.push { cls := .type "dict", data := .dict #[] }) scope.names } →
      codeAny c.M c.A (.compLoop (.ListComp elt [⟨.Name x px, iter, ifs, 0⟩] scope pos) 0 (.ref I) (.ref s₂.heap.objs.size) (cEnv scope c.env H2.objs.size)) (RR (.ref s₂.heap.objs.size) H2.objs.size) s := by
    rintro s rfl
    refine comp_loop enc src b f ok co it htest helt (Nat.le_refl _) hDC ⟨_, _, rfl, e0⟩ ?_ ⟨0, hD0⟩ hn0 (fun cc hcc => ⟨none, (okc.empty _ _ (mem_of_lookup hcc)).1⟩) (fun h' tk m' ys a1 a2 a3 a4 a5 => hR _ _ h' tk m' ys (Nat.le_refl _) hDC a1 a2 a3 a4 a5)
    intro a ha
    rcases List.mem_cons.mp ha with rfl | ha
    · exact ⟨_, hD0⟩
    rcases List.mem_cons.mp ha with rfl | ha
    · obtain ⟨o, _, _, ho, _⟩ := hn0; exact ⟨o, ho⟩
    · obtain ⟨⟨y, a'⟩, hm, rfl⟩ := List.mem_map.mp ha
      obtain ⟨⟨o, ho, _⟩, _⟩ := okc.empty y a' hm
      exact ⟨o, ho⟩
  exact codeAny_compStart_list (loop _ rfl) (it.walks.self 0 _ _ _ (it.walks.frame _ _ _ it.st fun b _ o e => e0 b o e) (loop _ rfl))

theorem co_names {c : Cx} {scope : Scope} {x : Str} (co : CompOk c scope x) : ∀ y ∈ scope.names, y.2 = .local → scope.names.lookup y.1 = some .local := fun y hy hl => by
  have := List.all_eq_true.mp co.names y hy
  rw [hl] at this
  simpa using this

/-- a list comprehension -/
theorem PE.comp {α : Type} (enc : α → AV) (src : List α) (b : α → Bool) (f : α → AV) (ok : c.Ok) (co : CompOk c scope x) (hi : PI c iter (src.map enc))
    (htest : ∀ a ∈ src, ∀ C H X', (cCx c scope x (enc a) C H X').Ok → PTs (cCx c scope x (enc a) C H X') ifs (b a))
    (helt : ∀ a ∈ src, b a = true → ∀ C H X', (cCx c scope x (enc a) C H X').Ok → PE (cCx c scope x (enc a) C H X') elt (f a))
    (hs : ∀ y, foldedSetIterable iter c.env y = pure y := by intro _; rfl) :
    PE c (.ListComp elt [⟨.Name x px, iter, ifs, 0⟩] scope pos) (.list ((src.filter b).map f)) := fun s Q E ex K => by
  rw [eval_ListComp]
  refine wpAny_comprehension_free (use := none) rfl hs (closureFor_eq co.free) co.kind (co_names co) (hi s _ _ ex fun h₁ s' I fp wr P St e1 k1 it => ?_)
  refine comp_block enc src b f (RR := fun acc C => compPost c.M c.A E none Q acc C) ok co it htest helt ?_
  intro D C h' tk m' ys hD hDC hn hl hz hr he
  refine ⟨m', hn, fun h'' hs'' => K _ _ ?_ ?_⟩
  · obtain ⟨h2, tk2, rfl, hk2⟩ := k1.is
    refine ⟨h'', tk, rfl, fun a o ho => ?_⟩
    have ho2 := hk2 a o ho
    have nN : a ∉ D :: ownC scope C ++ wr := fun hm => by
      rcases List.mem_append.mp hm with hm | hm
      · have lt := Heap.lt_size ho2
        rcases List.mem_cons.mp hm with rfl | hm
        · exact absurd lt (Nat.not_lt.mpr hD)
        · exact absurd lt (Nat.not_lt.mpr (Nat.le_trans hD (Nat.le_trans (Nat.le_of_lt hDC) (ownC_ge hm))))
      · have := e1 a o ho; rw [it.new a hm] at this; cases this
    exact hs''.extBut a o (fun q => nN (q ▸ List.mem_append_left _ (List.mem_cons_of_mem _ List.mem_cons_self))) (he a o nN ho2)
  · have es : ExtB (D :: ownC scope C ++ wr ++ c.X) h' h'' := ExtB.of_same hs'' (List.mem_append_left _ (List.mem_append_left _ (List.mem_cons_of_mem _ List.mem_cons_self)))
    refine ⟨D, ys, rfl, fun hm => ?_, hl.at fun o e => hs''.extBut _ o (Nat.ne_of_lt hDC) e, hz, (hr.mono es).weak fun a ha => List.mem_append_right _ ha⟩
    obtain ⟨o, ho⟩ := ok.xs D hm
    have := it.up D o (it.old D o ho)
    exact absurd (Heap.lt_size this) (Nat.not_lt.mpr hD)
end
end Mine
namespace Mine
open PySem PySem.Spec PySem.Calls PyProof.Rows PySem.W

def GR (γ : Option Nat) (g g' : Array GenState) : Prop := match γ with
  | none => g' = g
  | some n => (∀ (i : Nat), i < n → g'[i]? = g[i]?) ∧ (AllBare g → AllBare g') ∧ g.size ≤ g'.size
theorem GR.refl {γ : Option Nat} (g : Array GenState) : GR γ g g := by cases γ <;> first | exact rfl | exact ⟨fun _ _ => rfl, id, Nat.le_refl _⟩
theorem GR.trans {γ : Option Nat} {a b c : Array GenState} (x : GR γ a b) (y : GR γ b c) : GR γ a c := by
  cases γ with
  | none => exact Eq.trans (show c = b from y) (show b = a from x)
  | some n => exact ⟨fun i h => (y.1 i h).trans (x.1 i h), fun h => y.2.1 (x.2.1 h), Nat.le_trans x.2.2 y.2.2⟩

/-- what a piece of a frame's code may do: touch Y, make things, and (γ) make generators -/
structure Sm (Y : List Addr) (γ : Option Nat) (s s' : Shared) : Prop where
  is : ∃ h' g' tk, s' = { s with heap := h', gens := g', toks := tk }
  ext : ExtB Y s.heap s'.heap
  gr : GR γ s.gens s'.gens
theorem Sm.refl {Y : List Addr} {γ : Option Nat} (s : Shared) : Sm Y γ s s := ⟨⟨_, _, _, rfl⟩, ExtB.refl _ _, GR.refl _⟩
theorem Sm.trans {Y : List Addr} {γ : Option Nat} {a b c : Shared} (x : Sm Y γ a b) (y : Sm Y γ b c) : Sm Y γ a c := by
  refine ⟨?_, x.ext.trans y.ext, x.gr.trans y.gr⟩
  obtain ⟨h, g, t, rfl⟩ := x.is
  obtain ⟨h', g', t', rfl⟩ := y.is
  exact ⟨h', g', t', rfl⟩
theorem Kp.sm {Y : List Addr} {γ : Option Nat} {s s' : Shared} (k : Kp s s') : Sm Y γ s s' := by
  obtain ⟨h, t, rfl, hk⟩ := k.is
  exact ⟨⟨h, s.gens, t, rfl⟩, fun b o _ e => hk b o e, GR.refl _⟩
theorem Sm.of_same {Y : List Addr} {γ : Option Nat} {s : Shared} {a : Addr} {h' : Heap} {tk : Nat} (hs : Heap.SameBut a s.heap h') (ha : a ∈ Y) : Sm Y γ s { s with heap := h', toks := tk } :=
  ⟨⟨h', s.gens, tk, rfl⟩, ExtB.of_same hs ha, GR.refl _⟩

structure Fx where
  T : Tp
  A : Around
  k : Nat
  env : Env
  γ : Option Nat
  Y : List Addr
  Z : List Addr
def Fx.wz (F : Fx) (Z : List Addr) : Fx := { F with Z := Z }
abbrev Fx.X (F : Fx) : List Addr := F.Y ++ F.Z
abbrev Fx.M (F : Fx) : Model := model F.T.p.1 F.T.p.2
def Fx.cx (F : Fx) (H : Heap) (ρ : List (Str × AV)) : Cx := ⟨F.T, F.A, F.k, F.env, H, F.Y ++ F.Z, ρ⟩
structure Fx.Ok (F : Fx) : Prop where
  top : F.T.Ok
  room : Room F.A F.k
  kind : F.env.scope.kind = .function
  glob : F.env.globals = mainGlobals
  blt : F.env.builtins = builtinsNs
  loc : F.env.locals ∈ F.Y
  cells : ∀ x, F.env.kindOf x = some .cell → ∃ cc, F.env.cells.lookup x = some cc ∧ cc ∈ F.Y ∧ cc ≠ F.env.locals
  apart : ∀ x y cc, F.env.cells.lookup x = some cc → F.env.cells.lookup y = some cc → x = y
  fresh : ∀ a ∈ F.Y, F.T.H₀.get? a = none

/-- containers that the frame alone holds and may change -/
inductive OwnD where
  | list (a : Addr) (ds : List AV)
  | dict (a : Addr) (es : List (Int × Int))
def OwnD.addr : OwnD → Addr
  | .list a _ => a
  | .dict a _ => a
def OwnD.At (p : Program × World) (h : Heap) (X : List Addr) : OwnD → Prop
  | .list a ds => ∃ vs, h.PlainList a (List.toArray vs) ∧ vs.length ≤ big ∧ RepL p h X ds vs
  | .dict a es => ∃ kvs, (a == sysModules) = false ∧ h.DictOf (intKind p.1 p.2) a kvs ∧ kvs.length ≤ big ∧ RepD es kvs
theorem OwnD.At.mono {p : Program × World} {h h' : Heap} {X : List Addr} : ∀ {o : OwnD}, o.At p h X → (∀ b x, b = o.addr ∨ b ∉ X → h.get? b = some x → h'.get? b = some x) → o.At p h' X
  | .list a ds, ⟨vs, ⟨n, g⟩, z, r⟩, e => ⟨vs, ⟨n, e a _ (.inl rfl) g⟩, z, r.mono fun b x nb q => e b x (.inr nb) q⟩
  | .dict a es, ⟨kvs, q, g, z, r⟩, e => ⟨kvs, q, g.at (fun x q => e a x (.inl rfl) q), z, r⟩
theorem OwnD.At.strong {p : Program × World} {h : Heap} {X X' : List Addr} : ∀ {o : OwnD}, o.At p h X → (∀ a ∈ X', h.get? a = none ∨ a ∈ X) → o.At p h X'
  | .list a ds, ⟨vs, g, z, r⟩, e => ⟨vs, g, z, r.strong e⟩
  | .dict a es, x, _ => x
theorem OwnD.At.weak {p : Program × World} {h : Heap} {X X' : List Addr} : ∀ {o : OwnD}, o.At p h X → (∀ a ∈ X', a ∈ X) → o.At p h X'
  | .list a ds, ⟨vs, g, z, r⟩, e => ⟨vs, g, z, r.weak e⟩
  | .dict a es, x, _ => x
theorem OwnD.At.alive {p : Program × World} {h : Heap} {X : List Addr} : ∀ {o : OwnD}, o.At p h X → ∃ x, h.get? o.addr = some x
  | .list a ds, ⟨vs, ⟨n, g⟩, _⟩ => ⟨_, g⟩
  | .dict a es, ⟨kvs, _, ⟨x, _, _, g, _⟩, _⟩ => ⟨x, g⟩

structure St (F : Fx) (Ω : List OwnD) (s₀ : Shared) (ρ : List (Str × AV)) (s : Shared) : Prop where
  sm : Sm F.Y F.γ s₀ s
  old : Ext F.T.H₀ s.heap
  xs : ∀ a ∈ F.X, ∃ o, s.heap.get? a = some o
  cell : ∀ x cc, F.env.kindOf x = some .cell → F.env.cells.lookup x = some cc → ∃ v0, s.heap.IsCell cc v0
  vars : Vars F.T.p F.env F.X ρ s.heap
  own : ∀ o ∈ Ω, o.At F.T.p s.heap F.X
  ownY : ∀ o ∈ Ω, o.addr ∈ F.Y ∧ o.addr ≠ F.env.locals ∧ ∀ x cc, F.env.kindOf x = some .cell → F.env.cells.lookup x = some cc → cc ≠ o.addr
section
variable {F : Fx} {Ω : List OwnD} {s₀ s : Shared} {ρ : List (Str × AV)} {E : Value → Shared → Prop}
theorem St.ok (f : F.Ok) (st : St F Ω s₀ ρ s) : (F.cx s.heap ρ).Ok := ⟨f.top, f.room, st.old, f.kind, f.glob, f.blt, st.xs, st.vars⟩
theorem St.here (st : St F Ω s₀ ρ s) : St F Ω s ρ s := ⟨Sm.refl s, st.old, st.xs, st.cell, st.vars, st.own, st.ownY⟩
theorem St.back (st : St F Ω s₀ ρ s) {Ω' : List OwnD} {s' : Shared} {ρ' : List (Str × AV)} (st' : St F Ω' s ρ' s') : St F Ω' s₀ ρ' s' := ⟨st.sm.trans st'.sm, st'.old, st'.xs, st'.cell, st'.vars, st'.own, st'.ownY⟩
theorem St.kp (st : St F Ω s₀ ρ s) {s' : Shared} (k : Kp s s') : St F Ω s₀ ρ s' :=
  ⟨st.sm.trans k.sm, st.old.trans k.ext, fun a ha => let ⟨o, h⟩ := st.xs a ha; ⟨o, k.ext a o h⟩, fun x cc h1 h2 => let ⟨v, h⟩ := st.cell x cc h1 h2; ⟨v, h.keeps k.ext⟩, st.vars.ext k.ext, fun o ho => (st.own o ho).mono fun b x _ q => k.ext b x q, st.ownY⟩
theorem St.sub (st : St F Ω s₀ ρ s) {ρ' : List (Str × AV)} (h : ∀ x d, ρ'.lookup x = some d → ρ.lookup x = some d) : St F Ω s₀ ρ' s :=
  ⟨st.sm, st.old, st.xs, st.cell, let ⟨m, hn, hv⟩ := st.vars; ⟨m, hn, fun x d hx => hv x d (h x d hx)⟩, st.own, st.ownY⟩

/-- a store into a name of the frame -/
theorem store {x : Str} {d : AV} {v : Value} {Q : Unit → Shared → Prop} (f : F.Ok) (st : St F Ω s₀ ρ s) (r : Rep F.T.p s.heap F.X d v) (hk : F.env.kindOf x = some .local ∨ F.env.kindOf x = some .cell)
    (K : ∀ s', St F Ω s₀ ((x, d) :: ρ) s' → Sm F.Y F.γ s s' → Q () s') : wpAny F.M F.A (storeName F.env x v) Q E s := by
  obtain ⟨m, hn, hv⟩ := st.vars
  rcases hk with hk | hk
  · refine wpAny_storeName_local hk hn (fun h' hn' hs' => ?_) (by rw [f.kind]; rfl)
    have sm : Sm F.Y F.γ s { s with heap := h', toks := s.toks + 1 } := Sm.of_same hs' f.loc
    have eX : ExtB F.X s.heap h' := sm.ext.mono fun a ha => List.mem_append_left _ ha
    refine K _ ⟨st.sm.trans sm, fun a o ho => ?_, ?_, ?_, ⟨_, hn', fun y d' hy => ?_⟩, fun o ho => (st.own o ho).mono fun b x hb q => ?_, st.ownY⟩ sm
    · refine (hs'.2 a fun q => ?_).trans (st.old a o ho)
      rw [q, f.fresh _ f.loc] at ho; cases ho
    · intro a ha
      by_cases q : a = F.env.locals
      · subst q; obtain ⟨o, _, _, ho, _⟩ := hn'; exact ⟨o, ho⟩
      · obtain ⟨o, ho⟩ := st.xs a ha; exact ⟨o, (hs'.2 a q).trans ho⟩
    · intro y cc h1 h2
      obtain ⟨v0, hv0⟩ := st.cell y cc h1 h2
      obtain ⟨cc', h3, _, ne⟩ := f.cells y h1
      rw [h2] at h3; cases h3
      exact ⟨v0, hv0.sameBut hs' ne⟩
    · rw [List.lookup_cons] at hy
      cases q : y == x with
      | true =>
        rw [q] at hy; cases hy
        have e := beq_iff_eq.mp q
        subst e
        exact ⟨v, r.mono eX, And.intro (fun _ => by simp) fun q => by rw [hk] at q; cases q⟩
      | false =>
        rw [q] at hy
        have ne : y ≠ x := fun e => by rw [e] at q; simp at q
        obtain ⟨v', r', a1, a2⟩ := hv y d' hy
        refine ⟨v', r'.mono eX, And.intro (fun q => by show (if y = x then some v else m y) = some v'; rw [if_neg ne]; exact a1 q) fun q => ?_⟩
        obtain ⟨cc, h1, h2⟩ := a2 q
        obtain ⟨cc', h3, _, ne'⟩ := f.cells y q
        rw [h1] at h3; cases h3
        exact ⟨cc, h1, h2.sameBut hs' ne'⟩
    · refine (hs'.2 b fun e => ?_).trans q
      rcases hb with hb | hb
      · exact (st.ownY o ho).2.1 (hb ▸ e)
      · exact hb (e ▸ List.mem_append_left _ f.loc)
  · obtain ⟨cc, hcc, hY, ne⟩ := f.cells x hk
    obtain ⟨v0, hv0⟩ := st.cell x cc hk hcc
    refine wpAny_storeName_cell f.kind hk hcc hv0 fun h' hc' hs' => ?_
    have sm : Sm F.Y F.γ s { s with heap := h' } := Sm.of_same (tk := s.toks) hs' hY
    have eX : ExtB F.X s.heap h' := sm.ext.mono fun a ha => List.mem_append_left _ ha
    refine K _ ⟨st.sm.trans sm, fun a o ho => ?_, ?_, ?_, ⟨m, hn.sameBut hs' (Ne.symm ne), fun y d' hy => ?_⟩, fun o ho => (st.own o ho).mono fun b x' hb q => ?_, st.ownY⟩ sm
    · refine (hs'.2 a fun q => ?_).trans (st.old a o ho)
      rw [q, f.fresh _ hY] at ho; cases ho
    · intro a ha
      by_cases q : a = cc
      · subst q; obtain ⟨o, ho, _⟩ := hc'; exact ⟨o, ho⟩
      · obtain ⟨o, ho⟩ := st.xs a ha; exact ⟨o, (hs'.2 a q).trans ho⟩
    · intro y c2 h1 h2
      by_cases q : c2 = cc
      · subst q; exact ⟨_, hc'⟩
      · obtain ⟨v1, hv1⟩ := st.cell y c2 h1 h2
        exact ⟨v1, hv1.sameBut hs' q⟩
    · rw [List.lookup_cons] at hy
      cases q : y == x with
      | true =>
        rw [q] at hy; cases hy
        have e := beq_iff_eq.mp q
        subst e
        exact ⟨v, r.mono eX, And.intro (fun q => by rw [hk] at q; cases q) fun _ => ⟨cc, hcc, hc'⟩⟩
      | false =>
        rw [q] at hy
        have ney : y ≠ x := fun e => by rw [e] at q; simp at q
        obtain ⟨v', r', a1, a2⟩ := hv y d' hy
        refine ⟨v', r'.mono eX, a1, fun q => ?_⟩
        obtain ⟨c2, h1, h2⟩ := a2 q
        exact ⟨c2, h1, h2.sameBut hs' fun e => ney (f.apart y x c2 h1 (e ▸ hcc))⟩
    · refine (hs'.2 b fun e => ?_).trans q
      rcases hb with hb | hb
      · exact (st.ownY o ho).2.2 x cc hk hcc (e ▸ hb)
      · exact hb (e ▸ List.mem_append_left _ hY)
end
end Mine
namespace Mine
open PySem PySem.Spec PySem.Calls PyProof.Rows PySem.W

section
variable {F : Fx} {Ω : List OwnD} {s₀ s : Shared} {ρ : List (Str × AV)} {E : Value → Shared → Prop} {Q : Flow → Shared → Prop} {rest : List Stmt} {pos : Pos}

theorem seq_assign {x : Str} {p : Pos} {e : Expr} {d : AV} (f : F.Ok) (st : St F Ω s₀ ρ s) (he : PE (F.cx s.heap ρ) e d) (K : ∀ s', St F Ω s₀ ((x, d) :: ρ) s' → wpAny F.M F.A (execs rest F.env) Q E s')
    (hk : F.env.kindOf x = some .local ∨ F.env.kindOf x = some .cell := by first | exact Or.inl rfl | exact Or.inr rfl) (hs : swapsWith e (some (.Name x p)) pos.line F.env = pure false := by rfl) :
    wpAny F.M F.A (execs (.Assign [.Name x p] e pos :: rest) F.env) Q E s :=
  wpAny_execs_cons (wpAny_Assign_Name (he s _ _ (Ext.refl _) fun v s1 k1 r1 => store f (st.kp k1) r1 hk fun s' st' _ => K s' st') hs)

theorem seq_ret {e : Expr} {d : AV} (st : St F Ω s₀ ρ s) (he : PE (F.cx s.heap ρ) e d) (K : ∀ v s', Sm F.Y F.γ s₀ s' → Rep F.T.p s'.heap F.X d v → Q (.ret v) s') : wpAny F.M F.A (execs (.Return (some e) pos :: rest) F.env) Q E s :=
  wpAny_execs_cons (wpAny_Return_some (he s _ _ (Ext.refl _) fun v s1 k1 r1 => K v s1 (st.sm.trans k1.sm) r1))

theorem seq_if {t : Expr} {b : Bool} {body orelse : List Stmt} (st : St F Ω s₀ ρ s) (ht : PT (F.cx s.heap ρ) t b)
    (K : ∀ s', St F Ω s₀ ρ s' → wpAny F.M F.A (execs (if b then body else orelse) F.env) (fun f s'' => match f with | .next => wpAny F.M F.A (execs rest F.env) Q E s'' | f => Q f s'') E s') :
    wpAny F.M F.A (execs (.If t body orelse pos :: rest) F.env) Q E s :=
  wpAny_execs_cons (wpAny_If (ht s _ _ (Ext.refl _) fun s1 k1 => by
    have := K s1 (st.kp k1)
    cases b <;> exact this))
theorem seq_if_nil {t : Expr} (st : St F Ω s₀ ρ s) (ht : PT (F.cx s.heap ρ) t false) {body : List Stmt}
    (K : ∀ s', St F Ω s₀ ρ s' → wpAny F.M F.A (execs rest F.env) Q E s') : wpAny F.M F.A (execs (.If t body [] pos :: rest) F.env) Q E s :=
  seq_if st ht fun s' st' => wpAny_execs_nil (K s' st')

/-- the turn of a loop: what it leaves -/
def TurnPost (F : Fx) (s₁ : Shared) (Jn : List (Str × AV) → List OwnD → Prop) (Jb : List (Str × AV) → List OwnD → Prop) (Jr : AV → Prop) (fl : Flow) (s' : Shared) : Prop := match fl with
  | .next => ∃ ρ' Ω', Jn ρ' Ω' ∧ St F Ω' s₁ ρ' s'
  | .cont => ∃ ρ' Ω', Jn ρ' Ω' ∧ St F Ω' s₁ ρ' s'
  | .brk => ∃ ρ' Ω', Jb ρ' Ω' ∧ St F Ω' s₁ ρ' s'
  | .ret v => ∃ d, Jr d ∧ Sm F.Y F.γ s₁ s' ∧ Rep F.T.p s'.heap F.X d v

theorem St.zweak {W : List Addr} {F : Fx} {Ω : List OwnD} {s₀ s : Shared} {ρ : List (Str × AV)} (st : St (F.wz (W ++ F.Z)) Ω s₀ ρ s) : St F Ω s₀ ρ s := by
  have sub : ∀ a ∈ F.X, a ∈ F.Y ++ (W ++ F.Z) := fun a ha => by
    rcases List.mem_append.mp ha with ha | ha
    · exact List.mem_append_left _ ha
    · exact List.mem_append_right _ (List.mem_append_right _ ha)
  refine ⟨st.sm, st.old, fun a ha => st.xs a (sub a ha), st.cell, ?_, fun o ho => (st.own o ho).weak sub, st.ownY⟩
  obtain ⟨m, hn, hv⟩ := st.vars
  exact ⟨m, hn, fun x d hx => let ⟨v, r, a⟩ := hv x d hx; ⟨v, Rep.weak sub r, a⟩⟩
theorem St.zstrong {W : List Addr} {F : Fx} {Ω : List OwnD} {s₀ s s' : Shared} {ρ : List (Str × AV)} (st : St F Ω s₀ ρ s) (k : Kp s s') (hW : ∀ a ∈ W, s.heap.get? a = none) (ha : ∀ a ∈ W, ∃ o, s'.heap.get? a = some o) : St (F.wz (W ++ F.Z)) Ω s₀ ρ s' := by
  have sub : ∀ a ∈ F.Y ++ (W ++ F.Z), s.heap.get? a = none ∨ a ∈ F.X := fun a ha => by
    rcases List.mem_append.mp ha with ha | ha
    · exact .inr (List.mem_append_left _ ha)
    · rcases List.mem_append.mp ha with ha | ha
      · exact .inl (hW a ha)
      · exact .inr (List.mem_append_right _ ha)
  have st' := st.kp k
  refine ⟨st'.sm, st'.old, fun a h => ?_, st'.cell, ?_, fun o ho => ((st.own o ho).strong sub).mono fun b x _ q => k.ext b x q, st.ownY⟩
  · rcases List.mem_append.mp h with h | h
    · exact st'.xs a (List.mem_append_left _ h)
    · rcases List.mem_append.mp h with h | h
      · exact ha a h
      · exact st'.xs a (List.mem_append_right _ h)
  · obtain ⟨m, hn, hv⟩ := st.vars
    refine ⟨m, hn.keeps k.ext, fun x d hx => ?_⟩
    obtain ⟨v, r, a1, a2⟩ := hv x d hx
    exact ⟨v, (Rep.strong sub r).ext k.ext, And.intro a1 fun q => let ⟨cc, h1, h2⟩ := a2 q; ⟨cc, h1, h2.keeps k.ext⟩⟩
theorem Fx.Ok.z {F : Fx} (f : F.Ok) (Z : List Addr) : (F.wz Z).Ok := ⟨f.top, f.room, f.kind, f.glob, f.blt, f.loc, f.cells, f.apart, f.fresh⟩
/-- a change at addresses of Z that the beginning did not know -/
theorem St.junk {F : Fx} {Ω : List OwnD} {s₀ s : Shared} {ρ : List (Str × AV)} {W : List Addr} {h' : Heap} {tk : Nat} (f : F.Ok) (st : St F Ω s₀ ρ s) (hW : ∀ a ∈ W, a ∈ F.Z) (hnew : ∀ a ∈ W, s₀.heap.get? a = none ∨ a ∈ F.Y) (hH : ∀ a ∈ W, F.T.H₀.get? a = none) (hY : ∀ a ∈ W, a ∉ F.Y)
    (hk : ExtB W s.heap h') (hal : ∀ a ∈ W, ∃ o, h'.get? a = some o) : St F Ω s₀ ρ { s with heap := h', toks := tk } := by
  refine ⟨?_, ?_, ?_, ?_, ?_, fun o ho => (st.own o ho).mono fun b x hb q => hk b x (fun m => ?_) q, st.ownY⟩
  rotate_left 5
  · rcases hb with rfl | hb
    · exact hY _ m (st.ownY o ho).1
    · exact hb (List.mem_append_right _ (hW b m))
  · obtain ⟨⟨h0, g0, t0, e0⟩, ee, gg⟩ := st.sm
    refine ⟨⟨h', s.gens, tk, by rw [e0]⟩, fun a o na ho => ?_, gg⟩
    by_cases hw : a ∈ W
    · rcases hnew a hw with q | q
      · rw [q] at ho; cases ho
      · exact absurd q na
    · exact hk a o hw (ee a o na ho)
  · intro a o ho
    exact hk a o (fun q => by rw [hH a q] at ho; cases ho) (st.old a o ho)
  · intro a ha
    by_cases hw : a ∈ W
    · exact hal a hw
    · obtain ⟨o, ho⟩ := st.xs a ha
      exact ⟨o, hk a o hw ho⟩
  · intro y cc h1 h2
    obtain ⟨v0, o, ho, hd⟩ := st.cell y cc h1 h2
    obtain ⟨cc', h3, hY', _⟩ := f.cells y h1
    rw [h2] at h3; cases h3
    exact ⟨v0, o, hk cc o (fun q => hY cc q hY') ho, hd⟩
  · obtain ⟨m, hn, hv⟩ := st.vars
    refine ⟨m, hn.at' fun o e => hk _ o (fun q => hY _ q f.loc) e, fun y d hy => ?_⟩
    obtain ⟨v, r, a1, a2⟩ := hv y d hy
    refine ⟨v, r.mono fun a o na ho => hk a o (fun q => na (List.mem_append_right _ (hW a q))) ho, And.intro a1 fun q => ?_⟩
    obtain ⟨cc, h1, o, ho, hd⟩ := a2 q
    obtain ⟨cc', h3, hY', _⟩ := f.cells y q
    rw [h1] at h3; cases h3
    exact ⟨cc, h1, o, hk cc o (fun q => hY cc q hY') ho, hd⟩

/-- the loop's own things go -/
theorem St.junkOut {F : Fx} {Ω : List OwnD} {s₀ s : Shared} {ρ : List (Str × AV)} {W : List Addr} {h' : Heap} {tk : Nat} (f : F.Ok) (st : St (F.wz (W ++ F.Z)) Ω s₀ ρ s) (hnew : ∀ a ∈ W, s₀.heap.get? a = none ∨ a ∈ F.Y) (hH : ∀ a ∈ W, F.T.H₀.get? a = none) (hX : ∀ a ∈ W, a ∉ F.X)
    (hk : ExtB W s.heap h') : St F Ω s₀ ρ { s with heap := h', toks := tk } := by
  have hY : ∀ a ∈ W, a ∉ F.Y := fun a ha q => hX a ha (List.mem_append_left _ q)
  have st1 := st.zweak
  refine ⟨?_, ?_, ?_, ?_, ?_, fun o ho => ((st.own o ho).mono fun b x hb q => hk b x (fun m => ?_) q).weak (X := F.Y ++ (W ++ F.Z)) (fun a ha => ?_), st.ownY⟩
  rotate_left 5
  · rcases hb with rfl | hb
    · exact hY _ m (st.ownY o ho).1
    · exact hb (List.mem_append_right _ (List.mem_append_left _ m))
  · rcases List.mem_append.mp ha with ha | ha
    · exact List.mem_append_left _ ha
    · exact List.mem_append_right _ (List.mem_append_right _ ha)
  · obtain ⟨⟨h0, g0, t0, e0⟩, ee, gg⟩ := st1.sm
    refine ⟨⟨h', s.gens, tk, by rw [e0]⟩, fun a o na ho => ?_, gg⟩
    by_cases hw : a ∈ W
    · rcases hnew a hw with q | q
      · rw [q] at ho; cases ho
      · exact absurd q na
    · exact hk a o hw (ee a o na ho)
  · intro a o ho
    exact hk a o (fun q => by rw [hH a q] at ho; cases ho) (st1.old a o ho)
  · intro a ha
    obtain ⟨o, ho⟩ := st1.xs a ha
    exact ⟨o, hk a o (fun q => hX a q ha) ho⟩
  · intro y cc h1 h2
    obtain ⟨v0, o, ho, hd⟩ := st1.cell y cc h1 h2
    obtain ⟨cc', h3, hY', _⟩ := f.cells y h1
    rw [h2] at h3; cases h3
    exact ⟨v0, o, hk cc o (fun q => hY cc q hY') ho, hd⟩
  · obtain ⟨m, hn, hv⟩ := st.vars
    refine ⟨m, hn.at' fun o e => hk _ o (fun q => hY _ q f.loc) e, fun y d hy => ?_⟩
    obtain ⟨v, r, a1, a2⟩ := hv y d hy
    refine ⟨v, Rep.weak (X := F.Y ++ (W ++ F.Z)) (fun a ha => ?_) (r.mono fun a o na ho => hk a o (fun q => na (List.mem_append_right _ (List.mem_append_left _ q))) ho), And.intro a1 fun q => ?_⟩
    · rcases List.mem_append.mp ha with ha | ha
      · exact List.mem_append_left _ ha
      · exact List.mem_append_right _ (List.mem_append_right _ ha)
    obtain ⟨cc, h1, o, ho, hd⟩ := a2 q
    have h1 : F.env.cells.lookup y = some cc := h1
    obtain ⟨cc', h3, hY', _⟩ := f.cells y q
    rw [h1] at h3; cases h3
    exact ⟨cc, h1, o, hk cc o (fun q => hY cc q hY') ho, hd⟩

theorem seq_for {α : Type} (enc : α → AV) (src : List α) (J : Nat → List (Str × AV) → List OwnD → Prop) (Jb : List (Str × AV) → List OwnD → Prop) (Jr : AV → Prop) {x : Str} {px : Pos} {iter : Expr} {body : List Stmt} (f : F.Ok) (st : St F Ω s₀ ρ s) (hi : PI (F.cx s.heap ρ) iter (src.map enc))
    (h0 : J 0 ρ Ω)
    (turn : ∀ Z' i a ρ' Ω' s', src[i]? = some a → J i ρ' Ω' → (F.wz Z').Ok → St (F.wz Z') Ω' s' ((x, enc a) :: ρ') s' → wpAny (F.wz Z').M (F.wz Z').A (execs body (F.wz Z').env) (TurnPost (F.wz Z') s' (J (i + 1)) Jb Jr) (fun _ _ => False) s')
    (done : ∀ ρ' Ω' s', (J src.length ρ' Ω' ∨ Jb ρ' Ω') → St F Ω' s₀ ρ' s' → wpAny F.M F.A (execs rest F.env) Q E s')
    (ret : ∀ d v s', Jr d → Sm F.Y F.γ s₀ s' → Rep F.T.p s'.heap F.X d v → Q (.ret v) s')
    (hk : F.env.kindOf x = some .local ∨ F.env.kindOf x = some .cell := by first | exact Or.inl rfl | exact Or.inr rfl) (hs : ∀ y, foldedSetIterable iter F.env y = pure y := by intro _; rfl) :
    wpAny F.M F.A (execs (.For (.Name x px) iter body [] pos :: rest) F.env) Q E s := by
  refine wpAny_execs_cons (wpAny_For (hi s _ _ (Ext.refl _) fun h₁ s₂ I fp wr P Stt e1 k1 it => ?_) hs)
  have W := it.walks
  have hlen : (src.map enc).length = src.length := List.length_map ..
  rw [hlen] at W
  have notY : ∀ a ∈ fp, a ∉ F.Y := fun a ha hm => it.notX a ha (List.mem_append_left _ hm)
  have wrY : ∀ a ∈ wr, a ∉ F.Y := fun a ha => notY a (W.sub a ha)
  have wrN : ∀ a ∈ wr, s.heap.get? a = none := fun a ha => by
    cases q : s.heap.get? a with
    | none => rfl
    | some o => have := e1 a o q; rw [it.new a ha] at this; cases this
  have wr0 : ∀ a ∈ wr, s₀.heap.get? a = none ∨ a ∈ F.Y := fun a ha => by
    cases q : s₀.heap.get? a with
    | none => exact .inl rfl
    | some o =>
      have := st.sm.ext a o (wrY a ha) q
      rw [wrN a ha] at this; cases this
  have wrH : ∀ a ∈ wr, F.T.H₀.get? a = none := fun a ha => by
    cases q : F.T.H₀.get? a with
    | none => rfl
    | some o => have := st.old a o q; rw [wrN a ha] at this; cases this
  have f' : (F.wz (wr ++ F.Z)).Ok := f.z _
  have st₂ : St (F.wz (wr ++ F.Z)) Ω s₀ ρ s₂ := st.zstrong k1 wrN (it.alive 0 _ it.st)
  have subX : ∀ a ∈ F.X, a ∈ F.Y ++ (wr ++ F.Z) := fun a ha => by
    rcases List.mem_append.mp ha with ha | ha
    · exact List.mem_append_left _ ha
    · exact List.mem_append_right _ (List.mem_append_right _ ha)
  have strong : ∀ a ∈ F.Y ++ (wr ++ F.Z), h₁.get? a = none ∨ a ∈ F.X := fun a ha => by
    rcases List.mem_append.mp ha with ha | ha
    · exact .inr (List.mem_append_left _ ha)
    · rcases List.mem_append.mp ha with ha | ha
      · exact .inl (it.new a ha)
      · exact .inr (List.mem_append_right _ ha)
  have wrX : ∀ a ∈ wr, a ∈ F.Y ++ (wr ++ F.Z) := fun a ha => List.mem_append_right _ (List.mem_append_left _ ha)
  refine codeAny_forLoop (fun n s' => ∃ ρ' Ω' i, i ≤ src.length ∧ n = src.length + 1 - i ∧ J i ρ' Ω' ∧ St (F.wz (wr ++ F.Z)) Ω' s₀ ρ' s' ∧ Stt i s'.heap ∧ ExtB (F.Y ++ (wr ++ F.Z)) h₁ s'.heap) ?_ (src.length + 1) ⟨ρ, Ω, 0, Nat.zero_le _, rfl, h0, st₂, it.st, it.up.but⟩
  rintro n s' ⟨ρ', Ω', i, hil, rfl, hJ, st', hst, hext⟩
  by_cases hlt : i < src.length
  · refine W.item i _ _ _ hlt hst fun v h₂ tk₂ hP hst₂ hk₂ => ?_
    obtain ⟨d, hd, r0⟩ := it.items i v (by rw [hlen]; exact hlt) hP
    obtain ⟨a, ha, rfl⟩ := get_map_some hd
    have e2 : ExtB wr s'.heap h₂ := hk₂
    have ext2 : ExtB (F.Y ++ (wr ++ F.Z)) h₁ h₂ := hext.trans (e2.mono wrX)
    have st2 : St (F.wz (wr ++ F.Z)) Ω' s₀ ρ' { s' with heap := h₂, toks := tk₂ } := st'.junk f' (fun a ha => List.mem_append_left _ ha) wr0 wrH wrY e2 (it.alive _ _ hst₂)
    have r2 : Rep F.T.p h₂ (F.Y ++ (wr ++ F.Z)) (enc a) v := (Rep.strong strong r0).mono ext2
    refine wpAny_assign_Name (store (F := (F.wz (wr ++ F.Z))) (x := x) f' st2 r2 hk fun s₃ st₃ sm₃ => ?_)
    have hst₃ : Stt (i + 1) s₃.heap := W.frame _ _ _ hst₂ fun b hb o e => sm₃.ext b o (notY b hb) e
    refine wpAny_mono (turn (wr ++ F.Z) i a ρ' Ω' s₃ ha hJ f' st₃.here) (fun fl s₄ h₄ => ?_) fun _ _ x => x.elim
    have fin : ∀ {ρ'' Ω''}, J (i + 1) ρ'' Ω'' → St (F.wz (wr ++ F.Z)) Ω'' s₃ ρ'' s₄ → ∃ m, m < src.length + 1 - i ∧ ∃ ρ' Ω' i, i ≤ src.length ∧ m = src.length + 1 - i ∧ J i ρ' Ω' ∧ St (F.wz (wr ++ F.Z)) Ω' s₀ ρ' s₄ ∧ Stt i s₄.heap ∧ ExtB (F.Y ++ (wr ++ F.Z)) h₁ s₄.heap := fun {ρ'' Ω''} hJ' st₄ =>
      ⟨src.length + 1 - (i + 1), by omega, ρ'', Ω'', i + 1, hlt, rfl, hJ', st₃.back st₄, W.frame _ _ _ hst₃ fun b hb o e => st₄.sm.ext b o (notY b hb) e,
        (ext2.trans (sm₃.ext.mono fun a ha => List.mem_append_left _ ha)).trans (st₄.sm.ext.mono fun a ha => List.mem_append_left _ ha)⟩
    cases fl with
    | next => obtain ⟨ρ'', Ω'', hJ', st₄⟩ := h₄; exact fin hJ' st₄
    | cont => obtain ⟨ρ'', Ω'', hJ', st₄⟩ := h₄; exact fin hJ' st₄
    | brk => obtain ⟨ρ'', Ω'', hJ', st₄⟩ := h₄; exact done ρ'' Ω'' s₄ (.inr hJ') (St.zweak (st₃.back st₄))
    | ret v => obtain ⟨d, hJ', sm₄, r₄⟩ := h₄; exact ret d v s₄ hJ' (st₃.sm.trans sm₄) (Rep.weak subX r₄)
  · have hin : i = src.length := by omega
    subst hin
    refine W.done _ _ _ hst fun h₂ tk₂ hk₂ => wpAny_execs_nil ?_
    exact done ρ' Ω' _ (.inl hJ) (st'.junkOut f wr0 wrH (fun a ha => it.notX a (W.sub a ha)) hk₂)
end
end Mine
namespace Mine
open PySem PySem.Spec PySem.Calls PyProof.Rows PySem.W

theorem bindL_out {kindOf : Str → Option NameKind} {x : Str} : ∀ (binds : List (Str × Value)) (m : Str → Option Value), x ∉ binds.map (·.1) → bindL kindOf binds m x = m x
  | [], _, _ => rfl
  | (n, v) :: r, m, h => by
    rw [List.map_cons, List.mem_cons, not_or] at h
    unfold bindL
    rw [bindL_out r _ h.2]
    split
    · show (if x = n then some v else m x) = m x
      rw [if_neg h.1]
    · rfl
theorem bindC_out {kindOf : Str → Option NameKind} {x : Str} : ∀ (binds : List (Str × Value)) (m : Str → Option Value), x ∉ binds.map (·.1) → bindC kindOf binds m x = m x
  | [], _, _ => rfl
  | (n, v) :: r, m, h => by
    rw [List.map_cons, List.mem_cons, not_or] at h
    unfold bindC
    rw [bindC_out r _ h.2]
    split
    · rfl
    · show (if x = n then some v else m x) = m x
      rw [if_neg h.1]
theorem bind_in {kindOf : Str → Option NameKind} {x : Str} {v : Value} : ∀ (binds : List (Str × Value)) (m cm : Str → Option Value), (binds.map (·.1)).Nodup → (x, v) ∈ binds →
    (kindOf x = some .local → bindL kindOf binds m x = some v) ∧ (kindOf x = some .cell → bindC kindOf binds cm x = some v)
  | [], _, _, _, h => by cases h
  | (n, w) :: r, m, cm, hnd, h => by
    rw [List.map_cons, List.nodup_cons] at hnd
    rcases List.mem_cons.mp h with e | h
    · cases e
      unfold bindL bindC
      refine ⟨fun q => ?_, fun q => ?_⟩
      · rw [if_pos q, bindL_out r _ hnd.1]
        show (if x = x then some v else m x) = some v
        rw [if_pos rfl]
      · have : ¬ kindOf x = some .local := by rw [q]; decide
        rw [if_neg this, bindC_out r _ hnd.1]
        show (if x = x then some v else cm x) = some v
        rw [if_pos rfl]
    · unfold bindL bindC
      exact bind_in r _ _ hnd.2 h

theorem zip_lookup {p : Program × World} {h : Heap} {Z : List Addr} {x : Str} {d : AV} : ∀ {names : List Str} {ds : List AV} {vs : List Value}, RepL p h Z ds vs → ds.length = names.length → (names.zip ds).lookup x = some d → ∃ v, (x, v) ∈ names.zip vs ∧ Rep p h Z d v
  | [], _, _, _, _, q => by simp at q
  | n :: ns, [], _, _, e, _ => by simp at e
  | n :: ns, d0 :: ds, vs, ⟨v0, vs', hv, r0, rs⟩, e, q => by
    subst hv
    rw [List.zip_cons_cons, List.lookup_cons] at q
    rw [List.zip_cons_cons]
    cases hx : x == n with
    | true =>
      rw [hx] at q; cases q
      exact ⟨v0, by rw [beq_iff_eq.mp hx]; exact List.mem_cons_self, r0⟩
    | false =>
      rw [hx] at q
      obtain ⟨v, hm, r⟩ := zip_lookup rs (by simpa using e) q
      exact ⟨v, List.mem_cons_of_mem _ hm, r⟩
theorem zip_fst_sub {α : Type} : ∀ {names : List Str} {vs : List α}, ((names.zip vs).map (·.1)).Sublist names
  | [], _ => by simp
  | n :: ns, [] => by simp
  | n :: ns, v :: vs => by rw [List.zip_cons_cons, List.map_cons]; exact (zip_fst_sub).cons_cons n

def RetPost (F : Fx) (s : Shared) (d : AV) (fl : Flow) (s' : Shared) : Prop := Sm F.Y F.γ s s' ∧ Rep F.T.p s'.heap F.X d (match fl with | .ret v => v | _ => .none)
def callFx (T : Tp) (A : Around) (k : Nat) (fd : FuncData) (a : Addr) (γ : Option Nat) (Z : List Addr) (L : Addr) : Fx :=
  ⟨T, A.deeper (callEnvC fd L a), k, callEnvC fd L a, γ, L :: (cellsFrom (L + 1) fd.scope.names []).map (·.2), Z⟩

/-- a call of a def of the text -/
theorem enter {T : Tp} {A : Around} {k : Nat} {a : Addr} {o : Obj} {fd : FuncData} {body : List Stmt} {names : List Str} {ds : List AV} {vs : List Value} {s : Shared} {Z : List Addr} {γ : Option Nat} {d : AV} {Q E : Value → Shared → Prop}
    (top : T.Ok) (room : Room A (k + 1)) (ho : T.H₀.get? a = some o) (hd : o.data = .func fd) (hcr : T.H₀.CodeRec fd.code fd.qualname) (hvs : RepL T.p s.heap Z ds vs) (hbind : bindArgs fd ⟨vs, []⟩ = pure (names.zip vs)) (hlen : ds.length = names.length) (hnd : names.Nodup)
    (hnk : (names.all fun x => fd.scope.names.lookup x == some .local || fd.scope.names.lookup x == some .cell) = true)
    (old : Ext T.H₀ s.heap) (xs : ∀ x ∈ Z, ∃ o, s.heap.get? x = some o)
    (K : ∀ L s', (callFx T A k fd a γ Z L).Ok → St (callFx T A k fd a γ Z L) [] s (names.zip ds) s' →
      wpAny (model T.p.1 T.p.2) (callFx T A k fd a γ Z L).A (execs body (callFx T A k fd a γ Z L).env) (RetPost (callFx T A k fd a γ Z L) s d) (fun _ _ => False) s')
    (ret : ∀ v s', Sm [] γ s s' → Rep T.p s'.heap Z d v → Q v s')
    (hcn : decide (((cellsFrom 0 fd.scope.names []).map (·.1)).Nodup) = true := by rfl)
    (hb : fd.body = .stmts body := by rfl) (hcl : fd.closure = [] := by rfl) (hgl : fd.globals = mainGlobals := by rfl) (hbl : fd.builtins = builtinsNs := by rfl)
    (hco : fd.scope.isCoroutine = false := by rfl) (hgen : fd.scope.isGenerator = false := by rfl) (hk : fd.scope.kind = .function := by rfl) :
    wpAny (model T.p.1 T.p.2) A (call (.ref a) vs) Q E s := by
  have hroom : A.depth < recursionLimit := by have := room.depth; omega
  refine wpAny_call (codeAny_call_function hroom (old _ _ ho) hd hco hgen hb (hcr.keeps old) ?_)
  rw [hbind]
  refine wpAny_pure ?_
  rw [hcl]
  have hlv : vs.length = names.length := by rw [hvs.length, hlen]
  have kinds : ∀ n, ∀ x ∈ names.zip vs, fd.scope.names.lookup x.1 = some .local ∨ (fd.scope.names.lookup x.1 = some .cell ∧ ((cellsFrom n fd.scope.names []).lookup x.1).isSome = true) := fun n x hx => by
    have hx1 : x.1 ∈ names := (List.of_mem_zip hx).1
    have := List.all_eq_true.mp hnk _ hx1
    rcases Bool.or_eq_true_iff.mp this with q | q
    · exact .inl (by simpa using q)
    · have q' : fd.scope.names.lookup x.1 = some .cell := by simpa using q
      exact .inr ⟨q', cellsFrom_some _ _ _ (.inl q')⟩
  refine wpAny_newFunctionEnv_cells hk (kinds _) fun env henv s' ic => ?_
  have henv' : env = callEnvC fd s.heap.objs.size a := henv
  subst henv'
  refine ⟨(top.lim.keeps old).keeps ic.toInCall.keep, codeAny_func ?_⟩
  have nL : ∀ b ∈ s.heap.objs.size :: (cellsFrom (s.heap.objs.size + 1) fd.scope.names []).map (·.2), s.heap.objs.size ≤ b := fun b hb' => by
    rcases List.mem_cons.mp hb' with rfl | hb'
    · exact Nat.le_refl _
    · obtain ⟨⟨y, b'⟩, hm, rfl⟩ := List.mem_map.mp hb'
      exact Nat.le_of_lt (ic.above y b' hm)
  have nnd : ((names.zip vs).map (·.1)).Nodup := (zip_fst_sub).nodup hnd
  have fok : (callFx T A k fd a γ Z s.heap.objs.size).Ok := by
    refine ⟨top, room.deeper, hk, hgl, hbl, List.mem_cons_self, fun x hx => ?_, fun x y cc h1 h2 => name_of_addr ic.apart (mem_of_lookup h1) (mem_of_lookup h2), fun b hb' => ?_⟩
    · have : ((cellsFrom (s.heap.objs.size + 1) fd.scope.names []).lookup x).isSome = true := cellsFrom_some _ _ _ (.inl hx)
      obtain ⟨cc, hcc⟩ := Option.isSome_iff_exists.mp this
      exact ⟨cc, hcc, List.mem_cons_of_mem _ (List.mem_map.mpr ⟨_, mem_of_lookup hcc, rfl⟩), Nat.ne_of_gt (ic.above x cc (mem_of_lookup hcc))⟩
    · show T.H₀.get? b = none
      cases q : T.H₀.get? b with
      | none => rfl
      | some o' => exact absurd (Heap.lt_size (old b o' q)) (Nat.not_lt.mpr (nL b hb'))
  obtain ⟨h₁, tk₁, hs', hk₁⟩ := ic.done
  have kp : Kp s s' := ⟨h₁, tk₁, hs', hk₁⟩
  have alive : ∀ b ∈ s.heap.objs.size :: (cellsFrom (s.heap.objs.size + 1) fd.scope.names []).map (·.2), ∃ o, s'.heap.get? b = some o := fun b hb' => by
    rcases List.mem_cons.mp hb' with rfl | hb'
    · obtain ⟨o', _, _, ho', _⟩ := ic.toInCall.ns; exact ⟨o', ho'⟩
    · obtain ⟨⟨y, b'⟩, hm, rfl⟩ := List.mem_map.mp hb'
      have hl := lookup_of_mem_nodup (by rw [cellsFrom_shift _ _ 0]; exact of_decide_eq_true hcn) hm
      obtain ⟨o', ho', _⟩ := ic.cell y b' hl
      exact ⟨o', ho'⟩
  have st : St (callFx T A k fd a γ Z s.heap.objs.size) [] s (names.zip ds) s' := by
    refine ⟨kp.sm, old.trans kp.ext, fun b hb' => ?_, fun x cc h1 h2 => ⟨_, ic.cell x cc h2⟩, ⟨_, ic.toInCall.ns, fun x d' hx => ?_⟩, fun o ho => (nomatch ho), fun o ho => (nomatch ho)⟩
    · rcases List.mem_append.mp hb' with hb' | hb'
      · exact alive b hb'
      · obtain ⟨o', ho'⟩ := xs b hb'; exact ⟨o', kp.ext b o' ho'⟩
    · obtain ⟨v, hm, r⟩ := zip_lookup hvs hlen hx
      have bi := bind_in (kindOf := (callEnvC fd s.heap.objs.size a).kindOf) (names.zip vs) (fun _ => none) (fun _ => none) nnd hm
      refine ⟨v, (Rep.strong (fun b hb' => ?_) r).ext kp.ext, And.intro (fun q => bi.1 q) fun q => ?_⟩
      · rcases List.mem_append.mp hb' with hb' | hb'
        · exact .inl (none_ge (nL b hb'))
        · exact .inr hb'
      · have hs : ((cellsFrom (s.heap.objs.size + 1) fd.scope.names []).lookup x).isSome = true := cellsFrom_some _ _ _ (.inl q)
        obtain ⟨cc, hcc⟩ := Option.isSome_iff_exists.mp hs
        have := ic.cell x cc hcc
        rw [bi.2 q] at this
        exact ⟨cc, hcc, this⟩
  refine wpAny_mono (K _ s' fok st) (fun fl s'' hp => ?_) fun _ _ x => x.elim
  obtain ⟨sm, r⟩ := hp
  refine ret _ s'' ⟨sm.is, fun b o' _ ho' => sm.ext b o' (fun hm => absurd (Heap.lt_size ho') (Nat.not_lt.mpr (nL b hm))) ho', sm.gr⟩ (Rep.weak (fun b hb' => List.mem_append_right _ hb') r)

theorem Sm.kp {s s' : Shared} (x : Sm [] none s s') : Kp s s' := by
  obtain ⟨⟨h, g, t, e⟩, ee, gg⟩ := x
  subst e
  have gg : g = s.gens := gg
  subst gg
  exact ⟨h, t, rfl, fun b o q => ee b o (by simp) q⟩

/-- what is known of a def -/
structure FnObj (T : Tp) (a : Addr) (fd : FuncData) : Prop where
  obj : ∃ o, T.H₀.get? a = some o ∧ o.data = .func fd
  code : T.H₀.CodeRec fd.code fd.qualname
end Mine
namespace Mine
open PySem PySem.Spec PySem.Calls PyProof.Rows PySem.W

/-- the defs of the text, taken out of the row's own term -/
def rec (i : Nat) : DefRec := match PySem.Challenge.pw_pe0040_01.main.body[i]? with
  | some (.FunctionDef n a b _ _ _ sc _ _ pos) => ⟨n, a, b, sc, pos⟩
  | _ => ⟨Str.empty, ⟨[], [], none, [], [], none, []⟩, [], ⟨.function, [], false, false, []⟩, default⟩
def fdI (i : Nat) (pm cd doc : Value) : FuncData := docDef (rec i).name (rec i).params (rec i).body (rec i).scope pm cd doc

structure FnAt (T : Tp) (i : Nat) (a : Addr) (pm cd doc : Value) : Prop where
  name : T.mg (rec i).name = some (.ref a)
  obj : ∃ o, T.H₀.get? a = some o ∧ o.data = .func (fdI i pm cd doc)
  code : T.H₀.CodeRec cd (rec i).name

theorem lk {α : Type} {k x : Str} {d : α} {ρ : List (Str × α)} {o : Option α} (h : ρ.lookup k = o) (hne : (k == x) = false := by decide) : ((x, d) :: ρ).lookup k = o := by rw [List.lookup_cons, hne]; exact h
section
variable {F : Fx} {Ω : List OwnD} {s₀ s : Shared} {ρ : List (Str × AV)} {E : Value → Shared → Prop} {Q : Flow → Shared → Prop} {rest : List Stmt} {pos : Pos}
theorem seq_aug {x : Str} {p : Pos} {e : Expr} {a b : Int} (f : F.Ok) (st : St F Ω s₀ ρ s) (hx : ρ.lookup x = some (.int a)) (he : PE (F.cx s.heap ρ) e (.int b)) (K : ∀ s', St F Ω s₀ ((x, .int (a + b)) :: ρ) s' → wpAny F.M F.A (execs rest F.env) Q E s')
    (hk : F.env.kindOf x = some .local := by rfl) :
    wpAny F.M F.A (execs (.AugAssign (.Name x p) .Add e pos :: rest) F.env) Q E s := by
  obtain ⟨m, hn, hv⟩ := st.vars
  obtain ⟨v, ⟨t, hv1⟩, a1, _⟩ := hv x _ hx
  subst hv1
  refine wpAny_execs_cons (wpAny_AugAssign_Name (wpAny_loadName_local f.kind hk hn (a1 hk) (he s _ _ (Ext.refl _) fun v2 s1 k1 ⟨t2, e2⟩ => ?_)))
  subst e2
  exact PyProof.Rows.iadd_int (store f ((st.kp k1).kp ((Kp.refl s1).tok _)) (d := .int (a + b)) ⟨_, rfl⟩ (.inl hk) fun s' st' _ => K s' st')
end

theorem count_calls_fn {T : Tp} {a : Addr} {pm cd doc : Value} (top : T.Ok) (at_ : FnAt T 3 a pm cd doc) (es : List (Int × Int)) : FnP T 2 a [.dict es] (.int (es.map (·.2)).sum) := by
  intro A s Q E X vs room old xs r K
  obtain ⟨o, ho, hd⟩ := at_.obj
  obtain ⟨v1, vs1, rfl, r1, rfl⟩ := id r
  refine enter (γ := none) (names := [Str.ofString "callers"]) (k := 1) top room ho hd at_.code r rfl rfl (by decide) rfl old xs (fun L s' f st => ?_) (fun v s' sm rr => K v s' sm.kp rr)
  refine seq_assign f st PE.int fun s1 st1 => ?_
  refine seq_for (fun e : Int × Int => .int e.2) es (fun i ρ _ => ρ.lookup (Str.ofString "nc") = some (.int ((es.take i).map (·.2)).sum)) (fun _ _ => False) (fun _ => False) f st1 ?_ rfl ?_ ?_ ?_
  · exact PI.values (st1.ok f) (PE.name (st1.ok f) rfl)
  · intro Z' i e ρ' Ω' s2 he hJ f2 st2
    refine seq_aug (a := ((es.take i).map fun e => e.2).sum) (b := e.2) f2 st2 (lk hJ) (PE.name (st2.ok f2) rfl) fun s3 st3 => wpAny_execs_nil ⟨_, _, ?_, st3⟩
    have : es.take (i + 1) = es.take i ++ [e] := by rw [List.take_add_one, he]; rfl
    rw [this]
    simp
  · rintro ρ' Ω' s2 (hJ | hJ) st2
    · rw [List.take_length] at hJ
      exact seq_ret st2 (PE.name (st2.ok f) hJ) fun v s3 sm r3 => ⟨sm, r3⟩
    · exact hJ.elim
  · rintro _ _ _ h; exact h.elim
end Mine
namespace Mine
open PySem PySem.Spec PySem.Calls PyProof.Rows PySem.W

/-- an expression that makes a new list | dict -/
def PNL (c : Cx) (e : Expr) (ds : List AV) : Prop :=
  ∀ (s : Shared) (Q : Value → Shared → Prop) (E : Value → Shared → Prop), Ext c.H s.heap → (∀ a vs s', Kp s s' → s.heap.get? a = none → s'.heap.PlainList a (List.toArray vs) → vs.length ≤ big → RepL c.T.p s'.heap (a :: c.X) ds vs → Q (.ref a) s') → wpAny c.M c.A (eval e c.env) Q E s
def PND (c : Cx) (e : Expr) : Prop :=
  ∀ (s : Shared) (Q : Value → Shared → Prop) (E : Value → Shared → Prop), Ext c.H s.heap → (∀ a s', Kp s s' → s.heap.get? a = none → s'.heap.DictOf (intKind c.T.p.1 c.T.p.2) a [] → Q (.ref a) s') → wpAny c.M c.A (eval e c.env) Q E s
section
variable {c : Cx} {pos : Pos}
theorem Kp.none {s s' : Shared} (k : Kp s s') {a : Addr} (h : s'.heap.get? a = none) : s.heap.get? a = none := by
  cases e : s.heap.get? a with
  | none => rfl
  | some o => rw [k.ext a o e] at h; cases h
theorem PNL.listD {es : List Expr} {ds : List AV} (h : PEL c pos es ds) (hz : ds.length ≤ big := by decide) : PNL c (.List es pos) ds := fun s Q E ex K =>
  wpAny_List_spliced (h s _ _ ex fun vs s1 k1 r => ⟨by have := r.length; have := big_le; omega, K _ vs _ (k1.push _) (k1.none (none_size _)) ⟨0, Heap.get?_push_size _ rfl⟩ (by have := r.length; omega)
    ((RepL.strong (fun a ha => by rcases List.mem_cons.mp ha with rfl | ha; exact .inl (none_size _); exact .inr ha) r).ext (Ext.push _ _))⟩)
theorem PND.empty : PND c (.Dict [] [] pos) := fun s Q E ex K => wpAny_Dict_empty (K _ _ ((Kp.refl s).push _) (none_size _) (Heap.DictOf.new _))
theorem PNL.sliceAll {e : Expr} {p : Pos} {xs : List AV} (he : PE c e (.list xs)) : PNL c (.Subscript e (.Slice none none none p) pos) xs := fun s Q E ex K =>
  Subscript_ (he s _ _ ex fun v s1 k1 r1 => wpAny_Slice (wpAny_pure (wpAny_pure (wpAny_pure (by
    obtain ⟨l, vs, rfl, hX, hp, hz, rl⟩ := r1.ext (Ext.push s1.heap { cls := .type "slice", data := .fields #[.none, .none, .none] })
    have bl := big_le
    refine tail_any hp.isList.typeIs slot_list_getitem.lookup (wpAny_getItem_list_slice hp.isList (Heap.IsSliceOf.new ..) .none .none .none (by simp) ?_ (by simp; omega)) rfl
    rw [slicePick_all]
    exact K _ vs _ ((k1.push _).push _) ((k1.push _).none (none_size _)) ⟨0, Heap.get?_push_size _ rfl⟩ hz ((RepL.strong (fun a ha => by rcases List.mem_cons.mp ha with rfl | ha; exact .inl (none_size _); exact .inr ha) rl).ext (Ext.push _ _)))))))

theorem PE.itemP {e i : Expr} {a : Addr} {xs : List AV} {k : Int} {d : AV} (he : PE c e (.ptr a)) (own : (OwnD.list a xs).At c.T.p c.H c.X) (hi : PE c i (.int k)) (h0 : 0 ≤ k) (hd : xs[k.toNat]? = some d)
    (hs : ∀ o j, subscripted i false o j = operate [o, j] (getItem o j) := by intro _ _; with_unfolding_all rfl) : PE c (.Subscript e i pos) d := fun s Q E ex K =>
  Subscript_ (he s _ _ ex fun v s1 k1 e1 => hi s1 _ _ (ex.trans k1.ext) fun v2 s2 k2 ⟨t, e2⟩ => by
    cases e1
    obtain ⟨vs, hp, hz, rl⟩ := own.mono fun b x _ q => (ex.trans (k1.trans k2).ext) b x q
    subst e2
    obtain ⟨v, hv, r⟩ := rl.get hd
    have hlt : k.toNat < vs.length := (List.getElem?_eq_some_iff.mp hv).1
    have hb : (big : Int) < 2 ^ 63 := by decide
    exact tail_any hp.isList.typeIs slot_list_getitem.lookup (wpAny_getItem_list hp.isList h0 (by omega) (by simpa using hv) (K v s2 (k1.trans k2) r)) (hs _ _))
theorem PT.inP {l r : Expr} {a : Addr} {es : List (Int × Int)} {k : Int} (hl : PE c l (.int k)) (hr : PE c r (.ptr a)) (own : (OwnD.dict a es).At c.T.p c.H c.X) (hm : behindInMarks .In r = false := by with_unfolding_all rfl) : PT c (.Compare l [.In] [r] pos) (lookI es k).isSome :=
  PT.cmp hl hr hm fun s Q E v1 v2 ex ⟨t, e1⟩ e2 K => by
    subst e1; cases e2
    obtain ⟨kvs, hS, hd, hz, rd⟩ := own.mono fun b x _ q => ex b x q
    refine wpAny_in_of (knd := intKind c.T.p.1 c.T.p.2) (intKind_is _ _ k t) hS hd.mapOf (K _ _ ((Kp.refl s).tok _) ?_)
    rcases rd.look k with ⟨h1, h2⟩ | ⟨i, u, h1, h2⟩ <;> rw [h1, h2] <;> rfl
end

section
variable {F : Fx} {Ω : List OwnD} {s₀ s : Shared} {ρ : List (Str × AV)} {E : Value → Shared → Prop} {Q : Flow → Shared → Prop} {rest : List Stmt} {pos : Pos}

def Fx.with (F : Fx) (a : Addr) : Fx := { F with Y := a :: F.Y }
theorem Fx.Ok.with {F : Fx} (f : F.Ok) {a : Addr} (h : F.T.H₀.get? a = none) : (F.with a).Ok :=
  ⟨f.top, f.room, f.kind, f.glob, f.blt, List.mem_cons_of_mem _ f.loc, fun x hx => let ⟨cc, h1, h2, h3⟩ := f.cells x hx; ⟨cc, h1, List.mem_cons_of_mem _ h2, h3⟩, f.apart, fun b hb => by
    rcases List.mem_cons.mp hb with rfl | hb
    · exact h
    · exact f.fresh b hb⟩
theorem Sm.more {Y Y' : List Addr} {γ : Option Nat} {s s' : Shared} (x : Sm Y γ s s') (h : ∀ a ∈ Y, a ∈ Y') : Sm Y' γ s s' := ⟨x.is, x.ext.mono h, x.gr⟩
/-- a new thing becomes the frame's own -/
theorem St.take {a : Addr} {o : OwnD} (f : F.Ok) (st : St F Ω s₀ ρ s) {s' : Shared} (k : Kp s s') (hn : s.heap.get? a = none) (hoa : o.addr = a) (ho : o.At F.T.p s'.heap (a :: F.X)) : St (F.with a) (o :: Ω) s₀ ρ s' := by
  have st' := st.kp k
  have hX : ∀ b ∈ (F.with a).X, s.heap.get? b = none ∨ b ∈ F.X := fun b hb => by
    rcases List.mem_append.mp hb with hb | hb
    · rcases List.mem_cons.mp hb with rfl | hb
      · exact .inl hn
      · exact .inr (List.mem_append_left _ hb)
    · exact .inr (List.mem_append_right _ hb)
  have nL : a ≠ F.env.locals := fun e => by
    obtain ⟨m, ⟨o', _, _, h', _⟩, _⟩ := st.vars
    rw [e, h'] at hn; cases hn
  refine ⟨st'.sm.more fun b hb => List.mem_cons_of_mem _ hb, st'.old, fun b hb => ?_, st'.cell, ?_, fun o' ho' => ?_, fun o' ho' => ?_⟩
  · rcases List.mem_append.mp hb with hb | hb
    · rcases List.mem_cons.mp hb with rfl | hb
      · exact hoa ▸ ho.alive
      · exact st'.xs b (List.mem_append_left _ hb)
    · exact st'.xs b (List.mem_append_right _ hb)
  · obtain ⟨m, hm, hv⟩ := st.vars
    refine ⟨m, hm.keeps k.ext, fun x d hx => ?_⟩
    obtain ⟨v, r, a1, a2⟩ := hv x d hx
    exact ⟨v, (Rep.strong hX r).ext k.ext, And.intro a1 fun q => let ⟨cc, h1, h2⟩ := a2 q; ⟨cc, h1, h2.keeps k.ext⟩⟩
  · rcases List.mem_cons.mp ho' with rfl | ho'
    · exact ho.weak fun b hb => hb
    · exact ((st.own o' ho').strong hX).mono fun b x _ q => k.ext b x q
  · rcases List.mem_cons.mp ho' with rfl | ho'
    · refine ⟨hoa ▸ List.mem_cons_self, hoa ▸ nL, fun x cc h1 h2 e => ?_⟩
      obtain ⟨v0, o'', h', _⟩ := st.cell x cc h1 h2
      rw [e, hoa, hn] at h'; cases h'
    · obtain ⟨h1, h2⟩ := st.ownY o' ho'
      exact ⟨List.mem_cons_of_mem _ h1, h2⟩
end
end Mine
namespace Mine
open PySem PySem.Spec PySem.Calls PyProof.Rows PySem.W

theorem mem_set_cases {α : Type} {x y : α} : ∀ {l : List α} {j : Nat}, x ∈ l.set j y → x = y ∨ ∃ i, i ≠ j ∧ l[i]? = some x
  | [], _, h => by simp at h
  | a :: r, 0, h => by
    rw [List.set_cons_zero] at h
    rcases List.mem_cons.mp h with rfl | h
    · exact .inl rfl
    · obtain ⟨i, hi⟩ := List.getElem?_of_mem h
      exact .inr ⟨i + 1, by omega, by simpa using hi⟩
  | a :: r, j + 1, h => by
    rw [List.set_cons_succ] at h
    rcases List.mem_cons.mp h with rfl | h
    · exact .inr ⟨0, by omega, rfl⟩
    · rcases mem_set_cases h with e | ⟨i, ne, hi⟩
      · exact .inl e
      · exact .inr ⟨i + 1, by omega, by simpa using hi⟩
theorem nodup_get {α β : Type} {f : α → β} {l : List α} (h : (l.map f).Nodup) {i j : Nat} {x y : α} (hi : l[i]? = some x) (hj : l[j]? = some y) (ne : i ≠ j) : f x ≠ f y := by
  intro e
  obtain ⟨li, ei⟩ := List.getElem?_eq_some_iff.mp hi
  obtain ⟨lj, ej⟩ := List.getElem?_eq_some_iff.mp hj
  have P := List.pairwise_iff_getElem.mp h
  rcases Nat.lt_or_gt_of_ne ne with q | q
  · exact P i j (by rw [List.length_map]; exact li) (by rw [List.length_map]; exact lj) q (by simp [ei, ej, e])
  · exact P j i (by rw [List.length_map]; exact lj) (by rw [List.length_map]; exact li) q (by simp [ei, ej, e])

section
variable {F : Fx} {Ω : List OwnD} {s₀ s : Shared} {ρ : List (Str × AV)} {E : Value → Shared → Prop} {Q : Flow → Shared → Prop} {rest : List Stmt} {pos : Pos}

/-- a change of a thing of the frame's own -/
theorem St.upd {j : Nat} {o o' : OwnD} {h' : Heap} {tk : Nat} (f : F.Ok) (st : St F Ω s₀ ρ s) (hj : Ω[j]? = some o) (hnd : (Ω.map OwnD.addr).Nodup) (ho' : o'.addr = o.addr) (hs : Heap.SameBut o.addr s.heap h') (hat : o'.At F.T.p h' F.X) :
    St F (Ω.set j o') s₀ ρ { s with heap := h', toks := tk } := by
  have hm := List.mem_of_getElem? hj
  obtain ⟨hY, nL, nC⟩ := st.ownY o hm
  have sm : Sm F.Y F.γ s { s with heap := h', toks := tk } := Sm.of_same hs hY
  have eX : ExtB F.X s.heap h' := sm.ext.mono fun a ha => List.mem_append_left _ ha
  refine ⟨st.sm.trans sm, fun a x hx => (hs.2 a fun e => by rw [e, f.fresh _ hY] at hx; cases hx).trans (st.old a x hx), fun a ha => ?_, fun x cc h1 h2 => ?_, ?_, fun o2 h2 => ?_, fun o2 h2 => ?_⟩
  · by_cases e : a = o.addr
    · rw [e, ← ho']; exact hat.alive
    · obtain ⟨x, hx⟩ := st.xs a ha; exact ⟨x, (hs.2 a e).trans hx⟩
  · obtain ⟨v0, hv0⟩ := st.cell x cc h1 h2
    exact ⟨v0, hv0.sameBut hs (nC x cc h1 h2)⟩
  · obtain ⟨m, hn, hv⟩ := st.vars
    refine ⟨m, hn.sameBut hs (Ne.symm nL), fun x d hx => ?_⟩
    obtain ⟨v, r, a1, a2⟩ := hv x d hx
    exact ⟨v, r.mono eX, And.intro a1 fun q => let ⟨cc, h1, h2⟩ := a2 q; ⟨cc, h1, h2.sameBut hs (nC x cc q h1)⟩⟩
  · rcases mem_set_cases h2 with rfl | ⟨i, ne, hi⟩
    · exact hat
    · have na := nodup_get hnd hi hj ne
      refine (st.own o2 (List.mem_of_getElem? hi)).mono fun b x hb q => (hs.2 b fun e => ?_).trans q
      rcases hb with hb | hb
      · exact na (hb ▸ e)
      · exact hb (e ▸ List.mem_append_left _ hY)
  · rcases mem_set_cases h2 with rfl | ⟨i, ne, hi⟩
    · rw [ho']; exact ⟨hY, nL, nC⟩
    · exact st.ownY o2 (List.mem_of_getElem? hi)
theorem set_addr {Ω : List OwnD} {j : Nat} {o o' : OwnD} (hj : Ω[j]? = some o) (ho' : o'.addr = o.addr) : (Ω.set j o').map OwnD.addr = Ω.map OwnD.addr := by
  rw [List.map_set, ho']
  apply List.ext_getElem?
  intro i
  rw [List.getElem?_set]
  split
  · rename_i e
    subst e
    split
    · rw [List.getElem?_map, hj]; rfl
    · rename_i h
      rw [List.getElem?_eq_none (by simpa using h)]
  · rfl

/-- x = a new list -/
theorem seq_own {x : Str} {p : Pos} {e : Expr} {ds : List AV} (f : F.Ok) (st : St F Ω s₀ ρ s) (he : PNL (F.cx s.heap ρ) e ds)
    (K : ∀ a s', (F.with a).Ok → s.heap.get? a = none → St (F.with a) (.list a ds :: Ω) s₀ ((x, .ptr a) :: ρ) s' → wpAny (F.with a).M (F.with a).A (execs rest (F.with a).env) Q E s')
    (hk : F.env.kindOf x = some .local ∨ F.env.kindOf x = some .cell := by first | exact Or.inl rfl | exact Or.inr rfl) (hs : swapsWith e (some (.Name x p)) pos.line F.env = pure false := by rfl) :
    wpAny F.M F.A (execs (.Assign [.Name x p] e pos :: rest) F.env) Q E s :=
  wpAny_execs_cons (wpAny_Assign_Name (he s _ _ (Ext.refl _) fun a vs s1 k1 hn hp hz rl => by
    have hH : F.T.H₀.get? a = none := by
      cases q : F.T.H₀.get? a with
      | none => rfl
      | some o => rw [st.old a o q] at hn; cases hn
    have st1 := st.take f k1 hn (o := .list a ds) rfl ⟨vs, hp, hz, rl⟩
    exact store (F := F.with a) (f.with hH) st1 (d := .ptr a) rfl hk fun s' st' _ => K a s' (f.with hH) hn st') hs)
theorem seq_ownD {x : Str} {p : Pos} {e : Expr} (f : F.Ok) (st : St F Ω s₀ ρ s) (he : PND (F.cx s.heap ρ) e) (hsys : ∃ o, s.heap.get? sysModules = some o)
    (K : ∀ a s', (F.with a).Ok → s.heap.get? a = none → St (F.with a) (.dict a [] :: Ω) s₀ ((x, .ptr a) :: ρ) s' → wpAny (F.with a).M (F.with a).A (execs rest (F.with a).env) Q E s')
    (hk : F.env.kindOf x = some .local ∨ F.env.kindOf x = some .cell := by first | exact Or.inl rfl | exact Or.inr rfl) (hs : swapsWith e (some (.Name x p)) pos.line F.env = pure false := by rfl) :
    wpAny F.M F.A (execs (.Assign [.Name x p] e pos :: rest) F.env) Q E s :=
  wpAny_execs_cons (wpAny_Assign_Name (he s _ _ (Ext.refl _) fun a s1 k1 hn hd => by
    have hH : F.T.H₀.get? a = none := by
      cases q : F.T.H₀.get? a with
      | none => rfl
      | some o => rw [st.old a o q] at hn; cases hn
    have hS : (a == sysModules) = false := by
      cases q : a == sysModules with
      | false => rfl
      | true => obtain ⟨o, ho⟩ := hsys; rw [beq_iff_eq.mp q, ho] at hn; cases hn
    have st1 := st.take f k1 hn (o := .dict a []) rfl ⟨[], hS, hd, Nat.zero_le _, rfl⟩
    exact store (F := F.with a) (f.with hH) st1 (d := .ptr a) rfl hk fun s' st' _ => K a s' (f.with hH) hn st') hs)

/-- x.append(e) -/
theorem seq_append {o e : Expr} {apos cpos : Pos} {a : Addr} {ds : List AV} {d : AV} {j : Nat} (f : F.Ok) (st : St F Ω s₀ ρ s) (ho : PE (F.cx s.heap ρ) o (.ptr a)) (hj : Ω[j]? = some (.list a ds)) (hnd : (Ω.map OwnD.addr).Nodup) (he : PE (F.cx s.heap ρ) e d) (hz : ds.length < big)
    (K : ∀ s', St F (Ω.set j (.list a (ds ++ [d]))) s₀ ρ s' → wpAny F.M F.A (execs rest F.env) Q E s')
    (hb : attributeBase o "append" F.env (eval o F.env) = eval o F.env := by rfl) (hst : starEach [e] F.env = [(false, eval e F.env)] := by rfl) (hl : (apos.endLine == cpos.line) = true := by rfl)
    (hi : interactive F.env = false := by rfl) (hs : swapsWith (.Call (.Attribute o "append" apos) [e] [] cpos) none pos.line F.env = pure false := by rfl) :
    wpAny F.M F.A (execs (.Expr (.Call (.Attribute o "append" apos) [e] [] cpos) pos :: rest) F.env) Q E s := by
  refine wpAny_execs_cons (wpAny_Expr_any ?_ hi hs)
  refine wpAny_Call_append hb (by rw [hst]; rfl) hl (by rw [hst]; rfl) (ho s _ _ (Ext.refl _) fun v s1 k1 e1 => ?_)
  cases e1
  have own1 := (st.kp k1).own _ (List.mem_of_getElem? hj)
  obtain ⟨vs, ⟨n, g⟩, _, rl⟩ := own1
  refine ⟨a, vs.toArray, rfl, ⟨_, n, g, rfl, rfl, rfl⟩, he s1 _ _ k1.ext fun y s2 k2 r2 => ?_⟩
  have st2 := (st.kp k1).kp k2
  obtain ⟨vs, hp, hz2, rl⟩ := st2.own _ (List.mem_of_getElem? hj)
  have hlen := rl.length
  have bl := big_le
  refine wpAny_list_append_plain (hsz := by simp; omega) hp fun h' hl' hs' => K _ ?_
  have hs' : Heap.SameBut a s2.heap h' := hs'
  have hY := (st2.ownY _ (List.mem_of_getElem? hj)).1
  have eX : ExtB F.X s2.heap h' := ExtB.of_same hs' (List.mem_append_left _ hY)
  exact st2.upd (tk := s2.toks) f hj hnd rfl hs' ⟨vs ++ [y], by simpa using hl', by simp; omega, RepL.append (rl.mono eX) (RepL.cons (r2.mono eX) RepL.nil)⟩

/-- x[i] = e -/
theorem seq_setL {o i e : Expr} {p : Pos} {a : Addr} {ds : List AV} {d : AV} {j : Nat} {k : Int} (f : F.Ok) (st : St F Ω s₀ ρ s) (he : PE (F.cx s.heap ρ) e d) (ho : PE (F.cx s.heap ρ) o (.ptr a)) (hi : PE (F.cx s.heap ρ) i (.int k)) (hj : Ω[j]? = some (.list a ds)) (hnd : (Ω.map OwnD.addr).Nodup) (h0 : 0 ≤ k) (h1 : k < ds.length)
    (K : ∀ s', St F (Ω.set j (.list a (ds.set k.toNat d))) s₀ ρ s' → wpAny F.M F.A (execs rest F.env) Q E s') (hs : swapsWith e (some (.Subscript o i p)) pos.line F.env = pure false := by rfl) :
    wpAny F.M F.A (execs (.Assign [.Subscript o i p] e pos :: rest) F.env) Q E s := by
  refine wpAny_execs_cons (wpAny_Assign_Subscript (he s _ _ (Ext.refl _) fun v s1 k1 r1 => ho s1 _ _ k1.ext fun ov s2 k2 e2 => hi s2 _ _ (k1.trans k2).ext fun iv s3 k3 ⟨t, e3⟩ => ?_) hs)
  cases e2
  subst e3
  have st3 := ((st.kp k1).kp k2).kp k3
  have r3 := r1.ext (k2.trans k3).ext
  obtain ⟨vs, ⟨n, g⟩, hz, rl⟩ := st3.own _ (List.mem_of_getElem? hj)
  have hlen := rl.length
  have hb : (big : Int) < 2 ^ 63 := by decide
  refine ki_setAt (n := n) g h0 (by omega) (by simp; omega) (K _ ?_)
  have hs' : Heap.SameBut a s3.heap (s3.heap.update a (Obj.mapSeq (·.setIfInBounds k.toNat v))) := Heap.SameBut.update ..
  have hY := (st3.ownY _ (List.mem_of_getElem? hj)).1
  have eX : ExtB F.X s3.heap _ := ExtB.of_same hs' (List.mem_append_left _ hY)
  have eo : Obj.mapSeq (·.setIfInBounds k.toNat v) { cls := .type "list", data := .seq vs.toArray n } = { cls := .type "list", data := .seq (vs.set k.toNat v).toArray n } := by simp [Obj.mapSeq]
  refine st3.upd (tk := s3.toks) f hj hnd rfl hs' ⟨vs.set k.toNat v, ⟨n, ?_⟩, by simpa using hz, RepL.set _ (rl.mono eX) (r3.mono eX)⟩
  rw [Heap.get?_update_self _ g (by rw [eo]; rfl), eo]

/-- what was the frame's own becomes data -/
theorem St.freeze {a : Addr} {o : OwnD} {d : AV} {x : Str} (st : St (F.with a) (o :: Ω) s₀ ρ s) (hx : ρ.lookup x = some (.ptr a)) (ha : a ∉ F.X) (h0 : s₀.heap.get? a = none) (hd : Rep F.T.p s.heap F.X d (.ref a)) (hΩ : ∀ o' ∈ Ω, o'.addr ∈ F.Y) : St F Ω s₀ ((x, d) :: ρ) s := by
  have sub : ∀ b ∈ F.X, b ∈ (F.with a).X := fun b hb => List.mem_cons_of_mem _ hb
  refine ⟨⟨st.sm.is, fun b y nb hy => st.sm.ext b y (fun m => ?_) hy, st.sm.gr⟩, st.old, fun b hb => st.xs b (sub b hb), st.cell, ?_, fun o' ho' => (st.own o' (List.mem_cons_of_mem _ ho')).weak sub, fun o' ho' => ⟨hΩ o' ho', (st.ownY o' (List.mem_cons_of_mem _ ho')).2⟩⟩
  · rcases List.mem_cons.mp m with rfl | m
    · rw [h0] at hy; cases hy
    · exact nb m
  · obtain ⟨m, hn, hv⟩ := st.vars
    refine ⟨m, hn, fun y d' hy => ?_⟩
    rw [List.lookup_cons] at hy
    cases q : y == x with
    | true =>
      rw [q] at hy; cases hy
      obtain ⟨v, r, a1⟩ := hv x _ hx
      cases r
      exact ⟨_, hd, (beq_iff_eq.mp q) ▸ a1⟩
    | false =>
      rw [q] at hy
      obtain ⟨v, r, a1⟩ := hv y d' hy
      exact ⟨v, Rep.weak sub r, a1⟩
theorem St.freezeL {a : Addr} {ds : List AV} {x : Str} (st : St (F.with a) (.list a ds :: Ω) s₀ ρ s) (hx : ρ.lookup x = some (.ptr a)) (ha : a ∉ F.X) (h0 : s₀.heap.get? a = none) (hΩ : ∀ o' ∈ Ω, o'.addr ∈ F.Y) : St F Ω s₀ ((x, .list ds) :: ρ) s := by
  obtain ⟨vs, hp, hz, rl⟩ := st.own _ List.mem_cons_self
  exact st.freeze hx ha h0 ⟨a, vs, rfl, ha, hp, hz, rl.weak fun b hb => List.mem_cons_of_mem _ hb⟩ hΩ
theorem St.freezeD {a : Addr} {es : List (Int × Int)} {x : Str} (st : St (F.with a) (.dict a es :: Ω) s₀ ρ s) (hx : ρ.lookup x = some (.ptr a)) (ha : a ∉ F.X) (h0 : s₀.heap.get? a = none) (hΩ : ∀ o' ∈ Ω, o'.addr ∈ F.Y) : St F Ω s₀ ((x, .dict es) :: ρ) s := by
  obtain ⟨kvs, hS, hd, hz, rd⟩ := st.own _ List.mem_cons_self
  exact st.freeze hx ha h0 ⟨a, kvs, rfl, ha, hS, hd, hz, rd⟩ hΩ
end
end Mine
namespace Mine
open PySem PySem.Spec PySem.Calls PyProof.Rows PySem.W

abbrev eN (n : Nat) : AV := .int (n : Int)
abbrev eR (r : List Nat) : AV := .list (r.map eN)
abbrev eRows (rows : List (List Nat)) : AV := .list (rows.map eR)

structure Blts (T : Tp) : Prop where
  len : T.mg "len" = none ∧ T.mb "len" = some (.builtin "len")
  sum : T.mg "sum" = none ∧ T.mb "sum" = some (.builtin "sum")
  range : T.mg "range" = none ∧ T.mb "range" = some (.type "range")
  next : T.mg "next" = none ∧ T.mb "next" = some (.builtin "next")
  isin : T.mg "isinstance" = none ∧ T.mb "isinstance" = some (.builtin "isinstance")
  tuple : T.mg "tuple" = none ∧ T.mb "tuple" = some (.type "tuple")
  sys : ∃ o, T.H₀.get? sysModules = some o
theorem fmodN (a b : Nat) : Int.fmod (a : Int) (b : Int) = ((a % b : Nat) : Int) := by
  rw [Int.fmod_eq_emod_of_nonneg _ (Int.natCast_nonneg b)]; exact (Int.natCast_emod a b).symm
theorem fdivN (a b : Nat) : Int.fdiv (a : Int) (b : Int) = ((a / b : Nat) : Int) := by
  rw [Int.fdiv_eq_ediv_of_nonneg _ (Int.natCast_nonneg b)]; exact (Int.natCast_ediv a b).symm
theorem eN_ints (r : List Nat) : eR r = AV.ints (r.map fun (n : Nat) => (n : Int)) := by simp [AV.ints, eR, Function.comp_def]

theorem PE.cast {c : Cx} {e : Expr} {d d' : AV} (h : PE c e d) (q : d = d') : PE c e d' := q ▸ h
theorem PT.cast {c : Cx} {e : Expr} {b b' : Bool} (h : PT c e b) (q : b = b') : PT c e b' := q ▸ h
theorem PI.cast {c : Cx} {e : Expr} {xs xs' : List AV} (h : PI c e xs) (q : xs = xs') : PI c e xs' := q ▸ h
/-- the last sizes lead home -/
def stepH (rows : List (List Nat)) (p : Nat) : Option Nat := match p with
  | 0 => some 0
  | p + 1 => match rows[p + 1]? with
    | some r => match r.getLast? with
      | some l => some ((p + 1 + l) % 4)
      | none => none
    | none => none
def iterH (rows : List (List Nat)) : Nat → Nat → Option Nat
  | 0, p => some p
  | n + 1, p => match stepH rows p with
    | some q => iterH rows n q
    | none => none
def homeO (rows : List (List Nat)) : List Nat → Option Bool
  | [] => some true
  | t :: ts => match iterH rows 3 t with
    | some 0 => homeO rows ts
    | some (_ + 1) => some false
    | none => none

theorem get_last {α : Type} {l : List α} {x : α} (h : l.getLast? = some x) : l[l.length - 1]? = some x := by rw [← List.getLast?_eq_getElem?]; exact h

theorem home_fn {T : Tp} {a : Addr} {pm cd doc : Value} (top : T.Ok) (B : Blts T) (at_ : FnAt T 12 a pm cd doc) {rows : List (List Nat)} {towns : List Nat} {b : Bool} (hb : homeO rows towns = some b) : FnP T 2 a [eRows rows, eR towns] (.bool b) := by
  intro A s Q E X vs room old xs r K
  obtain ⟨o, ho, hd⟩ := at_.obj
  obtain ⟨v1, vs1, rfl, r1, v2, vs2, rfl, r2, rfl⟩ := id r
  refine enter (γ := none) (names := [Str.ofString "rows", Str.ofString "towns"]) (k := 1) top room ho hd at_.code r rfl rfl (by decide) rfl old xs (fun L s' f st => ?_) (fun v s' sm rr => K v s' sm.kp rr)
  refine seq_for eN towns (fun i ρ Ω => ρ.lookup (Str.ofString "rows") = some (eRows rows) ∧ homeO rows (towns.drop i) = some b) (fun _ _ => False) (fun d => d = .bool b) f st (PI.list (st.ok f) (PE.name (st.ok f) rfl)) ⟨rfl, hb⟩ ?_ ?_ ?_
  · rintro Z' i t ρ' Ω' s2 ht ⟨hr, hJ⟩ f2 st2
    have hdrop : towns.drop i = t :: towns.drop (i + 1) := by
      obtain ⟨hl, e⟩ := List.getElem?_eq_some_iff.mp ht
      rw [List.drop_eq_getElem_cons hl, e]
    rw [hdrop] at hJ
    obtain ⟨pf, hpf, h1, h2⟩ : ∃ pf, iterH rows 3 t = some pf ∧ (pf = 0 → homeO rows (towns.drop (i + 1)) = some b) ∧ (pf ≠ 0 → b = false) := by
      unfold homeO at hJ
      split at hJ
      · rename_i e; exact ⟨0, e, fun _ => hJ, fun h => absurd rfl h⟩
      · rename_i e; exact ⟨_, e, fun h => by omega, fun _ => by cases hJ; rfl⟩
      · cases hJ
    refine seq_assign f2 st2 (PE.name (st2.ok f2) rfl) fun s3 st3 => ?_
    refine seq_for eN (List.range 3) (fun j ρ Ω => ρ.lookup (Str.ofString "rows") = some (eRows rows) ∧ ∃ q, ρ.lookup (Str.ofString "place") = some (eN q) ∧ iterH rows (3 - j) q = some pf) (fun _ _ => False) (fun _ => False) f2 st3
      (PI.range (n := 3) (st3.ok f2) (Glob.blt (st3.ok f2) B.range.1 B.range.2) PE.int (by decide) (by decide)) ⟨lk (lk hr), t, rfl, hpf⟩ ?_ ?_ (fun _ _ _ h => h.elim)
    · rintro Z'' j u ρ3 Ω3 s4 hu ⟨hr3, q, hq, hit⟩ f4 st4
      have hj : j < 3 := by obtain ⟨hl, _⟩ := List.getElem?_eq_some_iff.mp hu; simpa using hl
      have e3 : 3 - j = (3 - (j + 1)) + 1 := by omega
      rw [e3] at hit
      unfold iterH at hit
      cases q with
      | zero =>
        refine seq_if_nil st4 ((PT.cmpTo (CmpTo.neI (0 : Int) 0) (PE.name (st4.ok f4) (lk hq)) PE.int).cast rfl) fun s5 st5 => wpAny_execs_nil ⟨_, _, ⟨lk hr3, 0, lk hq, ?_⟩, st5⟩
        simpa [stepH] using hit
      | succ q =>
        cases e : rows[q + 1]? with
        | none => simp [stepH, e] at hit
        | some r =>
          cases el : r.getLast? with
          | none => simp [stepH, e, el] at hit
          | some l =>
            have hit' : iterH rows (3 - (j + 1)) ((q + 1 + l) % 4) = some pf := by simpa [stepH, e, el] using hit
            have hrl : r.length ≠ 0 := fun h => by rw [List.length_eq_zero_iff] at h; subst h; simp at el
            refine seq_if (b := true) st4 ((PT.cmpTo (CmpTo.neI ((q + 1 : Nat) : Int) 0) (PE.name (st4.ok f4) (lk hq)) PE.int).cast (by simp; omega)) fun s5 st5 => ?_
            refine seq_assign (d := eN ((q + 1 + l) % 4)) f4 st5 ((PE.mod (a := ((q + 1 : Nat) : Int) + (l : Int)) (b := 4) (PE.add (PE.name (st5.ok f4) (lk hq)) (PE.itemNeg (xs := r.map eN) (k := -1) (d := eN l) (PE.item (k := ((q + 1 : Nat) : Int)) (PE.name (st5.ok f4) (lk hr3)) (PE.name (st5.ok f4) (lk hq)) (by omega) (by simp [e])) (PE.neg (a := 1) PE.int) (by omega) (by simp; omega) ?_)) PE.int (by decide)).cast ?_)
              fun s6 st6 => wpAny_execs_nil (wpAny_execs_nil ⟨_, _, ⟨lk (lk hr3), _, rfl, hit'⟩, st6⟩)
            · have e1 : ((-1 : Int) + ((r.map eN).length : Int)).toNat = r.length - 1 := by simp; omega
              rw [e1, List.getElem?_map, get_last el]; rfl
            · have := fmodN (q + 1 + l) 4
              rw [show (((q + 1 + l : Nat) : Int)) = ((q + 1 : Nat) : Int) + (l : Int) by push_cast; rfl] at this
              exact congrArg AV.int this
    · rintro ρ3 Ω3 s4 (⟨hr3, q, hq, hit⟩ | h) st4
      · obtain rfl : q = pf := Option.some.inj hit
        cases q with
        | zero => exact seq_if_nil st4 ((PT.cmpTo (CmpTo.neI (0 : Int) 0) (PE.name (st4.ok f2) hq) PE.int).cast rfl) fun s5 st5 => wpAny_execs_nil ⟨_, _, ⟨hr3, h1 rfl⟩, st5⟩
        | succ q =>
          refine seq_if (b := true) st4 ((PT.cmpTo (CmpTo.neI ((q + 1 : Nat) : Int) 0) (PE.name (st4.ok f2) hq) PE.int).cast (by simp; omega)) fun s5 st5 => ?_
          exact seq_ret st5 PE.tt fun v s6 sm r6 => ⟨_, by rw [h2 (by omega)], sm, r6⟩
      · exact h.elim
  · rintro ρ' Ω' s2 (⟨hr, hJ⟩ | h) st2
    · rw [List.drop_length] at hJ
      have : b = true := by simpa [homeO] using hJ.symm
      subst this
      exact seq_ret st2 PE.tt fun v s3 sm r3 => ⟨sm, r3⟩
    · exact h.elim
  · rintro d v s2 rfl sm r3
    exact ⟨sm, r3⟩
end Mine
namespace Mine
open PySem PySem.Spec PySem.Calls PyProof.Rows PySem.W

/-- _law_turned -/
def turnStep (rows : List (List Nat)) (st : Nat × List (List Nat)) (t : Nat) : Nat × List (List Nat) :=
  let r := rows.getD t []
  (st.1 / r.length, st.2.set t (r.drop (st.1 % r.length) ++ r.take (st.1 % r.length)))
def turnedP (rows : List (List Nat)) (towns : List Nat) (number : Nat) : List (List Nat) := (towns.foldl (turnStep rows) (number, rows)).2
def townsOk (rows : List (List Nat)) (towns : List Nat) : Prop := ∀ t ∈ towns, ∃ r, rows[t]? = some r ∧ r ≠ [] ∧ r.length ≤ 1000

theorem getD_of {α : Type} {l : List α} {i : Nat} {x d : α} (h : l[i]? = some x) : l.getD i d = x := by rw [List.getD_eq_getElem?_getD, h]; rfl
theorem foldl_take_succ {α β : Type} {f : β → α → β} {l : List α} {i : Nat} {x : α} {b : β} (h : l[i]? = some x) : (l.take (i + 1)).foldl f b = f ((l.take i).foldl f b) x := by
  rw [List.take_add_one, h, List.foldl_append]; rfl
theorem turn_len (rows : List (List Nat)) : ∀ (ts : List Nat) (st : Nat × List (List Nat)), ((ts.foldl (turnStep rows) st).2).length = st.2.length
  | [], _ => rfl
  | t :: ts, st => by rw [List.foldl_cons, turn_len rows ts]; simp [turnStep]

theorem St.fresh0 {F : Fx} {Ω : List OwnD} {s₀ s : Shared} {ρ : List (Str × AV)} {b : Addr} (st : St F Ω s₀ ρ s) (hb : s.heap.get? b = none) : s₀.heap.get? b = none := by
  cases q : s₀.heap.get? b with
  | none => rfl
  | some o =>
    by_cases hm : b ∈ F.Y
    · obtain ⟨o', ho'⟩ := st.xs b (List.mem_append_left _ hm)
      rw [hb] at ho'; cases ho'
    · rw [st.sm.ext b o hm q] at hb; cases hb
theorem turned_fn {T : Tp} {a : Addr} {pm cd doc : Value} (top : T.Ok) (B : Blts T) (at_ : FnAt T 11 a pm cd doc) {rows : List (List Nat)} {towns : List Nat} (number : Nat) (hok : townsOk rows towns) : FnP T 2 a [eRows rows, eR towns, eN number] (eRows (turnedP rows towns number)) := by
  intro A s Q E X vs room old xs r K
  obtain ⟨o, ho, hd⟩ := at_.obj
  obtain ⟨v1, vs1, rfl, r1, v2, vs2, rfl, r2, v3, vs3, rfl, r3, rfl⟩ := id r
  refine enter (γ := none) (names := [Str.ofString "rows", Str.ofString "towns", Str.ofString "number"]) (k := 1) top room ho hd at_.code r rfl rfl (by decide) rfl old xs (fun L s' f st => ?_) (fun v s' sm rr => K v s' sm.kp rr)
  refine seq_own f st (PNL.sliceAll (PE.name (st.ok f) rfl)) fun b s1 f1 hb st1 => ?_
  refine seq_for eN towns (fun i ρ Ω => ρ.lookup (Str.ofString "rows") = some (eRows rows) ∧ ρ.lookup (Str.ofString "turned") = some (.ptr b) ∧ ρ.lookup (Str.ofString "number") = some (eN ((towns.take i).foldl (turnStep rows) (number, rows)).1) ∧ Ω = [.list b (((towns.take i).foldl (turnStep rows) (number, rows)).2.map eR)]) (fun _ _ => False) (fun _ => False) f1 st1
    (PI.list (st1.ok f1) (PE.name (st1.ok f1) rfl)) ⟨rfl, rfl, rfl, rfl⟩ ?_ ?_ (fun _ _ _ h => h.elim)
  · rintro Z' i t ρ' Ω' s2 ht ⟨hr, hT, hn, rfl⟩ f2 st2
    obtain ⟨r, hrt, hne, hrl⟩ := hok t (List.mem_of_getElem? ht)
    have hl0 : r.length ≠ 0 := fun h => hne (List.length_eq_zero_iff.mp h)
    rw [foldl_take_succ ht]
    generalize hst : (towns.take i).foldl (turnStep rows) (number, rows) = W at hn st2 ⊢
    have hWl : W.2.length = rows.length := by rw [← hst, turn_len]
    have htl : t < rows.length := (List.getElem?_eq_some_iff.mp hrt).1
    have eW : turnStep rows W t = (W.1 / r.length, W.2.set t (r.drop (W.1 % r.length) ++ r.take (W.1 % r.length))) := by unfold turnStep; rw [getD_of hrt]
    rw [eW]
    have item : ∀ {s : Shared} {ρ : List (Str × AV)} {p1 p2 p3 : Pos} (st : St _ _ _ ρ s), ρ.lookup (Str.ofString "rows") = some (eRows rows) → ρ.lookup (Str.ofString "town") = some (eN t) →
        PE (Fx.cx (((callFx T A 1 (fdI 11 pm cd doc) a none X L).with b).wz Z') s.heap ρ) (.Subscript (.Name (Str.ofString "rows") p1) (.Name (Str.ofString "town") p2) p3) (eR r) := fun {s ρ p1 p2 p3} (st : St _ [.list b (W.2.map eR)] s2 ρ s) h1 h2 =>
      PE.item (k := (t : Int)) (PE.name (st.ok f2) h1) (PE.name (st.ok f2) h2) (by omega) (by simp [hrt])
    refine seq_assign (d := eN (W.1 % r.length)) f2 st2 ((PE.mod (a := (W.1 : Int)) (b := (r.length : Int)) (PE.name (st2.ok f2) (lk hn)) ((PE.len (Glob.blt (st2.ok f2) B.len.1 B.len.2) (item st2 (lk hr) rfl)).cast (by simp)) (by omega)).cast (congrArg AV.int (fmodN _ _))) fun s3 st3 => ?_
    refine seq_assign (d := eN (W.1 / r.length)) f2 st3 ((PE.div (a := (W.1 : Int)) (b := (r.length : Int)) (PE.name (st3.ok f2) (lk (lk hn))) ((PE.len (Glob.blt (st3.ok f2) B.len.1 B.len.2) (item st3 (lk (lk hr)) rfl)).cast (by simp)) (by omega) (PyProof.noPylong_small (by omega))).cast (congrArg AV.int (fdivN _ _))) fun s4 st4 => ?_
    refine seq_setL (j := 0) (k := (t : Int)) (d := eR (r.drop (W.1 % r.length) ++ r.take (W.1 % r.length))) f2 st4 ((PE.cat (st4.ok f2) (PE.sliceFrom (k := ((W.1 % r.length : Nat) : Int)) (st4.ok f2) (item st4 (lk (lk (lk hr))) rfl) (PE.name (st4.ok f2) rfl) (by omega)) (PE.sliceTo (k := ((W.1 % r.length : Nat) : Int)) (st4.ok f2) (item st4 (lk (lk (lk hr))) rfl) (PE.name (st4.ok f2) rfl) (by omega)) ?_).cast ?_)
      (PE.name (st4.ok f2) (lk (lk (lk hT)))) (PE.name (st4.ok f2) rfl) rfl (by simp) (by omega) (by simp; omega) fun s5 st5 => wpAny_execs_nil ⟨_, _, ⟨lk (lk (lk hr)), lk (lk (lk hT)), rfl, ?_⟩, st5⟩
    · simp only [List.length_drop, List.length_take, List.length_map]; have : big = 1000000 := rfl; omega
    · rw [Int.toNat_natCast]; simp only [eR, List.map_append, List.map_drop, List.map_take]
    · simp [List.map_set]
  · rintro ρ' Ω' s2 (⟨hr, hT, hn, rfl⟩ | h) st2
    · rw [List.take_length] at st2
      have hbn : b ∉ (callFx T A 1 (fdI 11 pm cd doc) a none X L).X := fresh_not st.xs (Ext.refl _) hb
      have h0 : s.heap.get? b = none := st.fresh0 hb
      have st3 := st2.freezeL hT hbn h0 (fun _ h => nomatch h)
      exact seq_ret (F := callFx T A 1 (fdI 11 pm cd doc) a none X L) st3 (PE.name (st3.ok f) rfl) fun v s3 sm r3 => ⟨sm, r3⟩
    · exact h.elim
end Mine
namespace Mine
open PySem PySem.Spec PySem.Calls PyProof.Rows PySem.W

/-- one row of a profile -/
abbrev Ent := Nat × Nat × Nat × Nat × List (Nat × Nat)
abbrev eT (t : List (Nat × Nat)) : List (Int × Int) := t.map fun e => ((e.1 : Int), (e.2 : Int))
abbrev eE (e : Ent) : AV := .tup [eN e.1, eN e.2.1, eN e.2.2.1, eN e.2.2.2.1, .dict (eT e.2.2.2.2)]
abbrev eB (b : List Ent) : AV := .list (b.map eE)
def look (t : List (Nat × Nat)) (k : Nat) : Option Nat := match t with
  | [] => none
  | (k', v) :: r => match k' == k with
    | true => some v
    | false => look r k
def allT (s t : List (Nat × Nat)) : Bool := match s with
  | [] => true
  | e :: r => (match look t e.1 with | some v => e.2 == v | none => false) && allT r t
def eqT (s t : List (Nat × Nat)) : Bool := s.length == t.length && allT s t
def eqE (s t : Ent) : Bool := s.1 == t.1 && s.2.1 == t.2.1 && s.2.2.1 == t.2.2.1 && s.2.2.2.1 == t.2.2.2.1 && eqT s.2.2.2.2 t.2.2.2.2
def eqBk : List Ent → List Ent → Bool
  | [], [] => true
  | a :: r, b :: q => eqE a b && eqBk r q
  | _, _ => false

theorem look_eT (t : List (Nat × Nat)) (k : Nat) : lookI (eT t) (k : Int) = (look t k).map fun (n : Nat) => (n : Int) := by
  induction t with
  | nil => rfl
  | cons e r ih =>
    obtain ⟨a, b⟩ := e
    unfold look
    by_cases h : a = k
    · subst h
      simp [lookI, eT]
    · have h1 : (a == k) = false := by simpa using h
      have h2 : ¬ ((a : Int) = (k : Int)) := by omega
      rw [h1]
      simp only
      rw [← ih]
      simp [lookI, eT, h2]

theorem pairs_any {p p' : Program} {w w' : World} {es : List DictEntry} {kvs : List (Int × Value)} (h : Pairs (intKind p w) es kvs) : Pairs (intKind p' w') es kvs := by
  induction h with
  | nil => exact .nil
  | cons a b _ ih => exact .cons a b ih
theorem dict_any {p p' : Program} {w w' : World} {h : Heap} {a : Addr} {kvs : List (Int × Value)} (x : h.DictOf (intKind p w) a kvs) : h.DictOf (intKind p' w') a kvs := by
  obtain ⟨o, es, ep, h1, h2, h3, h4, h5, h6⟩ := x
  exact ⟨o, es, ep, h1, h2, h3, h4, pairs_any h5, h6⟩

section
variable {T : Tp} {A : Around} {s : Shared} {X : List Addr}
theorem hits_of {A : Around} {s : Shared} {kvs2 : List (Int × Value)} {t : List (Nat × Nat)} (r2 : RepD (eT t) kvs2) : ∀ {u : List (Nat × Nat)} {kvs : List (Int × Value)}, RepD (eT u) kvs → KeqHits A s kvs2 kvs (allT u t)
  | [], _, r => by cases r; exact .nil
  | (a, b) :: u, _, ⟨v, kvs', e, ⟨tk, hv⟩, r⟩ => by
    subst e; subst hv
    unfold allT
    have hl := r2.look ((a : Nat) : Int)
    rw [look_eT] at hl
    cases h : look t a with
    | none =>
      rw [h] at hl
      rcases hl with ⟨_, hn⟩ | ⟨i, t', hq, _⟩
      · exact .miss hn
      · cases hq
    | some v =>
      rw [h] at hl
      rcases hl with ⟨hq, _⟩ | ⟨i, t', hq, hv⟩
      · cases hq
      · have : i = (v : Int) := by cases hq; rfl
        subst this
        have hb : (b == v) = ((b : Int) == (v : Int)) := by
          rw [Bool.eq_iff_iff]; simp only [beq_iff_eq]; omega
        show KeqHits A s kvs2 _ ((b == v) && allT u t)
        rw [hb]
        exact .hit hv ((MeetsSeq.EqGives.int _ _ _ _).at _ _) (hits_of r2 r)

theorem RepD.inj : ∀ {es es' : List (Int × Int)} {kvs : List (Int × Value)}, RepD es kvs → RepD es' kvs → es = es'
  | [], [], _, _, _ => rfl
  | [], _ :: _, _, r, ⟨_, _, e, _⟩ => by cases r; cases e
  | _ :: _, [], _, ⟨_, _, e, _⟩, r => by cases r; cases e
  | (a, b) :: es, (a', b') :: es', _, ⟨v, k, e, ⟨t, hv⟩, r⟩, ⟨v', k', e', ⟨t', hv'⟩, r'⟩ => by
    subst e; subst hv; subst hv'
    cases e'
    rw [RepD.inj r r']
theorem eT_inj {t u : List (Nat × Nat)} (h : eT t = eT u) : t = u := by
  induction t generalizing u with
  | nil => cases u with
    | nil => rfl
    | cons => cases h
  | cons a t ih => cases u with
    | nil => cases h
    | cons b u =>
      simp only [eT, List.map_cons, List.cons.injEq, Prod.mk.injEq] at h
      obtain ⟨⟨h1, h2⟩, h3⟩ := h
      rw [ih h3]
      have e : a = b := Prod.ext (by omega) (by omega)
      rw [e]
theorem pairs_inj {p : Program} {w : World} {es : List DictEntry} {k1 k2 : List (Int × Value)} (h1 : Pairs (intKind p w) es k1) (h2 : Pairs (intKind p w) es k2) : k1 = k2 := by
  induction h1 generalizing k2 with
  | nil => cases h2; rfl
  | @cons e0 kv1 _ _ a b _ ih =>
    cases h2 with
    | @cons _ kv2 _ _ a' b' r =>
      rw [ih r]
      have e : kv1 = kv2 := Prod.ext ((intKind p w).inj _ _ _ a a') (b.symm.trans b')
      rw [e]
theorem look_mem {t : List (Nat × Nat)} (hn : (t.map (·.1)).Nodup) : ∀ e ∈ t, look t e.1 = some e.2 := by
  induction t with
  | nil => intro e h; cases h
  | cons a t ih =>
    intro e he
    obtain ⟨k, v⟩ := a
    rw [List.map_cons, List.nodup_cons] at hn
    unfold look
    rcases List.mem_cons.mp he with rfl | he
    · simp
    · have : (k == e.1) = false := by
        rw [beq_eq_false_iff_ne]
        intro q
        exact hn.1 (q ▸ List.mem_map.mpr ⟨e, he, rfl⟩)
      rw [this]
      exact ih hn.2 e he
theorem allT_sub {t : List (Nat × Nat)} (hn : (t.map (·.1)).Nodup) : ∀ {u : List (Nat × Nat)}, (∀ e ∈ u, e ∈ t) → allT u t = true
  | [], _ => rfl
  | e :: u, h => by
    unfold allT
    rw [look_mem hn e (h e List.mem_cons_self)]
    simp only [beq_self_eq_true, Bool.true_and]
    exact allT_sub hn fun x hx => h x (List.mem_cons_of_mem _ hx)
theorem eqT_refl {t : List (Nat × Nat)} (hn : (t.map (·.1)).Nodup) : eqT t t = true := by
  unfold eqT
  rw [allT_sub hn fun _ h => h]; simp
theorem eT_nodup {t : List (Nat × Nat)} {kvs : List (Int × Value)} (r : RepD (eT t) kvs) (h : (kvs.map (·.1)).Nodup) : (t.map (·.1)).Nodup := by
  rw [r.keys] at h
  have e : (eT t).map (·.1) = (t.map (·.1)).map (fun (n : Nat) => (n : Int)) := by simp [eT, Function.comp_def]
  rw [e] at h
  exact (List.pairwise_map.mp h).imp fun ne e => ne (congrArg _ e)

theorem eqD {p : Program × World} {t u : List (Nat × Nat)} {v1 v2 : Value} (r1 : Rep p s.heap X (.dict (eT t)) v1) (r2 : Rep p s.heap X (.dict (eT u)) v2) (hu : A.units < cLine) : SeqAt.EqAt A s v1 v2 (eqT t u) ∧ (v1 = v2 → t = u ∧ eqT t u = true) := by
  obtain ⟨a, k1, rfl, _, s1, d1, _, q1⟩ := r1
  obtain ⟨b, k2, rfl, _, s2, d2, _, q2⟩ := r2
  have same : a = b → t = u ∧ eqT t u = true := fun e => by
    subst e
    obtain ⟨o, es, ep, h1, h2, h3, h4, h5, h6⟩ := d1
    obtain ⟨o', es', ep', h1', h2', h3', h4', h5', h6'⟩ := d2
    rw [h1] at h1'; cases h1'
    rw [h3] at h3'; cases h3'
    have := pairs_inj h5 h5'
    subst this
    have e := eT_inj (q1.inj q2)
    subst e
    exact ⟨rfl, eqT_refl (eT_nodup q1 h6)⟩
  refine ⟨?_, fun e => same (by injection e)⟩
  by_cases h : a = b
  · subst h
    rw [(same rfl).2]
    exact SeqAt.EqAt.same _
  · refine SeqAt.EqAt.of_refs h fun prog w E Q hq => ?_
    refine keq_eq (knd := intKind prog w) (r := allT t u) s1 s2 (dict_any d1) (dict_any d2) hu (fun _ => hits_of q2 q1) ?_
    have l1 : k1.length = t.length := by rw [q1.length]; simp [eT]
    have l2 : k2.length = u.length := by rw [q2.length]; simp [eT]
    rw [l1, l2]
    exact hq

theorem natBeq (a b : Nat) : ((a : Int) == (b : Int)) = (a == b) := by
  rw [Bool.eq_iff_iff]; simp only [beq_iff_eq]; omega
theorem eqEnt {p : Program × World} {x y : Ent} {v1 v2 : Value} (r1 : Rep p s.heap X (eE x) v1) (r2 : Rep p s.heap X (eE y) v2) (hu : A.units + 1 < cLine) : SeqAt.EqAt A s v1 v2 (eqE x y) := by
  obtain ⟨a, w1, rfl, _, ⟨n1, g1⟩, _, a0, _, rfl, ⟨t0, rfl⟩, a1, _, rfl, ⟨t1, rfl⟩, a2, _, rfl, ⟨t2, rfl⟩, a3, _, rfl, ⟨t3, rfl⟩, a4, _, rfl, rd1, rfl⟩ := r1
  obtain ⟨b, w2, rfl, _, ⟨n2, g2⟩, _, b0, _, rfl, ⟨u0, rfl⟩, b1, _, rfl, ⟨u1, rfl⟩, b2, _, rfl, ⟨u2, rfl⟩, b3, _, rfl, ⟨u3, rfl⟩, b4, _, rfl, rd2, rfl⟩ := r2
  by_cases h : a = b
  · subst h
    rw [g1] at g2
    injection g2 with g2
    injection g2 with _ _ g2
    injection g2 with g2
    injection g2 with g2
    injection g2 with e0 g2
    injection g2 with e1 g2
    injection g2 with e2 g2
    injection g2 with e3 g2
    injection g2 with e4 g2
    injection e0 with e0 _
    injection e1 with e1 _
    injection e2 with e2 _
    injection e3 with e3 _
    have e4' := ((eqD (A := A) rd1 rd2 (by omega)).2 e4).2
    have : eqE x y = true := by
      unfold eqE
      rw [e4', ← natBeq, ← natBeq, ← natBeq, ← natBeq, e0, e1, e2, e3]
      simp
    rw [this]
    exact SeqAt.EqAt.same _
  · refine SeqAt.EqAt.of_refs h ?_
    have := SeqAt.RcAt.tuples (A := A) (s := s) (l := a) (b := b) (items := #[.int x.1 t0, .int x.2.1 t1, .int x.2.2.1 t2, .int x.2.2.2.1 t3, a4]) (items2 := #[.int y.1 u0, .int y.2.1 u1, .int y.2.2.1 u2, .int y.2.2.2.1 u3, b4])
      (e := fun i => match i with | 0 => x.1 == y.1 | 1 => x.2.1 == y.2.1 | 2 => x.2.2.1 == y.2.2.1 | 3 => x.2.2.2.1 == y.2.2.2.1 | _ => eqT x.2.2.2.2 y.2.2.2.2) ⟨_, g1, rfl, n1, rfl⟩ ⟨_, g2, rfl, n2, rfl⟩ (by omega) ?_
    · have e : eqE x y = ((List.range (min 5 5)).all (fun i => match i with | 0 => x.1 == y.1 | 1 => x.2.1 == y.2.1 | 2 => x.2.2.1 == y.2.2.1 | 3 => x.2.2.2.1 == y.2.2.2.1 | _ => eqT x.2.2.2.2 y.2.2.2.2) && 5 == 5) := by
        show eqE x y = ((x.1 == y.1 && (x.2.1 == y.2.1 && (x.2.2.1 == y.2.2.1 && (x.2.2.2.1 == y.2.2.2.1 && (eqT x.2.2.2.2 y.2.2.2.2 && true))))) && true)
        simp [eqE, Bool.and_assoc]
      rw [e]
      exact this
    · intro j h1 h2
      match j, h1, h2 with
      | 0, _, _ => exact natBeq x.1 y.1 ▸ (MeetsSeq.EqGives.int _ _ _ _).at _ _
      | 1, _, _ => exact natBeq x.2.1 y.2.1 ▸ (MeetsSeq.EqGives.int _ _ _ _).at _ _
      | 2, _, _ => exact natBeq x.2.2.1 y.2.2.1 ▸ (MeetsSeq.EqGives.int _ _ _ _).at _ _
      | 3, _, _ => exact natBeq x.2.2.2.1 y.2.2.2.1 ▸ (MeetsSeq.EqGives.int _ _ _ _).at _ _
      | 4, _, _ => exact (eqD (A := A.in1) rd1 rd2 hu).1
      | n + 5, h1, _ => exact absurd h1 (by simp)
end

theorem all_range_succ {n : Nat} {e : Nat → Bool} : (List.range (n + 1)).all e = (e 0 && (List.range n).all fun i => e (i + 1)) := by
  rw [List.range_succ_eq_map, List.all_cons, List.all_map]; rfl
def eqAtI (xs ys : List Ent) (i : Nat) : Bool := match xs[i]?, ys[i]? with
  | some a, some b => eqE a b
  | _, _ => false
theorem eqBk_all : ∀ {xs ys : List Ent}, xs.length = ys.length → eqBk xs ys = (List.range xs.length).all (eqAtI xs ys)
  | [], [], _ => rfl
  | a :: xs, b :: ys, h => by
    unfold eqBk
    rw [eqBk_all (by simpa using h), List.length_cons, all_range_succ]
    rfl
  | [], _ :: _, h => by simp at h
  | _ :: _, [], h => by simp at h
section
variable {c : Cx} {pos : Pos}
theorem books_at {s : Shared} {A : Around} {p : Program × World} {X : List Addr} {xs ys : List Ent} {vs ws : List Value} (r1 : RepL p s.heap X (xs.map eE) vs) (r2 : RepL p s.heap X (ys.map eE) ws) (hu : A.units + 1 < cLine) :
    ∀ j (h1 : j < vs.toArray.size) (h2 : j < ws.toArray.size), SeqAt.EqAt A s vs.toArray[j] ws.toArray[j] (eqAtI xs ys j) := fun j h1 h2 => by
  have g1 : vs[j]? = some vs.toArray[j] := by simp
  have g2 : ws[j]? = some ws.toArray[j] := by simp
  obtain ⟨d1, e1, q1⟩ := r1.get' g1
  obtain ⟨d2, e2, q2⟩ := r2.get' g2
  obtain ⟨x, hx, rfl⟩ := get_map_some e1
  obtain ⟨y, hy, rfl⟩ := get_map_some e2
  unfold eqAtI
  rw [hx, hy]
  exact eqEnt q1 q2 hu
theorem CmpTo.eqB {xs ys : List Ent} (ok : c.Ok) (hk : 1 ≤ c.k) (hl : xs.length = ys.length) : CmpTo c .Eq (eB xs) (eB ys) (eqBk xs ys) := by
  rintro s Q E v1 v2 ex ⟨a, vs, rfl, _, p1, _, r1⟩ ⟨b, ws, rfl, _, p2, _, r2⟩ K
  have l1 := r1.length
  have l2 := r2.length
  have hu := ok.room.units
  rw [List.length_map] at l1 l2
  refine SeqAt.eq_listAt p1.isList p2.isList (by simp; omega) (by omega) (books_at r1 r2 (by show c.A.units + 1 + 1 < _; omega)) ?_
  rw [show vs.toArray.size = xs.length by simp; omega, ← eqBk_all hl]
  exact K _ _ (Kp.refl s) rfl
theorem CmpTo.neB {xs ys : List Ent} (ok : c.Ok) (hk : 1 ≤ c.k) (hl : xs.length = ys.length) : CmpTo c .NotEq (eB xs) (eB ys) (!eqBk xs ys) := by
  rintro s Q E v1 v2 ex ⟨a, vs, rfl, _, p1, _, r1⟩ ⟨b, ws, rfl, _, p2, _, r2⟩ K
  have l1 := r1.length
  have l2 := r2.length
  have hu := ok.room.units
  rw [List.length_map] at l1 l2
  have := SeqAt.RcNeAt.lists (A := c.A) (s := s) p1.isList p2.isList (by simp; omega) (by omega) (books_at r1 r2 (by show c.A.units + 1 + 1 < _; omega))
  refine this _ _ E Q ?_
  rw [show vs.toArray.size = xs.length by simp; omega, ← eqBk_all hl]
  exact K _ _ (Kp.refl s) rfl
theorem CmpTo.eqNil {xs : List AV} (ok : c.Ok) : CmpTo c .Eq (.list xs) (.list []) xs.isEmpty := by
  rintro s Q E v1 v2 ex ⟨a, vs, rfl, _, p1, _, r1⟩ ⟨b, ws, rfl, _, p2, _, r2⟩ K
  cases r2
  have hu := ok.room.units
  cases xs with
  | nil =>
    cases r1
    refine SeqAt.eq_listAt (e := fun _ => true) p1.isList p2.isList rfl (by omega) (fun j h1 _ => absurd h1 (by simp)) ?_
    exact K _ _ (Kp.refl s) rfl
  | cons d ds =>
    have l1 := r1.length
    refine SeqAt.eq_list_lengthsAt p1.isList p2.isList (by simp; intro h; subst h; simp at l1) (by omega) ?_
    exact K _ _ (Kp.refl s) rfl
theorem CmpTo.neNil {xs : List AV} (ok : c.Ok) : CmpTo c .NotEq (.list xs) (.list []) (!xs.isEmpty) := by
  rintro s Q E v1 v2 ex ⟨a, vs, rfl, _, p1, _, r1⟩ ⟨b, ws, rfl, _, p2, _, r2⟩ K
  cases r2
  have hu := ok.room.units
  cases xs with
  | nil =>
    cases r1
    refine SeqAt.RcNeAt.lists (e := fun _ => true) p1.isList p2.isList rfl (by omega) (fun j h1 _ => absurd h1 (by simp)) _ _ E Q ?_
    exact K _ _ (Kp.refl s) rfl
  | cons d ds =>
    have l1 := r1.length
    refine SeqAt.RcNeAt.lists_lengths p1.isList p2.isList (by simp; intro h; subst h; simp at l1) (by omega) _ _ E Q ?_
    exact K _ _ (Kp.refl s) rfl
end
end Mine
namespace Mine
open PySem PySem.Spec PySem.Calls PyProof.Rows PySem.W

section
variable {F : Fx} {Ω : List OwnD} {s₀ s : Shared} {ρ : List (Str × AV)} {E : Value → Shared → Prop} {Q : Flow → Shared → Prop} {rest : List Stmt} {pos : Pos}

theorem use_post {s₃ : Shared} {C : Addr} {m' : Str → Option Value} {d : AV} {v : Value} {y : Str} {py : Pos} {Q' : Shared → Prop} (f : F.Ok) (st : St F Ω s₀ ρ s) (k : Kp s s₃) (hC0 : s.heap.get? C = none) (hn : s₃.heap.Ns C m') (r : Rep F.T.p s₃.heap (C :: F.X) d v)
    (hk : F.env.kindOf y = some .local ∨ F.env.kindOf y = some .cell) (K : ∀ s', St F Ω s₀ ((y, d) :: ρ) s' → Q' s') :
    wpAny F.M F.A (assign (.Name y py) F.env v) (fun _ s'' => ∃ m, s''.heap.Ns C m ∧ ∀ h', Heap.SameBut C s''.heap h' → Q' { s'' with heap := h' }) E s₃ := by
  have nX : C ∉ F.X := fresh_not st.xs (Ext.refl _) hC0
  have hH : F.T.H₀.get? C = none := by
    cases q : F.T.H₀.get? C with
    | none => rfl
    | some o => rw [st.old C o q] at hC0; cases hC0
  have h0 := st.fresh0 hC0
  have st1 : St (F.wz ([C] ++ F.Z)) Ω s₀ ρ s₃ := st.zstrong k (fun a ha => by rw [List.mem_singleton.mp ha]; exact hC0) (fun a ha => by rw [List.mem_singleton.mp ha]; obtain ⟨o, _, _, ho, _⟩ := hn; exact ⟨o, ho⟩)
  refine wpAny_assign_Name (store (F := F.wz ([C] ++ F.Z)) (f.z _) st1 (x := y) (d := d) (Rep.weak (fun a ha => ?_) r) hk fun s' st' sm => ?_)
  · rcases List.mem_append.mp ha with ha | ha
    · exact List.mem_cons_of_mem _ (List.mem_append_left _ ha)
    · rcases List.mem_cons.mp ha with rfl | ha
      · exact List.mem_cons_self
      · exact List.mem_cons_of_mem _ (List.mem_append_right _ ha)
  · refine ⟨m', hn.at' fun o e => sm.ext C o (fun q => nX (List.mem_append_left _ q)) e, fun h' hs' => K _ ?_⟩
    exact st'.junkOut (tk := s'.toks) f (fun a ha => by rw [List.mem_singleton.mp ha]; exact .inl h0) (fun a ha => by rw [List.mem_singleton.mp ha]; exact hH) (fun a ha => by rw [List.mem_singleton.mp ha]; exact nX)
      (ExtB.of_same hs' List.mem_cons_self)

/-- y = [.. for x in ..], y a local name -/
theorem seq_comp {α : Type} (enc : α → AV) (src : List α) (b : α → Bool) (g : α → AV) {elt iter : Expr} {x y : Str} {px py : Pos} {ifs : List Expr} {scope : Scope} {cpos : Pos} (f : F.Ok) (st : St F Ω s₀ ρ s) (co : CompOk (F.cx s.heap ρ) scope x) (hi : PI (F.cx s.heap ρ) iter (src.map enc))
    (htest : ∀ a ∈ src, ∀ C H X', (cCx (F.cx s.heap ρ) scope x (enc a) C H X').Ok → PTs (cCx (F.cx s.heap ρ) scope x (enc a) C H X') ifs (b a))
    (helt : ∀ a ∈ src, b a = true → ∀ C H X', (cCx (F.cx s.heap ρ) scope x (enc a) C H X').Ok → PE (cCx (F.cx s.heap ρ) scope x (enc a) C H X') elt (g a))
    (K : ∀ s', St F Ω s₀ ((y, .list ((src.filter b).map g)) :: ρ) s' → wpAny F.M F.A (execs rest F.env) Q E s')
    (hsw : swapsWith (.ListComp elt [⟨.Name x px, iter, ifs, 0⟩] scope cpos) (some (.Name y py)) pos.line F.env = pure true := by rfl) (hk : F.env.kindOf y = some .local := by rfl)
    (hs : ∀ y, foldedSetIterable iter F.env y = pure y := by intro _; rfl) :
    wpAny F.M F.A (execs (.Assign [.Name y py] (.ListComp elt [⟨.Name x px, iter, ifs, 0⟩] scope cpos) pos :: rest) F.env) Q E s := by
  refine wpAny_execs_cons ?_
  rw [exec_Assign_Name_used _ _ _ _ hsw]
  refine wpAny_bind (wpAny_standAt (wpAny_bind ?_))
  show wpAny _ F.A (do let _ ← comprehension (.ListComp elt [⟨.Name x px, iter, ifs, 0⟩] scope cpos) scope F.env _ (newList []) false (eval iter F.env) (some (assign (.Name y py) F.env))) _ _ s
  refine wpAny_bind (wpAny_mono (wpAny_comprehension_free (use := some (assign (.Name y py) F.env)) (Q := fun _ s' => wpAny F.M F.A (execs rest F.env) Q E s') rfl hs (closureFor_eq co.free) co.kind (co_names co)
    (hi s _ _ (Ext.refl _) fun h₁ s' I fp wr P Stt e1 k1 it => ?_)) (fun _ s' hq => wpAny_pure (wpAny_pure hq)) fun _ _ e => e)
  refine comp_block (c := F.cx s.heap ρ) enc src b g (RR := fun acc C => compPost F.M F.A E (some (assign (.Name y py) F.env)) (fun _ s' => wpAny F.M F.A (execs rest F.env) Q E s') acc C) (st.ok f) co it htest helt ?_
  intro D C h' tk m' ys hD hDC hn hl hz hr he
  have sz : ∀ {a o}, s.heap.get? a = some o → a < s'.heap.objs.size := fun {a o} e => Heap.lt_size (k1.ext a o e)
  have nw : ∀ {a}, s'.heap.objs.size ≤ a → s.heap.get? a = none := fun {a} h => by
    cases q : s.heap.get? a with
    | none => rfl
    | some o => exact absurd (sz q) (Nat.not_lt.mpr h)
  have hCs : s'.heap.objs.size ≤ C := Nat.le_trans hD (Nat.le_of_lt hDC)
  have kp : Kp s { s' with heap := h', toks := tk } := by
    obtain ⟨h2, tk2, rfl, hk2⟩ := k1.is
    refine ⟨h', tk, rfl, fun a o ho => he a o (fun hm => ?_) (hk2 a o ho)⟩
    rcases List.mem_append.mp hm with hm | hm
    · rcases List.mem_cons.mp hm with rfl | hm
      · rw [nw hD] at ho; cases ho
      · rw [nw (Nat.le_trans hCs (ownC_ge hm))] at ho; cases ho
    · have := e1 a o ho; rw [it.new a hm] at this; cases this
  refine use_post f st kp (nw hCs) hn ?_ (.inl hk) K
  refine ⟨D, ys, rfl, fun hm => ?_, hl, hz, hr.weak fun a ha => ?_⟩
  · rcases List.mem_cons.mp hm with h | hm
    · exact absurd h (Nat.ne_of_lt hDC)
    · exact fresh_not st.xs (Ext.refl _) (nw hD) hm
  · rcases List.mem_cons.mp ha with rfl | ha
    · exact List.mem_append_left _ (List.mem_append_left _ (List.mem_cons_of_mem _ List.mem_cons_self))
    · exact List.mem_append_right _ ha
end
end Mine
namespace Mine
open PySem PySem.Spec PySem.Calls PyProof.Rows PySem.W

abbrev eM (m : List (List Int)) : AV := .list (m.map AV.ints)
def minor (sq : List (List Int)) (k : Nat) : List (List Int) := (sq.drop 1).map fun r => r.take k ++ r.drop (k + 1)
def detP : Nat → List (List Int) → Int
  | 0, _ => 1
  | n + 1, sq => (List.range (n + 1)).foldl (fun v k => v + (-1) ^ k * ((sq.getD 0 []).getD k 0) * detP n (minor sq k)) 0
structure SqOk (n : Nat) (sq : List (List Int)) : Prop where
  len : sq.length = n
  row : ∀ r ∈ sq, r.length = n
  ent : ∀ r ∈ sq, ∀ x ∈ r, -1000 < x ∧ x < 1000
  small : n ≤ 10
theorem SqOk.minor {n : Nat} {sq : List (List Int)} (h : SqOk (n + 1) sq) {k : Nat} (hk : k < n + 1) : SqOk n (minor sq k) := by
  refine ⟨by simp [Mine.minor, h.len], fun r hr => ?_, fun r hr x hx => ?_, by have := h.small; omega⟩
  · obtain ⟨r', hr', rfl⟩ := List.mem_map.mp hr
    have := h.row r' (List.mem_of_mem_drop hr')
    simp; omega
  · obtain ⟨r', hr', rfl⟩ := List.mem_map.mp hr
    rcases List.mem_append.mp hx with hx | hx
    · exact h.ent r' (List.mem_of_mem_drop hr') x (List.mem_of_mem_take hx)
    · exact h.ent r' (List.mem_of_mem_drop hr') x (List.mem_of_mem_drop hx)
theorem negpow (k : Nat) : ((-1 : Int) ^ k = 1) ∨ ((-1 : Int) ^ k = -1) := by
  induction k with
  | zero => left; rfl
  | succ k ih => rw [Int.pow_succ]; rcases ih with h | h <;> rw [h] <;> simp

theorem det_fn {T : Tp} {a : Addr} {pm cd doc : Value} (top : T.Ok) (B : Blts T) (at_ : FnAt T 14 a pm cd doc) : ∀ (n : Nat) {sq : List (List Int)}, SqOk n sq → FnP T (n + 2) a [eM sq] (.int (detP n sq)) := by
  intro n
  induction n with
  | zero =>
    intro sq hsq A s Q E X vs room old xs r K
    obtain ⟨o, ho, hd⟩ := at_.obj
    obtain ⟨v1, vs1, rfl, r1, rfl⟩ := id r
    have e : sq = [] := List.length_eq_zero_iff.mp hsq.len
    subst e
    refine enter (γ := none) (names := [Str.ofString "square"]) (k := 1) top room ho hd at_.code r rfl rfl (by decide) rfl old xs (fun L s' f st => ?_) (fun v s' sm rr => K v s' sm.kp rr)
    refine seq_if (b := true) st (PT.cmpTo (CmpTo.eqNil (st.ok f)) (PE.name (st.ok f) rfl) (PE.listD (st.ok f) PEL.nil)) fun s1 st1 => ?_
    exact seq_ret st1 PE.int fun v s2 sm r2 => ⟨sm, r2⟩
  | succ n ih =>
    intro sq hsq A s Q E X vs room old xs r K
    obtain ⟨o, ho, hd⟩ := at_.obj
    obtain ⟨v1, vs1, rfl, r1, rfl⟩ := id r
    have hlen := hsq.len
    have hsm := hsq.small
    refine enter (γ := none) (names := [Str.ofString "square"]) (k := n + 2) top room ho hd at_.code r rfl rfl (by decide) rfl old xs (fun L s' f st => ?_) (fun v s' sm rr => K v s' sm.kp rr)
    refine seq_if_nil st ((PT.cmpTo (CmpTo.eqNil (st.ok f)) (PE.name (st.ok f) rfl) (PE.listD (st.ok f) PEL.nil)).cast (by rw [List.isEmpty_map]; cases sq with | nil => simp at hlen | cons => rfl)) fun s1 st1 => ?_
    refine seq_assign f st1 PE.int fun s2 st2 => ?_
    refine seq_for eN (List.range (n + 1)) (fun i ρ Ω => ρ.lookup (Str.ofString "square") = some (eM sq) ∧ ρ.lookup (Str.ofString "value") = some (.int ((List.range i).foldl (fun v k => v + (-1) ^ k * ((sq.getD 0 []).getD k 0) * detP n (minor sq k)) 0))) (fun _ _ => False) (fun _ => False) f st2
      ((PI.range (n := ((sq.map AV.ints).length : Int)) (st2.ok f) (Glob.blt (st2.ok f) B.range.1 B.range.2) (PE.len (Glob.blt (st2.ok f) B.len.1 B.len.2) (PE.name (st2.ok f) rfl)) (by omega) (by rw [List.length_map]; have : big = 1000000 := rfl; omega)).cast (by rw [List.length_map, hlen]; rfl)) ⟨rfl, rfl⟩ ?_ ?_ (fun _ _ _ h => h.elim)
    · rintro Z' i k ρ' Ω' s3 hk ⟨hs, hv⟩ f3 st3
      have hik : i < n + 1 ∧ k = i := by
        obtain ⟨hl, e⟩ := List.getElem?_eq_some_iff.mp hk
        simp at hl e
        omega
      obtain ⟨hi, rfl⟩ := hik
      refine seq_comp (fun r : List Int => AV.ints r) (sq.drop 1) (fun _ => true) (fun r => AV.ints (r.take k ++ r.drop (k + 1))) f3 st3 ⟨rfl, rfl, Or.inl rfl, rfl⟩
        ((PI.list (st3.ok f3) (PE.sliceFrom (k := 1) (st3.ok f3) (PE.name (st3.ok f3) (lk hs)) PE.int (by omega))).cast (by simp [List.map_drop])) (fun r _ C H X' ok => PTs.nil) (fun r hr _ C H X' ok => ?_) fun s4 st4 => ?_
      · have hkr := hsq.row r (List.mem_of_mem_drop hr)
        refine (PE.cat ok (PE.sliceTo (k := (k : Int)) ok (PE.name ok rfl) (PE.name ok rfl) (by omega)) (PE.sliceFrom (k := (k : Int) + 1) ok (PE.name ok rfl) (PE.add (PE.name ok rfl) PE.int) (by omega)) ?_).cast ?_
        · simp; have : big = 1000000 := rfl; omega
        · rw [show ((k : Int) + 1).toNat = k + 1 by omega, Int.toNat_natCast]
          simp [AV.ints, List.map_append, List.map_take, List.map_drop]
      · have hm : SqOk n (minor sq k) := hsq.minor hi
        obtain ⟨r0, hr0⟩ : ∃ r0, sq[0]? = some r0 := by cases sq with | nil => simp at hlen | cons r0 _ => exact ⟨r0, rfl⟩
        have hr0m : r0 ∈ sq := List.mem_of_getElem? hr0
        have hr0l := hsq.row r0 hr0m
        obtain ⟨x, hx⟩ : ∃ x, r0[k]? = some x := ⟨r0[k]'(by omega), List.getElem?_eq_getElem (by omega)⟩
        have hxb := hsq.ent r0 hr0m x (List.mem_of_getElem? hx)
        have ev : (sq.getD 0 []).getD k 0 = x := by rw [getD_of hr0, getD_of hx]
        have em : AV.list (List.map (fun r => AV.ints (r.take k ++ r.drop (k + 1))) (List.filter (fun _ => true) (sq.drop 1))) = eM (minor sq k) := by
          rw [List.filter_eq_self.mpr (fun _ _ => rfl)]; simp only [eM, minor, List.map_map]; rfl
        rw [em] at st4
        refine seq_assign (d := .int (((List.range k).foldl (fun v k => v + (-1) ^ k * ((sq.getD 0 []).getD k 0) * detP n (minor sq k)) 0) + (-1) ^ k * x * detP n (minor sq k))) f3 st4
          (PE.add (PE.name (st4.ok f3) (lk (lk hv))) (PE.mul (PE.mul ((PE.pow (a := -1) (n := (k : Int)) (PE.neg PE.int) (PE.name (st4.ok f3) rfl) (by omega) ?_).cast (by rw [Int.toNat_natCast])) (PE.item (k := (k : Int)) (xs := r0.map .int) (PE.item (k := 0) (d := AV.ints r0) (PE.name (st4.ok f3) (lk (lk hs))) PE.int (by omega) (by simp [hr0])) (PE.name (st4.ok f3) rfl) (by omega) (by simp [hx])) (IntMulOk.of_left ?_))
            (PE.callF (st4.ok f3) (Glob.top (st4.ok f3) at_.name) ho hd (ih hm) (Nat.le_refl _) (PEL.cons (PE.name (st4.ok f3) rfl) PEL.nil)) (IntMulOk.of_left ?_))) fun s5 st5 => wpAny_execs_nil ⟨_, _, ⟨lk (lk (lk hs)), ?_⟩, st5⟩
        · have : Builtin.Int.intBits (-1) = 1 := by decide
          rw [this]; omega
        · refine intBits_le_64 ?_ ?_ <;> rcases negpow k with h | h <;> rw [h] <;> decide
        · refine intBits_le_64 ?_ ?_ <;> rcases negpow k with h | h <;> rw [h] <;> omega
        · rw [List.range_succ, List.foldl_append]
          simp only [List.foldl_cons, List.foldl_nil, ev]
          rfl
    · rintro ρ' Ω' s3 (⟨hs, hv⟩ | h) st3
      · rw [List.length_range] at hv
        exact seq_ret st3 (PE.name (st3.ok f) hv) fun v s4 sm r4 => ⟨sm, r4⟩
      · exact h.elim
end Mine
namespace Mine
open PySem PySem.Spec PySem.Calls PyProof.Rows PySem.W

section
variable {F : Fx} {Ω : List OwnD} {s₀ s : Shared} {ρ : List (Str × AV)} {E : Value → Shared → Prop} {Q : Flow → Shared → Prop} {rest : List Stmt} {pos : Pos}

/-- an expression at a statement: it may make generators -/
def PS (F : Fx) (Ω : List OwnD) (s₀ : Shared) (ρ : List (Str × AV)) (s : Shared) (e : Expr) (d : AV) : Prop :=
  ∀ (Q E : Value → Shared → Prop), (∀ v s1, St F Ω s₀ ρ s1 → Rep F.T.p s1.heap F.X d v → Q v s1) → wpAny F.M F.A (eval e F.env) Q E s
theorem PE.ps {e : Expr} {d : AV} (he : PE (F.cx s.heap ρ) e d) (st : St F Ω s₀ ρ s) : PS F Ω s₀ ρ s e d := fun Q E K => he s _ _ (Ext.refl _) fun v s1 k1 r1 => K v s1 (st.kp k1) r1

abbrev KindOk (F : Fx) (x : Str) : Prop := F.env.kindOf x = some .local ∨ F.env.kindOf x = some .cell

theorem kp_of_extBut {s : Shared} {h' : Heap} (h : Heap.ExtBut s.heap.objs.size s.heap h') : Kp s { s with heap := h' } :=
  ⟨h', s.toks, rfl, fun b o e => h b o (Nat.ne_of_lt (Heap.lt_size e)) e⟩
theorem assign2 {x1 x2 : Str} {p1 p2 tp : Pos} {k : Nat} {d1 d2 : AV} {v : Value} {Q : Unit → Shared → Prop} (f : F.Ok) (st : St F Ω s₀ ρ s) (r : Rep F.T.p s.heap F.X (.tup [d1, d2]) v) (h1 : KindOk F x1) (h2 : KindOk F x2)
    (K : ∀ s', St F Ω s₀ ((x2, d2) :: (x1, d1) :: ρ) s' → Sm F.Y F.γ s s' → Q () s') : wpAny F.M F.A (assign (.Tuple [.Name x1 p1, .Name x2 p2] k tp) F.env v) Q E s := by
  obtain ⟨a, vs, rfl, _, ⟨n, g⟩, _, v1, _, rfl, r1, v2, _, rfl, r2, rfl⟩ := r
  refine wpAny_assign_Tuple f.room.handled (items := #[v1, v2]) ⟨_, g, rfl, n, rfl⟩ rfl rfl fun h₃ hx₃ => ?_
  have k3 := kp_of_extBut hx₃
  show wpAny _ _ (do holding [v2] (assign (.Name x1 p1) F.env v1); do holding [] (assign (.Name x2 p2) F.env v2); pure ()) _ _ _
  refine wpAny_bind (wpAny_holding (wpAny_assign_Name (store (F := F) f (st.kp k3) (r1.ext k3.ext) h1 fun s4 st4 sm4 => ?_)))
  have e4 : ExtB F.X h₃ s4.heap := sm4.ext.mono fun a ha => List.mem_append_left _ ha
  refine wpAny_bind (wpAny_holding (wpAny_assign_Name (store (F := F) f st4 ((r2.ext k3.ext).mono e4) h2 fun s5 st5 sm5 => wpAny_pure ?_)))
  exact K s5 st5 ((k3.sm.trans sm4).trans sm5)
theorem seq_tup2 {x1 x2 : Str} {p1 p2 tp : Pos} {k : Nat} {d1 d2 : AV} {e : Expr} (f : F.Ok) (he : PS F Ω s₀ ρ s e (.tup [d1, d2]))
    (K : ∀ s', St F Ω s₀ ((x2, d2) :: (x1, d1) :: ρ) s' → wpAny F.M F.A (execs rest F.env) Q E s')
    (h1 : KindOk F x1 := by first | exact Or.inl rfl | exact Or.inr rfl) (h2 : KindOk F x2 := by first | exact Or.inl rfl | exact Or.inr rfl)
    (hs : swapsWithSole [.Tuple [.Name x1 p1, .Name x2 p2] k tp] e pos.line F.env = pure false := by rfl) (hw : swappedStores [.Tuple [.Name x1 p1, .Name x2 p2] k tp] e F.env = pure none := by rfl) :
    wpAny F.M F.A (execs (.Assign [.Tuple [.Name x1 p1, .Name x2 p2] k tp] e pos :: rest) F.env) Q E s :=
  wpAny_execs_cons (Assign_Tuple (he _ _ fun v s1 st1 r1 => assign2 f st1 r1 h1 h2 fun s' st' _ => K s' st') hs hw)
theorem assign5 {x1 x2 x3 x4 x5 : Str} {p1 p2 p3 p4 p5 tp : Pos} {k : Nat} {d1 d2 d3 d4 d5 : AV} {v : Value} {Q : Unit → Shared → Prop} (f : F.Ok) (st : St F Ω s₀ ρ s) (r : Rep F.T.p s.heap F.X (.tup [d1, d2, d3, d4, d5]) v) (h1 : KindOk F x1) (h2 : KindOk F x2) (h3 : KindOk F x3) (h4 : KindOk F x4) (h5 : KindOk F x5)
    (K : ∀ s', St F Ω s₀ ((x5, d5) :: (x4, d4) :: (x3, d3) :: (x2, d2) :: (x1, d1) :: ρ) s' → Q () s') : wpAny F.M F.A (assign (.Tuple [.Name x1 p1, .Name x2 p2, .Name x3 p3, .Name x4 p4, .Name x5 p5] k tp) F.env v) Q E s := by
  obtain ⟨a, vs, rfl, _, ⟨n, g⟩, _, v1, _, rfl, r1, v2, _, rfl, r2, v3, _, rfl, r3, v4, _, rfl, r4, v5, _, rfl, r5, rfl⟩ := r
  refine wpAny_assign_Tuple f.room.handled (items := #[v1, v2, v3, v4, v5]) ⟨_, g, rfl, n, rfl⟩ rfl rfl fun h₃ hx₃ => ?_
  have k3 := kp_of_extBut hx₃
  show wpAny _ _ (do holding [v2, v3, v4, v5] (assign (.Name x1 p1) F.env v1); do holding [v3, v4, v5] (assign (.Name x2 p2) F.env v2); do holding [v4, v5] (assign (.Name x3 p3) F.env v3); do holding [v5] (assign (.Name x4 p4) F.env v4); do holding [] (assign (.Name x5 p5) F.env v5); pure ()) _ _ _
  have up : ∀ {s s' : Shared} {d : AV} {v : Value}, Sm F.Y F.γ s s' → Rep F.T.p s.heap F.X d v → Rep F.T.p s'.heap F.X d v := fun sm r => r.mono (sm.ext.mono fun a ha => List.mem_append_left _ ha)
  refine wpAny_bind (wpAny_holding (wpAny_assign_Name (store (F := F) f (st.kp k3) (r1.ext k3.ext) h1 fun s4 st4 sm4 => ?_)))
  have r2 := up sm4 (r2.ext k3.ext)
  have r3 := up sm4 (r3.ext k3.ext)
  have r4 := up sm4 (r4.ext k3.ext)
  have r5 := up sm4 (r5.ext k3.ext)
  refine wpAny_bind (wpAny_holding (wpAny_assign_Name (store (F := F) f st4 r2 h2 fun s5 st5 sm5 => ?_)))
  refine wpAny_bind (wpAny_holding (wpAny_assign_Name (store (F := F) f st5 (up sm5 r3) h3 fun s6 st6 sm6 => ?_)))
  refine wpAny_bind (wpAny_holding (wpAny_assign_Name (store (F := F) f st6 (up sm6 (up sm5 r4)) h4 fun s7 st7 sm7 => ?_)))
  refine wpAny_bind (wpAny_holding (wpAny_assign_Name (store (F := F) f st7 (up sm7 (up sm6 (up sm5 r5))) h5 fun s8 st8 sm8 => wpAny_pure ?_)))
  exact K s8 st8
theorem seq_tup5 {x1 x2 x3 x4 x5 : Str} {p1 p2 p3 p4 p5 tp : Pos} {k : Nat} {d1 d2 d3 d4 d5 : AV} {e : Expr} (f : F.Ok) (he : PS F Ω s₀ ρ s e (.tup [d1, d2, d3, d4, d5]))
    (K : ∀ s', St F Ω s₀ ((x5, d5) :: (x4, d4) :: (x3, d3) :: (x2, d2) :: (x1, d1) :: ρ) s' → wpAny F.M F.A (execs rest F.env) Q E s')
    (h1 : KindOk F x1 := by first | exact Or.inl rfl | exact Or.inr rfl) (h2 : KindOk F x2 := by first | exact Or.inl rfl | exact Or.inr rfl) (h3 : KindOk F x3 := by first | exact Or.inl rfl | exact Or.inr rfl) (h4 : KindOk F x4 := by first | exact Or.inl rfl | exact Or.inr rfl) (h5 : KindOk F x5 := by first | exact Or.inl rfl | exact Or.inr rfl)
    (hs : swapsWithSole [.Tuple [.Name x1 p1, .Name x2 p2, .Name x3 p3, .Name x4 p4, .Name x5 p5] k tp] e pos.line F.env = pure false := by rfl) (hw : swappedStores [.Tuple [.Name x1 p1, .Name x2 p2, .Name x3 p3, .Name x4 p4, .Name x5 p5] k tp] e F.env = pure none := by rfl) :
    wpAny F.M F.A (execs (.Assign [.Tuple [.Name x1 p1, .Name x2 p2, .Name x3 p3, .Name x4 p4, .Name x5 p5] k tp] e pos :: rest) F.env) Q E s :=
  wpAny_execs_cons (Assign_Tuple (he _ _ fun v s1 st1 r1 => assign5 f st1 r1 h1 h2 h3 h4 h5 K) hs hw)

/-- for k, v in d.items() -/
theorem seq_items {es : List (Int × Int)} (J : Nat → List (Str × AV) → List OwnD → Prop) {x y : Str} {px py tp apos cpos : Pos} {kk : Nat} {o : Expr} {body : List Stmt} (f : F.Ok) (st : St F Ω s₀ ρ s) (ho : PE (F.cx s.heap ρ) o (.dict es))
    (h0 : J 0 ρ Ω)
    (turn : ∀ Z' i e ρ' Ω' s', es[i]? = some e → J i ρ' Ω' → (F.wz Z').Ok → St (F.wz Z') Ω' s' ((y, .int e.2) :: (x, .int e.1) :: ρ') s' → wpAny (F.wz Z').M (F.wz Z').A (execs body (F.wz Z').env) (TurnPost (F.wz Z') s' (J (i + 1)) (fun _ _ => False) (fun _ => False)) (fun _ _ => False) s')
    (done : ∀ ρ' Ω' s', J es.length ρ' Ω' → St F Ω' s₀ ρ' s' → wpAny F.M F.A (execs rest F.env) Q E s')
    (hx : KindOk F x := by first | exact Or.inl rfl | exact Or.inr rfl) (hy : KindOk F y := by first | exact Or.inl rfl | exact Or.inr rfl)
    (hb : attributeBase o "items" F.env (eval o F.env) = eval o F.env := by rfl) (hl : (apos.endLine == cpos.line) = true := by rfl)
    (hs : ∀ y, foldedSetIterable (.Call (.Attribute o "items" apos) [] [] cpos) F.env y = pure y := by intro _; rfl) :
    wpAny F.M F.A (execs (.For (.Tuple [.Name x px, .Name y py] kk tp) (.Call (.Attribute o "items" apos) [] [] cpos) body [] pos :: rest) F.env) Q E s := by
  refine wpAny_execs_cons (wpAny_For ?_ hs)
  refine wpAny_Call_method (T := "dict") (id := "dict.items") hb rfl hl PySem.F.plainAttrs_dict PySem.F.slot_dict_items PySem.F.type_dict_items (ho s _ _ (Ext.refl _) fun v s1 k1 r1 => ⟨(rep_dict_type r1).1, (rep_dict_type r1).2, ?_⟩)
  obtain ⟨d, kvs, rfl, hX, hS, hd, hz, rd⟩ := r1
  obtain ⟨ep, hda⟩ := hd.dictAt
  have hlt : d < s1.heap.objs.size := hda.lt_size
  refine method_meetsIn PySem.F.slot_dict_items PySem.F.entry_dict_items rfl (PySem.evalArgs_none ⟨rfl, hd.typeIs, PySem.F.args_dict_items_1 _, _, meets_dict_items (intKind F.T.p.1 F.T.p.2) d hS, ⟨kvs, hd⟩, ?_⟩)
  refine wpAny_pyIter_items (knd := intKind F.T.p.1 F.T.p.2) (d := d) (kvs := kvs) (ep := ep) ⟨_, Heap.get?_push_size _ rfl, rfl, rfl⟩ (hda.push _) ?_
  have hI : (s1.heap.push { cls := .type "dict_items", data := .fields #[.ref d] }).objs.size = s1.heap.objs.size + 1 := Heap.size_push ..
  have hIt := Heap.get?_push_size (s1.heap.push { cls := .type "dict_items", data := .fields #[.ref d] }) (o := { cls := .type "dict_itemiterator", data := .fields #[.none, .bool false, .ref d, .int 0 0, .int kvs.length 0, .int ep 0, .none, .none] }) rfl
  dsimp only
  rw [hI] at hIt ⊢
  have W := kti_itemsTurns (prog := F.T.p.1) (w := F.T.p.2) (knd := intKind F.T.p.1 F.T.p.2) (A := F.A) (elts := [.Name x px, .Name y py]) (kk := kk) (pos := tp) f.room.handled (s1.heap.objs.size + 1) d (Nat.ne_of_lt (Nat.lt_succ_of_lt hlt)) kvs ep
  have dX : d ∉ F.X := hX
  have none1 : s1.heap.get? (s1.heap.objs.size + 1) = none := none_succ _
  have IX : s1.heap.objs.size + 1 ∉ F.X := fresh_not (st.kp k1).xs (Ext.refl _) none1
  generalize s1.heap.objs.size + 1 = I at *
  have sz : es.length = kvs.length := rd.length.symm
  have k2 : Kp s1 { s1 with heap := ((s1.heap.push { cls := .type "dict_items", data := .fields #[.ref d] }).push { cls := .type "dict_itemiterator", data := .fields #[.none, .bool false, .ref d, .int 0 0, .int kvs.length 0, .int ep 0, .none, .none] }) } := ((Kp.refl s1).push _).push _
  have stA : St (F.wz ([I] ++ F.Z)) Ω s₀ ρ _ := (st.kp k1).zstrong k2 (fun a ha => by rw [List.mem_singleton.mp ha]; exact none1) (fun a ha => by rw [List.mem_singleton.mp ha]; exact ⟨_, hIt⟩)
  have f' : (F.wz ([I] ++ F.Z)).Ok := f.z _
  have wr0 : ∀ a ∈ [I], s₀.heap.get? a = none ∨ a ∈ F.Y := fun a ha => by rw [List.mem_singleton.mp ha]; exact .inl ((st.kp k1).fresh0 none1)
  have wrH : ∀ a ∈ [I], F.T.H₀.get? a = none := fun a ha => by
    rw [List.mem_singleton.mp ha]
    cases q : F.T.H₀.get? I with
    | none => rfl
    | some o' => have := (st.kp k1).old I o' q; rw [none1] at this; cases this
  have wrX : ∀ a ∈ [I], a ∉ F.X := fun a ha => by rw [List.mem_singleton.mp ha]; exact IX
  have wrY : ∀ a ∈ [I], a ∉ F.Y := fun a ha q => wrX a ha (List.mem_append_left _ q)
  have fpY : ∀ a ∈ [I, d], a ∉ F.Y := fun a ha q => by
    rcases List.mem_cons.mp ha with rfl | ha
    · exact IX (List.mem_append_left _ q)
    · rw [List.mem_singleton.mp ha] at q; exact dX (List.mem_append_left _ q)
  have alive : ∀ i h, ((∃ ok ov, IsItemIter h I d i kvs.length ep ok ov) ∧ h.DictAt (intKind F.T.p.1 F.T.p.2) d kvs ep) → ∀ a ∈ [I], ∃ o, h.get? a = some o := fun i h hh a ha => by
    rw [List.mem_singleton.mp ha]; obtain ⟨⟨ok, ov, q⟩, _⟩ := hh; exact ⟨_, q⟩
  refine codeAny_forLoop_any (fun n s' => ∃ ρ' Ω' i, i ≤ kvs.length ∧ n = kvs.length + 1 - i ∧ J i ρ' Ω' ∧ St (F.wz ([I] ++ F.Z)) Ω' s₀ ρ' s' ∧ ((∃ ok ov, IsItemIter s'.heap I d i kvs.length ep ok ov) ∧ s'.heap.DictAt (intKind F.T.p.1 F.T.p.2) d kvs ep)) ?_ (kvs.length + 1)
    ⟨ρ, Ω, 0, Nat.zero_le _, rfl, h0, stA, ⟨⟨_, _, hIt⟩, (hda.push _).push _⟩⟩
  rintro n s' ⟨ρ', Ω', i, hil, rfl, hJ, st', hst⟩
  by_cases hlt' : i < kvs.length
  · refine W.item i s' _ _ hlt' hst fun v h₁ tk₁ hMd hk₁ => W.go i v _ _ _ hMd fun h₂ hP hst₂ hk₂ => ?_
    have e2 : ExtB [I] s'.heap h₂ := fun b o nb e => hk₂ b o nb (hk₁ b o nb e)
    have st2 : St (F.wz ([I] ++ F.Z)) Ω' s₀ ρ' { s' with heap := h₂, toks := tk₁ } := st'.junk f' (fun a ha => List.mem_append_left _ ha) wr0 wrH wrY e2 (alive _ _ hst₂)
    obtain ⟨Tt, key, k, xv, rfl, hkx, hkey, hT⟩ := hP
    obtain ⟨t, rfl⟩ := Value.isInt_shape hkey
    obtain ⟨e, he, e1, t2, rfl⟩ := rd.get hkx
    subst e1
    have hh : (F.wz ([I] ++ F.Z)).A.handled = none := f.room.handled
    refine wpAny_assign_Tuple hh hT rfl rfl fun h₃ hx₃ => ?_
    have k3 := kp_of_extBut (s := { s' with heap := h₂, toks := tk₁ }) hx₃
    show wpAny _ _ (do holding [.int e.2 t2] (assign (.Name x px) F.env (.int e.1 t)); do holding [] (assign (.Name y py) F.env (.int e.2 t2)); pure ()) _ _ _
    refine wpAny_bind (wpAny_holding (wpAny_assign_Name (store (F := F.wz ([I] ++ F.Z)) (d := .int e.1) f' (st2.kp k3) ⟨t, rfl⟩ hx fun s4 st4 sm4 => ?_)))
    refine wpAny_bind (wpAny_holding (wpAny_assign_Name (store (F := F.wz ([I] ++ F.Z)) (d := .int e.2) f' st4 ⟨t2, rfl⟩ hy fun s5 st5 sm5 => wpAny_pure ?_)))
    have hst₅ := W.frame _ _ _ (W.frame _ _ _ (W.frame _ _ _ hst₂ fun b _ o e => k3.ext b o e) fun b hb o e => sm4.ext b o (fpY b hb) e) fun b hb o e => sm5.ext b o (fpY b hb) e
    refine wpAny_mono (turn ([I] ++ F.Z) i e ρ' Ω' s5 he hJ f' st5.here) (fun fl s₆ h₆ => ?_) fun _ _ x => x.elim
    have fin : ∀ {ρ'' Ω''}, J (i + 1) ρ'' Ω'' → St (F.wz ([I] ++ F.Z)) Ω'' s5 ρ'' s₆ → ∃ m, m < kvs.length + 1 - i ∧ ∃ ρ' Ω' i, i ≤ kvs.length ∧ m = kvs.length + 1 - i ∧ J i ρ' Ω' ∧ St (F.wz ([I] ++ F.Z)) Ω' s₀ ρ' s₆ ∧ ((∃ ok ov, IsItemIter s₆.heap I d i kvs.length ep ok ov) ∧ s₆.heap.DictAt (intKind F.T.p.1 F.T.p.2) d kvs ep) := fun {ρ'' Ω''} hJ' st₆ =>
      ⟨kvs.length + 1 - (i + 1), by omega, ρ'', Ω'', i + 1, hlt', rfl, hJ', st5.back st₆, W.frame _ _ _ hst₅ fun b hb o e => st₆.sm.ext b o (fpY b hb) e⟩
    cases fl with
    | next => obtain ⟨ρ'', Ω'', hJ', st₆⟩ := h₆; exact fin hJ' st₆
    | cont => obtain ⟨ρ'', Ω'', hJ', st₆⟩ := h₆; exact fin hJ' st₆
    | brk => obtain ⟨ρ'', Ω'', hJ', st₆⟩ := h₆; exact hJ'.elim
    | ret v => obtain ⟨d, hJ', sm₆, r₆⟩ := h₆; exact hJ'.elim
  · have hin : i = kvs.length := by omega
    subst hin
    refine W.done s' _ _ hst fun h₂ tk₂ hk₂ => wpAny_execs_nil ?_
    exact done ρ' Ω' _ (sz ▸ hJ) (st'.junkOut f wr0 wrH wrX hk₂)
end
end Mine
namespace Mine
open PySem PySem.Spec PySem.Calls PyProof.Rows PySem.W

def putT (t : List (Nat × Nat)) (k v : Nat) : List (Nat × Nat) := match t with
  | [] => [(k, v)]
  | (k', v') :: r => match k' == k with
    | true => (k', v) :: r
    | false => (k', v') :: putT r k v
def incT (t : List (Nat × Nat)) (k v : Nat) : List (Nat × Nat) := match t with
  | [] => [(k, v)]
  | (k', v') :: r => match k' == k with
    | true => (k', v' + v) :: r
    | false => (k', v') :: incT r k v
theorem putT_len (t : List (Nat × Nat)) (k v : Nat) : (putT t k v).length ≤ t.length + 1 := by
  induction t with
  | nil => simp [putT]
  | cons e r ih =>
    obtain ⟨a, b⟩ := e
    unfold putT
    cases a == k <;> simp <;> omega
theorem incT_some {t : List (Nat × Nat)} {k v o : Nat} (h : look t k = some o) : incT t k v = putT t k (o + v) := by
  induction t with
  | nil => cases h
  | cons e r ih =>
    obtain ⟨a, b⟩ := e
    unfold look at h
    unfold incT putT
    cases q : a == k with
    | true => rw [q] at h; cases h; rfl
    | false => rw [q] at h; simp only; rw [ih h]
theorem incT_none {t : List (Nat × Nat)} {k v : Nat} (h : look t k = none) : incT t k v = putT t k v := by
  induction t with
  | nil => rfl
  | cons e r ih =>
    obtain ⟨a, b⟩ := e
    unfold look at h
    unfold incT putT
    cases q : a == k with
    | true => rw [q] at h; cases h
    | false => rw [q] at h; simp only; rw [ih h]
theorem putT_new {t : List (Nat × Nat)} {k v : Nat} (h : ∀ e ∈ t, e.1 ≠ k) : putT t k v = t ++ [(k, v)] := by
  induction t with
  | nil => rfl
  | cons e r ih =>
    obtain ⟨a, b⟩ := e
    unfold putT
    have : (a == k) = false := by rw [beq_eq_false_iff_ne]; exact h (a, b) List.mem_cons_self
    rw [this]
    simp only
    rw [ih fun e he => h e (List.mem_cons_of_mem _ he)]
    rfl
theorem put_all : ∀ (u t : List (Nat × Nat)), ((t ++ u).map (·.1)).Nodup → u.foldl (fun acc e => putT acc e.1 e.2) t = t ++ u
  | [], t, _ => by simp
  | e :: u, t, h => by
    rw [List.foldl_cons]
    have hn : ∀ x ∈ t, x.1 ≠ e.1 := fun x hx q => by
      rw [List.map_append, List.nodup_append] at h
      exact h.2.2 x.1 (List.mem_map.mpr ⟨x, hx, rfl⟩) e.1 (List.mem_map.mpr ⟨e, List.mem_cons_self, rfl⟩) q
    rw [putT_new hn, put_all u (t ++ [(e.1, e.2)]) (by rw [List.append_assoc]; exact h), List.append_assoc]
    rfl

theorem stored_ne {a k : Int} {x v : Value} {kvs : List (Int × Value)} (h : a ≠ k) : stored ((a, x) :: kvs) k v = (a, x) :: stored kvs k v := by
  unfold stored
  simp only [List.any_cons, h, decide_false, Bool.false_or, List.map_cons, if_false]
  split <;> rfl
theorem stored_none {k : Int} {v : Value} {kvs : List (Int × Value)} (h : ∀ e ∈ kvs, e.1 ≠ k) : kvs.map (fun kv => if kv.1 = k then (kv.1, v) else kv) = kvs := by
  induction kvs with
  | nil => rfl
  | cons e r ih => rw [List.map_cons, if_neg (h e List.mem_cons_self), ih fun x hx => h x (List.mem_cons_of_mem _ hx)]
theorem stored_rep {k v : Nat} {tok : Tok} : ∀ {t : List (Nat × Nat)} {kvs : List (Int × Value)}, (kvs.map (·.1)).Nodup → RepD (eT t) kvs → RepD (eT (putT t k v)) (stored kvs (k : Int) (.int (v : Int) tok))
  | [], _, _, r => by cases r; exact ⟨_, _, rfl, ⟨tok, rfl⟩, rfl⟩
  | (a, b) :: t, _, hn, ⟨x, kvs', e, ⟨tk, hx⟩, r⟩ => by
    subst e; subst hx
    rw [List.map_cons, List.nodup_cons] at hn
    unfold putT
    by_cases q : a = k
    · subst q
      simp only [beq_self_eq_true]
      refine ⟨.int (v : Int) tok, kvs', ?_, ⟨tok, rfl⟩, r⟩
      unfold stored
      simp only [List.any_cons, decide_true, Bool.true_or, if_true, List.map_cons]
      rw [stored_none fun e he q => hn.1 (by show ((a : Nat) : Int) ∈ _; exact q ▸ List.mem_map.mpr ⟨e, he, rfl⟩)]
    · have h1 : (a == k) = false := by simpa using q
      rw [h1]
      refine ⟨.int (b : Int) tk, stored kvs' (k : Int) (.int (v : Int) tok), stored_ne (by show (a : Int) ≠ (k : Int); omega), ⟨tk, rfl⟩, stored_rep hn.2 r⟩

section
variable {F : Fx} {Ω : List OwnD} {s₀ s : Shared} {ρ : List (Str × AV)} {E : Value → Shared → Prop} {Q : Flow → Shared → Prop} {rest : List Stmt} {pos : Pos}

theorem St.putD {a : Addr} {t : List (Nat × Nat)} {j k v : Nat} {kt vt : Tok} {Q : Unit → Shared → Prop} (f : F.Ok) (st : St F Ω s₀ ρ s) (hj : Ω[j]? = some (.dict a (eT t))) (hnd : (Ω.map OwnD.addr).Nodup) (hz : t.length < big)
    (K : ∀ s', St F (Ω.set j (.dict a (eT (putT t k v)))) s₀ ρ s' → Q () s') : wpAny F.M F.A (setItem (.ref a) (.int (k : Int) kt) (.int (v : Int) vt)) Q E s := by
  obtain ⟨kvs, hS, hd, hz2, rd⟩ := st.own _ (List.mem_of_getElem? hj)
  have hlen : kvs.length = t.length := by rw [rd.length]; simp [eT]
  have bl := big_le
  have hnod : (kvs.map (·.1)).Nodup := by obtain ⟨_, _, _, _, _, _, _, _, q⟩ := hd; exact q
  refine wpAny_setItem_pairs (knd := intKind F.T.p.1 F.T.p.2) (k := (k : Int)) (intKind_is _ _ _ _) hd (fun h' hd' hs' => K _ ?_) (by omega)
  have rep := stored_rep (k := k) (v := v) (tok := vt) hnod rd
  have hl2 : (stored kvs (k : Int) (.int (v : Int) vt)).length ≤ big := by
    rw [rep.length, List.length_map]; have := putT_len t k v; omega
  exact st.upd (tk := s.toks + 1) f hj hnd rfl hs' ⟨_, hS, hd', hl2, rep⟩

/-- x[k] = e, x a dict of the frame's own -/
theorem seq_setD {o i e : Expr} {p : Pos} {a : Addr} {t : List (Nat × Nat)} {j k v : Nat} (f : F.Ok) (st : St F Ω s₀ ρ s) (he : PE (F.cx s.heap ρ) e (eN v)) (ho : PE (F.cx s.heap ρ) o (.ptr a)) (hi : PE (F.cx s.heap ρ) i (eN k)) (hj : Ω[j]? = some (.dict a (eT t))) (hnd : (Ω.map OwnD.addr).Nodup) (hz : t.length < big)
    (K : ∀ s', St F (Ω.set j (.dict a (eT (putT t k v)))) s₀ ρ s' → wpAny F.M F.A (execs rest F.env) Q E s') (hs : swapsWith e (some (.Subscript o i p)) pos.line F.env = pure false := by rfl) :
    wpAny F.M F.A (execs (.Assign [.Subscript o i p] e pos :: rest) F.env) Q E s := by
  refine wpAny_execs_cons (wpAny_Assign_Subscript (he s _ _ (Ext.refl _) fun v1 s1 k1 ⟨t1, r1⟩ => ho s1 _ _ k1.ext fun ov s2 k2 e2 => hi s2 _ _ (k1.trans k2).ext fun iv s3 k3 ⟨t3, e3⟩ => ?_) hs)
  subst r1; cases e2; subst e3
  exact St.putD f (st.kp ((k1.trans k2).trans k3)) hj hnd hz K
theorem seq_augD {o i e : Expr} {p : Pos} {a : Addr} {t : List (Nat × Nat)} {j k v x : Nat} (f : F.Ok) (st : St F Ω s₀ ρ s) (he : PE (F.cx s.heap ρ) e (eN v)) (ho : PE (F.cx s.heap ρ) o (.ptr a)) (hi : PE (F.cx s.heap ρ) i (eN k)) (hj : Ω[j]? = some (.dict a (eT t))) (hnd : (Ω.map OwnD.addr).Nodup) (hz : t.length < big) (hx : look t k = some x)
    (K : ∀ s', St F (Ω.set j (.dict a (eT (putT t k (x + v))))) s₀ ρ s' → wpAny F.M F.A (execs rest F.env) Q E s')
    (ha : ∀ ov iv new, augStore i ov iv new = (do holding [new, ov, iv] (setItem ov iv new); release [new, ov, iv] []; pure .next) := by intro _ _ _; rfl) :
    wpAny F.M F.A (execs (.AugAssign (.Subscript o i p) .Add e pos :: rest) F.env) Q E s := by
  refine wpAny_execs_cons (wpAny_AugAssign_Subscript_any (ho s _ _ (Ext.refl _) fun ov s1 k1 e1 => hi s1 _ _ k1.ext fun iv s2 k2 ⟨t2, e2⟩ => ?_) ha)
  cases e1; subst e2
  have st2 := st.kp (k1.trans k2)
  obtain ⟨kvs, hS, hd, hz2, rd⟩ := st2.own _ (List.mem_of_getElem? hj)
  have hl := rd.look (k : Int)
  rw [look_eT, hx] at hl
  rcases hl with ⟨q, _⟩ | ⟨y, ty, q, hv⟩
  · cases q
  · cases q
    refine wpAny_getItem_of (knd := intKind F.T.p.1 F.T.p.2) (k := (k : Int)) (intKind_is _ _ _ _) hd.mapOf hv ?_
    have k3 : Kp s2 { s2 with toks := s2.toks + 1 } := (Kp.refl s2).tok _
    refine he _ _ _ ((k1.trans k2).trans k3).ext fun v4 s4 k4 ⟨t4, e4⟩ => ?_
    subst e4
    refine PyProof.Rows.iadd_int ?_
    have st5 := ((st2.kp k3).kp k4).kp ((Kp.refl s4).tok (s4.toks + 1))
    have := St.putD (E := E) (Q := fun _ => fun s' => wpAny F.M F.A (execs rest F.env) Q E s') (k := k) (v := x + v) (kt := t2) (vt := s4.toks) f st5 hj hnd hz K
    rw [show ((x + v : Nat) : Int) = (x : Int) + (v : Int) by push_cast; rfl] at this
    exact this
end

section
variable {c : Cx} {pos : Pos}
theorem PT.notTuple {ip tp : Pos} {e : Expr} {i : Int} (hg : Glob c "isinstance" (.builtin "isinstance")) (ht : Glob c "tuple" (.type "tuple")) (h : PE c e (.int i))
    (he : starEach [e, .Name "tuple" tp] c.env = [(false, eval e c.env), (false, eval (.Name "tuple" tp) c.env)] := by rfl) :
    PT c (.Call (.Name "isinstance" ip) [e, .Name "tuple" tp] [] pos) false := fun s Q E ex K => by
  refine wpAny_isTrue_value (wpAny_Call_NameR (hg ip s _ _ ex (PyProof.Rows.callWith_builtin1 ?_ he rfl)))
  rw [he]
  refine spliced_cons (h s _ _ ex fun v s1 k1 ⟨t1, e1⟩ => ?_)
  subst e1
  refine spliced_cons (ht tp s1 _ _ (ex.trans k1.ext) (spliced_nil ?_))
  exact IsiPair.int_tuple (wpAny_truthy_bool (K _ (k1.tok _)))

/-- {k: v} -/
theorem PE.dict1 {k v : Expr} {i j : Int} (ok : c.Ok) (hsys : ∃ o, c.H.get? sysModules = some o) (hk : PE c k (.int i)) (hv : PE c v (.int j)) : PE c (.Dict [some k] [v] pos) (.dict [(i, j)]) := fun s Q E ex K => by
  refine wpAny_Dict_walk (knd := intKind c.T.p.1 c.T.p.2) rfl rfl (by simp) (by simp) ?_
  have e0 : Ext s.heap (s.heap.push { cls := .type "dict", data := .dict #[] }) := Ext.push _ _
  refine evalPairs_cons (hk _ _ _ (ex.trans e0) fun kv s1 k1 ⟨t1, e1⟩ => wpAny_bind (hv s1 _ _ ((ex.trans e0).trans k1.ext) fun vv s2 k2 ⟨t2, e2⟩ => wpAny_bind (wpAny_standAt (wpAny_pure (evalPairs_nil ?_)))))
  subst e1; subst e2
  have kk : Ext (s.heap.push { cls := .type "dict", data := .dict #[] }) s2.heap := (k1.trans k2).ext
  have hd : s2.heap.DictOf (intKind c.T.p.1 c.T.p.2) s.heap.objs.size [] := (Heap.DictOf.new _).at fun o e => kk _ o e
  refine display_done_int rfl (by simp [intKeyPairs]) hd fun h' hd' hs' => ?_
  have hnone := none_size s.heap
  have hX : s.heap.objs.size ∉ c.X := fresh_not ok.xs ex hnone
  have kp : Kp s { s2 with heap := h', toks := s2.toks + 1 } := by
    obtain ⟨h2, tk2, e, hk2⟩ := (k1.trans k2).is
    refine ⟨h', s2.toks + 1, by rw [e], fun b o ho => ?_⟩
    exact hs'.extBut b o (Nat.ne_of_lt (Heap.lt_size ho)) (kk b o (e0 b o ho))
  refine K _ _ kp ⟨_, _, rfl, hX, ?_, hd', (by show 1 ≤ big; decide), ⟨_, _, rfl, ⟨t2, rfl⟩, rfl⟩⟩
  cases q : s.heap.objs.size == sysModules with
  | false => rfl
  | true => obtain ⟨o, ho⟩ := hsys; have := ex _ o ho; rw [← beq_iff_eq.mp q, hnone] at this; cases this
theorem PE.dict0 (ok : c.Ok) (hsys : ∃ o, c.H.get? sysModules = some o) : PE c (.Dict [] [] pos) (.dict []) := fun s Q E ex K => by
  refine PND.empty (c := c) s Q E ex fun a s' k hn hd => K _ _ k ⟨a, [], rfl, fresh_not ok.xs ex hn, ?_, hd, Nat.zero_le _, rfl⟩
  cases q : a == sysModules with
  | false => rfl
  | true => obtain ⟨o, ho⟩ := hsys; have := ex _ o ho; rw [← beq_iff_eq.mp q, hn] at this; cases this
end

def addC (t u : List (Nat × Nat)) : List (Nat × Nat) := u.foldl (fun acc e => incT acc e.1 e.2) t
theorem incT_len (t : List (Nat × Nat)) (k v : Nat) : (incT t k v).length ≤ t.length + 1 := by
  cases h : look t k with
  | none => rw [incT_none h]; exact putT_len t k v
  | some o => rw [incT_some h]; exact putT_len t k _
theorem addC_len : ∀ (u t : List (Nat × Nat)), (addC t u).length ≤ t.length + u.length
  | [], t => by simp [addC]
  | e :: u, t => by
    have h1 := addC_len u (incT t e.1 e.2)
    have h2 := incT_len t e.1 e.2
    unfold addC at h1 ⊢
    rw [List.foldl_cons, List.length_cons]
    omega
theorem putAll_len : ∀ (u t : List (Nat × Nat)), (u.foldl (fun acc e => putT acc e.1 e.2) t).length ≤ t.length + u.length
  | [], t => by simp
  | e :: u, t => by
    have h1 := putAll_len u (putT t e.1 e.2)
    have h2 := putT_len t e.1 e.2
    rw [List.foldl_cons, List.length_cons]
    omega
theorem eT_get {t : List (Nat × Nat)} {i : Nat} {e : Int × Int} (h : (eT t)[i]? = some e) : ∃ k v : Nat, t[i]? = some (k, v) ∧ e = ((k : Int), (v : Int)) := by
  rw [List.getElem?_map] at h
  cases q : t[i]? with
  | none => rw [q] at h; cases h
  | some x => rw [q] at h; cases h; exact ⟨x.1, x.2, rfl, rfl⟩

theorem add_callers_fn {T : Tp} {a : Addr} {pm cd doc : Value} (top : T.Ok) (B : Blts T) (at_ : FnAt T 2 a pm cd doc) {t u : List (Nat × Nat)} (hz : t.length + u.length ≤ 1000) : FnP T 2 a [.dict (eT t), .dict (eT u)] (.dict (eT (addC t u))) := by
  intro A s Q E X vs room old xs r K
  obtain ⟨o, ho, hd⟩ := at_.obj
  obtain ⟨v1, vs1, rfl, r1, v2, vs2, rfl, r2, rfl⟩ := id r
  have hnod : (t.map (·.1)).Nodup := by
    obtain ⟨_, kvs, _, _, _, ⟨_, _, _, _, _, _, _, _, q⟩, _, rd⟩ := r1
    exact eT_nodup rd q
  have hbig : big = 1000000 := rfl
  refine enter (γ := none) (names := [Str.ofString "target", Str.ofString "source"]) (k := 1) top room ho hd at_.code r rfl rfl (by decide) rfl old xs (fun L s' f st => ?_) (fun v s' sm rr => K v s' sm.kp rr)
  refine seq_ownD f st PND.empty (let ⟨o, h⟩ := B.sys; ⟨o, st.old _ _ h⟩) fun b s1 f1 hb st1 => ?_
  refine seq_items (es := eT t) (fun i ρ Ω => ρ.lookup (Str.ofString "source") = some (.dict (eT u)) ∧ ρ.lookup (Str.ofString "new_callers") = some (.ptr b) ∧ Ω = [.dict b (eT ((t.take i).foldl (fun acc e => putT acc e.1 e.2) []))]) f1 st1 (PE.name (st1.ok f1) rfl) ⟨rfl, rfl, rfl⟩ ?_ ?_
  · rintro Z' i e ρ' Ω' s2 he ⟨h1, h2, rfl⟩ f2 st2
    obtain ⟨k, v, hkv, rfl⟩ := eT_get he
    have hl := putAll_len (t.take i) []
    rw [List.length_take] at hl
    refine seq_setD (j := 0) (k := k) (v := v) f2 st2 (PE.name (st2.ok f2) rfl) (PE.name (st2.ok f2) (lk (lk h2))) (PE.name (st2.ok f2) rfl) rfl (by simp) (by simp at hl; omega) fun s3 st3 => wpAny_execs_nil ⟨_, _, ⟨lk (lk h1), lk (lk h2), ?_⟩, st3⟩
    rw [foldl_take_succ hkv]; rfl
  · rintro ρ' Ω' s2 ⟨h1, h2, rfl⟩ st2
    have e1 : ((t.take (eT t).length).foldl (fun acc (e : Nat × Nat) => putT acc e.1 e.2) []) = t := by
      rw [List.length_map, List.take_length, put_all t [] (by simpa using hnod)]; rfl
    rw [e1] at st2
    refine seq_items (es := eT u) (fun i ρ Ω => ρ.lookup (Str.ofString "new_callers") = some (.ptr b) ∧ Ω = [.dict b (eT (addC t (u.take i)))]) f1 st2 (PE.name (st2.ok f1) h1) ⟨h2, rfl⟩ ?_ ?_
    · rintro Z' i e ρ3 Ω3 s3 he ⟨h3, rfl⟩ f3 st3
      obtain ⟨k, v, hkv, rfl⟩ := eT_get he
      have hl := addC_len (u.take i) t
      rw [List.length_take] at hl
      have hstep : addC t (u.take (i + 1)) = incT (addC t (u.take i)) k v := foldl_take_succ hkv
      rw [hstep]
      generalize hW : addC t (u.take i) = W at hl st3 ⊢
      have own : (OwnD.dict b (eT W)).At _ _ _ := st3.own _ List.mem_cons_self
      cases hlk : look W k with
      | some x =>
        refine seq_if (b := true) st3 ((PT.inP (PE.name (st3.ok f3) rfl) (PE.name (st3.ok f3) (lk (lk h3))) own).cast (by rw [look_eT, hlk]; rfl)) fun s4 st4 => ?_
        refine seq_if (b := false) st4 (PT.notTuple (i := (v : Int)) (Glob.blt (st4.ok f3) B.isin.1 B.isin.2) (Glob.blt (st4.ok f3) B.tuple.1 B.tuple.2) (PE.name (st4.ok f3) rfl)) fun s5 st5 => ?_
        refine seq_augD (j := 0) (k := k) (v := v) (x := x) f3 st5 (PE.name (st5.ok f3) rfl) (PE.name (st5.ok f3) (lk (lk h3))) (PE.name (st5.ok f3) rfl) rfl (by simp) (by omega) hlk fun s6 st6 => wpAny_execs_nil (wpAny_execs_nil (wpAny_execs_nil ⟨_, _, ⟨lk (lk h3), ?_⟩, st6⟩))
        rw [incT_some hlk]; rfl
      | none =>
        refine seq_if (b := false) st3 ((PT.inP (PE.name (st3.ok f3) rfl) (PE.name (st3.ok f3) (lk (lk h3))) own).cast (by rw [look_eT, hlk]; rfl)) fun s4 st4 => ?_
        refine seq_setD (j := 0) (k := k) (v := v) f3 st4 (PE.name (st4.ok f3) rfl) (PE.name (st4.ok f3) (lk (lk h3))) (PE.name (st4.ok f3) rfl) rfl (by simp) (by omega) fun s6 st6 => wpAny_execs_nil (wpAny_execs_nil ⟨_, _, ⟨lk (lk h3), ?_⟩, st6⟩)
        rw [incT_none hlk]; rfl
    · rintro ρ3 Ω3 s3 ⟨h3, rfl⟩ st3
      rw [List.length_map, List.take_length] at st3
      have hbn : b ∉ (callFx T A 1 (fdI 2 pm cd doc) a none X L).X := fresh_not st.xs (Ext.refl _) hb
      have h0 : s.heap.get? b = none := st.fresh0 hb
      have st4 := st3.freezeD h3 hbn h0 (fun _ h => nomatch h)
      exact seq_ret (F := callFx T A 1 (fdI 2 pm cd doc) a none X L) st4 (PE.name (st4.ok f) rfl) fun v s5 sm r5 => ⟨sm, r5⟩

def addE (t s : Ent) : Ent := (s.1 + t.1, s.2.1 + t.2.1, s.2.2.1 + t.2.2.1, s.2.2.2.1 + t.2.2.2.1, addC t.2.2.2.2 s.2.2.2.2)
theorem add_func_stats_fn {T : Tp} {a b : Addr} {pm cd doc pm2 cd2 doc2 : Value} (top : T.Ok) (B : Blts T) (at_ : FnAt T 1 a pm cd doc) (at2 : FnAt T 2 b pm2 cd2 doc2) {t u : Ent} (hz : t.2.2.2.2.length + u.2.2.2.2.length ≤ 1000) : FnP T 3 a [eE t, eE u] (eE (addE t u)) := by
  intro A s Q E X vs room old xs r K
  obtain ⟨o, ho, hd⟩ := at_.obj
  obtain ⟨o2, ho2, hd2⟩ := at2.obj
  obtain ⟨v1, vs1, rfl, r1, v2, vs2, rfl, r2, rfl⟩ := id r
  refine enter (γ := none) (names := [Str.ofString "target", Str.ofString "source"]) (k := 2) top room ho hd at_.code r rfl rfl (by decide) rfl old xs (fun L s' f st => ?_) (fun v s' sm rr => K v s' sm.kp rr)
  refine seq_tup5 f (PE.ps (PE.name (st.ok f) rfl) st) fun s1 st1 => ?_
  refine seq_tup5 f (PE.ps (PE.name (st1.ok f) rfl) st1) fun s2 st2 => ?_
  refine seq_ret st2 ((PE.tupD (st2.ok f) (PEL.cons (PE.add (PE.name (st2.ok f) rfl) (PE.name (st2.ok f) rfl)) (PEL.cons (PE.add (PE.name (st2.ok f) rfl) (PE.name (st2.ok f) rfl)) (PEL.cons (PE.add (PE.name (st2.ok f) rfl) (PE.name (st2.ok f) rfl)) (PEL.cons (PE.add (PE.name (st2.ok f) rfl) (PE.name (st2.ok f) rfl))
    (PEL.cons (PE.callF (st2.ok f) (Glob.top (st2.ok f) at2.name) ho2 hd2 (add_callers_fn top B at2 hz) (Nat.le_refl _) (PEL.cons (PE.name (st2.ok f) rfl) (PEL.cons (PE.name (st2.ok f) rfl) PEL.nil))) PEL.nil))))) (by simp [big])).cast ?_) fun v s3 sm r3 => ⟨sm, r3⟩
  simp only [eE, addE, eN]
  push_cast
  rfl
end Mine
namespace Mine
open PySem PySem.Spec PySem.Calls PyProof.Rows PySem.W

section
variable {F : Fx} {Ω : List OwnD} {s₀ s : Shared} {ρ : List (Str × AV)} {E : Value → Shared → Prop} {Q : Flow → Shared → Prop} {rest : List Stmt} {pos : Pos}

def Fx.withs (F : Fx) (as : List Addr) : Fx := { F with Y := as ++ F.Y }
/-- things of the frame's own become plain data -/
theorem St.freezeG {as : List Addr} {Ω₁ : List OwnD} {x : Str} {d0 d : AV} (st : St (F.withs as) (Ω₁ ++ Ω) s₀ ρ s) (hx : ρ.lookup x = some d0) (h0 : ∀ a ∈ as, s₀.heap.get? a = none)
    (hd : ∀ v, Rep F.T.p s.heap (F.withs as).X d0 v → Rep F.T.p s.heap F.X d v) (hΩ : ∀ o' ∈ Ω, o'.addr ∈ F.Y) : St F Ω s₀ ((x, d) :: ρ) s := by
  have sub : ∀ b ∈ F.X, b ∈ (F.withs as).X := fun b hb => by
    rcases List.mem_append.mp hb with hb | hb
    · exact List.mem_append_left _ (List.mem_append_right _ hb)
    · exact List.mem_append_right _ hb
  refine ⟨⟨st.sm.is, fun b y nb hy => st.sm.ext b y (fun m => ?_) hy, st.sm.gr⟩, st.old, fun b hb => st.xs b (sub b hb), st.cell, ?_, fun o' ho' => (st.own o' (List.mem_append_right _ ho')).weak sub, fun o' ho' => ⟨hΩ o' ho', (st.ownY o' (List.mem_append_right _ ho')).2⟩⟩
  · rcases List.mem_append.mp m with m | m
    · rw [h0 b m] at hy; cases hy
    · exact nb m
  · obtain ⟨m, hn, hv⟩ := st.vars
    refine ⟨m, hn, fun y d' hy => ?_⟩
    rw [List.lookup_cons] at hy
    cases q : y == x with
    | true =>
      rw [q] at hy; cases hy
      obtain ⟨v, r, a1⟩ := hv x _ hx
      exact ⟨v, hd v r, (beq_iff_eq.mp q) ▸ a1⟩
    | false =>
      rw [q] at hy
      obtain ⟨v, r, a1⟩ := hv y d' hy
      exact ⟨v, Rep.weak sub r, a1⟩

theorem fresh_H {a : Addr} (st : St F Ω s₀ ρ s) (hn : s.heap.get? a = none) : F.T.H₀.get? a = none := by
  cases q : F.T.H₀.get? a with
  | none => rfl
  | some o => rw [st.old a o q] at hn; cases hn
theorem mk_empty {pp : Pos} {Q E : Value → Shared → Prop} (f : F.Ok) (st : St F Ω s₀ ρ s) (K : ∀ a s', (F.with a).Ok → s.heap.get? a = none → Kp s s' → St (F.with a) (.list a [] :: Ω) s₀ ρ s' → (∃ o, s'.heap.get? a = some o) → Q (.ref a) s') : wpAny F.M F.A (eval (.List [] pp) F.env) Q E s :=
  (PNL.listD (c := F.cx s.heap ρ) PEL.nil) s _ _ (Ext.refl _) fun a vs s1 k1 hn hp hz rl =>
    have st1 : St (F.with a) (.list a [] :: Ω) s₀ ρ s1 := st.take f k1 hn (o := .list a []) rfl ⟨vs, hp, hz, rl⟩
    K a s1 (f.with (fresh_H st hn)) hn k1 st1 (st1.own _ List.mem_cons_self).alive
theorem ne_of_alive {a b : Addr} {h : Heap} (x : ∃ o, h.get? a = some o) (hb : h.get? b = none) : b ≠ a := fun e => by obtain ⟨o, ho⟩ := x; rw [e, ho] at hb; cases hb
theorem Kp.alive {a : Addr} {s s' : Shared} (k : Kp s s') (x : ∃ o, s.heap.get? a = some o) : ∃ o, s'.heap.get? a = some o := let ⟨o, h⟩ := x; ⟨o, k.ext _ _ h⟩
theorem four_of {α : Type} {a3 a2 a1 a0 a : α} {P : α → Prop} (h3 : P a3) (h2 : P a2) (h1 : P a1) (h0 : P a0) (ha : a ∈ [a3, a2, a1, a0]) : P a := by
  simp only [List.mem_cons, List.not_mem_nil, or_false] at ha
  rcases ha with h | h | h | h <;> rw [h] <;> assumption
theorem nodup4 {a3 a2 a1 a0 : Addr} (e1 : a3 ≠ a0) (e2 : a3 ≠ a1) (e3 : a3 ≠ a2) (e4 : a2 ≠ a0) (e5 : a2 ≠ a1) (e6 : a1 ≠ a0) : [a3, a2, a1, a0].Nodup := by simp [e1, e2, e3, e4, e5, e6]
/-- x = [[], [], [], []] -/
theorem four_eval {x : Str} {p0 p1 p2 p3 lp : Pos} {Q : Unit → Shared → Prop} (f : F.Ok) (st : St F Ω s₀ ρ s) (hk : KindOk F x)
    (K : ∀ a0 a1 a2 a3 s', (F.withs [a3, a2, a1, a0]).Ok → [a3, a2, a1, a0].Nodup → (∀ a ∈ [a3, a2, a1, a0], s.heap.get? a = none) →
      St (F.withs [a3, a2, a1, a0]) (.list a3 [] :: .list a2 [] :: .list a1 [] :: .list a0 [] :: Ω) s₀ ((x, .list [.ptr a0, .ptr a1, .ptr a2, .ptr a3]) :: ρ) s' → Q () s') :
    wpAny F.M F.A (eval (.List [.List [] p0, .List [] p1, .List [] p2, .List [] p3] lp) F.env) (fun v s1 => wpAny F.M F.A (storeName F.env x v) Q E s1) E s := by
  refine wpAny_List_spliced ?_
  refine spliced_cons (mk_empty f st fun a0 s1 f1 n0 k1 st1 l1 => ?_)
  refine spliced_cons (mk_empty (F := F.with a0) f1 st1 fun a1 s2 f2 n1 k2 st2 l2 => ?_)
  refine spliced_cons (mk_empty (F := (F.with a0).with a1) f2 st2 fun a2 s3 f3 n2 k3 st3 l3 => ?_)
  refine spliced_cons (mk_empty (F := ((F.with a0).with a1).with a2) f3 st3 fun a3 s4 f4 n3 k4 st4 l4 => ?_)
  refine spliced_nil ⟨by rw [sizeLine_eq]; simp, ?_⟩
  have f4 : (F.withs [a3, a2, a1, a0]).Ok := f4
  have st4 : St (F.withs [a3, a2, a1, a0]) (.list a3 [] :: .list a2 [] :: .list a1 [] :: .list a0 [] :: Ω) s₀ ρ s4 := st4
  have nn : ∀ a ∈ [a3, a2, a1, a0], s.heap.get? a = none := fun a ha => four_of (P := fun a => s.heap.get? a = none) (k1.none (k2.none (k3.none n3))) (k1.none (k2.none n2)) (k1.none n1) n0 ha
  have nd : [a3, a2, a1, a0].Nodup := nodup4 (ne_of_alive (k3.alive (k2.alive l1)) n3) (ne_of_alive (k3.alive l2) n3) (ne_of_alive l3 n3) (ne_of_alive (k2.alive l1) n2) (ne_of_alive l2 n2) (ne_of_alive l1 n1)
  have hX : s4.heap.objs.size ∉ (F.withs [a3, a2, a1, a0]).X := fresh_not st4.xs (Ext.refl _) (none_size _)
  exact store (F := F.withs [a3, a2, a1, a0]) f4 (st4.kp ((Kp.refl s4).push _)) (d := .list [.ptr a0, .ptr a1, .ptr a2, .ptr a3]) (Rep.newL hX ⟨_, _, rfl, rfl, _, _, rfl, rfl, _, _, rfl, rfl, _, _, rfl, rfl, rfl⟩ (by simp [big])) hk fun s' st' _ => K a0 a1 a2 a3 s' f4 nd nn st'
end

def stepR (st : Nat × List (List Nat)) (z : Nat) : Nat × List (List Nat) := ((st.1 + z) % 4, st.2.set st.1 (st.2.getD st.1 [] ++ [z]))
def rowsOf (steps : List Nat) : List (List Nat) := (steps.foldl stepR (0, [[], [], [], []])).2
structure RowsInv (n : Nat) (st : Nat × List (List Nat)) : Prop where
  place : st.1 < 4
  len : st.2.length = 4
  rows : ∀ r ∈ st.2, r.length ≤ n
theorem RowsInv.step {n : Nat} {st : Nat × List (List Nat)} (h : RowsInv n st) (z : Nat) : RowsInv (n + 1) (stepR st z) := by
  refine ⟨Nat.mod_lt _ (by decide), by simp [stepR, h.len], fun r hr => ?_⟩
  rcases mem_set_cases hr with rfl | ⟨i, _, hi⟩
  · rw [List.length_append]
    obtain ⟨r0, hr0⟩ : ∃ r0, st.2[st.1]? = some r0 := ⟨_, List.getElem?_eq_getElem (by have := h.place; have := h.len; omega)⟩
    rw [getD_of hr0]
    have := h.rows r0 (List.mem_of_getElem? hr0)
    simp; omega
  · have := h.rows r (List.mem_of_getElem? hi); omega
theorem rowsInv : ∀ (steps : List Nat) {n : Nat} {st : Nat × List (List Nat)}, RowsInv n st → RowsInv (n + steps.length) (steps.foldl stepR st)
  | [], _, _, h => h
  | z :: steps, n, st, h => by
    have := rowsInv steps (h.step z)
    rw [List.foldl_cons, List.length_cons]
    have e : n + (steps.length + 1) = n + 1 + steps.length := by omega
    rw [e]; exact this

end Mine
namespace Mine
open PySem PySem.Spec PySem.Calls PyProof.Rows PySem.W

theorem rows_pick {a0 a1 a2 a3 : Addr} {pl z : Nat} (hp : pl < 4) {x0 x1 x2 x3 : List Nat} (b0 : x0.length ≤ 1000) (b1 : x1.length ≤ 1000) (b2 : x2.length ≤ 1000) (b3 : x3.length ≤ 1000) : ∃ (j : Nat) (b : Addr) (r : List Nat), [AV.ptr a0, .ptr a1, .ptr a2, .ptr a3][((pl : Int)).toNat]? = some (.ptr b) ∧ r.length ≤ 1000 ∧
        [OwnD.list a3 (x3.map eN), .list a2 (x2.map eN), .list a1 (x1.map eN), .list a0 (x0.map eN)][j]? = some (.list b (r.map eN)) ∧
        [OwnD.list a3 (x3.map eN), .list a2 (x2.map eN), .list a1 (x1.map eN), .list a0 (x0.map eN)].set j (.list b (r.map eN ++ [eN z])) =
          [.list a3 (((stepR (pl, [x0, x1, x2, x3]) z).2.getD 3 []).map eN), .list a2 (((stepR (pl, [x0, x1, x2, x3]) z).2.getD 2 []).map eN), .list a1 (((stepR (pl, [x0, x1, x2, x3]) z).2.getD 1 []).map eN), .list a0 (((stepR (pl, [x0, x1, x2, x3]) z).2.getD 0 []).map eN)] := by
  match pl, hp with
  | 0, _ => exact ⟨3, a0, x0, rfl, b0, rfl, by simp [stepR]⟩
  | 1, _ => exact ⟨2, a1, x1, rfl, b1, rfl, by simp [stepR]⟩
  | 2, _ => exact ⟨1, a2, x2, rfl, b2, rfl, by simp [stepR]⟩
  | 3, _ => exact ⟨0, a3, x3, rfl, b3, rfl, by simp [stepR]⟩

theorem rows_fn {T : Tp} {a : Addr} {pm cd doc : Value} (top : T.Ok) (B : Blts T) (at_ : FnAt T 8 a pm cd doc) {steps : List Nat} (hz : steps.length ≤ 1000) : FnP T 2 a [eR steps] (eRows (rowsOf steps)) := by
  intro A s Q E X vs room old xs r K
  obtain ⟨o, ho, hd⟩ := at_.obj
  obtain ⟨v1, vs1, rfl, r1, rfl⟩ := id r
  have hbig : big = 1000000 := rfl
  refine enter (γ := none) (names := [Str.ofString "steps"]) (k := 1) top room ho hd at_.code r rfl rfl (by decide) rfl old xs (fun L s' f st => ?_) (fun v s' sm rr => K v s' sm.kp rr)
  refine wpAny_execs_cons ?_
  refine wpAny_Assign_Name ?_ rfl
  refine four_eval f st (Or.inl rfl) fun a0 a1 a2 a3 s1 f1 hnd hnew st1 => ?_
  show wpAny (Fx.withs (callFx T A 1 (fdI 8 pm cd doc) a none X L) [a3, a2, a1, a0]).M (Fx.withs (callFx T A 1 (fdI 8 pm cd doc) a none X L) [a3, a2, a1, a0]).A (execs _ (Fx.withs (callFx T A 1 (fdI 8 pm cd doc) a none X L) [a3, a2, a1, a0]).env) _ _ s1
  refine seq_assign f1 st1 PE.int fun s2 st2 => ?_
  refine seq_for eN steps (fun i ρ Ω => ∃ st : Nat × List (List Nat), (steps.take i).foldl stepR (0, [[], [], [], []]) = st ∧ ρ.lookup (Str.ofString "rows") = some (.list [.ptr a0, .ptr a1, .ptr a2, .ptr a3]) ∧ ρ.lookup (Str.ofString "place") = some (eN st.1) ∧
      Ω = [.list a3 ((st.2.getD 3 []).map eN), .list a2 ((st.2.getD 2 []).map eN), .list a1 ((st.2.getD 1 []).map eN), .list a0 ((st.2.getD 0 []).map eN)]) (fun _ _ => False) (fun _ => False) f1 st2 (PI.list (st2.ok f1) (PE.name (st2.ok f1) rfl)) ⟨_, rfl, rfl, rfl, rfl⟩ ?_ ?_ (fun _ _ _ h => h.elim)
  · rintro Z' i z ρ' Ω' s3 hi ⟨W, hW, h1, h2, rfl⟩ f3 st3
    have inv : RowsInv (0 + (steps.take i).length) W := hW ▸ rowsInv (steps.take i) (st := (0, [[], [], [], []])) ⟨by decide, rfl, fun r hr => by simp at hr; subst hr; simp⟩
    have hlt : (steps.take i).length ≤ 1000 := by rw [List.length_take]; omega
    obtain ⟨pl, rs⟩ := W
    have hp : pl < 4 := inv.place
    have hl : rs.length = 4 := inv.len
    have hrows : ∀ r ∈ rs, r.length ≤ 1000 := fun r hr => by have := inv.rows r hr; omega
    obtain ⟨x0, x1, x2, x3, rfl⟩ : ∃ x0 x1 x2 x3, rs = [x0, x1, x2, x3] := by
      match rs, hl with
      | [x0, x1, x2, x3], _ => exact ⟨x0, x1, x2, x3, rfl⟩
    have b0 := hrows x0 (by simp)
    have b1 := hrows x1 (by simp)
    have b2 := hrows x2 (by simp)
    have b3 := hrows x3 (by simp)
    obtain ⟨j, b, r, hb, hr, hj, hset⟩ := rows_pick (a0 := a0) (a1 := a1) (a2 := a2) (a3 := a3) (z := z) hp b0 b1 b2 b3
    have st3 : St ((Fx.withs (callFx T A 1 (fdI 8 pm cd doc) a none X L) [a3, a2, a1, a0]).wz Z') [OwnD.list a3 (x3.map eN), .list a2 (x2.map eN), .list a1 (x1.map eN), .list a0 (x0.map eN)] s3 ((Str.ofString "step", eN z) :: ρ') s3 := st3
    refine seq_append (j := j) (a := b) (ds := r.map eN) (d := eN z) f3 st3 (PE.item (k := (pl : Int)) (PE.name (st3.ok f3) (lk h1)) (PE.name (st3.ok f3) (lk h2)) (by omega) hb) hj hnd (PE.name (st3.ok f3) rfl) (by simp; omega) fun s4 st4 => ?_
    rw [hset] at st4
    refine seq_assign (d := eN ((pl + z) % 4)) f3 st4 ((PE.mod (a := (pl : Int) + (z : Int)) (b := 4) (PE.add (PE.name (st4.ok f3) (lk h2)) (PE.name (st4.ok f3) rfl)) PE.int (by decide)).cast (by
        have := fmodN (pl + z) 4
        rw [show (((pl + z : Nat) : Int)) = (pl : Int) + (z : Int) by push_cast; rfl] at this
        exact congrArg AV.int this)) fun s5 st5 => wpAny_execs_nil ⟨_, _, ⟨stepR (pl, [x0, x1, x2, x3]) z, by rw [foldl_take_succ hi, hW], lk (lk h1), rfl, rfl⟩, st5⟩
  · rintro ρ' Ω' s3 (⟨W, hW, h1, h2, rfl⟩ | h) st3
    · rw [List.take_length] at hW
      have inv : RowsInv (0 + steps.length) W := hW ▸ rowsInv steps (st := (0, [[], [], [], []])) ⟨by decide, rfl, fun r hr => by simp at hr; subst hr; simp⟩
      have eW : rowsOf steps = W.2 := by unfold rowsOf; rw [hW]
      obtain ⟨pl, rs⟩ := W
      have hl : rs.length = 4 := inv.len
      obtain ⟨x0, x1, x2, x3, rfl⟩ : ∃ x0 x1 x2 x3, rs = [x0, x1, x2, x3] := by
        match rs, hl with
        | [x0, x1, x2, x3], _ => exact ⟨x0, x1, x2, x3, rfl⟩
      have h0 : ∀ b ∈ [a3, a2, a1, a0], s.heap.get? b = none := fun b hb => st.fresh0 (hnew b hb)
      have hX : ∀ b ∈ [a3, a2, a1, a0], b ∉ (callFx T A 1 (fdI 8 pm cd doc) a none X L).X := fun b hb => fresh_not st.xs (Ext.refl _) (hnew b hb)
      have sub : ∀ b ∈ (callFx T A 1 (fdI 8 pm cd doc) a none X L).X, b ∈ (Fx.withs (callFx T A 1 (fdI 8 pm cd doc) a none X L) [a3, a2, a1, a0]).X := fun b hb => by
        rcases List.mem_append.mp hb with hb | hb
        · exact List.mem_append_left _ (List.mem_append_right _ hb)
        · exact List.mem_append_right _ hb
      have own : ∀ {b : Addr} {r : List Nat}, OwnD.list b (r.map eN) ∈ [OwnD.list a3 (x3.map eN), .list a2 (x2.map eN), .list a1 (x1.map eN), .list a0 (x0.map eN)] → b ∈ [a3, a2, a1, a0] → Rep T.p s3.heap (callFx T A 1 (fdI 8 pm cd doc) a none X L).X (eR r) (.ref b) := fun {b r} hm hb => by
        obtain ⟨vs, hp, hz, rl⟩ := st3.own _ hm
        exact ⟨b, vs, rfl, hX b hb, hp, hz, rl.weak sub⟩
      have st4 := St.freezeG (F := callFx T A 1 (fdI 8 pm cd doc) a none X L) (Ω := []) (Ω₁ := [OwnD.list a3 (x3.map eN), .list a2 (x2.map eN), .list a1 (x1.map eN), .list a0 (x0.map eN)]) (d := eRows [x0, x1, x2, x3]) st3 h1 h0 (fun v rr => by
        obtain ⟨l, ws, rfl, nl, hp, hz, v0, _, rfl, q0, v1, _, rfl, q1, v2, _, rfl, q2, v3, _, rfl, q3, rfl⟩ := rr
        cases q0; cases q1; cases q2; cases q3
        exact ⟨l, _, rfl, fun hm => nl (sub l hm), hp, hz, _, _, rfl, own (by simp) (by simp), _, _, rfl, own (by simp) (by simp), _, _, rfl, own (by simp) (by simp), _, _, rfl, own (by simp) (by simp), rfl⟩) (fun _ h => nomatch h)
      rw [eW]
      exact seq_ret (F := callFx T A 1 (fdI 8 pm cd doc) a none X L) st4 (PE.name (st4.ok f) rfl) fun v s5 sm r5 => ⟨sm, r5⟩
    · exact h.elim
end Mine
namespace Mine
open PySem PySem.Spec PySem.Calls PyProof.Rows PySem.W

theorem compLoop_gen {prog : Program} {w : World} {A : Around} {R : Result → Shared → Prop} {s : Shared} {e : Expr} {depth : Nat} {target : Expr} {ifs : List Expr} {it acc : Value} {env : Env} {p : Pos} {emit : Sem Unit}
    (heq : compTurn e depth it acc env = (do
      standAt p
      match ← pyNext it with
      | none => pure (.done .next)
      | some v =>
        letOwnedTupleGo target it v
        assign target env v
        let mut ok := true
        for c in ifs do
          if ok then ok ← isTrue c env (eval c env)
        if ok then emit
        again (.compLoop e depth it acc env))) (I : Nat → Shared → Prop)
    (turn : ∀ n s, I n s → wpAny (model prog w) A (pyNext it) (fun r s₁ => match r with
      | none => R (.ok .next) s₁
      | some v => wpAny (model prog w) A (assign target env v) (fun _ s₂ =>
          wpAny (model prog w) A (forIn ifs true fun c r => if r = true then do let ok ← isTrue c env (eval c env); pure (ForInStep.yield ok) else pure (ForInStep.yield r)) (fun ok s₃ =>
            if ok = true then wpAny (model prog w) A emit (fun _ s₄ => ∃ m, m < n ∧ I m s₄) (notedBy (model prog w) A env fun e s' => R (.error e) s') s₃
            else ∃ m, m < n ∧ I m s₃) (notedBy (model prog w) A env fun e s' => R (.error e) s') s₂) (notedBy (model prog w) A env fun e s' => R (.error e) s') s₁) (notedBy (model prog w) A env fun e s' => R (.error e) s') s)
    (n : Nat) (h : I n s) (hden : (model prog w).den (.compLoop e depth it acc env) = ((compTurn e depth it acc env).onRaise (fun x => do noteFrame x env; theTreesLotGoes x)) := by rfl) (hq : (Code.compLoop e depth it acc env).quiet = true := by rfl) (hA : A.under (.compLoop e depth it acc env) = A := by rfl)
    (ht : ∀ v, letOwnedTupleGo target it v = pure () := by intro _; rfl) :
    codeAny (model prog w) A (.compLoop e depth it acc env) R s := by
  refine codeAny_loop hq I (fun n s hI => ?_) n h
  rw [hden, hA]
  refine wpAny_noted ?_
  rw [heq]
  refine wpAny_bind (wpAny_standAt (wpAny_bind (wpAny_mono (turn n s hI) (fun r s₁ h₁ => ?_) fun _ _ h' => h')))
  cases r with
  | none => exact wpAny_pure h₁
  | some v =>
    refine wpAny_bind (wpAny_of_eq (ht v) ?_)
    refine wpAny_bind (wpAny_mono h₁ (fun _ s₂ h₂ => wpAny_bind (wpAny_mono h₂ (fun ok s₃ h₃ => ?_) fun _ _ h' => h')) fun _ _ h' => h')
    cases ok with
    | false => exact wpAny_pure ⟨rfl, h₃⟩
    | true => exact wpAny_bind (wpAny_mono h₃ (fun _ s₄ h₄ => wpAny_pure ⟨rfl, h₄⟩) fun _ _ h' => h')

section
variable {c : Cx} {x : Str} {px : Pos} {ifs : List Expr} {scope : Scope} {pos : Pos} {E : Value → Shared → Prop}
theorem comp_loopG {α : Type} (enc : α → AV) (src : List α) (b : α → Bool) (AccP : Nat → Heap → Prop) {e : Expr} {p : Pos} {emit : Sem Unit} {R : Result → Shared → Prop} {s₂ s : Shared} {h₁ : Heap} {I C D : Addr} {fp wr : List Addr} {P : Nat → Value → Prop} {St : Nat → Heap → Prop} {m : Str → Option Value}
    (heq : compTurn e 0 (.ref I) (.ref D) (cEnv scope c.env C) = (do
      standAt p
      match ← pyNext (.ref I) with
      | none => pure (.done .next)
      | some v =>
        letOwnedTupleGo (.Name x px) (.ref I) v
        assign (.Name x px) (cEnv scope c.env C) v
        let mut ok := true
        for t in ifs do
          if ok then ok ← isTrue t (cEnv scope c.env C) (eval t (cEnv scope c.env C))
        if ok then emit
        again (.compLoop e 0 (.ref I) (.ref D) (cEnv scope c.env C))))
    (hden : c.M.den (.compLoop e 0 (.ref I) (.ref D) (cEnv scope c.env C)) = ((compTurn e 0 (.ref I) (.ref D) (cEnv scope c.env C)).onRaise (fun x => do noteFrame x (cEnv scope c.env C); theTreesLotGoes x))) (hq : (Code.compLoop e 0 (.ref I) (.ref D) (cEnv scope c.env C)).quiet = true) (hA : c.A.under (.compLoop e 0 (.ref I) (.ref D) (cEnv scope c.env C)) = c.A)
    (ok : c.Ok) (co : CompOk c scope x) (it : It c (src.map enc) h₁ s₂ I fp wr P St)
    (htest : ∀ a ∈ src, ∀ C H X', (cCx c scope x (enc a) C H X').Ok → PTs (cCx c scope x (enc a) C H X') ifs (b a))
    (accM : ∀ i h h', AccP i h → ExtB (ownC scope C ++ wr) h h' → AccP i h') (accSkip : ∀ i a h, src[i]? = some a → b a = false → AccP i h → AccP (i + 1) h)
    (hemit : ∀ i a v m (s : Shared) (Q : Unit → Shared → Prop) (E : Value → Shared → Prop), src[i]? = some a → b a = true → (cCx c scope x (enc a) C s.heap (D :: ownC scope C ++ wr ++ c.X)).Ok → s.heap.Ns C m → Rep c.T.p s.heap (D :: ownC scope C ++ wr ++ c.X) (enc a) v → VarIs (cEnv scope c.env C) s.heap m x v → AccP i s.heap → Ext c.H s.heap →
      (∀ a ∈ D :: ownC scope C, ∃ o, s.heap.get? a = some o) → (∀ cc, (cellsFrom (C + 1) scope.names []).lookup x = some cc → ∃ v0, s.heap.IsCell cc v0) →
      (∀ h' tk m', h'.Ns C m' → ExtB (D :: ownC scope C) s.heap h' → AccP (i + 1) h' → (∀ a ∈ D :: ownC scope C, ∃ o, h'.get? a = some o) → (∀ cc, (cellsFrom (C + 1) scope.names []).lookup x = some cc → ∃ v0, h'.IsCell cc v0) → Q () { s with heap := h', toks := tk }) →
      wpAny c.M c.A emit Q E s)
    (hD : s₂.heap.objs.size ≤ D) (hDC : D < C)
    (hs : ∃ h tk, s = { s₂ with heap := h, toks := tk } ∧ Ext s₂.heap h) (halive : ∀ a ∈ D :: ownC scope C, ∃ o, s.heap.get? a = some o)
    (hacc : AccP 0 s.heap) (hn : s.heap.Ns C m) (hcell : ∀ cc, (cellsFrom (C + 1) scope.names []).lookup x = some cc → ∃ v0, s.heap.IsCell cc v0)
    (hR : ∀ h' tk m', h'.Ns C m' → AccP src.length h' → ExtB (D :: ownC scope C ++ wr) s₂.heap h' → R (.ok .next) { s₂ with heap := h', toks := tk }) :
    codeAny c.M c.A (.compLoop e 0 (.ref I) (.ref D) (cEnv scope c.env C)) R s := by
  have W := it.walks
  have hlen : (src.map enc).length = src.length := List.length_map ..
  rw [hlen] at W
  have hNge : ∀ a ∈ D :: ownC scope C, s₂.heap.objs.size ≤ a := fun a ha => by
    rcases List.mem_cons.mp ha with rfl | ha
    · exact hD
    · exact Nat.le_trans hD (Nat.le_trans (Nat.le_of_lt hDC) (ownC_ge ha))
  have hX1 : ∀ a ∈ D :: ownC scope C ++ wr ++ c.X, h₁.get? a = none ∨ a ∈ c.X := fun a ha => by
    rcases List.mem_append.mp ha with ha | ha
    · rcases List.mem_append.mp ha with ha | ha
      · left
        cases e : h₁.get? a with
        | none => rfl
        | some o => have := it.up a o e; rw [none_ge (hNge a ha)] at this; cases this
      · exact .inl (it.new a ha)
    · exact .inr ha
  have hXH : ∀ a ∈ D :: ownC scope C ++ wr ++ c.X, c.H.get? a = none ∨ a ∈ c.X := fun a ha => (hX1 a ha).imp (fun q => by
    cases e : c.H.get? a with
    | none => rfl
    | some o => rw [it.old a o e] at q; cases q) id
  have hfpN : ∀ a ∈ fp, a ∉ D :: ownC scope C := fun a ha hm => absurd (it.lt a ha) (Nat.not_lt.mpr (hNge a hm))
  have hwrN : ∀ a ∈ D :: ownC scope C, a ∉ wr := fun a ha hm => hfpN a (W.sub _ hm) ha
  have up1 : ∀ {h' : Heap}, ExtB (D :: ownC scope C ++ wr) s₂.heap h' → Ext h₁ h' := fun {h'} e a o ho => e a o (fun hm => by
    rcases List.mem_append.mp hm with hm | hm
    · have := it.up a o ho; rw [none_ge (hNge a hm)] at this; cases this
    · rw [it.new a hm] at ho; cases ho) (it.up a o ho)
  refine compLoop_gen heq (fun n s' => ∃ h' tk m' i, s' = { s₂ with heap := h', toks := tk } ∧ i ≤ src.length ∧ n = src.length + 1 - i ∧ St i h' ∧ AccP i h' ∧ h'.Ns C m' ∧
      ExtB (D :: ownC scope C ++ wr) s₂.heap h' ∧ (∀ a ∈ D :: ownC scope C, ∃ o, h'.get? a = some o) ∧
      (∀ cc, (cellsFrom (C + 1) scope.names []).lookup x = some cc → ∃ v0, h'.IsCell cc v0)) ?_ (src.length + 1) ?_ hden hq hA
  · rintro n s' ⟨h', tk, m', i, rfl, hi, rfl, hst, hA, hnC, hext, hal, hce⟩
    by_cases hlt : i < src.length
    · refine W.item i _ _ _ hlt hst fun v h₂ tk₂ hP hst₂ hk₂ => ?_
      obtain ⟨d, hd, r0⟩ := it.items i v (by rw [hlen]; exact hlt) hP
      obtain ⟨a, ha, rfl⟩ := get_map_some hd
      have ha' : a ∈ src := List.mem_of_getElem? ha
      have E2 : ExtB (D :: ownC scope C ++ wr) s₂.heap h₂ := fun b o nb e => hk₂ b o (fun q => nb (List.mem_append_right _ q)) (hext b o nb e)
      have hCw : C ∉ wr := hwrN C (List.mem_cons_of_mem _ (List.mem_cons_self))
      have hn₂ : h₂.Ns C m' := hnC.at' fun o e => hk₂ _ o hCw e
      have hal₂ : ∀ a ∈ D :: ownC scope C, ∃ o, h₂.get? a = some o := fun a ha => let ⟨o, ho⟩ := hal a ha; ⟨o, hk₂ a o (hwrN a ha) ho⟩
      refine comp_store (Y := ownC scope C) ok co hn₂ List.mem_cons_self (fun cc hcc => ⟨(ownC_of_lookup hcc).1, (ownC_of_lookup hcc).2, ?_⟩) fun h₃ tk₃ m₃ hn₃ hv₃ he₃ hal₃ hce₃ => ?_
      · obtain ⟨v0, o, ho, hd0⟩ := hce cc hcc
        exact ⟨v0, o, hk₂ cc o (hwrN cc (List.mem_cons_of_mem _ (ownC_of_lookup hcc).1)) ho, hd0⟩
      have hst₃ : St (i + 1) h₃ := W.frame _ _ _ hst₂ fun b hb o e => he₃ b o (fun q => hfpN b hb (List.mem_cons_of_mem _ q)) e
      have E3 : ExtB (D :: ownC scope C ++ wr) s₂.heap h₃ := fun b o nb e => he₃ b o (fun q => nb (List.mem_append_left _ (List.mem_cons_of_mem _ q))) (E2 b o nb e)
      have e1 := up1 E3
      have r3 : Rep c.T.p h₃ (D :: ownC scope C ++ wr ++ c.X) (enc a) v := (Rep.strong hX1 r0).ext e1
      have hal3 : ∀ a ∈ D :: ownC scope C, ∃ o, h₃.get? a = some o := fun a ha => hal₃ a (hal₂ a ha)
      have hXs : ∀ {h}, (∀ a ∈ D :: ownC scope C, ∃ o, h.get? a = some o) → St (i + 1) h → Ext h₁ h → ∀ a ∈ D :: ownC scope C ++ wr ++ c.X, ∃ o, h.get? a = some o := fun {h} q1 q2 q3 a ha => by
        rcases List.mem_append.mp ha with ha | ha
        · rcases List.mem_append.mp ha with ha | ha
          · exact q1 a ha
          · exact it.alive _ _ q2 a ha
        · obtain ⟨o, ho⟩ := ok.xs a ha
          exact ⟨o, q3 a o (it.old a o ho)⟩
      have ok' := cCx_ok ok co.kind co.free (it.old.trans e1) hXH (hXs hal3 hst₃ e1) hn₃ r3 hv₃
      have hA3 : AccP i h₃ := accM i h' h₃ hA fun k o nk e => he₃ k o (fun q => nk (List.mem_append_left _ q)) (hk₂ k o (fun q => nk (List.mem_append_right _ q)) e)
      refine htest a ha' C h₃ _ ok' { s₂ with heap := h₃, toks := tk₃ } _ _ (Ext.refl h₃) fun s₄ k₄ => ?_
      obtain ⟨h₄, tk₄, rfl, hk₄⟩ := k₄.is
      have hk₄ : Ext h₃ h₄ := hk₄
      have hA4 : AccP i h₄ := accM i h₃ h₄ hA3 hk₄.but
      have hal4 : ∀ a ∈ D :: ownC scope C, ∃ o, h₄.get? a = some o := fun a ha => let ⟨o, ho⟩ := hal3 a ha; ⟨o, hk₄ a o ho⟩
      have hst₄ : St (i + 1) h₄ := W.frame _ _ _ hst₃ fun b _ o e => hk₄ b o e
      have hce4 : ∀ cc, (cellsFrom (C + 1) scope.names []).lookup x = some cc → ∃ v0, h₄.IsCell cc v0 := fun cc hcc => let ⟨v0, hv0⟩ := hce₃ cc hcc; ⟨v0, hv0.keeps hk₄⟩
      cases hb : b a with
      | false =>
        simp only [Bool.false_eq_true, if_false]
        exact ⟨src.length + 1 - (i + 1), by omega, h₄, tk₄, m₃, i + 1, rfl, hlt, rfl, hst₄, accSkip i a h₄ ha hb hA4, hn₃.keeps hk₄, E3.trans hk₄.but, hal4, hce4⟩
      | true =>
        simp only [if_true]
        have e4 : Ext h₁ h₄ := e1.trans hk₄
        have hv4 : VarIs (cEnv scope c.env C) h₄ m₃ x v := ⟨hv₃.1, fun q => let ⟨cc, q1, q2⟩ := hv₃.2 q; ⟨cc, q1, q2.keeps hk₄⟩⟩
        have ok4 := cCx_ok ok co.kind co.free (it.old.trans e4) hXH (hXs hal4 hst₄ e4) (hn₃.keeps hk₄) (r3.ext hk₄) hv4
        refine hemit i a v m₃ { s₂ with heap := h₄, toks := tk₄ } _ _ ha hb ok4 (hn₃.keeps hk₄) (r3.ext hk₄) hv4 hA4 (it.old.trans e4) hal4 hce4 fun h₅ tk₅ m₅ hn₅ he₅ hA₅ hal₅ hce₅ => ?_
        have he₅ : ExtB (D :: ownC scope C) h₄ h₅ := he₅
        exact ⟨src.length + 1 - (i + 1), by omega, h₅, tk₅, m₅, i + 1, rfl, hlt, rfl, W.frame _ _ _ hst₄ fun b hb' o e => he₅ b o (hfpN b hb') e, hA₅, hn₅, (E3.trans hk₄.but).trans (he₅.mono fun k hk => List.mem_append_left _ hk), hal₅, hce₅⟩
    · have hin : i = src.length := by omega
      subst hin
      refine W.done _ _ _ hst fun h₂ tk₂ hk₂ => ?_
      exact hR h₂ tk₂ m' (hnC.at' fun o e => hk₂ _ o (hwrN C (List.mem_cons_of_mem _ List.mem_cons_self)) e) (accM _ _ _ hA fun k o nk e => hk₂ k o (fun q => nk (List.mem_append_right _ q)) e) fun k o nk e => hk₂ k o (fun q => nk (List.mem_append_right _ q)) (hext k o nk e)
  · obtain ⟨h0, tk0, rfl, e0⟩ := hs
    exact ⟨h0, tk0, m, 0, rfl, Nat.zero_le _, rfl, W.frame _ _ _ it.st fun b _ o e => e0 b o e, hacc, hn, e0.but, halive, hcell⟩
end
end Mine
namespace Mine
open PySem PySem.Spec PySem.Calls PyProof.Rows PySem.W

/-- {k(x): v(x) for x in ..}: what it makes -/
def tabT {α : Type} (kf vf : α → Nat) (src : List α) : List (Nat × Nat) := src.foldl (fun acc a => putT acc (kf a) (vf a)) []
theorem tabT_len {α : Type} (kf vf : α → Nat) : ∀ (src : List α) (t : List (Nat × Nat)), (src.foldl (fun acc a => putT acc (kf a) (vf a)) t).length ≤ t.length + src.length
  | [], t => by simp
  | a :: src, t => by
    have h1 := tabT_len kf vf src (putT t (kf a) (vf a))
    have h2 := putT_len t (kf a) (vf a)
    rw [List.foldl_cons, List.length_cons]
    omega
section
variable {c : Cx} {kx vx iter : Expr} {x : Str} {px : Pos} {scope : Scope} {pos : Pos} {E : Value → Shared → Prop}

theorem dcomp_block {α : Type} (enc : α → AV) (src : List α) (kf vf : α → Nat) {RR : Value → Addr → Result → Shared → Prop} {s₂ : Shared} {h₁ : Heap} {I : Addr} {fp wr : List Addr} {P : Nat → Value → Prop} {St : Nat → Heap → Prop}
    (ok : c.Ok) (co : CompOk c scope x) (it : It c (src.map enc) h₁ s₂ I fp wr P St)
    (hkey : ∀ a ∈ src, ∀ C H X', (cCx c scope x (enc a) C H X').Ok → PE (cCx c scope x (enc a) C H X') kx (eN (kf a)))
    (hval : ∀ a ∈ src, ∀ C H X', (cCx c scope x (enc a) C H X').Ok → PE (cCx c scope x (enc a) C H X') vx (eN (vf a)))
    (hR : ∀ D C h' tk m' kvs, s₂.heap.objs.size ≤ D → D < C → h'.Ns C m' → h'.DictOf (intKind c.T.p.1 c.T.p.2) D kvs → kvs.length ≤ big → RepD (eT (tabT kf vf src)) kvs → ExtB (D :: ownC scope C ++ wr) s₂.heap h' →
      RR (.ref D) C (.ok .next) { s₂ with heap := h', toks := tk }) :
    wpAny c.M c.A newDict (fun acc s₃ => wpAny c.M c.A (newFunctionEnv scope c.env.globals (clOf scope.names c.env.cells []) [] c.env.qual none .none (some c.env)) (fun cenv s₄ =>
      codeAny c.M c.A (.compStart (.DictComp kx vx [⟨.Name x px, iter, [], 0⟩] scope pos) 0 (.ref I) acc { cenv with scope := relabel scope c.env }) (RR acc cenv.locals) s₄) E s₃) E s₂ := by
  refine wpAny_newObj_type (newCompEnv ?_)
  dsimp only
  have hnew : (s₂.heap.push { cls := .type "dict", dict := none, data := .dict #[] }).DictOf (intKind c.T.p.1 c.T.p.2) s₂.heap.objs.size [] := Heap.DictOf.new s₂.heap
  generalize hH2 : s₂.heap.push { cls := .type "dict", dict := none, data := .dict #[] } = H2 at hnew ⊢
  have hC : H2.objs.size = s₂.heap.objs.size + 1 := by rw [← hH2, Heap.size_push]
  have hDC : s₂.heap.objs.size < H2.objs.size := by rw [hC]; exact Nat.lt_succ_self _
  have eH : Ext H2 (pushCells (H2.push { cls := .type "dict", data := .dict #[] }) scope.names) := fun b o e => pushCells_keeps _ _ b o (Heap.get?_push_of_some _ e)
  have e0 : Ext s₂.heap (pushCells (H2.push { cls := .type "dict", data := .dict #[] }) scope.names) := fun b o e => eH b o (hH2 ▸ Heap.get?_push_of_some _ e)
  have okc := cellsFrom_ok scope.names (H2.push { cls := .type "dict", data := .dict #[] }) (H2.objs.size + 1) [] ⟨fun _ _ hm => (nomatch hm), List.Pairwise.nil⟩ (by rw [Heap.size_push]; exact Nat.le_refl _)
  rw [Heap.size_push] at okc
  have hD0 := hnew.at fun o e => eH _ o e
  have hn0 : (pushCells (H2.push { cls := .type "dict", data := .dict #[] }) scope.names).Ns H2.objs.size (fun _ => none) := (Heap.Ns.new H2 (.type "dict")).keeps (pushCells_keeps _ _)
  have hDo : s₂.heap.objs.size ∉ ownC scope H2.objs.size := fun h => absurd (ownC_ge h) (Nat.not_le.mpr hDC)
  have hDw : s₂.heap.objs.size ∉ wr := fun h => absurd (it.lt _ (it.walks.sub _ h)) (Nat.lt_irrefl _)
  have hsm : src.length ≤ big := by have := it.small; rwa [List.length_map] at this
  have bl := big_le
  have loop : ∀ s : Shared, s = { s₂ with heap := pushCells (H2.push { cls := .type "dict", data := .dict #[] }) scope.names } →
      codeAny c.M c.A (.compLoop (.DictComp kx vx [⟨.Name x px, iter, [], 0⟩] scope pos) 0 (.ref I) (.ref s₂.heap.objs.size) (cEnv scope c.env H2.objs.size)) (RR (.ref s₂.heap.objs.size) H2.objs.size) s := by
    rintro s rfl
    refine comp_loopG enc src (fun _ => true) (fun i h => ∃ kvs, h.DictOf (intKind c.T.p.1 c.T.p.2) s₂.heap.objs.size kvs ∧ RepD (eT (tabT kf vf (src.take i))) kvs) (PySem.compTurn_dict ..) rfl rfl rfl ok co it (fun a _ C H X' _ => PTs.nil) ?_ (fun i a h _ q => by cases q) ?_ (Nat.le_refl _) hDC ⟨_, _, rfl, e0⟩ ?_ ⟨[], hD0, rfl⟩ hn0 (fun cc hcc => ⟨none, (okc.empty _ _ (mem_of_lookup hcc)).1⟩) ?_
    · rintro i h h' ⟨kvs, hd, hr⟩ e
      exact ⟨kvs, hd.at fun o q => e _ o (fun hm => by rcases List.mem_append.mp hm with hm | hm; exact hDo hm; exact hDw hm) q, hr⟩
    · intro i a v m s Q E ha _ ok' hn hrv hv ⟨kvs, hd, hr⟩ _ hal hce K
      have ha' := List.mem_of_getElem? ha
      refine wpAny_bind (hkey a ha' _ _ _ ok' s _ _ (Ext.refl _) fun kv s4 k4 ⟨t4, e4⟩ => ?_)
      refine wpAny_bind (wpAny_holding (hval a ha' _ _ _ ok' s4 _ _ k4.ext fun vv s5 k5 ⟨t5, e5⟩ => ?_))
      subst e4; subst e5
      refine wpAny_bind (wpAny_standAt (wpAny_holding ?_))
      have kk := k4.trans k5
      have hd5 : s5.heap.DictOf (intKind c.T.p.1 c.T.p.2) s₂.heap.objs.size kvs := hd.at fun o e => kk.ext _ o e
      have hl := tabT_len kf vf (src.take i) []
      have hlen : kvs.length = (tabT kf vf (src.take i)).length := by rw [hr.length]; simp [eT]
      rw [List.length_take] at hl
      have hnod : (kvs.map (·.1)).Nodup := by obtain ⟨_, _, _, _, _, _, _, _, q⟩ := hd; exact q
      refine wpAny_dictSet_pairs (knd := intKind c.T.p.1 c.T.p.2) (k := (kf a : Int)) (intKind_is _ _ _ _) hd5 (fun h' hd' hs' => ?_) (by unfold tabT at hlen; simp at hl; omega)
      obtain ⟨h5, tk5, e5, hk5⟩ := kk.is
      subst e5
      have hk5 : Ext s.heap h5 := hk5
      have hs' : Heap.SameBut s₂.heap.objs.size h5 h' := hs'
      have := K h' (tk5 + 1) m ((hn.keeps hk5).sameBut hs' (Nat.ne_of_gt hDC)) (fun b o nb e => hs'.extBut b o (fun q => nb (q ▸ List.mem_cons_self)) (hk5 b o e)) ⟨_, hd', by
        have e : tabT kf vf (src.take (i + 1)) = putT (tabT kf vf (src.take i)) (kf a) (vf a) := foldl_take_succ ha
        rw [e]; exact stored_rep hnod hr⟩ (fun b hb => ?_) (fun cc hcc => ?_)
      · exact this
      · by_cases q : b = s₂.heap.objs.size
        · subst q; obtain ⟨o, _, _, ho, _⟩ := hd'; exact ⟨o, ho⟩
        · obtain ⟨o, ho⟩ := hal b hb
          exact ⟨o, (hs'.2 b q).trans (hk5 b o ho)⟩
      · obtain ⟨v0, o, ho, hd0⟩ := hce cc hcc
        exact ⟨v0, o, (hs'.2 cc (fun q => hDo (q ▸ (ownC_of_lookup hcc).1))).trans (hk5 cc o ho), hd0⟩
    · intro a ha
      rcases List.mem_cons.mp ha with rfl | ha
      · obtain ⟨o, _, _, ho, _⟩ := hD0; exact ⟨o, ho⟩
      rcases List.mem_cons.mp ha with rfl | ha
      · obtain ⟨o, _, _, ho, _⟩ := hn0; exact ⟨o, ho⟩
      · obtain ⟨⟨y, a'⟩, hm, rfl⟩ := List.mem_map.mp ha
        obtain ⟨⟨o, ho, _⟩, _⟩ := okc.empty y a' hm
        exact ⟨o, ho⟩
    · rintro h' tk m' hn ⟨kvs, hd, hr⟩ he
      rw [List.take_length] at hr
      refine hR _ _ h' tk m' kvs (Nat.le_refl _) hDC hn hd ?_ hr he
      have hl := tabT_len kf vf src []
      have : kvs.length = (tabT kf vf src).length := by rw [hr.length]; simp [eT]
      unfold tabT at this
      simp at hl; omega
  exact codeAny_compStart_dict (loop _ rfl) (it.walks.self 0 _ _ _ (it.walks.frame _ _ _ it.st fun b _ o e => e0 b o e) (loop _ rfl))
end
end Mine
namespace Mine
open PySem PySem.Spec PySem.Calls PyProof.Rows PySem.W

section
variable {F : Fx} {Ω : List OwnD} {s₀ s : Shared} {ρ : List (Str × AV)} {E : Value → Shared → Prop} {Q : Flow → Shared → Prop} {rest : List Stmt} {pos : Pos}
theorem new_of {s s' : Shared} (k1 : Kp s s') {a : Addr} (h : s'.heap.objs.size ≤ a) : s.heap.get? a = none := by
  cases q : s.heap.get? a with
  | none => rfl
  | some o => exact absurd (Heap.lt_size (k1.ext a o q)) (Nat.not_lt.mpr h)
theorem comp_kp {s s' : Shared} {h₁ h' : Heap} {tk : Nat} {D C : Addr} {scope : Scope} {wr : List Addr} (k1 : Kp s s') (e1 : Ext s.heap h₁) (hw : ∀ b ∈ wr, h₁.get? b = none) (hD : s'.heap.objs.size ≤ D) (hDC : D < C) (he : ExtB (D :: ownC scope C ++ wr) s'.heap h') : Kp s { s' with heap := h', toks := tk } := by
  have hCs : s'.heap.objs.size ≤ C := Nat.le_trans hD (Nat.le_of_lt hDC)
  have nw : ∀ {a}, s'.heap.objs.size ≤ a → s.heap.get? a = none := fun h => new_of k1 h
  obtain ⟨h2, tk2, rfl, hk2⟩ := k1.is
  refine ⟨h', tk, rfl, fun a o ho => he a o (fun hm => ?_) (hk2 a o ho)⟩
  rcases List.mem_append.mp hm with hm | hm
  · rcases List.mem_cons.mp hm with rfl | hm
    · rw [nw hD] at ho; cases ho
    · rw [nw (Nat.le_trans hCs (ownC_ge hm))] at ho; cases ho
  · have := e1 a o ho; rw [hw a hm] at this; cases this

/-- y = {.. : .. for x in ..}, y a local name -/
theorem seq_dcomp {α : Type} (enc : α → AV) (src : List α) (kf vf : α → Nat) {kx vx iter : Expr} {x y : Str} {px py : Pos} {scope : Scope} {cpos : Pos} (f : F.Ok) (st : St F Ω s₀ ρ s) (hsys : ∃ o, s.heap.get? sysModules = some o) (co : CompOk (F.cx s.heap ρ) scope x) (hi : PI (F.cx s.heap ρ) iter (src.map enc))
    (hkey : ∀ a ∈ src, ∀ C H X', (cCx (F.cx s.heap ρ) scope x (enc a) C H X').Ok → PE (cCx (F.cx s.heap ρ) scope x (enc a) C H X') kx (eN (kf a)))
    (hval : ∀ a ∈ src, ∀ C H X', (cCx (F.cx s.heap ρ) scope x (enc a) C H X').Ok → PE (cCx (F.cx s.heap ρ) scope x (enc a) C H X') vx (eN (vf a)))
    (K : ∀ s', St F Ω s₀ ((y, .dict (eT (tabT kf vf src))) :: ρ) s' → wpAny F.M F.A (execs rest F.env) Q E s')
    (hsw : swapsWith (.DictComp kx vx [⟨.Name x px, iter, [], 0⟩] scope cpos) (some (.Name y py)) pos.line F.env = pure true := by rfl) (hk : F.env.kindOf y = some .local := by rfl)
    (hs : ∀ y, foldedSetIterable iter F.env y = pure y := by intro _; rfl) :
    wpAny F.M F.A (execs (.Assign [.Name y py] (.DictComp kx vx [⟨.Name x px, iter, [], 0⟩] scope cpos) pos :: rest) F.env) Q E s := by
  refine wpAny_execs_cons ?_
  rw [exec_Assign_Name_used _ _ _ _ hsw]
  refine wpAny_bind (wpAny_standAt (wpAny_bind ?_))
  show wpAny _ F.A (do let _ ← comprehension (.DictComp kx vx [⟨.Name x px, iter, [], 0⟩] scope cpos) scope F.env _ newDict false (eval iter F.env) (some (assign (.Name y py) F.env))) _ _ s
  refine wpAny_bind (wpAny_mono (wpAny_comprehension_free (use := some (assign (.Name y py) F.env)) (Q := fun _ s' => wpAny F.M F.A (execs rest F.env) Q E s') rfl hs (closureFor_eq co.free) co.kind (co_names co)
    (hi s _ _ (Ext.refl _) fun h₁ s' I fp wr P Stt e1 k1 it => ?_)) (fun _ s' hq => wpAny_pure (wpAny_pure hq)) fun _ _ e => e)
  refine dcomp_block (c := F.cx s.heap ρ) enc src kf vf (RR := fun acc C => compPost F.M F.A E (some (assign (.Name y py) F.env)) (fun _ s' => wpAny F.M F.A (execs rest F.env) Q E s') acc C) (st.ok f) co it hkey hval ?_
  intro D C h' tk m' kvs hD hDC hn hd hz hr he
  refine use_post f st (comp_kp k1 e1 it.new hD hDC he) (new_of k1 (Nat.le_trans hD (Nat.le_of_lt hDC))) hn ?_ (.inl hk) K
  refine ⟨D, kvs, rfl, fun hm => ?_, ?_, hd, hz, hr⟩
  · rcases List.mem_cons.mp hm with h | hm
    · exact absurd h (Nat.ne_of_lt hDC)
    · exact fresh_not st.xs (Ext.refl _) (new_of k1 hD) hm
  · cases q : D == sysModules with
    | false => rfl
    | true => obtain ⟨o, ho⟩ := hsys; have := new_of k1 hD; rw [beq_iff_eq.mp q, ho] at this; cases this
end

/-- one name more -/
def Cx.add (c : Cx) (y : Str) (d : AV) : Cx := { c with ρ := (y, d) :: c.ρ }
theorem Cx.Ok.add {c : Cx} {y : Str} {d : AV} {v : Value} {m : Str → Option Value} (ok : c.Ok) (hn : c.H.Ns c.env.locals m) (hy : c.env.kindOf y = some .local) (hm : m y = some v) (r : Rep c.T.p c.H c.X d v) : (c.add y d).Ok := by
  refine ⟨ok.top, ok.room, ok.old, ok.kind, ok.glob, ok.blt, ok.xs, m, hn, fun z dz hz => ?_⟩
  have hz' : ((y, d) :: c.ρ).lookup z = some dz := hz
  rw [List.lookup_cons] at hz'
  cases q : z == y with
  | true =>
    rw [q] at hz'; cases hz'
    have := beq_iff_eq.mp q
    subst this
    exact ⟨v, r, fun _ => hm, fun q => by rw [show (c.add z d).env.kindOf z = some .local from hy] at q; cases q⟩
  | false =>
    rw [q] at hz'
    obtain ⟨m0, hn0, hv0⟩ := ok.vars
    have em : m0 = m := hn0.eq_nsMap.trans hn.eq_nsMap.symm
    subst em
    exact hv0 z dz hz'

theorem compStart1 {prog : Program} {w : World} {A : Around} {R : Result → Shared → Prop} {s : Shared} {elt target iter target1 iter1 : Expr} {scope : Scope} {pos : Pos} {it acc : Value} {env : Env}
    (h0 : codeAny (model prog w) A (.compLoop (.ListComp elt [⟨target, iter, [], 0⟩, ⟨target1, iter1, [], 0⟩] scope pos) 1 it acc env) R s)
    (h : wpAny (model prog w) A (pyIter it) (fun it' s' => codeAny (model prog w) A (.compLoop (.ListComp elt [⟨target, iter, [], 0⟩, ⟨target1, iter1, [], 0⟩] scope pos) 1 it' acc env) R s')
      (notedBy (model prog w) A env fun x s' => R (.error x) s') s) :
    codeAny (model prog w) A (.compStart (.ListComp elt [⟨target, iter, [], 0⟩, ⟨target1, iter1, [], 0⟩] scope pos) 1 it acc env) R s := by
  refine codeAny_of_tree ?_
  show wpAny _ _ ((compStart (.ListComp elt [⟨target, iter, [], 0⟩, ⟨target1, iter1, [], 0⟩] scope pos) 1 it acc env).onRaise (fun x => do noteFrame x env; standAt theWindowsPlace)) _ _ s
  refine wpAny_notedAt ?_
  unfold compStart
  show wpAny _ _ (ask >>= _) _ _ s
  refine wpAny_bind (wpAny_askSetting (wpAny_ite ?_))
  split
  · first
      | exact wpAny_bind (wpAny_pure (wpAny_pure (And.intro rfl h0)))
      | exact wpAny_pure (And.intro rfl h0)
  · first
      | exact wpAny_bind (wpAny_rule (wpAny_bind (wpAny_standAt (wpAny_bind (wpAny_mono h (fun it' s' h' => wpAny_pure (And.intro rfl h')) fun _ _ x => x)))))
      | (refine wpAny_bind (wpAny_rule ?_); show wpAny _ _ (standAt iter1.pos >>= _) _ _ s; exact wpAny_bind (wpAny_standAt (wpAny_bind (wpAny_mono h (fun it' s' h' => wpAny_pure (And.intro rfl h')) fun _ _ x => x))))

theorem turn2_0a {elt target iter target1 iter1 : Expr} {scope : Scope} {pos : Pos} {it acc : Value} {env : Env} : compTurn (.ListComp elt [⟨target, iter, [], 0⟩, ⟨target1, iter1, [], 0⟩] scope pos) 0 it acc env = (do
      standAt iter.pos
      match ← pyNext it with
      | none => pure (.done .next)
      | some v =>
        letOwnedTupleGo target it v
        assign target env v
        let mut ok := true
        for c in ([] : List Expr) do
          if ok then ok ← isTrue c env (eval c env)
        if ok then
          let x ← eval iter1 env
          standAt iter1.pos
          let x ← foldedSetIterable iter1 env x
          let _ ← runOwn (.compStart (.ListComp elt [⟨target, iter, [], 0⟩, ⟨target1, iter1, [], 0⟩] scope pos) 1 (← holding [x] (pyIter x)) acc env) env
        again (.compLoop (.ListComp elt [⟨target, iter, [], 0⟩, ⟨target1, iter1, [], 0⟩] scope pos) 0 it acc env)) := by rfl
theorem turn2_0 {elt target iter target1 iter1 : Expr} {scope : Scope} {pos : Pos} {it acc : Value} {env : Env} : compTurn (.ListComp elt [⟨target, iter, [], 0⟩, ⟨target1, iter1, [], 0⟩] scope pos) 0 it acc env = (do
      standAt iter.pos
      match ← pyNext it with
      | none => pure (.done .next)
      | some v =>
        letOwnedTupleGo target it v
        assign target env v
        let mut ok := true
        for c in ([] : List Expr) do
          if ok then ok ← isTrue c env (eval c env)
        if ok then (do
          let x ← eval iter1 env
          standAt iter1.pos
          let x ← foldedSetIterable iter1 env x
          let _ ← runOwn (.compStart (.ListComp elt [⟨target, iter, [], 0⟩, ⟨target1, iter1, [], 0⟩] scope pos) 1 (← holding [x] (pyIter x)) acc env) env)
        again (.compLoop (.ListComp elt [⟨target, iter, [], 0⟩, ⟨target1, iter1, [], 0⟩] scope pos) 0 it acc env)) := by
  rw [turn2_0a]
  simp only [bind_assoc]
  first | rfl | skip
theorem turn2_1 {elt target iter target1 iter1 : Expr} {scope : Scope} {pos : Pos} {it acc : Value} {env : Env} : compTurn (.ListComp elt [⟨target, iter, [], 0⟩, ⟨target1, iter1, [], 0⟩] scope pos) 1 it acc env = (do
      standAt iter1.pos
      match ← pyNext it with
      | none => pure (.done .next)
      | some v =>
        letOwnedTupleGo target1 it v
        assign target1 env v
        let mut ok := true
        for c in ([] : List Expr) do
          if ok then ok ← isTrue c env (eval c env)
        if ok then (do let _ ← call (.builtin "list.append") [acc, ← eval elt env])
        again (.compLoop (.ListComp elt [⟨target, iter, [], 0⟩, ⟨target1, iter1, [], 0⟩] scope pos) 1 it acc env)) := by rfl
end Mine
namespace Mine
open PySem PySem.Spec PySem.Calls PyProof.Rows PySem.W

section
variable {c : Cx} {elt iter iter1 : Expr} {x y : Str} {px py : Pos} {scope : Scope} {pos : Pos}

/-- the inner loop of two clauses -/
theorem inner2 {β : Type} (enc2 : β → AV) (src2 : List β) (g : β → AV) {d : AV} {C D : Addr} {wr : List Addr} {s : Shared} {m : Str → Option Value} {v : Value} {outs : List AV} {ys : List Value} {Q : Unit → Shared → Prop} {E : Value → Shared → Prop}
    (ok : c.Ok) (co : CompOk c scope x) (hxl : scope.names.lookup x = some .local) (hyl : scope.names.lookup y = some .local) (hxy : y ≠ x) (hDC : D < C)
    (oke : (cCx c scope x d C s.heap (D :: ownC scope C ++ wr ++ c.X)).Ok) (hcH : Ext c.H s.heap) (hXH : ∀ a ∈ D :: ownC scope C ++ wr ++ c.X, c.H.get? a = none ∨ a ∈ c.X) (hnew : ∀ a ∈ D :: ownC scope C, c.H.get? a = none) (hn : s.heap.Ns C m) (hrv : Rep c.T.p s.heap (D :: ownC scope C ++ wr ++ c.X) d v) (hv : VarIs (cEnv scope c.env C) s.heap m x v)
    (hD : s.heap.PlainList D (List.toArray ys)) (hrep : RepL c.T.p s.heap (D :: ownC scope C ++ wr ++ c.X) outs ys) (hsz : ys.length + src2.length ≤ big) (hal : ∀ a ∈ D :: ownC scope C, ∃ o, s.heap.get? a = some o)
    (hcells : ∀ cc, (cellsFrom (C + 1) scope.names []).lookup x = some cc → ∃ v0, s.heap.IsCell cc v0)
    (hin : PI (cCx c scope x d C s.heap (D :: ownC scope C ++ wr ++ c.X)) iter1 (src2.map enc2))
    (helt : ∀ a ∈ src2, ∀ H X', ((cCx c scope x d C H X').add y (enc2 a)).Ok → PE ((cCx c scope x d C H X').add y (enc2 a)) elt (g a))
    (K : ∀ h' tk m' zs, h'.Ns C m' → ExtB (D :: ownC scope C) s.heap h' → h'.PlainList D (List.toArray zs) → RepL c.T.p h' (D :: ownC scope C ++ wr ++ c.X) (outs ++ src2.map g) zs → (∀ a ∈ D :: ownC scope C, ∃ o, h'.get? a = some o) →
      (∀ cc, (cellsFrom (C + 1) scope.names []).lookup x = some cc → ∃ v0, h'.IsCell cc v0) → Q () { s with heap := h', toks := tk })
    (hs : ∀ z, foldedSetIterable iter1 (cEnv scope c.env C) z = pure z) :
    wpAny c.M c.A (do
      let x0 ← eval iter1 (cEnv scope c.env C)
      standAt iter1.pos
      let x0 ← foldedSetIterable iter1 (cEnv scope c.env C) x0
      let _ ← runOwn (.compStart (.ListComp elt [⟨.Name x px, iter, [], 0⟩, ⟨.Name y py, iter1, [], 0⟩] scope pos) 1 (← holding [x0] (pyIter x0)) (.ref D) (cEnv scope c.env C)) (cEnv scope c.env C)) Q E s := by
  have hxk : (cEnv scope c.env C).kindOf x = some .local := lookup_relabel_local hxl
  have hyk : (cEnv scope c.env C).kindOf y = some .local := lookup_relabel_local hyl
  have hkind : (cEnv scope c.env C).scope.kind = .function := co.kind
  have hmx : m x = some v := hv.1 hxk
  have hDo : D ∉ ownC scope C := fun h => absurd (ownC_ge h) (Nat.not_le.mpr hDC)
  have hDne : C ≠ D := Nat.ne_of_gt hDC
  refine wpAny_bind (wpAny_mono (hin s (fun it s' => ∃ h₁ fp wr1 P St I, it = .ref I ∧ Ext s.heap h₁ ∧ Kp s s' ∧ It (cCx c scope x d C s.heap (D :: ownC scope C ++ wr ++ c.X)) (src2.map enc2) h₁ s' I fp wr1 P St) (fun _ _ => False) (Ext.refl _) fun h₁ s' I fp wr1 P St e1 k1 it => ⟨h₁, fp, wr1, P, St, I, rfl, e1, k1, it⟩) (fun xv s₁ h₁' => ?_) fun _ _ h => h.elim)
  refine wpAny_bind (wpAny_standAt (wpAny_bind (wpAny_of_eq (hs xv) (wpAny_bind (wpAny_holding (wpAny_mono h₁' (fun itv s' hit => ?_) fun _ _ h => h.elim))))))
  obtain ⟨h₁, fp, wr1, P, St, I, rfl, e1, k1, it⟩ := hit
  have W := it.walks
  have hlen : (src2.map enc2).length = src2.length := List.length_map ..
  rw [hlen] at W
  have notX : ∀ b ∈ fp, b ∉ D :: ownC scope C ++ wr ++ c.X := it.notX
  have fpN : ∀ b ∈ fp, b ∉ D :: ownC scope C := fun b hb hm => notX b hb (List.mem_append_left _ (List.mem_append_left _ hm))
  have hCN : C ∈ D :: ownC scope C := List.mem_cons_of_mem _ List.mem_cons_self
  have wrN : ∀ a ∈ D :: ownC scope C, a ∉ wr1 := fun a ha hm => fpN a (W.sub a hm) ha
  have w0 : ∀ a ∈ wr1, s.heap.get? a = none := fun a ha => by
    cases q : s.heap.get? a with
    | none => rfl
    | some o => have := e1 a o q; rw [it.new a ha] at this; cases this
  have X2s : ∀ a ∈ wr1 ++ (D :: ownC scope C ++ wr ++ c.X), s.heap.get? a = none ∨ a ∈ D :: ownC scope C ++ wr ++ c.X := fun a ha => by
    rcases List.mem_append.mp ha with ha | ha
    · exact .inl (w0 a ha)
    · exact .inr ha
  have X2h : ∀ a ∈ wr1 ++ (D :: ownC scope C ++ wr ++ c.X), h₁.get? a = none ∨ a ∈ D :: ownC scope C ++ wr ++ c.X := fun a ha => by
    rcases List.mem_append.mp ha with ha | ha
    · exact .inl (it.new a ha)
    · exact .inr ha
  have X2c : ∀ a ∈ wr1 ++ (D :: ownC scope C ++ wr ++ c.X), c.H.get? a = none ∨ a ∈ c.X := fun a ha => by
    rcases List.mem_append.mp ha with ha | ha
    · left
      cases q : c.H.get? a with
      | none => rfl
      | some o => have := hcH a o q; rw [w0 a ha] at this; cases this
    · exact hXH a ha
  have cH : ∀ a ∈ C :: D :: wr1, c.H.get? a = none := fun a ha => by
    rcases List.mem_cons.mp ha with rfl | ha
    · exact hnew _ hCN
    rcases List.mem_cons.mp ha with rfl | ha
    · exact hnew _ List.mem_cons_self
    · cases q : c.H.get? a with
      | none => rfl
      | some o => have := hcH a o q; rw [w0 a ha] at this; cases this
  have subX : ∀ a ∈ C :: D :: wr1, a ∈ wr1 ++ (D :: ownC scope C ++ wr ++ c.X) := fun a ha => by
    rcases List.mem_cons.mp ha with rfl | ha
    · exact List.mem_append_right _ (List.mem_append_left _ (List.mem_append_left _ hCN))
    rcases List.mem_cons.mp ha with rfl | ha
    · exact List.mem_append_right _ (List.mem_append_left _ (List.mem_append_left _ List.mem_cons_self))
    · exact List.mem_append_left _ ha
  have hcS : Ext c.H s'.heap := hcH.trans k1.ext
  have upc : ∀ {h' : Heap}, ExtB (C :: D :: wr1) s'.heap h' → Ext c.H h' := fun {h'} e a o ho => e a o (fun hm => by rw [cH a hm] at ho; cases ho) (hcS a o ho)
  have bl := big_le
  have loop : ∀ s3 : Shared, (∃ h tk, s3 = { s' with heap := h, toks := tk } ∧ h = s'.heap) → codeAny c.M c.A (.compLoop (.ListComp elt [⟨.Name x px, iter, [], 0⟩, ⟨.Name y py, iter1, [], 0⟩] scope pos) 1 (.ref I) (.ref D) (cEnv scope c.env C)) (fun r s'' => match r with | .ok f => Q () s'' | .error e => False) s3 := by
    rintro s3 ⟨_, tk0, rfl, rfl⟩
    refine compLoop_gen (turn2_1) (fun n s'' => ∃ h' tk m' zs j, s'' = { s' with heap := h', toks := tk } ∧ j ≤ src2.length ∧ n = src2.length + 1 - j ∧ St j h' ∧ h'.PlainList D (List.toArray zs) ∧ zs.length = ys.length + j ∧
      RepL c.T.p h' (wr1 ++ (D :: ownC scope C ++ wr ++ c.X)) (outs ++ (src2.take j).map g) zs ∧ h'.Ns C m' ∧ m' x = some v ∧ ExtB (C :: D :: wr1) s'.heap h' ∧ (∀ a ∈ D :: ownC scope C, ∃ o, h'.get? a = some o)) ?_ (src2.length + 1) ?_
    · rintro n s'' ⟨h', tk, m', zs, j, rfl, hj, rfl, hst, hDl, hzl, hr, hnC, hm', hext, halv⟩
      by_cases hlt : j < src2.length
      · refine W.item j _ _ _ hlt hst fun v2 h₂ tk₂ hP hst₂ hk₂ => ?_
        obtain ⟨d2, hd2, r0⟩ := it.items j v2 (by rw [hlen]; exact hlt) hP
        obtain ⟨a, ha, rfl⟩ := get_map_some hd2
        have ha' : a ∈ src2 := List.mem_of_getElem? ha
        have hk₂ : ExtB wr1 h' h₂ := hk₂
        have hn₂ : h₂.Ns C m' := hnC.at' fun o e => hk₂ _ o (wrN C hCN) e
        have hal₂ : ∀ a ∈ D :: ownC scope C, ∃ o, h₂.get? a = some o := fun a ha => let ⟨o, ho⟩ := halv a ha; ⟨o, hk₂ a o (wrN a ha) ho⟩
        refine wpAny_assign_Name (wpAny_storeName_local hyk hn₂ (fun h₃ hn₃ hs₃ => ?_) (by rw [hkind]; rfl))
        have hs₃ : Heap.SameBut C h₂ h₃ := hs₃
        have hal₃ : ∀ a ∈ D :: ownC scope C, ∃ o, h₃.get? a = some o := fun a ha => by
          by_cases q : a = C
          · subst q; obtain ⟨o, _, _, ho, _⟩ := hn₃; exact ⟨o, ho⟩
          · obtain ⟨o, ho⟩ := hal₂ a ha; exact ⟨o, (hs₃.2 a q).trans ho⟩
        have hst₃ : St (j + 1) h₃ := W.frame _ _ _ hst₂ fun b hb o e => (hs₃.2 b fun q => fpN b hb (q ▸ hCN)).trans e
        have E3' : ExtB (C :: D :: wr1) h' h₃ := fun b o nb e => hs₃.extBut b o (fun q => nb (q ▸ List.mem_cons_self)) (hk₂ b o (fun q => nb (List.mem_cons_of_mem _ (List.mem_cons_of_mem _ q))) e)
        have E3 : ExtB (C :: D :: wr1) s'.heap h₃ := hext.trans E3'
        have xs3 : ∀ a ∈ wr1 ++ (D :: ownC scope C ++ wr ++ c.X), ∃ o, h₃.get? a = some o := fun a ha => by
          rcases List.mem_append.mp ha with ha | ha
          · exact it.alive _ _ hst₃ a ha
          · obtain ⟨o, ho⟩ := oke.xs a ha
            by_cases q : a ∈ C :: D :: wr1
            · rcases List.mem_cons.mp q with rfl | q
              · exact hal₃ _ hCN
              rcases List.mem_cons.mp q with rfl | q
              · exact hal₃ _ List.mem_cons_self
              · exact it.alive _ _ hst₃ a q
            · exact ⟨o, E3 a o q (k1.ext a o ho)⟩
        have rd3 : Rep c.T.p h₃ (wr1 ++ (D :: ownC scope C ++ wr ++ c.X)) d v := ((Rep.strong X2s hrv).ext k1.ext).mono (E3.mono subX)
        have ra3 : Rep c.T.p h₃ (wr1 ++ (D :: ownC scope C ++ wr ++ c.X)) (enc2 a) v2 := ((Rep.strong X2h r0).ext it.up).mono (E3.mono subX)
        have hmx3 : (if x = y then some v2 else m' x) = some v := by rw [if_neg (fun e => hxy e.symm)]; exact hm'
        have okx := cCx_ok (c := c) (scope := scope) (x := x) (d := d) (C := C) ok co.kind co.free (upc E3) X2c xs3 hn₃ rd3 ⟨fun _ => hmx3, fun q => by rw [hxk] at q; cases q⟩
        have ok2 := okx.add (y := y) (d := enc2 a) hn₃ hyk (by simp) ra3
        have hD3 : h₃.PlainList D (List.toArray zs) := (hDl.at fun o e => hk₂ _ o (wrN D List.mem_cons_self) e).at fun o e => hs₃.extBut _ o (Ne.symm hDne) e
        have hr3 : RepL c.T.p h₃ (wr1 ++ (D :: ownC scope C ++ wr ++ c.X)) (outs ++ (src2.take j).map g) zs := hr.mono (E3'.mono subX)
        rw [List.forIn_nil]
        refine wpAny_pure ?_
        simp only [if_true]
        refine wpAny_bind (helt a ha' h₃ _ ok2 { s' with heap := h₃, toks := _ } _ _ (Ext.refl h₃) fun yv s₅ k₅ r₅ => ?_)
        obtain ⟨h₅, tk₅, rfl, hk₅⟩ := k₅.is
        have hk₅ : Ext h₃ h₅ := hk₅
        refine wpAny_bind (wpAny_list_append_plain (hsz := by simp; omega) (hD3.at fun o e => hk₅ _ o e) fun h₆ hl₆ hs₆ => wpAny_pure ?_)
        have hs₆ : Heap.SameBut D h₅ h₆ := hs₆
        have e6 : ExtB (C :: D :: wr1) h₅ h₆ := ExtB.of_same hs₆ (List.mem_cons_of_mem _ List.mem_cons_self)
        refine ⟨src2.length + 1 - (j + 1), by omega, h₆, tk₅, _, zs ++ [yv], j + 1, rfl, hlt, rfl, W.frame _ _ _ hst₃ fun b hb' o e => hs₆.extBut b o (fun q => fpN b hb' (q ▸ List.mem_cons_self)) (hk₅ b o e), by simpa using hl₆, by simp; omega, ?_, (hn₃.keeps hk₅).sameBut hs₆ hDne, hmx3, (E3.trans hk₅.but).trans e6, fun b hb => ?_⟩
        · have htake : src2.take (j + 1) = src2.take j ++ [a] := by rw [List.take_add_one, ha]; rfl
          rw [htake, List.map_append, ← List.append_assoc outs]
          exact RepL.append ((hr3.ext hk₅).mono (e6.mono subX)) (RepL.cons (r₅.mono (e6.mono subX)) RepL.nil)
        · by_cases q : b = D
          · subst q; obtain ⟨n, gg⟩ := hl₆; exact ⟨_, gg⟩
          · obtain ⟨o, ho⟩ := hal₃ b hb
            exact ⟨o, (hs₆.2 b q).trans (hk₅ b o ho)⟩
      · have hin' : j = src2.length := by omega
        subst hin'
        refine W.done _ _ _ hst fun h₂ tk₂ hk₂ => ?_
        have hk₂ : ExtB wr1 h' h₂ := hk₂
        rw [List.take_length] at hr
        have e2 : ExtB (C :: D :: wr1) s'.heap h₂ := fun b o nb e => hk₂ b o (fun q => nb (List.mem_cons_of_mem _ (List.mem_cons_of_mem _ q))) (hext b o nb e)
        have eS : ExtB (D :: ownC scope C) s.heap h₂ := fun b o nb e => e2 b o (fun hm => by
          rcases List.mem_cons.mp hm with rfl | hm
          · exact nb hCN
          rcases List.mem_cons.mp hm with rfl | hm
          · exact nb List.mem_cons_self
          · rw [w0 b hm] at e; cases e) (k1.ext b o e)
        have := K h₂ tk₂ m' zs (hnC.at' fun o e => hk₂ _ o (wrN C hCN) e) eS (hDl.at fun o e => hk₂ _ o (wrN D List.mem_cons_self) e) ((hr.mono (X := wr1 ++ (D :: ownC scope C ++ wr ++ c.X)) fun b o nb e => hk₂ b o (fun q => nb (List.mem_append_left _ q)) e).weak fun b hb => List.mem_append_right _ hb)
          (fun a ha => let ⟨o, ho⟩ := halv a ha; ⟨o, hk₂ a o (wrN a ha) ho⟩) (fun cc hcc => by
            obtain ⟨v0, o, ho, hd0⟩ := hcells cc hcc
            obtain ⟨q1, q2⟩ := ownC_of_lookup hcc
            exact ⟨v0, o, e2 cc o (fun hm => by
              rcases List.mem_cons.mp hm with q | hm
              · exact q2 q
              rcases List.mem_cons.mp hm with q | hm
              · exact hDo (q ▸ q1)
              · exact wrN cc (List.mem_cons_of_mem _ q1) hm) (k1.ext _ _ ho), hd0⟩)
        obtain ⟨hq, tq, eq, _⟩ := k1.is
        rw [eq]
        exact this
    · exact ⟨s'.heap, tk0, m, ys, 0, rfl, Nat.zero_le _, rfl, it.st, hD.at fun o e => k1.ext _ o e, rfl, by simpa using (RepL.strong X2s hrep).ext k1.ext, hn.keeps k1.ext, hmx, ExtB.refl _ _, fun a ha => let ⟨o, ho⟩ := hal a ha; ⟨o, k1.ext a o ho⟩⟩
  have lp := loop s' ⟨_, _, rfl, rfl⟩
  refine wpAny_bind (wpAny_runOwn (codeAny_mono (compStart1 (R := fun r s'' => match r with | .ok f => Q () s'' | .error e => False) lp (it.walks.self 0 _ _ _ it.st lp)) fun r s'' hr => ?_))
  cases r with
  | error e => exact hr.elim
  | ok f => exact wpAny_pure hr
end
end Mine
namespace Mine
open PySem PySem.Spec PySem.Calls PyProof.Rows PySem.W

theorem flatMap_take_succ {α β : Type} {f : α → List β} {l : List α} {i : Nat} {a : α} (h : l[i]? = some a) : (l.take (i + 1)).flatMap f = (l.take i).flatMap f ++ f a := by
  rw [List.take_add_one, h, List.flatMap_append]; simp
theorem flatMap_take_le {α β : Type} {f : α → List β} (l : List α) (i : Nat) : ((l.take i).flatMap f).length ≤ (l.flatMap f).length := by
  have h : l.flatMap f = (l.take i).flatMap f ++ (l.drop i).flatMap f := by rw [← List.flatMap_append, List.take_append_drop]
  rw [h, List.length_append]; omega

section
variable {c : Cx} {elt iter iter1 : Expr} {x y : Str} {px py : Pos} {scope : Scope} {pos : Pos} {E : Value → Shared → Prop}

theorem comp2_block {α β : Type} (enc : α → AV) (src : List α) (enc2 : β → AV) (src2 : α → List β) (g : α → β → AV) {RR : Value → Addr → Result → Shared → Prop} {s₂ : Shared} {h₁ : Heap} {I : Addr} {fp wr : List Addr} {P : Nat → Value → Prop} {St : Nat → Heap → Prop}
    (ok : c.Ok) (co : CompOk c scope x) (hxl : scope.names.lookup x = some .local) (hyl : scope.names.lookup y = some .local) (hxy : y ≠ x) (htot : (src.flatMap fun a => (src2 a).map (g a)).length ≤ big) (it : It c (src.map enc) h₁ s₂ I fp wr P St)
    (hin : ∀ a ∈ src, ∀ C H X', (cCx c scope x (enc a) C H X').Ok → PI (cCx c scope x (enc a) C H X') iter1 ((src2 a).map enc2))
    (helt : ∀ a ∈ src, ∀ b ∈ src2 a, ∀ C H X', ((cCx c scope x (enc a) C H X').add y (enc2 b)).Ok → PE ((cCx c scope x (enc a) C H X').add y (enc2 b)) elt (g a b))
    (hs1 : ∀ C z, foldedSetIterable iter1 (cEnv scope c.env C) z = pure z)
    (hR : ∀ D C h' tk m' ys, s₂.heap.objs.size ≤ D → D < C → h'.Ns C m' → h'.PlainList D (List.toArray ys) → ys.length ≤ big → RepL c.T.p h' (D :: ownC scope C ++ wr ++ c.X) (src.flatMap fun a => (src2 a).map (g a)) ys → ExtB (D :: ownC scope C ++ wr) s₂.heap h' →
      RR (.ref D) C (.ok .next) { s₂ with heap := h', toks := tk }) :
    wpAny c.M c.A (newList []) (fun acc s₃ => wpAny c.M c.A (newFunctionEnv scope c.env.globals (clOf scope.names c.env.cells []) [] c.env.qual none .none (some c.env)) (fun cenv s₄ =>
      codeAny c.M c.A (.compStart (.ListComp elt [⟨.Name x px, iter, [], 0⟩, ⟨.Name y py, iter1, [], 0⟩] scope pos) 0 (.ref I) acc { cenv with scope := relabel scope c.env }) (RR acc cenv.locals) s₄) E s₃) E s₂ := by
  refine wpAny_newObj_type (newCompEnv ?_)
  dsimp only
  generalize hH2 : s₂.heap.push { cls := .type "list", dict := none, data := .seq ([] : List Value).toArray } = H2
  have hC : H2.objs.size = s₂.heap.objs.size + 1 := by rw [← hH2, Heap.size_push]
  have hDC : s₂.heap.objs.size < H2.objs.size := by rw [hC]; exact Nat.lt_succ_self _
  have e0 : Ext s₂.heap (pushCells (H2.push { cls := .type "dict", data := .dict #[] }) scope.names) := fun b o e => pushCells_keeps _ _ b o (Heap.get?_push_of_some _ (hH2 ▸ Heap.get?_push_of_some _ e))
  have okc := cellsFrom_ok scope.names (H2.push { cls := .type "dict", data := .dict #[] }) (H2.objs.size + 1) [] ⟨fun _ _ hm => (nomatch hm), List.Pairwise.nil⟩ (by rw [Heap.size_push]; exact Nat.le_refl _)
  rw [Heap.size_push] at okc
  have hD0 : (pushCells (H2.push { cls := .type "dict", data := .dict #[] }) scope.names).get? s₂.heap.objs.size = some { cls := .type "list", dict := none, data := .seq ([] : List Value).toArray } :=
    pushCells_keeps _ _ _ _ (Heap.get?_push_of_some _ (hH2 ▸ Heap.get?_push_size _ rfl))
  have hn0 : (pushCells (H2.push { cls := .type "dict", data := .dict #[] }) scope.names).Ns H2.objs.size (fun _ => none) := (Heap.Ns.new H2 (.type "dict")).keeps (pushCells_keeps _ _)
  have hDo : s₂.heap.objs.size ∉ ownC scope H2.objs.size := fun h => absurd (ownC_ge h) (Nat.not_le.mpr hDC)
  have hDw : s₂.heap.objs.size ∉ wr := fun h => absurd (it.lt _ (it.walks.sub _ h)) (Nat.lt_irrefl _)
  have cS : Ext c.H s₂.heap := it.old.trans it.up
  have hNge : ∀ a ∈ s₂.heap.objs.size :: ownC scope H2.objs.size, s₂.heap.objs.size ≤ a := fun a ha => by
    rcases List.mem_cons.mp ha with rfl | ha
    · exact Nat.le_refl _
    · exact Nat.le_trans (Nat.le_of_lt hDC) (ownC_ge ha)
  have hnew : ∀ a ∈ s₂.heap.objs.size :: ownC scope H2.objs.size, c.H.get? a = none := fun a ha => by
    cases q : c.H.get? a with
    | none => rfl
    | some o => have := cS a o q; rw [none_ge (hNge a ha)] at this; cases this
  have hXH : ∀ a ∈ s₂.heap.objs.size :: ownC scope H2.objs.size ++ wr ++ c.X, c.H.get? a = none ∨ a ∈ c.X := fun a ha => by
    rcases List.mem_append.mp ha with ha | ha
    · rcases List.mem_append.mp ha with ha | ha
      · exact .inl (hnew a ha)
      · left
        cases q : c.H.get? a with
        | none => rfl
        | some o => have := it.old a o q; rw [it.new a ha] at this; cases this
    · exact .inr ha
  have loop : ∀ s : Shared, s = { s₂ with heap := pushCells (H2.push { cls := .type "dict", data := .dict #[] }) scope.names } →
      codeAny c.M c.A (.compLoop (.ListComp elt [⟨.Name x px, iter, [], 0⟩, ⟨.Name y py, iter1, [], 0⟩] scope pos) 0 (.ref I) (.ref s₂.heap.objs.size) (cEnv scope c.env H2.objs.size)) (RR (.ref s₂.heap.objs.size) H2.objs.size) s := by
    rintro s rfl
    refine comp_loopG enc src (fun _ => true) (fun i h => ∃ ys, h.PlainList s₂.heap.objs.size (List.toArray ys) ∧ RepL c.T.p h (s₂.heap.objs.size :: ownC scope H2.objs.size ++ wr ++ c.X) ((src.take i).flatMap fun a => (src2 a).map (g a)) ys) turn2_0 rfl rfl rfl ok co it (fun a _ C H X' _ => PTs.nil) ?_ (fun i a h _ q => by cases q) ?_ (Nat.le_refl _) hDC ⟨_, _, rfl, e0⟩ ?_ ⟨[], ⟨0, hD0⟩, rfl⟩ hn0 (fun cc hcc => ⟨none, (okc.empty _ _ (mem_of_lookup hcc)).1⟩) ?_
    · rintro i h h' ⟨ys, hd, hr⟩ e
      refine ⟨ys, hd.at fun o q => e _ o (fun hm => by rcases List.mem_append.mp hm with hm | hm; exact hDo hm; exact hDw hm) q, hr.mono (e.mono fun b hb => ?_)⟩
      rcases List.mem_append.mp hb with hb | hb
      · exact List.mem_append_left _ (List.mem_append_left _ (List.mem_cons_of_mem _ hb))
      · exact List.mem_append_left _ (List.mem_append_right _ hb)
    · intro i a v m s Q E ha _ ok' hn hrv hv ⟨ys, hd, hr⟩ hcH hal hce K
      have ha' := List.mem_of_getElem? ha
      have hstep := flatMap_take_succ (f := fun a => (src2 a).map (g a)) ha
      have hle := flatMap_take_le (f := fun a => (src2 a).map (g a)) src (i + 1)
      rw [hstep, List.length_append, List.length_map] at hle
      have hysl := hr.length
      refine inner2 enc2 (src2 a) (g a) ok co hxl hyl hxy hDC ok' hcH hXH hnew hn hrv hv hd hr (by omega) hal hce (hin a ha' _ _ _ ok') (fun b hb H X' o2 => helt a ha' b hb _ H X' o2) (fun h' tk m' zs hn' he' hl' hr' hal' hce' => ?_) (hs1 _)
      refine K h' tk m' hn' he' ⟨zs, hl', ?_⟩ hal' hce'
      rw [hstep]; exact hr'
    · intro a ha
      rcases List.mem_cons.mp ha with rfl | ha
      · exact ⟨_, hD0⟩
      rcases List.mem_cons.mp ha with rfl | ha
      · obtain ⟨o, _, _, ho, _⟩ := hn0; exact ⟨o, ho⟩
      · obtain ⟨⟨y, a'⟩, hm, rfl⟩ := List.mem_map.mp ha
        obtain ⟨⟨o, ho, _⟩, _⟩ := okc.empty y a' hm
        exact ⟨o, ho⟩
    · rintro h' tk m' hn ⟨ys, hd, hr⟩ he
      rw [List.take_length] at hr
      exact hR _ _ h' tk m' ys (Nat.le_refl _) hDC hn hd (by rw [hr.length]; exact htot) hr he
  exact codeAny_compStart_list (loop _ rfl) (it.walks.self 0 _ _ _ (it.walks.frame _ _ _ it.st fun b _ o e => e0 b o e) (loop _ rfl))
end

section
variable {F : Fx} {Ω : List OwnD} {s₀ s : Shared} {ρ : List (Str × AV)} {E : Value → Shared → Prop} {Q : Flow → Shared → Prop} {rest : List Stmt} {pos : Pos}
theorem seq_comp2 {α β : Type} (enc : α → AV) (src : List α) (enc2 : β → AV) (src2 : α → List β) (g : α → β → AV) {elt iter iter1 : Expr} {x y z : Str} {px py pz : Pos} {scope : Scope} {cpos : Pos} (f : F.Ok) (st : St F Ω s₀ ρ s) (co : CompOk (F.cx s.heap ρ) scope x)
    (hxl : scope.names.lookup x = some .local) (hyl : scope.names.lookup y = some .local) (hxy : y ≠ x) (htot : (src.flatMap fun a => (src2 a).map (g a)).length ≤ big) (hi : PI (F.cx s.heap ρ) iter (src.map enc))
    (hin : ∀ a ∈ src, ∀ C H X', (cCx (F.cx s.heap ρ) scope x (enc a) C H X').Ok → PI (cCx (F.cx s.heap ρ) scope x (enc a) C H X') iter1 ((src2 a).map enc2))
    (helt : ∀ a ∈ src, ∀ b ∈ src2 a, ∀ C H X', ((cCx (F.cx s.heap ρ) scope x (enc a) C H X').add y (enc2 b)).Ok → PE ((cCx (F.cx s.heap ρ) scope x (enc a) C H X').add y (enc2 b)) elt (g a b))
    (K : ∀ s', St F Ω s₀ ((z, .list (src.flatMap fun a => (src2 a).map (g a))) :: ρ) s' → wpAny F.M F.A (execs rest F.env) Q E s')
    (hsw : swapsWith (.ListComp elt [⟨.Name x px, iter, [], 0⟩, ⟨.Name y py, iter1, [], 0⟩] scope cpos) (some (.Name z pz)) pos.line F.env = pure true := by rfl) (hk : F.env.kindOf z = some .local := by rfl)
    (hs : ∀ y, foldedSetIterable iter F.env y = pure y := by intro _; rfl) (hs1 : ∀ C y, foldedSetIterable iter1 (cEnv scope F.env C) y = pure y := by intro _ _; rfl) :
    wpAny F.M F.A (execs (.Assign [.Name z pz] (.ListComp elt [⟨.Name x px, iter, [], 0⟩, ⟨.Name y py, iter1, [], 0⟩] scope cpos) pos :: rest) F.env) Q E s := by
  refine wpAny_execs_cons ?_
  rw [exec_Assign_Name_used _ _ _ _ hsw]
  refine wpAny_bind (wpAny_standAt (wpAny_bind ?_))
  show wpAny _ F.A (do let _ ← comprehension (.ListComp elt [⟨.Name x px, iter, [], 0⟩, ⟨.Name y py, iter1, [], 0⟩] scope cpos) scope F.env _ (newList []) false (eval iter F.env) (some (assign (.Name z pz) F.env))) _ _ s
  refine wpAny_bind (wpAny_mono (wpAny_comprehension_free (use := some (assign (.Name z pz) F.env)) (Q := fun _ s' => wpAny F.M F.A (execs rest F.env) Q E s') rfl hs (closureFor_eq co.free) co.kind (co_names co)
    (hi s _ _ (Ext.refl _) fun h₁ s' I fp wr P Stt e1 k1 it => ?_)) (fun _ s' hq => wpAny_pure (wpAny_pure hq)) fun _ _ e => e)
  refine comp2_block (c := F.cx s.heap ρ) enc src enc2 src2 g (RR := fun acc C => compPost F.M F.A E (some (assign (.Name z pz) F.env)) (fun _ s' => wpAny F.M F.A (execs rest F.env) Q E s') acc C) (st.ok f) co hxl hyl hxy htot it hin helt hs1 ?_
  intro D C h' tk m' ys hD hDC hn hl hz hr he
  refine use_post f st (comp_kp k1 e1 it.new hD hDC he) (new_of k1 (Nat.le_trans hD (Nat.le_of_lt hDC))) hn ?_ (.inl hk) K
  refine ⟨D, ys, rfl, fun hm => ?_, hl, hz, hr.weak fun a ha => ?_⟩
  · rcases List.mem_cons.mp hm with h | hm
    · exact absurd h (Nat.ne_of_lt hDC)
    · exact fresh_not st.xs (Ext.refl _) (new_of k1 hD) hm
  · rcases List.mem_cons.mp ha with rfl | ha
    · exact List.mem_append_left _ (List.mem_append_left _ (List.mem_cons_of_mem _ List.mem_cons_self))
    · exact List.mem_append_right _ ha
end
end Mine
namespace Mine
open PySem PySem.Spec PySem.Calls PyProof.Rows PySem.W

abbrev Call3 := Nat × Nat × Nat
abbrev eC (c : Call3) : AV := .tup [eN c.1, eN c.2.1, eN c.2.2]
def callsOf (rows : List (List Nat)) : List Call3 := (List.range 4).flatMap fun p => (rows.getD p []).map fun z => ((p + z) % 4, p, z)
def fullE (calls : List Call3) (goal : Nat) : Ent :=
  let part := calls.filter fun c => c.1 == goal
  let callers := part.map fun c => c.2.1
  ((callers.filter fun c => c != goal).length, part.length, (part.map fun c => c.2.2).sum, ((part.map fun c => c.2.2).map fun z => z ^ 2).sum, tabT (fun c => c) (fun c => callers.count c) callers)
def fullOf (rows : List (List Nat)) : List Ent := (List.range 4).map (fullE (callsOf rows))

theorem sum_cast (l : List Nat) : (l.map fun (n : Nat) => (n : Int)).sum = ((l.sum : Nat) : Int) := by
  induction l with
  | nil => rfl
  | cons a l ih => rw [List.map_cons, List.sum_cons, List.sum_cons, ih]; push_cast; rfl
theorem count_cast (l : List Nat) (k : Nat) : (l.map fun (n : Nat) => (n : Int)).count (k : Int) = l.count k := by
  induction l with
  | nil => rfl
  | cons a l ih => rw [List.map_cons, List.count_cons, List.count_cons, ih, natBeq]
theorem flatMap_len {α β : Type} (f : α → List β) {n : Nat} : ∀ (l : List α), (∀ a ∈ l, (f a).length ≤ n) → (l.flatMap f).length ≤ l.length * n
  | [], _ => by simp
  | a :: l, h => by
    have h1 := flatMap_len f l fun b hb => h b (List.mem_cons_of_mem _ hb)
    have h2 := h a List.mem_cons_self
    rw [List.flatMap_cons, List.length_append, List.length_cons, Nat.succ_mul]
    omega
theorem filter_true {α : Type} (l : List α) : l.filter (fun _ => true) = l := List.filter_eq_self.mpr fun _ _ => rfl

structure RowsOk (rows : List (List Nat)) : Prop where
  len : rows.length = 4
  row : ∀ r ∈ rows, r.length ≤ 1000
  ent : ∀ r ∈ rows, ∀ z ∈ r, z ≤ 1000

theorem PE.natmod {c : Cx} {pos p1 p2 : Pos} {l r : Expr} {a b : Nat} (hl : PE c l (eN a)) (hr : PE c r (eN b)) {kp : Nat} : PE c (.BinOp (.BinOp l .Add r p2) .Mod (.Constant (.int 4) kp p1) pos) (eN ((a + b) % 4)) :=
  (PE.mod (a := (a : Int) + (b : Int)) (b := 4) (PE.add hl hr) PE.int (by decide)).cast (by
    have := fmodN (a + b) 4
    rw [show (((a + b : Nat) : Int)) = (a : Int) + (b : Int) by push_cast; rfl] at this
    exact congrArg AV.int this)

theorem full_fn {T : Tp} {a : Addr} {pm cd doc : Value} (top : T.Ok) (B : Blts T) (at_ : FnAt T 10 a pm cd doc) {rows : List (List Nat)} (hr : RowsOk rows) : FnP T 2 a [eRows rows] (eB (fullOf rows)) := by
  intro A s Q E X vs room old xs r K
  obtain ⟨o, ho, hd⟩ := at_.obj
  obtain ⟨v1, vs1, rfl, r1, rfl⟩ := id r
  have hbig : big = 1000000 := rfl
  refine enter (γ := none) (names := [Str.ofString "rows"]) (k := 1) top room ho hd at_.code r rfl rfl (by decide) rfl old xs (fun L s' f st => ?_) (fun v s' sm rr => K v s' sm.kp rr)
  have hrow : ∀ p, p < 4 → ∃ r, rows[p]? = some r ∧ r.length ≤ 1000 ∧ ∀ z ∈ r, z ≤ 1000 := fun p hp => by
    have hl : p < rows.length := by rw [hr.len]; exact hp
    exact ⟨rows[p], List.getElem?_eq_getElem hl, hr.row _ (List.getElem_mem hl), hr.ent _ (List.getElem_mem hl)⟩
  have hcl : (callsOf rows).length ≤ 4000 := by
    have := flatMap_len (fun p => (rows.getD p []).map fun z => ((p + z) % 4, p, z)) (n := 1000) (List.range 4) (fun p hp => by
      obtain ⟨r, h1, h2, _⟩ := hrow p (List.mem_range.mp hp)
      rw [List.length_map, getD_of h1]; exact h2)
    unfold callsOf
    rw [List.length_range] at this
    omega
  have hce : ∀ c ∈ callsOf rows, c.2.2 ≤ 1000 := fun c hc => by
    unfold callsOf at hc
    obtain ⟨p, hp, hc⟩ := List.mem_flatMap.mp hc
    obtain ⟨r, h1, _, h3⟩ := hrow p (List.mem_range.mp hp)
    rw [getD_of h1] at hc
    obtain ⟨z, hz, rfl⟩ := List.mem_map.mp hc
    exact h3 z hz
  show wpAny _ _ (execs (_ :: _) _) _ _ _
  refine seq_comp2 eN (List.range 4) eN (fun p => rows.getD p []) (fun p z => eC ((p + z) % 4, p, z)) f st ⟨rfl, rfl, Or.inl rfl, rfl⟩ rfl rfl (by decide) ?_ (PI.range (n := 4) (st.ok f) (Glob.blt (st.ok f) B.range.1 B.range.2) PE.int (by decide) (by decide)) ?_ ?_ fun s1 st1 => ?_
  · have : ((List.range 4).flatMap fun p => (rows.getD p []).map fun z => eC ((p + z) % 4, p, z)) = (callsOf rows).map eC := by
      unfold callsOf; rw [List.map_flatMap]; congr 1; funext p; rw [List.map_map]; rfl
    rw [this, List.length_map]; omega
  · intro p hp C H X' ok
    obtain ⟨r, h1, h2, _⟩ := hrow p (List.mem_range.mp hp)
    exact PI.list ok (PE.item (k := (p : Int)) (PE.name ok rfl) (PE.name ok rfl) (by omega) (by rw [Int.toNat_natCast, List.getElem?_map, h1, getD_of h1]; rfl))
  · intro p hp z hz C H X' ok
    exact PE.tupD ok (PEL.cons (PE.natmod (PE.name ok rfl) (PE.name ok rfl)) (PEL.cons (PE.name ok rfl) (PEL.cons (PE.name ok rfl) PEL.nil))) (by simp [big])
  have ecalls : ((List.range 4).flatMap fun p => (rows.getD p []).map fun z => eC ((p + z) % 4, p, z)) = (callsOf rows).map eC := by
    unfold callsOf; rw [List.map_flatMap]; congr 1; funext p; rw [List.map_map]; rfl
  rw [ecalls] at st1
  refine seq_own f st1 (PNL.listD PEL.nil) fun b s2 f2 hb st2 => ?_
  refine seq_for eN (List.range 4) (fun i ρ Ω => ρ.lookup (Str.ofString "calls") = some (.list ((callsOf rows).map eC)) ∧ ρ.lookup (Str.ofString "book") = some (.ptr b) ∧ Ω = [.list b (((List.range i).map (fullE (callsOf rows))).map eE)]) (fun _ _ => False) (fun _ => False) f2 st2
    (PI.range (n := 4) (st2.ok f2) (Glob.blt (st2.ok f2) B.range.1 B.range.2) PE.int (by decide) (by decide)) ⟨rfl, rfl, rfl⟩ ?_ ?_ (fun _ _ _ h => h.elim)
  · rintro Z' i goal ρ' Ω' s3 hi ⟨h1, h2, rfl⟩ f3 st3
    have hgi : goal = i ∧ i < 4 := by
      obtain ⟨hl, e⟩ := List.getElem?_eq_some_iff.mp hi
      simp at hl e
      omega
    obtain ⟨rfl, hg4⟩ := hgi
    generalize hcs : callsOf rows = calls at hcl hce h1 st3 ⊢
    have hpl : (calls.filter fun c => c.1 == goal).length ≤ 4000 := Nat.le_trans (List.length_filter_le _ _) hcl
    have hpe : ∀ c ∈ calls.filter (fun c => c.1 == goal), c.2.2 ≤ 1000 := fun c hc => hce c (List.mem_filter.mp hc).1
    refine seq_comp eC calls (fun c => c.1 == goal) eC f3 st3 ⟨rfl, rfl, Or.inl rfl, rfl⟩ (PI.list (st3.ok f3) (PE.name (st3.ok f3) (lk h1))) (fun c _ C H X' ok => PTs.one ((PT.cmpTo (CmpTo.eqI (c.1 : Int) (goal : Int)) (PE.itemT (k := 0) (d := eN c.1) (PE.name ok rfl) PE.int (by decide) rfl) (PE.name ok rfl)).cast (natBeq _ _)))
      (fun c _ _ C H X' ok => PE.name ok rfl) fun s4 st4 => ?_
    generalize hpt : calls.filter (fun c => c.1 == goal) = part at hpl hpe st4
    have e5 : AV.list (((part.filter fun _ => true)).map fun c => eN c.2.1) = eR (part.map fun c => c.2.1) := by rw [filter_true]; simp [eR, Function.comp_def]
    refine seq_assign (d := eR (part.map fun c => c.2.1)) f3 st4 ((PE.comp eC part (fun _ => true) (fun c => eN c.2.1) (st4.ok f3) ⟨rfl, rfl, Or.inl rfl, rfl⟩ (PI.list (st4.ok f3) (PE.name (st4.ok f3) rfl)) (fun c _ C H X' ok => PTs.nil) (fun c _ _ C H X' ok => PE.itemT (k := 1) (PE.name ok rfl) PE.int (by decide) rfl)).cast e5) fun s5 st5 => ?_
    refine seq_comp eC part (fun _ => true) (fun c => eN c.2.2) f3 st5 ⟨rfl, rfl, Or.inl rfl, rfl⟩ (PI.list (st5.ok f3) (PE.name (st5.ok f3) rfl)) (fun c _ C H X' ok => PTs.nil) (fun c _ _ C H X' ok => PE.itemT (k := 2) (PE.name ok rfl) PE.int (by decide) rfl) fun s6 st6 => ?_
    have e6 : AV.list (((part.filter fun _ => true)).map fun c => eN c.2.2) = eR (part.map fun c => c.2.2) := by rw [filter_true]; simp [eR, Function.comp_def]
    rw [e6] at st6
    refine seq_comp eN (part.map fun c => c.2.1) (fun c => c != goal) eN f3 st6 ⟨rfl, rfl, Or.inl rfl, rfl⟩ (PI.list (st6.ok f3) (PE.name (st6.ok f3) rfl)) (fun c _ C H X' ok => PTs.one ((PT.cmpTo (CmpTo.neI (c : Int) (goal : Int)) (PE.name ok rfl) (PE.name ok rfl)).cast (by unfold bne; rw [natBeq]))) (fun c _ _ C H X' ok => PE.name ok rfl) fun s7 st7 => ?_
    refine seq_dcomp eN (part.map fun c => c.2.1) (fun c => c) (fun c => (part.map fun c => c.2.1).count c) f3 st7 (let ⟨o, h⟩ := B.sys; ⟨o, st7.old _ _ h⟩) ⟨rfl, rfl, Or.inl rfl, rfl⟩ (PI.list (st7.ok f3) (PE.name (st7.ok f3) rfl)) (fun c _ C H X' ok => PE.name ok rfl)
      (fun c _ C H X' ok => (PE.count (ns := (part.map fun c => c.2.1).map fun (n : Nat) => (n : Int)) ((PE.name ok rfl).cast (eN_ints _)) (PE.name ok rfl)).cast (by rw [count_cast])) fun s8 st8 => ?_
    have e9 : AV.list (((part.map fun c => c.2.2).filter fun _ => true).map fun z => eN (z ^ 2)) = AV.ints (((part.map fun c => c.2.2).map fun z => z ^ 2).map fun (n : Nat) => (n : Int)) := by rw [filter_true]; simp [AV.ints, Function.comp_def]
    refine seq_append (j := 0) (d := eE (fullE calls goal)) f3 st8 (PE.name (st8.ok f3) (lk (lk (lk (lk (lk (lk h2))))))) rfl (by simp) ((PE.tupD (st8.ok f3) (PEL.cons (PE.len (Glob.blt (st8.ok f3) B.len.1 B.len.2) (PE.name (st8.ok f3) rfl)) (PEL.cons (PE.len (Glob.blt (st8.ok f3) B.len.1 B.len.2) (PE.name (st8.ok f3) rfl))
      (PEL.cons (PE.sum (st8.ok f3) (Glob.blt (st8.ok f3) B.sum.1 B.sum.2) ((PE.name (st8.ok f3) rfl).cast (eN_ints _))) (PEL.cons (PE.sum (st8.ok f3) (Glob.blt (st8.ok f3) B.sum.1 B.sum.2)
        ((PE.comp eN (part.map fun c => c.2.2) (fun _ => true) (fun z => eN (z ^ 2)) (st8.ok f3) ⟨rfl, rfl, Or.inl rfl, rfl⟩ (PI.list (st8.ok f3) (PE.name (st8.ok f3) rfl)) (fun c _ C H X' ok => PTs.nil) (fun z hz _ C H X' ok => (PE.pow (a := (z : Int)) (n := 2) (PE.name ok rfl) PE.int (by decide) ?_).cast ?_)).cast e9))
        (PEL.cons (PE.name (st8.ok f3) rfl) PEL.nil))))) (by simp [big])).cast ?_) (by simp; omega) fun s9 st9 => wpAny_execs_nil ⟨_, _, ⟨lk (lk (lk (lk (lk (lk h1))))), lk (lk (lk (lk (lk (lk h2))))), ?_⟩, st9⟩
    · obtain ⟨c, hc, rfl⟩ := List.mem_map.mp hz
      have := hpe c hc
      have hb' : Builtin.Int.intBits ((c.2.2 : Nat) : Int) ≤ 64 := intBits_le_64 (by omega) (by omega)
      omega
    · show AV.int ((z : Int) ^ 2) = AV.int ((z ^ 2 : Nat) : Int)
      push_cast; rfl
    · unfold fullE
      rw [hpt]
      simp only [eE, sum_cast, List.length_map]
    · rw [List.range_succ]; simp
  · rintro ρ' Ω' s3 (⟨h1, h2, rfl⟩ | h) st3
    · rw [List.length_range] at st3
      have hbn : b ∉ (callFx T A 1 (fdI 10 pm cd doc) a none X L).X := fresh_not st1.xs (Ext.refl _) hb
      have h0 : s.heap.get? b = none := st1.fresh0 hb
      have st4 := st3.freezeL h2 hbn h0 (fun _ h => nomatch h)
      exact seq_ret (F := callFx T A 1 (fdI 10 pm cd doc) a none X L) st4 (PE.name (st4.ok f) rfl) fun v s5 sm r5 => ⟨sm, r5⟩
    · exact h.elim
end Mine
namespace Mine
open PySem PySem.Spec PySem.Calls PyProof.Rows PySem.W PySem.W.X

section
variable {prog : Program} {w : World} {A : Around} {c : Code} {fs : List Frame} {s : Shared} {env : Env} {P : End → Shared → Prop}
  {K : Flow → Sem Fin} {H : Value → Sem Fin} {gd : Bool → Bool} {lv : List Value → List Value}
theorem sx_wrap {α : Type} {m : Sem α} {K : α → Sem Fin} {H : Value → Sem Fin} {gd : Bool → Bool} {lv : List Value → List Value}
    (h : wpAny (model prog w) (A.over c fs) m (fun a s' => SegX (model prog w) A c (K a) fs s' P) (fun x s' => SegX (model prog w) A c (H x) fs s' P) s) :
    SegX (model prog w) A c (m.wrap K H gd lv) fs s P := by
  rintro Γ p rfl hΓ
  obtain ⟨e, s', hr, hq⟩ := runs_wrap_of_wp (Φ := fun e s' => e.quiet = true ∧ P e s') K H gd lv m (h (Γ.over fs) p (hΓ.over fs)) (fun a p' s' h' => h' Γ p' rfl hΓ) (fun x p' s' h' => h' Γ p' rfl hΓ)
  exact ⟨e, s', hr, hq⟩
theorem sx_at {p' : Pos} {k : Unit → Sem Fin} (h : SegX (model prog w) A c (k ()) fs s P) : SegX (model prog w) A c (.at p' k) fs s P :=
  sx_wrap (m := standAt p') (K := k) (H := .raise) (gd := id) (lv := id) (wpAny_standAt h)
theorem sx_nil (h : SegX (model prog w) A c (K .next) fs s P) : SegX (model prog w) A c ((execs [] env).wrap K H gd lv) fs s P := h
theorem sx_cons {st : Stmt} {rest : List Stmt} (h : SegX (model prog w) A c ((exec st env).wrap (fun f => match f with | .next => (execs rest env).wrap K H gd lv | f => K f) H gd lv) fs s P) :
    SegX (model prog w) A c ((execs (st :: rest) env).wrap K H gd lv) fs s P := by rw [execs_cons_wrap]; exact h
/-- a statement without a yield -/
theorem sx_stmt {st : Stmt} {rest : List Stmt} (h : wpAny (model prog w) (A.over c fs) (exec st env) (fun f s' => match f with | .next => SegX (model prog w) A c ((execs rest env).wrap K H gd lv) fs s' P | f => SegX (model prog w) A c (K f) fs s' P) (fun _ _ => False) s) :
    SegX (model prog w) A c ((execs (st :: rest) env).wrap K H gd lv) fs s P := by
  refine sx_cons (sx_wrap (wpAny_mono h (fun f s' hf => ?_) fun _ _ x => x.elim))
  cases f <;> exact hf
theorem sx_yield {e : Expr} {ypos pos : Pos} {rest : List Stmt} (hfs : splitAtGen fs = none) (hgd : gd false = false) (hfg : fs.any Frame.guarded = false)
    (h : wpAny (model prog w) (A.over c fs) (eval e env) (fun v s' => ∀ p l k, (∀ s'' P', SegX (model prog w) A c ((execs rest env).wrap K H gd lv) fs s'' P' → SegX (model prog w) A c (k (.send .none)) fs s'' P') → P (.susp v false l k c p fs) s') (fun _ _ => False) s)
    (hco : env.scope.isCoroutine = false := by rfl) (hi : interactive env = false := by rfl) :
    SegX (model prog w) A c ((execs (.Expr (.Yield (some e) ypos) pos :: rest) env).wrap K H gd lv) fs s P := by
  refine sx_cons ?_
  rw [exec_Expr env _ pos hi rfl]
  show SegX (model prog w) A c (.at pos fun _ => ((eval e env >>= fun v => (standAt ypos >>= fun _ => yieldOut env v)) >>= fun x =>
    dropValue (.Yield (some e) ypos) pos x).wrap _ H gd lv) fs s P
  have hy : ∀ v, yieldOut env v = yieldValue v := fun v => by simp only [yieldOut, hco, Bool.false_eq_true, if_false]
  simp only [hy]
  refine sx_at ?_
  rw [Sem.bind_eq_wrap', Sem.bind_eq_wrap', Sem.wrap_wrap, Sem.wrap_wrap]
  refine sx_wrap (wpAny_mono h (fun v s' h' => ?_) fun _ _ x => x.elim)
  refine sx_at ?_
  have : gd false = false := hgd
  show SegX (model prog w) A c (.yield v (gd false) _ _) fs s' P
  rw [hgd]
  refine s_yield prog w A c fs P s' v _ _ hfs hfg fun p => h' p _ _ fun s'' P' hx => ?_
  exact hx
theorem sx_func {body : List Stmt}
    (h : SegX (model prog w) A (.func body env) ((execs body env).wrap (fun f => .pure (.done (.ret (match f with | .ret v => v | _ => .none))))
      (fun e => (leaving env e).wrap (fun _ => .raise e) .raise id id) id id) fs s P) :
    SegX (model prog w) A (.func body env) ((model prog w).den (.func body env)) fs s P := by
  show SegX _ A _ (.point [] fun _ => ((execs body env).onRaise (leaving env)) >>= _) fs s P
  refine sx_wrap (m := point) (K := _) (H := .raise) (gd := id) (lv := fun _ => []) (wpAny_point ?_)
  rw [Sem.onRaise_eq_wrap, Sem.bind_eq_wrap', Sem.wrap_wrap]
  rw [Sem.wrap_congr (execs body env) _ _ (K' := fun f => .pure (.done (.ret (match f with | .ret v => v | _ => .none))))
    (H' := fun e => (leaving env e).wrap (fun _ => .raise e) .raise id id) (fun f => by cases f <;> rfl)
    (fun e => by rw [Sem.bind_eq_wrap, Sem.wrap_wrap]; rfl)]
  exact h
end
end Mine
namespace Mine
open PySem PySem.Spec PySem.Calls PyProof.Rows PySem.W PySem.W.X

section
variable {prog : Program} {w : World} {A : Around} {c : Code} {fs : List Frame} {s : Shared} {env : Env} {P : End → Shared → Prop}
  {K : Flow → Sem Fin} {H : Value → Sem Fin} {gd : Bool → Bool} {lv : List Value → List Value}
theorem sx_For {target iter : Expr} {body orelse rest : List Stmt} {pos : Pos}
    (h : wpAny (model prog w) (A.over c fs) (eval iter env) (fun x s₁ => wpAny (model prog w) (A.over c fs) (pyIter x) (fun it s₂ => ∀ p l k', (∀ f s P', SegX (model prog w) A c (match f with | .next => (execs rest env).wrap K H gd lv | f => K f) fs s P' → SegX (model prog w) A c (k' (.ok f)) fs s P') →
      SegX (model prog w) A (.forLoop target it body orelse env) (denote table (.forLoop target it body orelse env)) (.ret k' none (gd false) l c p [] :: fs) s₂ P) (fun _ _ => False) s₁) (fun _ _ => False) s)
    (hs : ∀ x, foldedSetIterable iter env x = pure x := by intro _; rfl) :
    SegX (model prog w) A c ((execs (.For target iter body orelse pos :: rest) env).wrap K H gd lv) fs s P := by
  refine sx_cons ?_
  rw [exec_For]
  show SegX (model prog w) A c (.at pos fun _ => (eval iter env >>= fun y => foldedSetIterable iter env y >>= fun x => standAt iter.pos >>= fun _ => holding [x] (pyIter x) >>= fun it => runOwn (.forLoop target it body orelse env) env).wrap _ H gd lv) fs s P
  refine sx_at ?_
  rw [Sem.bind_eq_wrap', Sem.wrap_wrap]
  refine sx_wrap (wpAny_mono h (fun x s₁ h₁ => ?_) fun _ _ x => x.elim)
  rw [hs x, pure_bind, Sem.bind_eq_wrap', Sem.wrap_wrap]
  refine sx_wrap (wpAny_standAt ?_)
  rw [Sem.bind_eq_wrap', Sem.wrap_wrap]
  refine sx_wrap (wpAny_holding (wpAny_mono h₁ (fun it s₂ h₂ => ?_) fun _ _ x => x.elim))
  refine s_call prog w A c fs P s₂ _ _ _ _ _ fun p => h₂ p _ _ fun f s P' hx => ?_
  cases f <;> exact hx
theorem sx_forLoop {x : Str} {px : Pos} {it : Value} {body : List Stmt}
    (h : wpAny (model prog w) (A.over (.forLoop (.Name x px) it body [] env) fs) (pyNext it) (fun r s₁ => match r with
      | none => SegX (model prog w) A (.block [] env) (denote table (.block [] env)) fs s₁ P
      | some v => wpAny (model prog w) (A.over (.forLoop (.Name x px) it body [] env) fs) (assign (.Name x px) env v) (fun _ s₂ => ∀ HL,
          SegX (model prog w) A (.forLoop (.Name x px) it body [] env) ((execs body env).wrap (fun f => match f with
            | .next | .cont => .pure (.again (.forLoop (.Name x px) it body [] env))
            | .brk => .pure (.done .next)
            | .ret v => .pure (.done (.ret v))) HL id id) fs s₂ P) (fun _ _ => False) s₁) (fun _ _ => False) s) :
    SegX (model prog w) A (.forLoop (.Name x px) it body [] env) (denote table (.forLoop (.Name x px) it body [] env)) fs s P := by
  show SegX _ A _ ((forTurn (.Name x px) it body [] env).onRaise (fun x => do noteFrame x env; theTreesLotGoes x)) fs s P
  unfold forTurn
  rw [Sem.onRaise_eq_wrap, Sem.bind_eq_wrap', Sem.wrap_wrap]
  refine sx_wrap (wpAny_standAt ?_)
  rw [Sem.bind_eq_wrap', Sem.wrap_wrap]
  refine sx_wrap (wpAny_onRaise (wpAny_mono h (fun r s₁ h₁ => ?_) fun _ _ x => x.elim))
  cases r with
  | none => exact s_again prog w A _ fs P s₁ _ rfl h₁
  | some v =>
    show SegX _ A _ (Sem.wrap _ _ _ _ (letOwnedTupleGo (.Name x px) it v >>= _)) fs s₁ P
    rw [show letOwnedTupleGo (.Name x px) it v = pure () from rfl, pure_bind, Sem.bind_eq_wrap', Sem.wrap_wrap]
    refine sx_wrap (wpAny_mono h₁ (fun _ s₂ h₂ => ?_) fun _ _ x => x.elim)
    rw [Sem.bind_eq_wrap', Sem.wrap_wrap]
    rw [Sem.wrap_congr (execs body env) _ _ (K' := fun f => match f with
            | .next | .cont => .pure (.again (.forLoop (.Name x px) it body [] env))
            | .brk => .pure (.done .next)
            | .ret v => .pure (.done (.ret v))) (H' := _) (fun f => by cases f <;> rfl) (fun e => rfl)]
    exact h₂ _
end
end Mine
namespace Mine
open PySem PySem.Spec PySem.Calls PyProof.Rows PySem.W PySem.W.X

/-- a segment changes W and makes things -/
structure Chg (W : List Addr) (s s' : Shared) : Prop where
  is : ∃ h' tk, s' = { s with heap := h', toks := tk }
  ext : ExtB W s.heap s'.heap
theorem Chg.refl {W : List Addr} (s : Shared) : Chg W s s := ⟨⟨s.heap, s.toks, rfl⟩, ExtB.refl _ _⟩
theorem Chg.trans {W : List Addr} {a b c : Shared} (x : Chg W a b) (y : Chg W b c) : Chg W a c := by
  refine ⟨?_, x.ext.trans y.ext⟩
  obtain ⟨h, t, rfl⟩ := x.is
  obtain ⟨h', t', rfl⟩ := y.is
  exact ⟨h', t', rfl⟩
theorem Kp.chg {W : List Addr} {s s' : Shared} (k : Kp s s') : Chg W s s' := by
  obtain ⟨h, t, rfl, hk⟩ := k.is
  exact ⟨⟨h, t, rfl⟩, fun b o _ e => hk b o e⟩

def GoX (M : Model) (A : Around) (gs : GenState) (s : Shared) (P : End → Shared → Prop) : Prop := match gs with
  | .fresh c => SegX M A c (denote table c) [] s P
  | .suspended k _ c _ fs _ => SegX M A c (k (.send .none)) fs s P
  | _ => False

/-- a generator that tells zs, one by one, and then ends -/
def Ruler (T : Tp) (A : Around) (V : List Addr) : List Nat → GenState → List Addr → Heap → Prop
  | [], gs, W, h => gs.bare = true ∧ ∀ (s : Shared) (P : End → Shared → Prop), Ext T.H₀ s.heap → (∀ b ∈ W ++ V, ∀ o, h.get? b = some o → s.heap.get? b = some o) → (∀ s', Chg W s s' → P (.ret (.ok (.ret .none))) s') → GoX (model T.p.1 T.p.2) A gs s P
  | z :: zs, gs, W, h => gs.bare = true ∧ ∀ (s : Shared) (P : End → Shared → Prop), Ext T.H₀ s.heap → (∀ b ∈ W ++ V, ∀ o, h.get? b = some o → s.heap.get? b = some o) →
      (∀ s' v l k c p fs W', Chg W s s' → (∃ t, v = .int (z : Int) t) → (∀ b ∈ W', b ∈ W ∨ s.heap.get? b = none) → (∀ b ∈ W', ∃ o, s'.heap.get? b = some o) → (∀ b ∈ W, b ∈ W') → Ruler T A V zs (End.susp v false l k c p fs).genState W' s'.heap → P (.susp v false l k c p fs) s') → GoX (model T.p.1 T.p.2) A gs s P

theorem PE.glob {c : Cx} {x : Str} {v : Value} {d : AV} {pos : Pos} (hg : Glob c x v) (r : ∀ h, Rep c.T.p h c.X d v) : PE c (.Name x pos) d := fun s Q E ex K => hg pos s _ _ ex (K v s (Kp.refl s) (r _))

def stopAt : List Nat → List Nat
  | [] => []
  | x :: r => if x = 127 then [] else x :: stopAt r
/-- the row, as the generator reads it -/
inductive RowT : List Nat → Prop
  | nil : RowT []
  | stop (r : List Nat) : RowT (127 :: r)
  | step {x : Nat} {r : List Nat} : x ≠ 0 → x ≠ 127 → RowT r → RowT (x :: r)

section
variable {T : Tp} {A : Around} {pm cd doc : Value} {a L I ℓ : Addr} {xs : List Nat} {vs : List Value}
abbrev gEnv (pm cd doc : Value) (L a : Addr) : Env := callEnvC (fdI 6 pm cd doc) L a
def gBody : List Stmt := match (rec 6).body with
  | [_, .For _ _ b _ _] => b
  | _ => []
abbrev gLoop (pm cd doc : Value) (L a I : Addr) (px : Pos) : Code := .forLoop (.Name (Str.ofString "interval") px) (.ref I) gBody [] (gEnv pm cd doc L a)

structure LoopAt (T : Tp) (L I ℓ : Addr) (vs : List Value) (i : Nat) (h : Heap) : Prop where
  old : Ext T.H₀ h
  ns : ∃ m, h.Ns L m
  it : h.IsListIter I ℓ i
  ls : h.IsList ℓ vs.toArray

end

def PostR (T : Tp) (A : Around) (V : List Addr) (zs : List Nat) (W : List Addr) (s : Shared) (P : End → Shared → Prop) : Prop := match zs with
  | [] => ∀ s', Chg W s s' → P (.ret (.ok (.ret .none))) s'
  | z :: zs => ∀ s' v l k c p fs W', Chg W s s' → (∃ t, v = .int (z : Int) t) → (∀ b ∈ W', b ∈ W ∨ s.heap.get? b = none) → (∀ b ∈ W', ∃ o, s'.heap.get? b = some o) → (∀ b ∈ W, b ∈ W') → Ruler T A V zs (End.susp v false l k c p fs).genState W' s'.heap → P (.susp v false l k c p fs) s'
theorem Ruler.mk {T : Tp} {A : Around} {V : List Addr} : ∀ {zs : List Nat} {gs : GenState} {W : List Addr} {h : Heap}, gs.bare = true → (∀ (s : Shared) (P : End → Shared → Prop), Ext T.H₀ s.heap → (∀ b ∈ W ++ V, ∀ o, h.get? b = some o → s.heap.get? b = some o) → PostR T A V zs W s P → GoX (model T.p.1 T.p.2) A gs s P) → Ruler T A V zs gs W h
  | [], _, _, _, hb, x => ⟨hb, x⟩
  | _ :: _, _, _, _, hb, x => ⟨hb, x⟩
theorem Ruler.go {T : Tp} {A : Around} {V : List Addr} : ∀ {zs : List Nat} {gs : GenState} {W : List Addr} {h : Heap}, Ruler T A V zs gs W h → gs.bare = true ∧ ∀ (s : Shared) (P : End → Shared → Prop), Ext T.H₀ s.heap → (∀ b ∈ W ++ V, ∀ o, h.get? b = some o → s.heap.get? b = some o) → PostR T A V zs W s P → GoX (model T.p.1 T.p.2) A gs s P
  | [], _, _, _, x => x
  | _ :: _, _, _, _, x => x
/-- later in the same segment -/
theorem PostR.chg {T : Tp} {A : Around} {V : List Addr} {W : List Addr} {s s₁ : Shared} {P : End → Shared → Prop} (c : Chg W s s₁) : ∀ {zs : List Nat}, PostR T A V zs W s P → PostR T A V zs W s₁ P
  | [], x => fun s' c' => x s' (c.trans c')
  | _ :: _, x => fun s' v l k cc p fs W' c' hv hW hal hs r => x s' v l k cc p fs W' (c.trans c') hv (fun b hb => (hW b hb).elim .inl fun q => by
      by_cases hm : b ∈ W
      · exact .inl hm
      · right
        cases e : s.heap.get? b with
        | none => rfl
        | some o => have := c.ext b o hm e; rw [q] at this; cases this) hal hs r

section
variable {T : Tp} {A : Around} {pm cd doc : Value} {a L I ℓ : Addr} {xs : List Nat} {vs : List Value} {px : Pos}
theorem LoopAt.keeps {i : Nat} {h h' : Heap} (x : LoopAt T L I ℓ vs i h) (hW : ∀ b ∈ [L, I] ++ [ℓ], ∀ o, h.get? b = some o → h'.get? b = some o) (old : Ext T.H₀ h') : LoopAt T L I ℓ vs i h' := by
  obtain ⟨m, hm⟩ := x.ns
  obtain ⟨o, h1, h2, h3⟩ := x.it
  obtain ⟨o', g1, g2⟩ := x.ls
  exact ⟨old, ⟨m, hm.at' fun o e => hW L (by simp) o e⟩, ⟨o, hW I (by simp) o h1, h2, h3⟩, ⟨o', hW ℓ (by simp) o' g1, g2⟩⟩
theorem LoopAt.kp {i : Nat} {s s' : Shared} (x : LoopAt T L I ℓ vs i s.heap) (k : Kp s s') : LoopAt T L I ℓ vs i s'.heap := x.keeps (fun b _ o e => k.ext b o e) (x.old.trans k.ext)

theorem ruler_loop {k' : Result → Sem Fin} {l : List Value} {c : Code} {p : Pos} (top : T.Ok) (hcm : ∃ t, T.mg (Str.ofString "CHAR_MAX") = some (.int 127 t))
    (hk' : ∀ s P', P' (.ret (.ok (.ret .none))) s → SegX (model T.p.1 T.p.2) A c (k' (.ok (.ret .none))) [] s P' ∧ SegX (model T.p.1 T.p.2) A c (k' (.ok .next)) [] s P')
    (room : Room (A.over (gLoop pm cd doc L a I px) [.ret k' none false l c p []]) 1) (hvs : IntsAre vs (xs.map fun (n : Nat) => (n : Int))) (hIL : I ≠ L) (hℓI : ℓ ≠ I) (hℓL : ℓ ≠ L) (hL0 : T.H₀.get? L = none) (hI0 : T.H₀.get? I = none) :
    ∀ (rem : List Nat) (i : Nat), i ≤ xs.length → xs.drop i = rem → RowT rem → ∀ (s : Shared) (P : End → Shared → Prop), LoopAt T L I ℓ vs i s.heap → PostR T A [ℓ] (stopAt rem) [L, I] s P →
      SegX (model T.p.1 T.p.2) A (gLoop pm cd doc L a I px) (denote table (gLoop pm cd doc L a I px)) [.ret k' none false l c p []] s P := by
  intro rem
  have hlen : vs.length = xs.length := by rw [hvs.length]; simp
  have W := Walks.list (prog := T.p.1) (w := T.p.2) room.handled I ℓ hℓI vs.toArray
  induction rem with
  | nil =>
    intro i hle hd _ s P at_ post
    have hi : i = vs.toArray.size := by have : xs.length ≤ i := by simpa using hd
                                        simp; omega
    refine sx_forLoop ?_
    refine W.done s _ _ (hi ▸ ⟨at_.it, at_.ls⟩) fun h₂ tk₂ hk₂ => ?_
    refine s_pop T.p.1 T.p.2 A _ [] P _ (.ok .next) _ rfl k' none false l c p [] ?_
    refine (hk' _ _ (post _ ⟨⟨h₂, tk₂, rfl⟩, fun b o nb e => hk₂ b o (fun q => nb ?_) e⟩)).2
    rw [List.mem_singleton.mp q]; simp
  | cons x rem ih =>
    intro i hle hd hrow s P at_ post
    have hx : xs[i]? = some x := by
      have := congrArg (fun l => l[0]?) hd
      simpa using this
    have hd' : xs.drop (i + 1) = rem := by rw [← List.drop_drop, hd]; rfl
    have hlt : i < xs.length := (List.getElem?_eq_some_iff.mp hx).1
    refine sx_forLoop ?_
    refine W.item i s _ _ (by simp; omega) ⟨at_.it, at_.ls⟩ fun v h₂ tk₂ hP hst₂ hk₂ => ?_
    have hk₂ : ExtB [I] s.heap h₂ := hk₂
    obtain ⟨t, rfl⟩ : ∃ t, v = .int (x : Int) t := by
      have hv : vs[i]? = some v := by simpa using hP
      obtain ⟨d, hd1, hr⟩ := (RepL.of_ints (p := T.p) (h := h₂) (X := []) hvs).get' hv
      rw [List.map_map, List.getElem?_map, hx] at hd1
      cases hd1
      exact hr
    obtain ⟨m, hm⟩ := at_.ns
    have hn₂ : h₂.Ns L m := hm.at' fun o e => hk₂ L o (by simp [Ne.symm hIL]) e
    refine wpAny_assign_Name (wpAny_storeName_local (env := gEnv pm cd doc L a) rfl hn₂ (fun h₃ hn₃ hs₃ HL => ?_) rfl)
    have hs₃ : Heap.SameBut L h₂ h₃ := hs₃
    have old3 : Ext T.H₀ h₃ := fun b o e => hs₃.extBut b o (fun q => by rw [q, hL0] at e; cases e) (hk₂ b o (fun q => by rw [List.mem_singleton.mp q, hI0] at e; cases e) (at_.old b o e))
    have at3 : LoopAt T L I ℓ vs (i + 1) h₃ := ⟨old3, ⟨_, hn₃⟩, (let ⟨o, h1, h2, h3⟩ := hst₂.1; ⟨o, (hs₃.2 I hIL).trans h1, h2, h3⟩), (let ⟨o', g1, g2⟩ := hst₂.2; ⟨o', (hs₃.2 ℓ hℓL).trans g1, g2⟩)⟩
    have ch3 : ∀ {tk}, Chg [L, I] s { s with heap := h₃, toks := tk } := fun {tk} => ⟨⟨h₃, tk, rfl⟩, fun b o nb e => hs₃.extBut b o (fun q => nb (by rw [q]; simp)) (hk₂ b o (fun q => nb (by rw [List.mem_singleton.mp q]; simp)) e)⟩
    have okc : (Cx.mk T (A.over (gLoop pm cd doc L a I px) [.ret k' none false l c p []]) 1 (gEnv pm cd doc L a) h₃ [] [(Str.ofString "interval", eN x)]).Ok :=
      ⟨top, room, old3, rfl, rfl, rfl, fun b hb => (nomatch hb), _, hn₃, fun z dz hz => by
        rw [List.lookup_cons] at hz
        cases q : z == Str.ofString "interval" with
        | false => rw [q] at hz; cases hz
        | true =>
          rw [q] at hz; cases hz
          have e := beq_iff_eq.mp q
          subst e
          exact ⟨.int (x : Int) t, ⟨t, rfl⟩, fun _ => by simp, fun q => by cases q⟩⟩
    obtain ⟨tc, hcm⟩ := hcm
    have tst : ∀ {p1 p2 p3 : Pos}, PT _ (.Compare (.Name (Str.ofString "interval") p1) [.Eq] [.Name (Str.ofString "CHAR_MAX") p2] p3) (x == 127) := fun {p1 p2 p3} => (PT.cmpTo (CmpTo.eqI (x : Int) 127) (PE.name okc rfl) (PE.glob (Glob.top okc hcm) fun h => ⟨tc, rfl⟩)).cast (natBeq x 127)
    show SegX _ A _ ((execs (_ :: _) _).wrap _ HL id id) _ _ P
    refine sx_stmt (wpAny_If (tst _ _ _ (Ext.refl _) fun s4 k4 => ?_))
    by_cases hx127 : x = 127
    · subst hx127
      have hpost : PostR T A [ℓ] [] [L, I] s P := post
      rw [if_pos (by decide)]
      refine wpAny_execs_cons (wpAny_Return_none ?_)
      refine s_pop T.p.1 T.p.2 A _ [] P _ (.ok (.ret .none)) _ rfl k' none false l c p [] ?_
      exact (hk' _ _ (hpost _ (ch3.trans k4.chg))).1
    · have hrow' : x ≠ 0 ∧ RowT rem := by
        cases hrow with
        | stop => exact absurd rfl hx127
        | step h0 _ hr => exact ⟨h0, hr⟩
      have hpost : PostR T A [ℓ] (x :: stopAt rem) [L, I] s P := by
        have : stopAt (x :: rem) = x :: stopAt rem := by simp [stopAt, hx127]
        rw [this] at post; exact post
      rw [if_neg (by simpa using hx127)]
      refine wpAny_execs_nil ?_
      have tst2 : ∀ {p1 p2 p3 : Pos} {kk : Nat}, PT _ (.Compare (.Name (Str.ofString "interval") p1) [.Eq] [.Constant (.int 0) kk p2] p3) (x == 0) := fun {p1 p2 p3 kk} => (PT.cmpTo (CmpTo.eqI (x : Int) 0) (PE.name okc rfl) PE.int).cast (natBeq x 0)
      refine sx_stmt (wpAny_If (tst2 s4 _ _ k4.ext fun s5 k5 => ?_))
      rw [if_neg (by simpa using hrow'.1)]
      refine wpAny_execs_nil ?_
      have nm : ∀ {p1 : Pos}, PE _ (.Name (Str.ofString "interval") p1) (eN x) := fun {p1} => PE.name okc rfl
      refine sx_yield rfl rfl rfl (nm s5 _ _ (k4.trans k5).ext fun v6 s6 k6 r6 pp ll kk hkk => ?_)
      have k36 := (k4.trans k5).trans k6
      have at6 : LoopAt T L I ℓ vs (i + 1) s6.heap := at3.keeps (fun b _ o e => k36.ext b o e) (old3.trans k36.ext)
      have al6 : ∀ b ∈ [L, I], ∃ o, s6.heap.get? b = some o := fun b hb => by
        rcases List.mem_cons.mp hb with rfl | hb
        · obtain ⟨m6, o, _, _, ho, _⟩ := at6.ns; exact ⟨o, ho⟩
        · rw [List.mem_singleton.mp hb]; obtain ⟨o, ho, _⟩ := at6.it; exact ⟨o, ho⟩
      refine hpost s6 v6 ll kk _ pp _ [L, I] (ch3.trans k36.chg) r6 (fun b hb => .inl hb) al6 (fun b hb => hb) (Ruler.mk rfl fun s7 P7 old7 keep7 post7 => ?_)
      refine hkk s7 P7 ?_
      have at7 := at6.keeps keep7 old7
      have hn7 := (hn₃.keeps k36.ext).at' fun o e => keep7 L (by simp) o e
      have ok7 : (Cx.mk T (A.over (gLoop pm cd doc L a I px) [.ret k' none false l c p []]) 1 (gEnv pm cd doc L a) s7.heap [] [(Str.ofString "interval", eN x)]).Ok :=
        ⟨top, room, old7, rfl, rfl, rfl, fun b hb => (nomatch hb), _, hn7, fun z dz hz => by
          rw [List.lookup_cons] at hz
          cases q : z == Str.ofString "interval" with
          | false => rw [q] at hz; cases hz
          | true =>
            rw [q] at hz; cases hz
            have e := beq_iff_eq.mp q
            subst e
            exact ⟨.int (x : Int) t, ⟨t, rfl⟩, fun _ => by simp, fun q => by cases q⟩⟩
      have nm7 : ∀ {p1 : Pos}, PE _ (.Name (Str.ofString "interval") p1) (eN x) := fun {p1} => PE.name ok7 rfl
      refine sx_stmt (wpAny_Assign_Name (nm7 s7 _ _ (Ext.refl _) fun v8 s8 k8 r8 => ?_) rfl)
      have at8 := at7.kp k8
      obtain ⟨m8, hm8⟩ := at8.ns
      refine wpAny_storeName_local (env := gEnv pm cd doc L a) rfl hm8 (fun h9 hn9 hs9 => ?_) rfl
      have hs9 : Heap.SameBut L s8.heap h9 := hs9
      have old9 : Ext T.H₀ h9 := fun b o e => hs9.extBut b o (fun q => by rw [q, hL0] at e; cases e) (at8.old b o e)
      have at9 : LoopAt T L I ℓ vs (i + 1) h9 := ⟨old9, ⟨_, hn9⟩, (let ⟨o, h1, h2, h3⟩ := at8.it; ⟨o, (hs9.2 I hIL).trans h1, h2, h3⟩), (let ⟨o', g1, g2⟩ := at8.ls; ⟨o', (hs9.2 ℓ hℓL).trans g1, g2⟩)⟩
      have ch9 : ∀ {tk}, Chg [L, I] s7 { s8 with heap := h9, toks := tk } := fun {tk} => k8.chg.trans ⟨⟨h9, tk, rfl⟩, fun b o nb e => hs9.extBut b o (fun q => nb (by rw [q]; simp)) e⟩
      refine sx_nil ?_
      exact s_again T.p.1 T.p.2 A _ _ P7 _ _ rfl (ih (i + 1) hlt hd' hrow'.2 _ P7 at9 (post7.chg ch9))
end
end Mine
namespace Mine
open PySem PySem.Spec PySem.Calls PyProof.Rows PySem.W PySem.W.X

theorem PostR.new {T : Tp} {A : Around} {V : List Addr} {W N : List Addr} {s s₁ : Shared} {P : End → Shared → Prop} (c : Chg W s s₁) (hN : ∀ b ∈ N, s.heap.get? b = none) : ∀ {zs : List Nat}, PostR T A V zs W s P → PostR T A V zs (W ++ N) s₁ P := by
  have tr : ∀ {s' : Shared}, Chg (W ++ N) s₁ s' → Chg W s s' := fun {s'} c' => by
    refine ⟨?_, fun b o nb e => c'.ext b o (fun q => ?_) (c.ext b o nb e)⟩
    · obtain ⟨h, t, rfl⟩ := c.is
      obtain ⟨h', t', rfl⟩ := c'.is
      exact ⟨h', t', rfl⟩
    · rcases List.mem_append.mp q with q | q
      · exact nb q
      · rw [hN b q] at e; cases e
  intro zs x
  cases zs with
  | nil => exact fun s' c' => x s' (tr c')
  | cons z zs =>
    refine fun s' v l k cc p fs W' c' hv hW hal hs r => x s' v l k cc p fs W' (tr c') hv (fun b hb => ?_) hal (fun b hb => hs b (List.mem_append_left _ hb)) r
    rcases hW b hb with q | q
    · rcases List.mem_append.mp q with q | q
      · exact .inl q
      · exact .inr (hN b q)
    · by_cases hm : b ∈ W
      · exact .inl hm
      · right
        cases e : s.heap.get? b with
        | none => rfl
        | some o => have := c.ext b o hm e; rw [q] at this; cases this

theorem room_func {A : Around} {env : Env} {body : List Stmt} {k : Nat} (r : Room A (k + 1)) : Room (A.over (.func body env) []) k :=
  ⟨r.handled, by have := r.depth; show A.depth + 0 + 1 + k < _; omega, by have := r.units; show A.units + 0 + 3 + 10 * k < _; omega⟩
theorem room_loop {A : Around} {env env' : Env} {body b2 : List Stmt} {k : Nat} {t : Expr} {x : Value} {k' : Result → Sem Fin} {l : List Value} {p : Pos} (r : Room A (k + 1)) : Room (A.over (.forLoop t x b2 [] env') [.ret k' none false l (.func body env) p []]) k :=
  ⟨r.handled, by have := r.depth; show A.depth + 1 + 0 + k < _; omega, by have := r.units; show A.units + 3 + 0 + 10 * k < _; omega⟩

theorem ruler_fresh {T : Tp} {A : Around} {pm cd doc : Value} {a L ℓ : Addr} {xs : List Nat} {vs : List Value} {h : Heap} {m : Str → Option Value} (top : T.Ok) (hcm : ∃ t, T.mg (Str.ofString "CHAR_MAX") = some (.int 127 t)) (room : Room A 3) (hrow : RowT xs)
    (hns : h.Ns L m) (hm : m (Str.ofString "grouping") = some (.ref ℓ)) (hls : h.PlainList ℓ vs.toArray) (hz : vs.length ≤ big) (hvs : IntsAre vs (xs.map fun (n : Nat) => (n : Int))) (hℓL : ℓ ≠ L) (hL0 : T.H₀.get? L = none) :
    Ruler T A [ℓ] (stopAt xs) (.fresh (.func (rec 6).body (gEnv pm cd doc L a))) [L] h := by
  refine Ruler.mk rfl fun s P old keep post => ?_
  show SegX (model T.p.1 T.p.2) A _ ((model T.p.1 T.p.2).den (.func (rec 6).body (gEnv pm cd doc L a))) [] s P
  refine sx_func ?_
  show SegX _ A _ ((execs (_ :: _) _).wrap _ _ id id) _ _ P
  have hn0 : s.heap.Ns L m := hns.at' fun o e => keep L (by simp) o e
  refine sx_stmt (wpAny_Assign_Name (wpAny_Constant_none (wpAny_storeName_local (env := gEnv pm cd doc L a) rfl hn0 (fun h1 hn1 hs1 => ?_) rfl)) rfl)
  have hs1 : Heap.SameBut L s.heap h1 := hs1
  have old1 : Ext T.H₀ h1 := fun b o e => hs1.extBut b o (fun q => by rw [q, hL0] at e; cases e) (old b o e)
  obtain ⟨n, hls⟩ := hls
  have hls1 : h1.PlainList ℓ vs.toArray := ⟨n, (hs1.2 ℓ hℓL).trans (keep ℓ (by simp) _ hls)⟩
  have ld : ∀ {p1 : Pos} {s : Shared} {Q E : Value → Shared → Prop}, s.heap = h1 → Q (.ref ℓ) s → wpAny (model T.p.1 T.p.2) (A.over (.func (rec 6).body (gEnv pm cd doc L a)) []) (eval (.Name (Str.ofString "grouping") p1) (gEnv pm cd doc L a)) Q E s := fun {p1 s Q E} e hq =>
    wpAny_Name (wpAny_loadName_local rfl rfl (e ▸ hn1) ((if_neg (by decide)).trans hm) hq) (by decide)
  refine sx_For (ld rfl (wpAny_pyIter_list hls1.isList fun p l k' hk' => ?_)) 
  have hI0 : s.heap.get? h1.objs.size = none := by
    cases q : s.heap.get? h1.objs.size with
    | none => rfl
    | some o => 
      have : h1.get? h1.objs.size = none := none_size _
      by_cases e : h1.objs.size = L
      · obtain ⟨o', _, _, ho', _⟩ := hn1
        have ho' : h1.get? L = some o' := ho'
        rw [e, ho'] at this; cases this
      · rw [(hs1.2 _ e).trans q] at this; cases this
  have hlt : ∀ b o, h1.get? b = some o → b ≠ h1.objs.size := fun b o e q => by rw [q, none_size] at e; cases e
  have hLI : h1.objs.size ≠ L := by obtain ⟨o', _, _, ho', _⟩ := hn1; exact Ne.symm (hlt L o' ho')
  have hℓI : ℓ ≠ h1.objs.size := by obtain ⟨n', g⟩ := hls1; exact hlt ℓ _ g
  show SegX (model T.p.1 T.p.2) A (gLoop pm cd doc L a h1.objs.size _) (denote table (gLoop pm cd doc L a h1.objs.size _)) [.ret k' none false l _ p []] _ P
  refine ruler_loop (xs := xs) (pm := pm) (cd := cd) (doc := doc) (L := L) (a := a) (vs := vs) (I := h1.objs.size) top hcm (fun s P' hP => ⟨hk' (.ret .none) s P' (s_end T.p.1 T.p.2 A _ P' s (.ok (.ret .none)) _ rfl hP), hk' .next s P' (sx_nil (s_end T.p.1 T.p.2 A _ P' s (.ok (.ret .none)) _ rfl hP))⟩) ((room_loop room).le (by decide)) hvs hLI hℓI hℓL hL0 ?_ xs 0 (Nat.zero_le _) rfl hrow _ P ?_ ?_
  · cases q : T.H₀.get? h1.objs.size with
    | none => rfl
    | some o => have := old _ _ q; rw [hI0] at this; cases this
  · refine ⟨old1.trans (Ext.push _ _), ⟨_, hn1.keeps (Ext.push _ _)⟩, ⟨_, Heap.get?_push_size _ rfl, rfl, rfl⟩, hls1.isList.push _⟩
  · refine PostR.new (W := [L]) (N := [h1.objs.size]) (s := s) ⟨⟨_, _, rfl⟩, fun b o nb e => Heap.get?_push_of_some _ ((hs1.2 b (fun q => nb (by rw [q]; simp))).trans e)⟩ (fun b hb => ?_) post
    rw [List.mem_singleton.mp hb]; exact hI0
end Mine
namespace Mine
open PySem PySem.Spec PySem.Calls PyProof.Rows PySem.W PySem.W.X

theorem resume_go {α : Type} {prog : Program} {w : World} {A : Around} {gs : GenState} {s : Shared} {g : Nat} {l : List Value} {k : GenResult → Sem α} {Q : α → Shared → Prop} {E : Value → Shared → Prop} (hg : s.gens[g]? = some gs)
    (go : GoX (model prog w) A gs (s.setGen g .running) (fun e s₁ => wpAny (model prog w) A (k e.result) Q E (s₁.setGen g e.genState))) : wpAny (model prog w) A (.resume g (.send .none) l k) Q E s := by
  cases gs with
  | fresh c => exact wake_any α prog w hg (.inl ⟨rfl, rfl, rfl, rfl⟩) (fun Γ => Γ.In A) (fun _ h => h) go
  | suspended k₀ l₀ c p₀ fs cl => exact wake_any α prog w hg (.inr ⟨k₀, l₀, p₀, cl, rfl, rfl⟩) (fun Γ => Γ.In A) (fun _ h => h) go
  | running => exact go.elim
  | finished => exact go.elim

/-- after next: W changed, the generator's state set -/
structure Nx (W : List Addr) (g : Nat) (gs' : GenState) (s s' : Shared) : Prop where
  is : ∃ h' tk, s' = { s with heap := h', gens := s.gens.setIfInBounds g gs', toks := tk }
  ext : ExtB W s.heap s'.heap
theorem Chg.nx {W : List Addr} {g : Nat} {x gs' : GenState} {s s₁ : Shared} (c : Chg W (s.setGen g x) s₁) {h' : Heap} {tk : Nat} (e : Ext s₁.heap h') : Nx W g gs' s { s₁.setGen g gs' with heap := h', toks := tk } := by
  obtain ⟨h, t, rfl⟩ := c.is
  refine ⟨⟨h', tk, ?_⟩, fun b o nb q => e b o (c.ext b o nb q)⟩
  simp [Shared.setGen]


theorem wake_ruler {α : Type} {T : Tp} {A : Around} {V W : List Addr} {zs : List Nat} {gs : GenState} {h : Heap} {s : Shared} {g : Nat} {k : GenResult → Sem α} {Q : α → Shared → Prop} {E : Value → Shared → Prop} (top : T.Ok) (room : Room A 1) (old : Ext T.H₀ s.heap) (hgs : s.gens[g]? = some gs)
    (r : Ruler T A V zs gs W h) (keep : ∀ b ∈ W ++ V, ∀ o, h.get? b = some o → s.heap.get? b = some o)
    (K : PostR T A V zs W (s.setGen g .running) (fun e s₁ => wpAny (model T.p.1 T.p.2) A (k e.result) Q E (s₁.setGen g e.genState))) :
    wpAny (model T.p.1 T.p.2) A (roomToWake >>= fun _ => resume g (.send .none) >>= k) Q E s := by
  have go := r.go.2 (s.setGen g .running) _ old keep K
  refine wpAny_bind (wpAny_roomToWake (top.lim.keeps old) (by have := room.depth; omega) ?_)
  show wpAny _ _ (.resume g (.send .none) [] _) _ _ s
  exact resume_go hgs go
theorem Ruler.alive {T : Tp} {A : Around} {V W : List Addr} {zs : List Nat} {gs : GenState} {h : Heap} {s : Shared} (old : Ext T.H₀ s.heap) (r : Ruler T A V zs gs W h) (keep : ∀ b ∈ W ++ V, ∀ o, h.get? b = some o → s.heap.get? b = some o) : gs ≠ .running ∧ gs ≠ .finished := by
  have go := r.go.2 s (fun _ _ => True) old keep (by cases zs <;> simp [PostR])
  exact ⟨fun e => by subst e; exact go.elim, fun e => by subst e; exact go.elim⟩

theorem next_none {T : Tp} {A : Around} {V W : List Addr} {gs : GenState} {h : Heap} {s : Shared} {a : Addr} {g : Nat} {dflt : Value} {Q E : Value → Shared → Prop} (top : T.Ok) (room : Room A 2) (old : Ext T.H₀ s.heap) (hg : s.heap.IsGen a g) (hgs : s.gens[g]? = some gs)
    (r : Ruler T A.in1.in1 V [] gs W h) (keep : ∀ b ∈ W ++ V, ∀ o, h.get? b = some o → s.heap.get? b = some o)
    (K : ∀ s', Nx W g .finished s s' → Q dflt s') : wpAny (model T.p.1 T.p.2) A (call (.builtin "next") [.ref a, dflt]) Q E s := by
  refine call_function_entry (by decide +kernel) (by decide +kernel) kdk_entry_next (kdk_args_next2 _ _) ?_
  unfold Builtin.«next»
  refine wpAny_bind (m := someArgs "next" 1 2 _) (wpAny_of_eq (a := [Value.ref a, dflt]) (by first | rfl | kernel_rfl!) ?_)
  dsimp only
  refine wpAny_bind (wpAny_specialOf (name := Str.ofString "__next__") hg.typeIs slot_gen_next.lookup ?_)
  refine wpAny_ite_split (fun hab => absurd hab (by decide)) (fun _ => ?_)
  refine wpAny_bind ?_
  unfold pyNext
  refine wpAny_bind (wpAny_attempt (wpAny_callSpecial?_slot (name := Str.ofString "__next__") hg.typeIs slot_gen_next
    (wpAny_call_entry slot_gen_next hg.typeIs entry_gen_next ?_ (args_gen_next _))))
  show wpAny _ _ (Builtin.Generator.genWake (.ref a) (.send .none)) _ _ s
  unfold Builtin.Generator.genWake
  refine wpAny_bind (wpAny_holding (wpAny_genNumber hg (wpAny_bind (wpAny_genState hgs ?_))))
  have room' : Room A.in1.in1 1 := ⟨room.handled, by have := room.depth; show A.depth + 1 < _; omega, by have := room.units; show A.units + 1 + 1 + 10 * 1 < _; omega⟩
  have al := r.alive old keep
  cases gs with
  | running => exact absurd rfl al.1
  | finished => exact absurd rfl al.2
  | _ =>
    refine wake_ruler top room' old hgs r keep fun s₁ c => ?_
    show wpAny _ _ (newExc (.type "StopIteration") [] >>= _) _ _ _
    refine wpAny_bind ?_
    simp only [newExc, newTuple]
    refine wpAny_bind (wpAny_newObj_type ?_ (by size_fits))
    refine wpAny_bind (m := firstArgMember _ _) (wpAny_of_eq (a := Value.none) (by first | rfl | (simp only [firstArgMember]; rfl)) ?_)
    refine wpAny_newObj_type ?_ (by size_fits)
    simp only [raiseNew]
    refine wpAny_bind (wpAny_bind (wpAny_handled ?_))
    rw [show A.in1.in1.handled = none from room.handled]
    refine wpAny_throw ?_
    refine wpAny_bind (wpAny_isInstance (T := "StopIteration") (b := true) ⟨_, Heap.get?_push_size _ rfl, rfl⟩ isSubtype_stop ?_)
    refine wpAny_pure (wpAny_pure ⟨_, rfl, K _ (c.nx ((Ext.push _ _).trans (Ext.push _ _)))⟩)

theorem next_some {T : Tp} {A : Around} {V W : List Addr} {z : Nat} {zs : List Nat} {gs : GenState} {h : Heap} {s : Shared} {a : Addr} {g : Nat} {dflt : Value} {Q E : Value → Shared → Prop} (top : T.Ok) (room : Room A 2) (old : Ext T.H₀ s.heap) (hg : s.heap.IsGen a g) (hgs : s.gens[g]? = some gs)
    (r : Ruler T A.in1.in1 V (z :: zs) gs W h) (keep : ∀ b ∈ W ++ V, ∀ o, h.get? b = some o → s.heap.get? b = some o)
    (K : ∀ s' t gs' W', Nx W g gs' s s' → (∀ b ∈ W', b ∈ W ∨ s.heap.get? b = none) → (∀ b ∈ W', ∃ o, s'.heap.get? b = some o) → (∀ b ∈ W, b ∈ W') → Ruler T A.in1.in1 V zs gs' W' s'.heap → Q (.int (z : Int) t) s') : wpAny (model T.p.1 T.p.2) A (call (.builtin "next") [.ref a, dflt]) Q E s := by
  refine call_function_entry (by decide +kernel) (by decide +kernel) kdk_entry_next (kdk_args_next2 _ _) ?_
  unfold Builtin.«next»
  refine wpAny_bind (m := someArgs "next" 1 2 _) (wpAny_of_eq (a := [Value.ref a, dflt]) (by first | rfl | kernel_rfl!) ?_)
  dsimp only
  refine wpAny_bind (wpAny_specialOf (name := Str.ofString "__next__") hg.typeIs slot_gen_next.lookup ?_)
  refine wpAny_ite_split (fun hab => absurd hab (by decide)) (fun _ => ?_)
  refine wpAny_bind ?_
  unfold pyNext
  refine wpAny_bind (wpAny_attempt (wpAny_callSpecial?_slot (name := Str.ofString "__next__") hg.typeIs slot_gen_next
    (wpAny_call_entry slot_gen_next hg.typeIs entry_gen_next ?_ (args_gen_next _))))
  show wpAny _ _ (Builtin.Generator.genWake (.ref a) (.send .none)) _ _ s
  unfold Builtin.Generator.genWake
  refine wpAny_bind (wpAny_holding (wpAny_genNumber hg (wpAny_bind (wpAny_genState hgs ?_))))
  have room' : Room A.in1.in1 1 := ⟨room.handled, by have := room.depth; show A.depth + 1 < _; omega, by have := room.units; show A.units + 1 + 1 + 10 * 1 < _; omega⟩
  have al := r.alive old keep
  cases gs with
  | running => exact absurd rfl al.1
  | finished => exact absurd rfl al.2
  | _ =>
    refine wake_ruler top room' old hgs r keep fun s₁ v l k c p fs W' ch ⟨t, hv⟩ h1 h2 h3 h4 => ?_
    subst hv
    refine wpAny_pure ⟨_, rfl, wpAny_pure (wpAny_pure ⟨_, rfl, ?_⟩)⟩
    exact K _ t _ W' (ch.nx (Ext.refl _)) h1 h2 h3 h4
end Mine
namespace Mine
open PySem PySem.Spec PySem.Calls PyProof.Rows PySem.W PySem.W.X

theorem make_gen {T : Tp} {A : Around} {a : Addr} {pm cd doc : Value} {s : Shared} {v : Value} {Q E : Value → Shared → Prop} (top : T.Ok) (room : Room A 1) (at_ : FnAt T 6 a pm cd doc) (old : Ext T.H₀ s.heap)
    (K : ∀ h' tk L ga m, Ext s.heap h' → s.heap.get? L = none → s.heap.get? ga = none → L ≠ ga → h'.Ns L m → m (Str.ofString "grouping") = some v → h'.IsGen ga s.gens.size →
      Q (.ref ga) { s with heap := h', gens := s.gens.push (.fresh (.func (rec 6).body (gEnv pm cd doc L a))), toks := tk }) : wpAny (model T.p.1 T.p.2) A (call (.ref a) [v]) Q E s := by
  obtain ⟨o, ho, hd⟩ := at_.obj
  have hroom : A.depth < recursionLimit := by have := room.depth; omega
  refine wpAny_call (codeAny_call_generator (body := (rec 6).body) hroom (old _ _ ho) hd rfl rfl rfl (at_.code.keeps old) ?_)
  have hbind : bindArgs (fdI 6 pm cd doc) ⟨[v], []⟩ = pure [(Str.ofString "grouping", v)] := rfl
  rw [hbind]
  refine wpAny_pure ?_
  show wpAny _ _ (newFunctionEnv (fdI 6 pm cd doc).scope mainGlobals [] [(Str.ofString "grouping", v)] _ (some a) cd none builtinsNs) _ _ _
  refine wpAny_newFunctionEnv_cells (scope := (fdI 6 pm cd doc).scope) rfl ?_ fun env henv s' ic => ?_
  · intro x hx
    rw [List.mem_singleton.mp hx]
    exact .inl rfl
  have henv' : env = callEnvC (fdI 6 pm cd doc) s.heap.objs.size a := henv
  subst henv'
  refine ⟨(top.lim.keeps old).keeps ic.toInCall.keep, ?_⟩
  obtain ⟨h₁, tk₁, hs', hk₁⟩ := ic.done
  subst hs'
  have hns := ic.toInCall.ns
  have hns : h₁.Ns s.heap.objs.size (bindL (callEnvC (fdI 6 pm cd doc) s.heap.objs.size a).kindOf [(Str.ofString "grouping", v)] fun _ => none) := hns
  have hk₁ : Ext s.heap h₁ := hk₁
  have hne : h₁.get? s.heap.objs.size ≠ none := by obtain ⟨o', _, _, ho', _⟩ := hns; rw [ho']; exact Option.some_ne_none _
  refine K _ _ s.heap.objs.size h₁.objs.size _ (hk₁.trans (Ext.push _ _)) (none_size _) ?_ (fun e => hne (by rw [e]; exact none_size _)) (hns.keeps (Ext.push _ _)) ?_ ?_
  · cases q : s.heap.get? h₁.objs.size with
    | none => rfl
    | some o' => have := hk₁ _ _ q; rw [none_size] at this; cases this
  · exact (bind_in (kindOf := (callEnvC (fdI 6 pm cd doc) s.heap.objs.size a).kindOf) [(Str.ofString "grouping", v)] (fun _ => none) (fun _ => none) (by simp) (List.mem_singleton.mpr rfl)).1 rfl
  · exact ⟨_, _, _, Heap.get?_push_size _ rfl, rfl, rfl, rfl⟩
end Mine
namespace Mine
open PySem PySem.Spec PySem.Calls PyProof.Rows PySem.W PySem.W.X

structure RR where
  zs : List Nat
  ga : Addr
  gi : Nat
  gs : GenState
  W : List Addr
  ℓ : Addr

theorem Ruler.keeps {T : Tp} {A : Around} {V W : List Addr} {zs : List Nat} {gs : GenState} {h h' : Heap} (r : Ruler T A V zs gs W h) (k : ∀ b ∈ W ++ V, ∀ o, h.get? b = some o → h'.get? b = some o) : Ruler T A V zs gs W h' :=
  Ruler.mk r.go.1 fun s P old keep post => r.go.2 s P old (fun b hb o e => keep b hb o (k b hb o e)) post

structure Rs (T : Tp) (B : Around) (h₀ : Heap) (n : Nat) (N : List Addr) (rs : List RR) (s : Shared) : Prop where
  gen : ∀ r ∈ rs, s.heap.IsGen r.ga r.gi
  st : ∀ r ∈ rs, s.gens[r.gi]? = some r.gs
  rul : ∀ r ∈ rs, Ruler T B [r.ℓ] r.zs r.gs r.W s.heap
  ge : ∀ r ∈ rs, n ≤ r.gi
  out : ∀ r ∈ rs, ∀ b ∈ r.W, b ∉ N ∧ h₀.get? b = none ∧ ∃ o, s.heap.get? b = some o
  ptr : ∀ r ∈ rs, r.ga ∉ N ∧ r.ℓ ∉ N ∧ ∃ o, s.heap.get? r.ℓ = some o
  apart : ∀ (i j : Nat) r r', rs[i]? = some r → rs[j]? = some r' → i ≠ j → r.gi ≠ r'.gi ∧ ∀ b ∈ r.W, b ∉ r'.W
  cross : ∀ r ∈ rs, ∀ r' ∈ rs, r.ga ∉ r'.W ∧ r.ℓ ∉ r'.W

section
variable {T : Tp} {B : Around} {h₀ : Heap} {n : Nat} {N N' : List Addr} {rs : List RR} {s s' : Shared}
theorem Rs.nil : Rs T B h₀ n N [] s := by constructor <;> simp
theorem Rs.gaAlive (x : Rs T B h₀ n N rs s) {r : RR} (hr : r ∈ rs) : ∃ o, s.heap.get? r.ga = some o := let ⟨o, _, _, h, _⟩ := x.gen r hr; ⟨o, h⟩
theorem Rs.keepAt (x : Rs T B h₀ n N rs s) {r : RR} (hr : r ∈ rs) (e : ExtB N s.heap s'.heap) : ∀ b ∈ r.W ++ [r.ℓ], ∀ o, s.heap.get? b = some o → s'.heap.get? b = some o := fun b hb o h => e b o (by
  rcases List.mem_append.mp hb with hb | hb
  · exact (x.out r hr b hb).1
  · rw [List.mem_singleton.mp hb]; exact (x.ptr r hr).2.1) h
theorem Rs.mono (x : Rs T B h₀ n N rs s) (e : ExtB N s.heap s'.heap) (g : s'.gens = s.gens) : Rs T B h₀ n N rs s' := by
  refine ⟨fun r hr => ?_, fun r hr => g ▸ x.st r hr, fun r hr => (x.rul r hr).keeps (x.keepAt hr e), x.ge, fun r hr b hb => ?_, fun r hr => ?_, x.apart, x.cross⟩
  · obtain ⟨o, nm, qn, ho, q⟩ := x.gen r hr
    exact ⟨o, nm, qn, e _ _ (x.ptr r hr).1 ho, q⟩
  · obtain ⟨h1, h2, o, ho⟩ := x.out r hr b hb
    exact ⟨h1, h2, o, e _ _ h1 ho⟩
  · obtain ⟨h1, h2, o, ho⟩ := x.ptr r hr
    exact ⟨h1, h2, o, e _ _ h2 ho⟩
theorem Rs.moreN (x : Rs T B h₀ n N rs s) (h : ∀ b ∈ N', b ∈ N ∨ s.heap.get? b = none) : Rs T B h₀ n N' rs s := by
  have no : ∀ {b : Addr}, b ∉ N → (∃ o, s.heap.get? b = some o) → b ∉ N' := fun {b} nb ⟨o, ho⟩ m => (h b m).elim nb fun q => by rw [ho] at q; cases q
  exact ⟨x.gen, x.st, x.rul, x.ge, fun r hr b hb => let ⟨h1, h2, h3⟩ := x.out r hr b hb; ⟨no h1 h3, h2, h3⟩, fun r hr => let ⟨h1, h2, h3⟩ := x.ptr r hr; ⟨no h1 (x.gaAlive hr), no h2 h3, h3⟩, x.apart, x.cross⟩
theorem Rs.push {r : RR} {gs : GenState} {L : Addr} (x : Rs T B h₀ n N rs s) (e : Ext s.heap s'.heap) (g : s'.gens = s.gens.push gs) (hN : ∀ b ∈ N, ∃ o, s.heap.get? b = some o) (hn : n ≤ s.gens.size)
    (hL : s.heap.get? L = none) (hL0 : h₀.get? L = none) (hLa : ∃ o, s'.heap.get? L = some o) (hga : s.heap.get? r.ga = none) (hLg : L ≠ r.ga) (hgen : s'.heap.IsGen r.ga s.gens.size) (hℓ : ∃ o, s.heap.get? r.ℓ = some o) (hℓN : r.ℓ ∉ N) (hℓ0 : ∃ o, h₀.get? r.ℓ = some o)
    (hgi : r.gi = s.gens.size) (hgs : r.gs = gs) (hW : r.W = [L]) (hr : Ruler T B [r.ℓ] r.zs r.gs r.W s'.heap) : Rs T B h₀ n N (rs ++ [r]) s' := by
  have hlt : ∀ r' ∈ rs, r'.gi < s.gens.size := fun r' h => by
    have := x.st r' h
    exact (Array.getElem?_eq_some_iff.mp this).1
  have ne : ∀ {a b : Addr}, (∃ o, s.heap.get? a = some o) → s.heap.get? b = none → a ≠ b := fun {a b} ⟨o, ho⟩ q e => by rw [e, q] at ho; cases ho
  have hLN : L ∉ N := fun m => ne (hN L m) hL rfl
  have hgN : r.ga ∉ N := fun m => ne (hN _ m) hga rfl
  have inW : ∀ {b : Addr}, b ∈ r.W → b = L := fun {b} h => by rw [hW] at h; exact List.mem_singleton.mp h
  refine ⟨fun q hq => ?_, fun q hq => ?_, fun q hq => ?_, fun q hq => ?_, fun q hq b hb => ?_, fun q hq => ?_, fun i j q q' hi hj hij => ?_, fun q hq q' hq' => ?_⟩
  · rcases List.mem_append.mp hq with hq | hq
    · exact (x.gen q hq).keeps e
    · rw [List.mem_singleton.mp hq, hgi]; exact hgen
  · rcases List.mem_append.mp hq with hq | hq
    · rw [g, Array.getElem?_push_lt (hlt q hq)]
      have := x.st q hq
      rw [Array.getElem?_eq_getElem (hlt q hq)] at this; exact this
    · rw [List.mem_singleton.mp hq, hgi, hgs, g]; simp
  · rcases List.mem_append.mp hq with hq | hq
    · exact (x.rul q hq).keeps fun b _ o h => e b o h
    · rw [List.mem_singleton.mp hq]; exact hr
  · rcases List.mem_append.mp hq with hq | hq
    · exact x.ge q hq
    · rw [List.mem_singleton.mp hq, hgi]; exact hn
  · rcases List.mem_append.mp hq with hq | hq
    · obtain ⟨h1, h2, o, ho⟩ := x.out q hq b hb
      exact ⟨h1, h2, o, e _ _ ho⟩
    · rw [List.mem_singleton.mp hq] at hb
      rw [inW hb]; exact ⟨hLN, hL0, hLa⟩
  · rcases List.mem_append.mp hq with hq | hq
    · obtain ⟨h1, h2, o, ho⟩ := x.ptr q hq
      exact ⟨h1, h2, o, e _ _ ho⟩
    · rw [List.mem_singleton.mp hq]
      obtain ⟨o, ho⟩ := hℓ
      exact ⟨hgN, hℓN, o, e _ _ ho⟩
  · rw [List.getElem?_append] at hi hj
    split at hi <;> split at hj
    · exact x.apart i j q q' hi hj hij
    · have e1 : q' = r := List.mem_singleton.mp (List.mem_of_getElem? hj)
      have hq := List.mem_of_getElem? hi
      subst e1
      refine ⟨fun h => ?_, fun b hb hb' => ?_⟩
      · have := hlt q hq; rw [h, hgi] at this; exact absurd this (Nat.lt_irrefl _)
      · rw [inW hb'] at hb
        exact ne (x.out q hq L hb).2.2 hL rfl
    · have e1 : q = r := List.mem_singleton.mp (List.mem_of_getElem? hi)
      have hq := List.mem_of_getElem? hj
      subst e1
      refine ⟨fun h => ?_, fun b hb hb' => ?_⟩
      · have := hlt q' hq; rw [← h, hgi] at this; exact absurd this (Nat.lt_irrefl _)
      · rw [inW hb] at hb'
        exact ne (x.out q' hq L hb').2.2 hL rfl
    · have := (List.getElem?_eq_some_iff.mp hi).1
      have := (List.getElem?_eq_some_iff.mp hj).1
      simp only [List.length_singleton] at *
      omega
  · rcases List.mem_append.mp hq with hq | hq <;> rcases List.mem_append.mp hq' with hq' | hq'
    · exact x.cross q hq q' hq'
    · rw [List.mem_singleton.mp hq', hW]
      exact ⟨fun m => ne (x.gaAlive hq) hL (List.mem_singleton.mp m), fun m => ne (x.ptr q hq).2.2 hL (List.mem_singleton.mp m)⟩
    · rw [List.mem_singleton.mp hq]
      refine ⟨fun m => ne (x.out q' hq' _ m).2.2 hga rfl, fun m => ?_⟩
      obtain ⟨o, ho⟩ := hℓ0
      have := (x.out q' hq' _ m).2.1
      rw [ho] at this; cases this
    · rw [List.mem_singleton.mp hq, List.mem_singleton.mp hq', hW]
      exact ⟨fun m => hLg (List.mem_singleton.mp m).symm, fun m => ne hℓ hL (List.mem_singleton.mp m)⟩

theorem Rs.next {i : Nat} {r : RR} {gs' : GenState} {zs' : List Nat} {W' : List Addr} (x : Rs T B h₀ n N rs s) (hi : rs[i]? = some r) (nx : Nx r.W r.gi gs' s s') (hN : ∀ b ∈ N, ∃ o, s.heap.get? b = some o) (hh : ∀ b, s.heap.get? b = none → h₀.get? b = none)
    (h1 : ∀ b ∈ W', b ∈ r.W ∨ s.heap.get? b = none) (h2 : ∀ b ∈ W', ∃ o, s'.heap.get? b = some o) (h3 : ∀ b ∈ r.W, b ∈ W') (hr : Ruler T B [r.ℓ] zs' gs' W' s'.heap) : Rs T B h₀ n N (rs.set i { r with zs := zs', gs := gs', W := W' }) s' := by
  have hmem : r ∈ rs := List.mem_of_getElem? hi
  have ne : ∀ {a b : Addr}, (∃ o, s.heap.get? a = some o) → s.heap.get? b = none → a ≠ b := fun {a b} ⟨o, ho⟩ q e => by rw [e, q] at ho; cases ho
  have gsz : s'.gens = s.gens.setIfInBounds r.gi gs' := by obtain ⟨h', tk, rfl⟩ := nx.is; rfl
  have hlt : ∀ r' ∈ rs, r'.gi < s.gens.size := fun r' h => (Array.getElem?_eq_some_iff.mp (x.st r' h)).1
  have kp : ∀ {b : Addr}, b ∉ r.W → ∀ o, s.heap.get? b = some o → s'.heap.get? b = some o := fun {b} nb o h => nx.ext b o nb h
  have gaK : ∀ q ∈ rs, q.ga ∉ W' := fun q hq m => (h1 _ m).elim (x.cross q hq r hmem).1 fun e => ne (x.gaAlive hq) e rfl
  have ℓK : ∀ q ∈ rs, q.ℓ ∉ W' := fun q hq m => (h1 _ m).elim (x.cross q hq r hmem).2 fun e => ne (x.ptr q hq).2.2 e rfl
  have gen : ∀ q ∈ rs, s'.heap.IsGen q.ga q.gi := fun q hq => by
    obtain ⟨o, nm, qn, ho, z⟩ := x.gen q hq
    exact ⟨o, nm, qn, kp (x.cross q hq r hmem).1 o ho, z⟩
  have apW : ∀ {j : Nat} {q : RR}, rs[j]? = some q → j ≠ i → (∀ b ∈ q.W, b ∉ r.W) ∧ (∀ b ∈ q.W, b ∉ W') ∧ q.gi ≠ r.gi := fun {j q} hj hne => by
    have := x.apart j i q r hj hi hne
    refine ⟨this.2, fun b hb m => (h1 b m).elim (this.2 b hb) fun e => ne (x.out q (List.mem_of_getElem? hj) b hb).2.2 e rfl, this.1⟩
  refine ⟨fun q hq => ?_, fun q hq => ?_, fun q hq => ?_, fun q hq => ?_, fun q hq b hb => ?_, fun q hq => ?_, fun j k q q' hj hk hjk => ?_, fun q hq q' hq' => ?_⟩
  · rcases mem_set_cases hq with rfl | ⟨j, hj, hq⟩
    · exact gen r hmem
    · exact gen q (List.mem_of_getElem? hq)
  · rw [gsz]
    rcases mem_set_cases hq with rfl | ⟨j, hj, hq⟩
    · have := hlt r hmem
      simp [this]
    · rw [Array.getElem?_setIfInBounds_ne (fun e => (apW hq hj).2.2 e.symm)]
      exact x.st q (List.mem_of_getElem? hq)
  · rcases mem_set_cases hq with rfl | ⟨j, hj, hq⟩
    · exact hr
    · have hm := List.mem_of_getElem? hq
      refine (x.rul q hm).keeps fun b hb o h => kp (fun m => ?_) o h
      rcases List.mem_append.mp hb with hb | hb
      · exact (apW hq hj).1 b hb m
      · rw [List.mem_singleton.mp hb] at m; exact (x.cross q hm r hmem).2 m
  · rcases mem_set_cases hq with rfl | ⟨j, hj, hq⟩
    · exact x.ge r hmem
    · exact x.ge q (List.mem_of_getElem? hq)
  · rcases mem_set_cases hq with rfl | ⟨j, hj, hq⟩
    · have hb : b ∈ W' := hb
      rcases h1 b hb with m | m
      · exact ⟨(x.out r hmem b m).1, (x.out r hmem b m).2.1, h2 b hb⟩
      · exact ⟨fun q => ne (hN b q) m rfl, hh b m, h2 b hb⟩
    · obtain ⟨a1, a2, o, ho⟩ := x.out q (List.mem_of_getElem? hq) b hb
      exact ⟨a1, a2, o, kp ((apW hq hj).1 b hb) o ho⟩
  · have : ∀ q ∈ rs, q.ga ∉ N ∧ q.ℓ ∉ N ∧ ∃ o, s'.heap.get? q.ℓ = some o := fun q hq => by
      obtain ⟨a1, a2, o, ho⟩ := x.ptr q hq
      exact ⟨a1, a2, o, kp (x.cross q hq r hmem).2 o ho⟩
    rcases mem_set_cases hq with rfl | ⟨j, hj, hq⟩
    · exact this r hmem
    · exact this q (List.mem_of_getElem? hq)
  · rw [List.getElem?_set] at hj hk
    split at hj <;> split at hk
    · omega
    · split at hj
      · cases hj
        have hki : k ≠ i := by omega
        exact ⟨fun e => (apW hk hki).2.2 e.symm, fun b hb m => (apW hk hki).2.1 b m hb⟩
      · cases hj
    · split at hk
      · cases hk
        have hji : j ≠ i := by omega
        exact ⟨(apW hj hji).2.2, (apW hj hji).2.1⟩
      · cases hk
    · exact x.apart j k q q' hj hk hjk
  · have key : ∀ q ∈ rs, ∀ q' ∈ rs.set i { r with zs := zs', gs := gs', W := W' }, q.ga ∉ q'.W ∧ q.ℓ ∉ q'.W := fun q hq q' hq' => by
      rcases mem_set_cases hq' with rfl | ⟨j, hj, hq'⟩
      · exact ⟨gaK q hq, ℓK q hq⟩
      · exact x.cross q hq q' (List.mem_of_getElem? hq')
    rcases mem_set_cases hq with rfl | ⟨j, hj, hq⟩
    · exact key r hmem q' hq'
    · exact key q (List.mem_of_getElem? hq) q' hq'
end
end Mine
namespace Mine
open PySem PySem.Spec PySem.Calls PyProof.Rows PySem.W PySem.W.X

section
variable {c : Cx} {elt iter : Expr} {x : Str} {px : Pos} {scope : Scope} {pos : Pos} {E : Value → Shared → Prop}

/-- what the call of the generator's def leaves -/
def Made (T : Tp) (pm cd doc : Value) (a : Addr) (v : Value) (s : Shared) (Q : Value → Shared → Prop) : Prop :=
  ∀ h' tk L ga m, Ext s.heap h' → s.heap.get? L = none → s.heap.get? ga = none → L ≠ ga → h'.Ns L m → m (Str.ofString "grouping") = some v → h'.IsGen ga s.gens.size →
      Q (.ref ga) { s with heap := h', gens := s.gens.push (.fresh (.func (rec 6).body (gEnv pm cd doc L a))), toks := tk }

theorem GR.pushG {n : Nat} {g g' : Array GenState} {gs : GenState} (x : GR (some n) g g') (hn : n ≤ g.size) (hb : gs.bare = true) : GR (some n) g (g'.push gs) := by
  obtain ⟨h1, h2, h3⟩ := x
  refine ⟨fun i hi => ?_, fun ha => ?_, by simp; omega⟩
  · rw [Array.getElem?_push_lt (by omega), ← h1 i hi, Array.getElem?_eq_getElem (by omega)]
  · exact (h2 ha).push hb
theorem GR.setG {n i : Nat} {g g' : Array GenState} {gs : GenState} (x : GR (some n) g g') (hi : n ≤ i) (hb : gs.bare = true) : GR (some n) g (g'.setIfInBounds i gs) := by
  obtain ⟨h1, h2, h3⟩ := x
  refine ⟨fun j hj => ?_, fun ha y hy => ?_, by simpa using h3⟩
  · rw [Array.getElem?_setIfInBounds_ne (by omega)]; exact h1 j hj
  · rcases Array.mem_or_eq_of_mem_setIfInBounds hy with h | h
    · exact h2 ha y h
    · rw [h]; exact hb

theorem gen_loop {B : Around} {pm cd doc : Value} {fa : Addr} (src : List (List Nat)) {R : Result → Shared → Prop} {s₂ s : Shared} {h₁ : Heap} {I C D : Addr} {fp wr : List Addr} {P : Nat → Value → Prop} {St : Nat → Heap → Prop} {m : Str → Option Value}
    (hcm : ∃ t, c.T.mg (Str.ofString "CHAR_MAX") = some (.int 127 t)) (roomB : Room B 3) (hrow : ∀ r ∈ src, RowT r)
    (ok : c.Ok) (co : CompOk c scope x) (it : It c (src.map eR) h₁ s₂ I fp wr P St)
    (helt : ∀ (C : Addr) (s : Shared) (m : Str → Option Value) v (Q E : Value → Shared → Prop), s.heap.Ns C m → VarIs (cEnv scope c.env C) s.heap m x v → Ext c.H s.heap → Made c.T pm cd doc fa v s Q → wpAny c.M c.A (eval elt (cEnv scope c.env C)) Q E s)
    (hD : s₂.heap.objs.size ≤ D) (hDC : D < C)
    (hs : ∃ h tk, s = { s₂ with heap := h, toks := tk } ∧ Ext s₂.heap h) (halive : ∀ a ∈ D :: ownC scope C, ∃ o, s.heap.get? a = some o)
    (hacc : s.heap.PlainList D #[]) (hn : s.heap.Ns C m) (hcell : ∀ cc, (cellsFrom (C + 1) scope.names []).lookup x = some cc → ∃ v0, s.heap.IsCell cc v0)
    (hR : ∀ h' tk g' m' (rs : List RR), h'.Ns C m' → h'.PlainList D (List.toArray (rs.map fun r => Value.ref r.ga)) → rs.map RR.zs = src.map stopAt → Rs c.T B h₁ s₂.gens.size (D :: ownC scope C ++ wr ++ c.X) rs { s₂ with heap := h', gens := g', toks := tk } → GR (some s₂.gens.size) s₂.gens g' → ExtB (D :: ownC scope C ++ wr) s₂.heap h' → R (.ok .next) { s₂ with heap := h', gens := g', toks := tk }) :
    codeAny c.M c.A (.compLoop (.ListComp elt [⟨.Name x px, iter, [], 0⟩] scope pos) 0 (.ref I) (.ref D) (cEnv scope c.env C)) R s := by
  have W := it.walks
  have hlen : (src.map eR).length = src.length := List.length_map ..
  rw [hlen] at W
  have hsmall : src.length ≤ big := hlen ▸ it.small
  have hNge : ∀ a ∈ D :: ownC scope C, s₂.heap.objs.size ≤ a := fun a ha => by
    rcases List.mem_cons.mp ha with rfl | ha
    · exact hD
    · exact Nat.le_trans hD (Nat.le_trans (Nat.le_of_lt hDC) (ownC_ge ha))
  have hDo : D ∉ ownC scope C := fun h => absurd (ownC_ge h) (Nat.not_le.mpr hDC)
  have hX1 : ∀ a ∈ D :: ownC scope C ++ wr ++ c.X, h₁.get? a = none ∨ a ∈ c.X := fun a ha => by
    rcases List.mem_append.mp ha with ha | ha
    · rcases List.mem_append.mp ha with ha | ha
      · left
        cases e : h₁.get? a with
        | none => rfl
        | some o => have := it.up a o e; rw [none_ge (hNge a ha)] at this; cases this
      · exact .inl (it.new a ha)
    · exact .inr ha
  have hfpN : ∀ a ∈ fp, a ∉ D :: ownC scope C := fun a ha hm => absurd (it.lt a ha) (Nat.not_lt.mpr (hNge a hm))
  have hwrN : ∀ a ∈ D :: ownC scope C, a ∉ wr := fun a ha hm => hfpN a (W.sub _ hm) ha
  have up1 : ∀ {h' : Heap}, ExtB (D :: ownC scope C ++ wr) s₂.heap h' → Ext h₁ h' := fun {h'} e a o ho => e a o (fun hm => by
    rcases List.mem_append.mp hm with hm | hm
    · have := it.up a o ho; rw [none_ge (hNge a hm)] at this; cases this
    · rw [it.new a hm] at ho; cases ho) (it.up a o ho)
  refine codeAny_compLoop_tests (fun n s' => ∃ h' tk g' m' rs i, s' = { s₂ with heap := h', gens := g', toks := tk } ∧ i ≤ src.length ∧ n = src.length + 1 - i ∧ St i h' ∧ h'.PlainList D (List.toArray (rs.map fun (r : RR) => Value.ref r.ga)) ∧ h'.Ns C m' ∧
      rs.map RR.zs = (src.take i).map stopAt ∧ Rs c.T B h₁ s₂.gens.size (D :: ownC scope C ++ wr ++ c.X) rs s' ∧ GR (some s₂.gens.size) s₂.gens g' ∧ ExtB (D :: ownC scope C ++ wr) s₂.heap h' ∧ (∀ a ∈ D :: ownC scope C, ∃ o, h'.get? a = some o) ∧
      (∀ cc, (cellsFrom (C + 1) scope.names []).lookup x = some cc → ∃ v0, h'.IsCell cc v0)) ?_ (src.length + 1) ?_
  · rintro n s' ⟨h', tk, g', m', rs, i, rfl, hi, rfl, hst, hDl, hnC, hzs, hrs, hgr, hext, hal, hce⟩
    have hrsl : rs.length = i := by have := congrArg List.length hzs; simpa [Nat.min_eq_left hi] using this
    by_cases hlt : i < src.length
    · refine W.item i _ _ _ hlt hst fun v h₂ tk₂ hP hst₂ hk₂ => ?_
      obtain ⟨d, hd, r0⟩ := it.items i v (by rw [hlen]; exact hlt) hP
      obtain ⟨a, ha, rfl⟩ := get_map_some hd
      have ha' : a ∈ src := List.mem_of_getElem? ha
      have E2 : ExtB (D :: ownC scope C ++ wr) s₂.heap h₂ := fun b o nb e => hk₂ b o (fun q => nb (List.mem_append_right _ q)) (hext b o nb e)
      have hCw : C ∉ wr := hwrN C (List.mem_cons_of_mem _ (List.mem_cons_self))
      have hDw : D ∉ wr := hwrN D List.mem_cons_self
      have hn₂ : h₂.Ns C m' := hnC.at' fun o e => hk₂ _ o hCw e
      have hal₂ : ∀ a ∈ D :: ownC scope C, ∃ o, h₂.get? a = some o := fun a ha => let ⟨o, ho⟩ := hal a ha; ⟨o, hk₂ a o (hwrN a ha) ho⟩
      refine comp_store (Y := ownC scope C) ok co hn₂ List.mem_cons_self (fun cc hcc => ⟨(ownC_of_lookup hcc).1, (ownC_of_lookup hcc).2, ?_⟩) fun h₃ tk₃ m₃ hn₃ hv₃ he₃ hal₃ hce₃ => ?_
      · obtain ⟨v0, o, ho, hd0⟩ := hce cc hcc
        exact ⟨v0, o, hk₂ cc o (hwrN cc (List.mem_cons_of_mem _ (ownC_of_lookup hcc).1)) ho, hd0⟩
      have hst₃ : St (i + 1) h₃ := W.frame _ _ _ hst₂ fun b hb o e => he₃ b o (fun q => hfpN b hb (List.mem_cons_of_mem _ q)) e
      have E3 : ExtB (D :: ownC scope C ++ wr) s₂.heap h₃ := fun b o nb e => he₃ b o (fun q => nb (List.mem_append_left _ (List.mem_cons_of_mem _ q))) (E2 b o nb e)
      have e1 := up1 E3
      have hal3 : ∀ a ∈ D :: ownC scope C, ∃ o, h₃.get? a = some o := fun a ha => hal₃ a (hal₂ a ha)
      have hNal : ∀ a ∈ D :: ownC scope C ++ wr ++ c.X, ∃ o, h₃.get? a = some o := fun a ha => by
        rcases List.mem_append.mp ha with ha | ha
        · rcases List.mem_append.mp ha with ha | ha
          · exact hal3 a ha
          · exact it.alive _ _ hst₃ a ha
        · obtain ⟨o, ho⟩ := ok.xs a ha
          exact ⟨o, e1 a o (it.old a o ho)⟩
      have hD3 : h₃.PlainList D (List.toArray (rs.map fun (r : RR) => Value.ref r.ga)) := (hDl.at fun o e => hk₂ _ o hDw e).at fun o e => he₃ D o hDo e
      have hrs3 : Rs c.T B h₁ s₂.gens.size (D :: ownC scope C ++ wr ++ c.X) rs { s₂ with heap := h₃, gens := g', toks := tk₃ } := hrs.mono (fun k o nk e => by
        have n1 : k ∉ D :: ownC scope C ++ wr := fun q => nk (List.mem_append_left _ q)
        exact he₃ k o (fun q => n1 (List.mem_append_left _ (List.mem_cons_of_mem _ q))) (hk₂ k o (fun q => n1 (List.mem_append_right _ q)) e)) rfl
      have htake : src.take (i + 1) = src.take i ++ [a] := by rw [List.take_add_one, ha]; rfl
      obtain ⟨ℓ, vs, rfl, hℓX, hpl, hbz, hrl⟩ := Rep.strong hX1 r0
      rw [List.forIn_nil]
      refine wpAny_pure ?_
      rw [if_pos rfl]
      refine helt C { s₂ with heap := h₃, gens := g', toks := tk₃ } m₃ _ _ _ hn₃ hv₃ (it.old.trans e1) ?_
      intro h₅ tk₅ L ga m5 hk₅ hL hga hLg hn5 hm5 hgen
      have hk₅ : Ext h₃ h₅ := hk₅
      have hL1 : h₁.get? L = none := by
        cases q : h₁.get? L with
        | none => rfl
        | some o => have := e1 _ _ q; have hL : h₃.get? L = none := hL; rw [this] at hL; cases hL
      have hℓ1 : ∃ o, h₁.get? ℓ = some o := by obtain ⟨n, g⟩ := hpl; exact ⟨_, g⟩
      have hpl5 : h₅.PlainList ℓ (List.toArray vs) := (hpl.at fun o e => e1 _ o e).at fun o e => hk₅ _ o e
      have hLa : ∃ o, h₅.get? L = some o := by obtain ⟨o, _, _, ho, _⟩ := hn5; exact ⟨o, ho⟩
      have hℓL : ℓ ≠ L := fun e => by obtain ⟨o, ho⟩ := hℓ1; rw [e, hL1] at ho; cases ho
      have hL0 : c.T.H₀.get? L = none := by
        cases q : c.T.H₀.get? L with
        | none => rfl
        | some o => have := it.old _ _ (ok.old _ _ q); rw [hL1] at this; cases this
      have hrs5 : Rs c.T B h₁ s₂.gens.size (D :: ownC scope C ++ wr ++ c.X) (rs ++ [⟨stopAt a, ga, g'.size, .fresh (.func (rec 6).body (gEnv pm cd doc L fa)), [L], ℓ⟩]) { s₂ with heap := h₅, gens := g'.push (.fresh (.func (rec 6).body (gEnv pm cd doc L fa))), toks := tk₅ } :=
        Rs.push hrs3 hk₅ rfl hNal hgr.2.2 hL hL1 hLa hga hLg hgen (let ⟨o, ho⟩ := hℓ1; ⟨o, e1 _ o ho⟩) hℓX hℓ1 rfl rfl rfl
          (ruler_fresh ok.top hcm roomB (hrow a ha') hn5 hm5 hpl5 hbz (RepL.ints (by rw [List.map_map]; exact hrl)) hℓL hL0)
      have bl := big_le
      refine wpAny_list_append_plain (hsz := by simp; omega) (hD3.at fun o e => hk₅ _ o e) fun h₆ hl₆ hs₆ => ?_
      have hs₆ : Heap.SameBut D h₅ h₆ := hs₆
      have e6 : ExtB (D :: ownC scope C ++ wr) h₅ h₆ := ExtB.of_same hs₆ (List.mem_append_left _ List.mem_cons_self)
      refine ⟨src.length + 1 - (i + 1), by omega, h₆, tk₅, _, m₃, _, i + 1, rfl, hlt, rfl, W.frame _ _ _ hst₃ fun b hb' o e => hs₆.extBut b o (fun q => hfpN b hb' (q ▸ List.mem_cons_self)) (hk₅ b o e), by simpa using hl₆,
        (hn₃.keeps hk₅).sameBut hs₆ (Nat.ne_of_gt hDC), ?_, hrs5.mono (e6.mono fun k hk => List.mem_append_left _ hk) rfl, hgr.pushG (Nat.le_refl _) rfl, (E3.trans hk₅.but).trans e6, fun a ha => ?_, fun cc hcc => ?_⟩
      · rw [htake]; simp [hzs]
      · by_cases q : a = D
        · subst q; obtain ⟨n, g⟩ := hl₆; exact ⟨_, g⟩
        · obtain ⟨o, ho⟩ := hal3 a ha
          exact ⟨o, (hs₆.2 a q).trans (hk₅ a o ho)⟩
      · obtain ⟨v0, o, ho, hd0⟩ := hce₃ cc hcc
        exact ⟨v0, o, (hs₆.2 cc (fun q => hDo (q ▸ (ownC_of_lookup hcc).1))).trans (hk₅ cc o ho), hd0⟩
    · have hin : i = src.length := by omega
      subst hin
      refine W.done _ _ _ hst fun h₂ tk₂ hk₂ => ?_
      rw [List.take_length] at hzs
      exact hR h₂ tk₂ g' m' rs (hnC.at' fun o e => hk₂ _ o (hwrN C (List.mem_cons_of_mem _ List.mem_cons_self)) e) (hDl.at fun o e => hk₂ _ o (hwrN D List.mem_cons_self) e) hzs (hrs.mono (fun k o nk e => hk₂ k o (fun q => nk (List.mem_append_left _ (List.mem_append_right _ q))) e) rfl) hgr fun k o nk e => hk₂ k o (fun q => nk (List.mem_append_right _ q)) (hext k o nk e)
  · obtain ⟨h0, tk0, rfl, e0⟩ := hs
    exact ⟨h0, tk0, s₂.gens, m, [], 0, rfl, Nat.zero_le _, rfl, W.frame _ _ _ it.st fun b _ o e => e0 b o e, hacc, hn, rfl, Rs.nil, GR.refl _, e0.but, halive, hcell⟩
end
end Mine
namespace Mine
open PySem PySem.Spec PySem.Calls PyProof.Rows PySem.W PySem.W.X

section
variable {c : Cx} {elt iter : Expr} {x : Str} {px : Pos} {scope : Scope} {pos : Pos} {E : Value → Shared → Prop}
theorem gen_block {B : Around} {pm cd doc : Value} {fa : Addr} (src : List (List Nat)) {RR' : Value → Addr → Result → Shared → Prop} {s₂ : Shared} {h₁ : Heap} {I : Addr} {fp wr : List Addr} {P : Nat → Value → Prop} {St : Nat → Heap → Prop}
    (hcm : ∃ t, c.T.mg (Str.ofString "CHAR_MAX") = some (.int 127 t)) (roomB : Room B 3) (hrow : ∀ r ∈ src, RowT r)
    (ok : c.Ok) (co : CompOk c scope x) (it : It c (src.map eR) h₁ s₂ I fp wr P St)
    (helt : ∀ (C : Addr) (s : Shared) (m : Str → Option Value) v (Q E : Value → Shared → Prop), s.heap.Ns C m → VarIs (cEnv scope c.env C) s.heap m x v → Ext c.H s.heap → Made c.T pm cd doc fa v s Q → wpAny c.M c.A (eval elt (cEnv scope c.env C)) Q E s)
    (hR : ∀ D C h' tk g' m' (rs : List RR), s₂.heap.objs.size ≤ D → D < C → h'.Ns C m' → h'.PlainList D (List.toArray (rs.map fun r => Value.ref r.ga)) → rs.map RR.zs = src.map stopAt → Rs c.T B h₁ s₂.gens.size (D :: ownC scope C ++ wr ++ c.X) rs { s₂ with heap := h', gens := g', toks := tk } → GR (some s₂.gens.size) s₂.gens g' → ExtB (D :: ownC scope C ++ wr) s₂.heap h' →
      RR' (.ref D) C (.ok .next) { s₂ with heap := h', gens := g', toks := tk }) :
    wpAny c.M c.A (newList []) (fun acc s₃ => wpAny c.M c.A (newFunctionEnv scope c.env.globals (clOf scope.names c.env.cells []) [] c.env.qual none .none (some c.env)) (fun cenv s₄ =>
      codeAny c.M c.A (.compStart (.ListComp elt [⟨.Name x px, iter, [], 0⟩] scope pos) 0 (.ref I) acc { cenv with scope := relabel scope c.env }) (RR' acc cenv.locals) s₄) E s₃) E s₂ := by
  refine wpAny_newObj_type (newCompEnv ?_)
  dsimp only
  generalize hH2 : s₂.heap.push { cls := .type "list", dict := none, data := .seq ([] : List Value).toArray } = H2
  have hC : H2.objs.size = s₂.heap.objs.size + 1 := by rw [← hH2, Heap.size_push]
  have hDC : s₂.heap.objs.size < H2.objs.size := by rw [hC]; exact Nat.lt_succ_self _
  have e0 : Ext s₂.heap (pushCells (H2.push { cls := .type "dict", data := .dict #[] }) scope.names) := fun b o e => pushCells_keeps _ _ b o (Heap.get?_push_of_some _ (hH2 ▸ Heap.get?_push_of_some _ e))
  have okc := cellsFrom_ok scope.names (H2.push { cls := .type "dict", data := .dict #[] }) (H2.objs.size + 1) [] ⟨fun _ _ hm => (nomatch hm), List.Pairwise.nil⟩ (by rw [Heap.size_push]; exact Nat.le_refl _)
  rw [Heap.size_push] at okc
  have hD0 : (pushCells (H2.push { cls := .type "dict", data := .dict #[] }) scope.names).get? s₂.heap.objs.size = some { cls := .type "list", dict := none, data := .seq ([] : List Value).toArray } :=
    pushCells_keeps _ _ _ _ (Heap.get?_push_of_some _ (hH2 ▸ Heap.get?_push_size _ rfl))
  have hn0 : (pushCells (H2.push { cls := .type "dict", data := .dict #[] }) scope.names).Ns H2.objs.size (fun _ => none) := (Heap.Ns.new H2 (.type "dict")).keeps (pushCells_keeps _ _)
  have loop : ∀ s : Shared, s = { s₂ with heap := pushCells (H2.push { cls := .type "dict", data := .dict #[] }) scope.names } →
      codeAny c.M c.A (.compLoop (.ListComp elt [⟨.Name x px, iter, [], 0⟩] scope pos) 0 (.ref I) (.ref s₂.heap.objs.size) (cEnv scope c.env H2.objs.size)) (RR' (.ref s₂.heap.objs.size) H2.objs.size) s := by
    rintro s rfl
    refine gen_loop src hcm roomB hrow ok co it helt (Nat.le_refl _) hDC ⟨_, _, rfl, e0⟩ ?_ ⟨0, hD0⟩ hn0 (fun cc hcc => ⟨none, (okc.empty _ _ (mem_of_lookup hcc)).1⟩) (fun h' tk g' m' rs a1 a2 a3 a4 a5 a6 => hR _ _ h' tk g' m' rs (Nat.le_refl _) hDC a1 a2 a3 a4 a5 a6)
    intro a ha
    rcases List.mem_cons.mp ha with rfl | ha
    · exact ⟨_, hD0⟩
    rcases List.mem_cons.mp ha with rfl | ha
    · obtain ⟨o, _, _, ho, _⟩ := hn0; exact ⟨o, ho⟩
    · obtain ⟨⟨y, a'⟩, hm, rfl⟩ := List.mem_map.mp ha
      obtain ⟨⟨o, ho, _⟩, _⟩ := okc.empty y a' hm
      exact ⟨o, ho⟩
  exact codeAny_compStart_list (loop _ rfl) (it.walks.self 0 _ _ _ (it.walks.frame _ _ _ it.st fun b _ o e => e0 b o e) (loop _ rfl))
end

def Fx.wg (F : Fx) (γ : Option Nat) : Fx := { F with γ := γ }
theorem Fx.Ok.g {F : Fx} (f : F.Ok) (γ : Option Nat) : (F.wg γ).Ok := ⟨f.top, f.room, f.kind, f.glob, f.blt, f.loc, f.cells, f.apart, f.fresh⟩

section
variable {F : Fx} {Ω : List OwnD} {s₀ s : Shared} {ρ : List (Str × AV)} {E : Value → Shared → Prop} {Q : Flow → Shared → Prop} {rest : List Stmt} {pos : Pos}
/-- a change at Wc (in Z), and new things N -/
theorem St.move {Wc N : List Addr} {s' : Shared} {γ' : Option Nat} (f : F.Ok) (st : St F Ω s₀ ρ s) (e : ExtB Wc s.heap s'.heap) (hWZ : ∀ b ∈ Wc, b ∈ F.Z) (hWY : ∀ b ∈ Wc, b ∉ F.Y) (hWH : ∀ b ∈ Wc, F.T.H₀.get? b = none) (hWa : ∀ b ∈ Wc, ∃ o, s'.heap.get? b = some o)
    (hN : ∀ b ∈ N, s.heap.get? b = none) (hNa : ∀ b ∈ N, ∃ o, s'.heap.get? b = some o) : St ((F.wg γ').wz (N ++ F.Z)) Ω s' ρ s' := by
  have sub : ∀ a ∈ F.Y ++ (N ++ F.Z), s.heap.get? a = none ∨ a ∈ F.X := fun a ha => by
    rcases List.mem_append.mp ha with ha | ha
    · exact .inr (List.mem_append_left _ ha)
    · rcases List.mem_append.mp ha with ha | ha
      · exact .inl (hN a ha)
      · exact .inr (List.mem_append_right _ ha)
  have eX : ExtB (F.Y ++ (N ++ F.Z)) s.heap s'.heap := e.mono fun b hb => List.mem_append_right _ (List.mem_append_right _ (hWZ b hb))
  have kY : ∀ b ∈ F.Y, ∀ o, s.heap.get? b = some o → s'.heap.get? b = some o := fun b hb o h => e b o (fun m => hWY b m hb) h
  have alive : ∀ b, (∃ o, s.heap.get? b = some o) → ∃ o, s'.heap.get? b = some o := fun b ⟨o, ho⟩ => by
    by_cases m : b ∈ Wc
    · exact hWa b m
    · exact ⟨o, e b o m ho⟩
  refine ⟨Sm.refl s', fun b o h => e b o (fun m => by have h : F.T.H₀.get? b = some o := h; rw [hWH b m] at h; cases h) (st.old b o h), fun b hb => ?_, fun x cc h1 h2 => ?_, ?_, fun o ho => ((st.own o ho).strong sub).mono fun b y hb q => e b y (fun m => ?_) q, st.ownY⟩
  · rcases List.mem_append.mp hb with hb | hb
    · exact alive b (st.xs b (List.mem_append_left _ hb))
    · rcases List.mem_append.mp hb with hb | hb
      · exact hNa b hb
      · exact alive b (st.xs b (List.mem_append_right _ hb))
  · obtain ⟨v0, o, ho, hd⟩ := st.cell x cc h1 h2
    obtain ⟨cc', h3, hY, _⟩ := f.cells x h1
    have h2 : F.env.cells.lookup x = some cc := h2
    rw [h2] at h3; cases h3
    exact ⟨v0, o, kY _ hY o ho, hd⟩
  · obtain ⟨m, hn, hv⟩ := st.vars
    refine ⟨m, hn.at' fun o q => kY _ f.loc o q, fun x d hx => ?_⟩
    obtain ⟨v, r, a1, a2⟩ := hv x d hx
    refine ⟨v, (Rep.strong sub r).mono eX, And.intro a1 fun q => ?_⟩
    obtain ⟨cc, h1, o, ho, hd⟩ := a2 q
    obtain ⟨cc', h3, hY, _⟩ := f.cells x q
    have h1 : F.env.cells.lookup x = some cc := h1
    rw [h1] at h3; cases h3
    exact ⟨cc, h1, o, kY _ hY o ho, hd⟩
  · rcases hb with hb | hb
    · exact hWY b m (hb ▸ (st.ownY o ho).1)
    · exact hb (List.mem_append_right _ (List.mem_append_right _ (hWZ b m)))
/-- what is let go -/
theorem St.drop {Wd : List Addr} {s' : Shared} {γ' : Option Nat} (f : F.Ok) (st : St (F.wz (Wd ++ F.Z)) Ω s₀ ρ s) (e : ExtB Wd s.heap s'.heap) (hX : ∀ b ∈ Wd, b ∉ F.X) (hWH : ∀ b ∈ Wd, F.T.H₀.get? b = none) : St (F.wg γ') Ω s' ρ s' := by
  have sub : ∀ a ∈ F.X, a ∈ F.Y ++ (Wd ++ F.Z) := fun a ha => by
    rcases List.mem_append.mp ha with ha | ha
    · exact List.mem_append_left _ ha
    · exact List.mem_append_right _ (List.mem_append_right _ ha)
  have eX : ExtB (F.Y ++ (Wd ++ F.Z)) s.heap s'.heap := e.mono fun b hb => List.mem_append_right _ (List.mem_append_left _ hb)
  have kX : ∀ b ∈ F.X, ∀ o, s.heap.get? b = some o → s'.heap.get? b = some o := fun b hb o h => e b o (fun m => hX b m hb) h
  refine ⟨Sm.refl s', fun b o h => e b o (fun m => by have h : F.T.H₀.get? b = some o := h; rw [hWH b m] at h; cases h) (st.old b o h), fun b hb => let ⟨o, ho⟩ := st.xs b (sub b hb); ⟨o, kX b hb o ho⟩, fun x cc h1 h2 => ?_, ?_, fun o ho => ((st.own o ho).mono fun b y hb q => e b y (fun m => ?_) q).weak sub, st.ownY⟩
  · obtain ⟨v0, o, ho, hd⟩ := st.cell x cc h1 h2
    obtain ⟨cc', h3, hY, _⟩ := f.cells x h1
    have h2 : F.env.cells.lookup x = some cc := h2
    rw [h2] at h3; cases h3
    exact ⟨v0, o, kX _ (List.mem_append_left _ hY) o ho, hd⟩
  · obtain ⟨m, hn, hv⟩ := st.vars
    refine ⟨m, hn.at' fun o q => kX _ (List.mem_append_left _ f.loc) o q, fun x d hx => ?_⟩
    obtain ⟨v, r, a1, a2⟩ := hv x d hx
    refine ⟨v, Rep.weak sub (r.mono eX), And.intro a1 fun q => ?_⟩
    obtain ⟨cc, h1, o, ho, hd⟩ := a2 q
    obtain ⟨cc', h3, hY, _⟩ := f.cells x q
    have h1 : F.env.cells.lookup x = some cc := h1
    rw [h1] at h3; cases h3
    exact ⟨cc, h1, o, kX _ (List.mem_append_left _ hY) o ho, hd⟩
  · rcases hb with hb | hb
    · exact hX b m (List.mem_append_left _ (hb ▸ (st.ownY o ho).1))
    · exact hb (List.mem_append_right _ (List.mem_append_left _ m))
theorem Rs.base {T : Tp} {B : Around} {h₀ h₀' : Heap} {n : Nat} {N : List Addr} {rs : List RR} {s : Shared} (x : Rs T B h₀ n N rs s) (h : ∀ b, h₀.get? b = none → h₀'.get? b = none) : Rs T B h₀' n N rs s :=
  ⟨x.gen, x.st, x.rul, x.ge, fun r hr b hb => let ⟨h1, h2, h3⟩ := x.out r hr b hb; ⟨h1, h b h2, h3⟩, x.ptr, x.apart, x.cross⟩

theorem repPtrs {p : Program × World} {h : Heap} {X : List Addr} : ∀ (rs : List RR), RepL p h X (rs.map fun r => .ptr r.ga) (rs.map fun r => Value.ref r.ga)
  | [] => rfl
  | r :: rs => ⟨_, _, rfl, rfl, repPtrs rs⟩

theorem seq_gens {B : Around} {pm cd doc : Value} {fa : Addr} {src : List (List Nat)} {elt iter : Expr} {x y : Str} {px py : Pos} {scope : Scope} {cpos : Pos} (f : F.Ok) (st : St F Ω s₀ ρ s)
    (hcm : ∃ t, F.T.mg (Str.ofString "CHAR_MAX") = some (.int 127 t)) (roomB : Room B 3) (hrow : ∀ r ∈ src, RowT r) (co : CompOk (F.cx s.heap ρ) scope x) (hi : PI (F.cx s.heap ρ) iter (src.map eR))
    (helt : ∀ (C : Addr) (s₁ : Shared) (m : Str → Option Value) v (Q E : Value → Shared → Prop), s₁.heap.Ns C m → VarIs (cEnv scope F.env C) s₁.heap m x v → Ext s.heap s₁.heap → Made F.T pm cd doc fa v s₁ Q → wpAny F.M F.A (eval elt (cEnv scope F.env C)) Q E s₁)
    (K : ∀ s' rs, St ((F.wg none).wz (rs.flatMap RR.W ++ F.Z)) Ω s' ((y, .list (rs.map fun r => .ptr r.ga)) :: ρ) s' → rs.map RR.zs = src.map stopAt → Rs F.T B s.heap s.gens.size F.X rs s' → Sm F.Y (some s.gens.size) s s' → wpAny F.M F.A (execs rest F.env) Q E s')
    (hsw : swapsWith (.ListComp elt [⟨.Name x px, iter, [], 0⟩] scope cpos) (some (.Name y py)) pos.line F.env = pure true := by rfl) (hk : F.env.kindOf y = some .local := by rfl)
    (hs : ∀ y, foldedSetIterable iter F.env y = pure y := by intro _; rfl) :
    wpAny F.M F.A (execs (.Assign [.Name y py] (.ListComp elt [⟨.Name x px, iter, [], 0⟩] scope cpos) pos :: rest) F.env) Q E s := by
  refine wpAny_execs_cons ?_
  rw [exec_Assign_Name_used _ _ _ _ hsw]
  refine wpAny_bind (wpAny_standAt (wpAny_bind ?_))
  show wpAny _ F.A (do let _ ← comprehension (.ListComp elt [⟨.Name x px, iter, [], 0⟩] scope cpos) scope F.env _ (newList []) false (eval iter F.env) (some (assign (.Name y py) F.env))) _ _ s
  refine wpAny_bind (wpAny_mono (wpAny_comprehension_free (use := some (assign (.Name y py) F.env)) (Q := fun _ s' => wpAny F.M F.A (execs rest F.env) Q E s') rfl hs (closureFor_eq co.free) co.kind (co_names co)
    (hi s _ _ (Ext.refl _) fun h₁ s' I fp wr P Stt e1 k1 it => ?_)) (fun _ s' hq => wpAny_pure (wpAny_pure hq)) fun _ _ e => e)
  refine gen_block (c := F.cx s.heap ρ) (B := B) (pm := pm) (cd := cd) (doc := doc) (fa := fa) src (RR' := fun acc C => compPost F.M F.A E (some (assign (.Name y py) F.env)) (fun _ s' => wpAny F.M F.A (execs rest F.env) Q E s') acc C) hcm roomB hrow (st.ok f) co it helt ?_
  intro D C h' tk g' m' rs hD hDC hn hl hzs hrs hgr he
  have hgs : s'.gens = s.gens := by obtain ⟨h2, tk2, rfl, hk2⟩ := k1.is; rfl
  have sz : ∀ {a o}, s.heap.get? a = some o → a < s'.heap.objs.size := fun {a o} e => Heap.lt_size (k1.ext a o e)
  have nw : ∀ {a}, s'.heap.objs.size ≤ a → s.heap.get? a = none := fun {a} h => by
    cases q : s.heap.get? a with
    | none => rfl
    | some o => exact absurd (sz q) (Nat.not_lt.mpr h)
  have hCs : s'.heap.objs.size ≤ C := Nat.le_trans hD (Nat.le_of_lt hDC)
  have ext : Ext s.heap h' := fun a o ho => he a o (fun hm => by
    rcases List.mem_append.mp hm with hm | hm
    · rcases List.mem_cons.mp hm with rfl | hm
      · rw [nw hD] at ho; cases ho
      · rw [nw (Nat.le_trans hCs (ownC_ge hm))] at ho; cases ho
    · have := e1 a o ho; rw [it.new a hm] at this; cases this) (k1.ext a o ho)
  have nC : C ∉ F.X := fresh_not st.xs (Ext.refl _) (nw hCs)
  have hCN : C ∈ D :: ownC scope C ++ wr ++ F.X := List.mem_append_left _ (List.mem_append_left _ (List.mem_cons_of_mem _ List.mem_cons_self))
  have hWn : ∀ b ∈ C :: rs.flatMap RR.W, s.heap.get? b = none := fun b hb => by
    rcases List.mem_cons.mp hb with rfl | hb
    · exact nw hCs
    · obtain ⟨r, hr, hb⟩ := List.mem_flatMap.mp hb
      have := (hrs.out r hr b hb).2.1
      cases q : s.heap.get? b with
      | none => rfl
      | some o => rw [e1 b o q] at this; cases this
  have hWa : ∀ b ∈ C :: rs.flatMap RR.W, ∃ o, h'.get? b = some o := fun b hb => by
    rcases List.mem_cons.mp hb with rfl | hb
    · obtain ⟨o, _, _, ho, _⟩ := hn; exact ⟨o, ho⟩
    · obtain ⟨r, hr, hb⟩ := List.mem_flatMap.mp hb
      exact (hrs.out r hr b hb).2.2
  have st3 : St ((F.wg none).wz ((C :: rs.flatMap RR.W) ++ F.Z)) Ω { s' with heap := h', gens := g', toks := tk } ρ { s' with heap := h', gens := g', toks := tk } :=
    St.move (Wc := []) f st ext.but (fun b h => nomatch h) (fun b h => nomatch h) (fun b h => nomatch h) (fun b h => nomatch h) hWn hWa
  have fg : ((F.wg none).wz ((C :: rs.flatMap RR.W) ++ F.Z)).Ok := (f.g none).z _
  have hDX : D ∉ F.Y ++ ((C :: rs.flatMap RR.W) ++ F.Z) := fun hm => by
    rcases List.mem_append.mp hm with hm | hm
    · exact fresh_not st.xs (Ext.refl _) (nw hD) (List.mem_append_left _ hm)
    · rcases List.mem_append.mp hm with hm | hm
      · rcases List.mem_cons.mp hm with h | hm
        · exact absurd h (Nat.ne_of_lt hDC)
        · obtain ⟨r, hr, hb⟩ := List.mem_flatMap.mp hm
          exact (hrs.out r hr D hb).1 (List.mem_append_left _ (List.mem_append_left _ List.mem_cons_self))
      · exact fresh_not st.xs (Ext.refl _) (nw hD) (List.mem_append_right _ hm)
  have hlen : rs.length = src.length := by have := congrArg List.length hzs; simpa using this
  have hsm : src.length ≤ big := by have := it.small; simpa using this
  refine wpAny_assign_Name (store (F := (F.wg none).wz ((C :: rs.flatMap RR.W) ++ F.Z)) fg st3 (x := y) (d := .list (rs.map fun r => .ptr r.ga)) ⟨D, _, rfl, hDX, hl, by simp; omega, repPtrs rs⟩ (.inl hk) fun s4 st4 sm4 => ?_)
  have sm4e : ExtB F.Y h' s4.heap := sm4.ext
  refine ⟨m', hn.at' fun o e => sm4e C o (fun q => nC (List.mem_append_left _ q)) e, fun h5 hs5 => ?_⟩
  have hs5 : Heap.SameBut C s4.heap h5 := hs5
  have rs4 : Rs F.T B h₁ s'.gens.size (D :: ownC scope C ++ wr ++ F.X) rs { s4 with heap := h5 } :=
    (hrs.mono (s' := s4) (sm4e.mono fun b hb => List.mem_append_right _ (List.mem_append_left _ hb)) sm4.gr).mono (ExtB.of_same hs5 hCN) rfl
  refine K _ rs ?_ hzs ?_ ?_
  · refine St.drop (Wd := [C]) (F := (F.wg none).wz (rs.flatMap RR.W ++ F.Z)) ((f.g none).z _) st4 (ExtB.of_same hs5 List.mem_cons_self) (fun b hb m => ?_) (fun b hb => ?_)
    · rw [List.mem_singleton.mp hb] at m
      rcases List.mem_append.mp m with m | m
      · exact nC (List.mem_append_left _ m)
      · rcases List.mem_append.mp m with m | m
        · obtain ⟨r, hr, hb⟩ := List.mem_flatMap.mp m
          exact (hrs.out r hr C hb).1 hCN
        · exact nC (List.mem_append_right _ m)
    · rw [List.mem_singleton.mp hb]
      show F.T.H₀.get? C = none
      cases q : F.T.H₀.get? C with
      | none => rfl
      | some o => have := st.old C o q; rw [nw hCs] at this; cases this
  · rw [hgs] at rs4
    exact (rs4.base fun b q => by
      cases q' : s.heap.get? b with
      | none => rfl
      | some o => rw [e1 b o q'] at q; cases q).moreN fun b hb => .inl (List.mem_append_right _ hb)
  · obtain ⟨h2, tk2, rfl, hk2⟩ := k1.is
    obtain ⟨h6, g6, tk6, rfl⟩ := sm4.is
    have hg6 : g6 = g' := sm4.gr
    subst hg6
    refine ⟨⟨h5, g6, tk6, rfl⟩, fun b o nb q => ?_, hgr⟩
    exact hs5.extBut b o (fun e => by rw [e, nw hCs] at q; cases q) (sm4e b o nb (ext b o q))
end
end Mine
namespace Mine
open PySem PySem.Spec PySem.Calls PyProof.Rows PySem.W PySem.W.X

section
variable {F : Fx} {Ω : List OwnD} {s₀ s : Shared} {ρ : List (Str × AV)} {E : Value → Shared → Prop} {Q : Flow → Shared → Prop} {rest : List Stmt} {pos : Pos}

theorem St.promote {a : Addr} {Z : List Addr} {o : OwnD} (f : F.Ok) (st : St (F.wz (a :: Z)) Ω s₀ ρ s) (hoa : o.addr = a) (hY : a ∉ F.Y) (ho : o.At F.T.p s.heap (a :: F.Y ++ Z)) : St ((F.with a).wz Z) (o :: Ω) s₀ ρ s := by
  have to : ∀ b ∈ (a :: F.Y) ++ Z, b ∈ F.Y ++ (a :: Z) := fun b hb => by
    simp only [List.mem_append, List.mem_cons] at hb ⊢
    rcases hb with (h | h) | h
    · exact .inr (.inl h)
    · exact .inl h
    · exact .inr (.inr h)
  refine ⟨st.sm.more fun b hb => List.mem_cons_of_mem _ hb, st.old, fun b hb => st.xs b (to b hb), st.cell, ?_, fun o' ho' => ?_, fun o' ho' => ?_⟩
  · obtain ⟨m, hn, hv⟩ := st.vars
    exact ⟨m, hn, fun x d hx => let ⟨v, r, h⟩ := hv x d hx; ⟨v, Rep.weak to r, h⟩⟩
  · rcases List.mem_cons.mp ho' with rfl | ho'
    · exact ho
    · exact (st.own o' ho').weak to
  · rcases List.mem_cons.mp ho' with rfl | ho'
    · refine ⟨hoa ▸ List.mem_cons_self, fun e => hY (hoa ▸ e ▸ f.loc), fun x cc h1 h2 e => ?_⟩
      obtain ⟨cc', h3, h4, _⟩ := f.cells x h1
      have h2 : F.env.cells.lookup x = some cc := h2
      rw [h2] at h3; cases h3
      exact hY (by rw [← hoa, ← e]; exact h4)
    · obtain ⟨h1, h2⟩ := st.ownY o' ho'
      exact ⟨List.mem_cons_of_mem _ h1, h2⟩

/-- y = [.. for x in ..], y a local name; the list becomes the frame's own -/
theorem seq_compOwn {α : Type} (enc : α → AV) (src : List α) (b : α → Bool) (g : α → AV) {elt iter : Expr} {x y : Str} {px py : Pos} {ifs : List Expr} {scope : Scope} {cpos : Pos} (f : F.Ok) (st : St F Ω s₀ ρ s) (co : CompOk (F.cx s.heap ρ) scope x) (hi : PI (F.cx s.heap ρ) iter (src.map enc))
    (htest : ∀ a ∈ src, ∀ C H X', (cCx (F.cx s.heap ρ) scope x (enc a) C H X').Ok → PTs (cCx (F.cx s.heap ρ) scope x (enc a) C H X') ifs (b a))
    (helt : ∀ a ∈ src, b a = true → ∀ C H X', (cCx (F.cx s.heap ρ) scope x (enc a) C H X').Ok → PE (cCx (F.cx s.heap ρ) scope x (enc a) C H X') elt (g a))
    (K : ∀ D s', s.heap.get? D = none → (F.with D).Ok → St (F.with D) (.list D ((src.filter b).map g) :: Ω) s' ((y, .ptr D) :: ρ) s' → Sm F.Y none s s' → wpAny F.M F.A (execs rest F.env) Q E s')
    (hsw : swapsWith (.ListComp elt [⟨.Name x px, iter, ifs, 0⟩] scope cpos) (some (.Name y py)) pos.line F.env = pure true := by rfl) (hk : F.env.kindOf y = some .local := by rfl)
    (hs : ∀ y, foldedSetIterable iter F.env y = pure y := by intro _; rfl) (hγ : F.γ = none := by rfl) :
    wpAny F.M F.A (execs (.Assign [.Name y py] (.ListComp elt [⟨.Name x px, iter, ifs, 0⟩] scope cpos) pos :: rest) F.env) Q E s := by
  refine wpAny_execs_cons ?_
  rw [exec_Assign_Name_used _ _ _ _ hsw]
  refine wpAny_bind (wpAny_standAt (wpAny_bind ?_))
  show wpAny _ F.A (do let _ ← comprehension (.ListComp elt [⟨.Name x px, iter, ifs, 0⟩] scope cpos) scope F.env _ (newList []) false (eval iter F.env) (some (assign (.Name y py) F.env))) _ _ s
  refine wpAny_bind (wpAny_mono (wpAny_comprehension_free (use := some (assign (.Name y py) F.env)) (Q := fun _ s' => wpAny F.M F.A (execs rest F.env) Q E s') rfl hs (closureFor_eq co.free) co.kind (co_names co)
    (hi s _ _ (Ext.refl _) fun h₁ s' I fp wr P Stt e1 k1 it => ?_)) (fun _ s' hq => wpAny_pure (wpAny_pure hq)) fun _ _ e => e)
  refine comp_block (c := F.cx s.heap ρ) enc src b g (RR := fun acc C => compPost F.M F.A E (some (assign (.Name y py) F.env)) (fun _ s' => wpAny F.M F.A (execs rest F.env) Q E s') acc C) (st.ok f) co it htest helt ?_
  intro D C h' tk m' ys hD hDC hn hl hz hr he
  have sz : ∀ {a o}, s.heap.get? a = some o → a < s'.heap.objs.size := fun {a o} e => Heap.lt_size (k1.ext a o e)
  have nw : ∀ {a}, s'.heap.objs.size ≤ a → s.heap.get? a = none := fun {a} h => by
    cases q : s.heap.get? a with
    | none => rfl
    | some o => exact absurd (sz q) (Nat.not_lt.mpr h)
  have hCs : s'.heap.objs.size ≤ C := Nat.le_trans hD (Nat.le_of_lt hDC)
  have ext : Ext s.heap h' := fun a o ho => he a o (fun hm => by
    rcases List.mem_append.mp hm with hm | hm
    · rcases List.mem_cons.mp hm with rfl | hm
      · rw [nw hD] at ho; cases ho
      · rw [nw (Nat.le_trans hCs (ownC_ge hm))] at ho; cases ho
    · have := e1 a o ho; rw [it.new a hm] at this; cases this) (k1.ext a o ho)
  have notX : ∀ {a}, s.heap.get? a = none → a ∉ F.X := fun {a} q => fresh_not st.xs (Ext.refl _) q
  have h0 : ∀ {a}, s.heap.get? a = none → F.T.H₀.get? a = none := fun {a} q => by
    cases q' : F.T.H₀.get? a with
    | none => rfl
    | some o => have := st.old a o q'; rw [q] at this; cases this
  have nC := notX (nw hCs)
  have nD := notX (nw hD)
  have fD : (F.with D).Ok := f.with (h0 (nw hD))
  have st3 : St (F.wz (D :: ([C] ++ F.Z))) Ω { s' with heap := h', toks := tk } ρ { s' with heap := h', toks := tk } := by
    refine St.move (Wc := []) (N := [D, C]) (γ' := F.γ) f st ext.but (fun b h => nomatch h) (fun b h => nomatch h) (fun b h => nomatch h) (fun b h => nomatch h) (fun b hb => ?_) (fun b hb => ?_)
    · rcases List.mem_cons.mp hb with rfl | hb
      · exact nw hD
      · rw [List.mem_singleton.mp hb]; exact nw hCs
    · rcases List.mem_cons.mp hb with rfl | hb
      · obtain ⟨n, g⟩ := hl; exact ⟨_, g⟩
      · rw [List.mem_singleton.mp hb]; obtain ⟨o, _, _, ho, _⟩ := hn; exact ⟨o, ho⟩
  have st4 := St.promote (F := F) (Z := [C] ++ F.Z) (o := .list D ((src.filter b).map g)) f st3 rfl (fun m => nD (List.mem_append_left _ m)) ⟨ys, hl, hz, hr.weak fun a ha => by
    simp only [List.mem_append, List.mem_cons, List.not_mem_nil, or_false] at ha ⊢
    rcases ha with (h | h) | h | h
    · exact .inl (.inl (.inl h))
    · exact .inr (List.mem_append_left _ h)
    · exact .inl (.inl (.inr (h ▸ List.mem_cons_self)))
    · exact .inr (List.mem_append_right _ h)⟩
  refine wpAny_assign_Name (store (F := (F.with D).wz ([C] ++ F.Z)) (fD.z _) st4 (x := y) (d := .ptr D) rfl (.inl hk) fun s5 st5 sm5 => ?_)
  have sm5e : ExtB (D :: F.Y) h' s5.heap := sm5.ext
  have hCD : C ∉ D :: F.Y := fun m => by
    rcases List.mem_cons.mp m with h | m
    · exact absurd h (Nat.ne_of_gt hDC)
    · exact nC (List.mem_append_left _ m)
  refine ⟨m', hn.at' fun o e => sm5e C o hCD e, fun h6 hs6 => ?_⟩
  have hs6 : Heap.SameBut C s5.heap h6 := hs6
  refine K D _ (nw hD) fD ?_ ?_
  · refine St.drop (Wd := [C]) (F := F.with D) (γ' := F.γ) fD st5 (ExtB.of_same hs6 List.mem_cons_self) (fun b hb m => ?_) (fun b hb => ?_)
    · rw [List.mem_singleton.mp hb] at m
      rcases List.mem_append.mp m with m | m
      · exact hCD m
      · exact nC (List.mem_append_right _ m)
    · rw [List.mem_singleton.mp hb]; exact h0 (nw hCs)
  · obtain ⟨h2, tk2, rfl, hk2⟩ := k1.is
    obtain ⟨h7, g7, tk7, rfl⟩ := sm5.is
    have hg7 : GR F.γ s.gens g7 := sm5.gr
    rw [hγ] at hg7
    have hg7 : g7 = s.gens := hg7
    refine ⟨⟨h6, g7, tk7, rfl⟩, fun b o nb q => ?_, hg7⟩
    refine hs6.extBut b o (fun e => by rw [e, nw hCs] at q; cases q) (sm5e b o (fun m => ?_) (ext b o q))
    rcases List.mem_cons.mp m with h | m
    · rw [h, nw hD] at q; cases q
    · exact nb m
end
end Mine
namespace Mine
open PySem PySem.Spec PySem.Calls PyProof.Rows PySem.W PySem.W.X

def entryP (p z : Nat) : Ent := (if (p + z) % 4 = p then 0 else 1, 1, z, z ^ 2, [(p, 1)])
def walkP : Nat → List (List Nat) → Nat → List Ent → Option (Nat × List Ent)
  | 0, _, p, b => some (p, b)
  | n + 1, rs, p, b => match rs[p]? with
    | none => none
    | some [] => some (p, b)
    | some (z :: r) => if z = 0 then none else match b[(p + z) % 4]? with
      | none => none
      | some e => walkP n (rs.set p r) ((p + z) % 4) (b.set ((p + z) % 4) (addE e (entryP p z)))

theorem GR.le {n m : Nat} {g g' : Array GenState} (x : GR (some m) g g') (h : n ≤ m) : GR (some n) g g' := ⟨fun i hi => x.1 i (Nat.lt_of_lt_of_le hi h), x.2.1, x.2.2⟩
theorem GR.of_none {γ : Option Nat} {g g' : Array GenState} (x : GR none g g') : GR γ g g' := by
  have e : g' = g := x
  rw [e]; exact GR.refl _
theorem Sm.gle {Y : List Addr} {n m : Nat} {s s' : Shared} (x : Sm Y (some m) s s') (h : n ≤ m) : Sm Y (some n) s s' := ⟨x.is, x.ext, x.gr.le h⟩
theorem Sm.any {Y : List Addr} {γ : Option Nat} {s s' : Shared} (x : Sm Y none s s') : Sm Y γ s s' := ⟨x.is, x.ext, x.gr.of_none⟩
/-- a change at addresses that the beginning did not know -/
theorem Sm.fresh {Y W : List Addr} {γ : Option Nat} {s₀ s s' : Shared} (x : Sm Y γ s₀ s) (is : ∃ h' g' tk, s' = { s with heap := h', gens := g', toks := tk }) (e : ExtB W s.heap s'.heap) (hW : ∀ b ∈ W, b ∉ Y → s₀.heap.get? b = none) (g : GR γ s.gens s'.gens) : Sm Y γ s₀ s' := by
  refine ⟨?_, fun b o nb h => e b o (fun m => ?_) (x.ext b o nb h), x.gr.trans g⟩
  · obtain ⟨h0, g0, t0, rfl⟩ := x.is
    obtain ⟨h1, g1, t1, rfl⟩ := is
    exact ⟨h1, g1, t1, rfl⟩
  · rw [hW b m nb] at h; cases h

/-- the state of a walk -/
structure Wk (F : Fx) (Z N : List Addr) (B : Around) (h₀ : Heap) (n : Nat) (Ω : List OwnD) (s₀ : Shared) (ρ : List (Str × AV)) (rs : List RR) (s : Shared) : Prop where
  st : St (F.wz Z) Ω s ρ s
  rul : Rs F.T B h₀ n N rs s
  inZ : ∀ r ∈ rs, ∀ b ∈ r.W, b ∈ Z
  sm : Sm F.Y (some n) s₀ s
  Z0 : ∀ b ∈ F.Z, b ∈ Z

section
variable {F : Fx} {Z N : List Addr} {B : Around} {h₀ : Heap} {n : Nat} {Ω : List OwnD} {s₀ s : Shared} {ρ : List (Str × AV)} {rs : List RR} {E : Value → Shared → Prop} {Q : Flow → Shared → Prop} {rest : List Stmt} {pos cpos : Pos}

/-- a step of the frame itself -/
theorem Wk.step {Ω' : List OwnD} {ρ' : List (Str × AV)} {s' : Shared} (w : Wk F Z N B h₀ n Ω s₀ ρ rs s) (hγ : F.γ = none) (hYN : ∀ b ∈ F.Y, b ∈ N) (st' : St (F.wz Z) Ω' s ρ' s') : Wk F Z N B h₀ n Ω' s₀ ρ' rs s' := by
  have sm : Sm F.Y none s s' := hγ ▸ st'.sm
  exact ⟨st'.here, w.rul.mono (sm.ext.mono hYN) sm.gr, w.inZ, w.sm.trans sm.any, w.Z0⟩

theorem Wk.ext0 (w : Wk F Z N B h₀ n Ω s₀ ρ rs s) (hYN : ∀ b ∈ F.Y, b ∈ N) {r : RR} (hr : r ∈ rs) : ∀ b ∈ r.W, b ∉ F.Y := fun b hb m => (w.rul.out r hr b hb).1 (hYN b m)

theorem St.zsub {Z' : List Addr} (st : St (F.wz Z) Ω s₀ ρ s) (h : ∀ b ∈ Z', b ∈ Z) : St (F.wz Z') Ω s₀ ρ s := by
  have sub : ∀ a ∈ F.Y ++ Z', a ∈ F.Y ++ Z := fun a ha => by
    rcases List.mem_append.mp ha with ha | ha
    · exact List.mem_append_left _ ha
    · exact List.mem_append_right _ (h a ha)
  refine ⟨st.sm, st.old, fun a ha => st.xs a (sub a ha), st.cell, ?_, fun o ho => (st.own o ho).weak sub, st.ownY⟩
  obtain ⟨m, hn, hv⟩ := st.vars
  exact ⟨m, hn, fun x d hx => let ⟨v, r, a⟩ := hv x d hx; ⟨v, Rep.weak sub r, a⟩⟩
theorem Wk.nx {r : RR} {gs' : GenState} {W' : List Addr} {s' : Shared} {i : Nat} (w : Wk F Z N B h₀ n Ω s₀ ρ rs s) (f : F.Ok) (hγ : F.γ = none) (hYN : ∀ b ∈ F.Y, b ∈ N) (hi : rs[i]? = some r) (nx : Nx r.W r.gi gs' s s') (hbare : gs'.bare = true)
    (hH : ∀ b, h₀.get? b = none → F.T.H₀.get? b = none) (hs0 : ∀ b, b ∉ F.Y → h₀.get? b = none → s₀.heap.get? b = none) (h2 : ∀ b ∈ r.W, ∃ o, s'.heap.get? b = some o)
    (h1 : ∀ b ∈ W', b ∈ r.W ∨ s.heap.get? b = none) (h3 : ∀ b ∈ W', ∃ o, s'.heap.get? b = some o) : St (F.wz ((W'.filter fun b => decide (b ∉ r.W)) ++ Z)) Ω s' ρ s' ∧ Sm F.Y (some n) s₀ s' := by
  have hmem : r ∈ rs := List.mem_of_getElem? hi
  have wY := w.ext0 hYN hmem
  have wH : ∀ b ∈ r.W, F.T.H₀.get? b = none := fun b hb => hH b (w.rul.out r hmem b hb).2.1
  have st' := St.move (F := F.wz Z) (Wc := r.W) (N := W'.filter fun b => decide (b ∉ r.W)) (γ' := none) (f.z Z) w.st nx.ext (w.inZ r hmem) wY wH h2 (fun b hb => by
    rw [List.mem_filter] at hb
    exact (h1 b hb.1).elim (fun m => absurd m (of_decide_eq_true hb.2)) id) (fun b hb => h3 b (List.mem_filter.mp hb).1)
  have e : (((F.wz Z).wg none).wz ((W'.filter fun b => decide (b ∉ r.W)) ++ (F.wz Z).Z)) = F.wz ((W'.filter fun b => decide (b ∉ r.W)) ++ Z) := by
    cases F; cases hγ; rfl
  rw [e] at st'
  refine ⟨st', w.sm.fresh ?_ nx.ext (fun b hb nb => hs0 b nb (w.rul.out r hmem b hb).2.1) ?_⟩
  · obtain ⟨h', tk, rfl⟩ := nx.is; exact ⟨h', _, tk, rfl⟩
  · obtain ⟨h', tk, rfl⟩ := nx.is; exact (GR.refl _).setG (w.rul.ge r hmem) hbare

/-- next(rulers[place], 0), stored in a local name -/
theorem seq_next {x : Str} {px np : Pos} {o z : Expr} {i : Nat} {r : RR} (f : F.Ok) (w : Wk F Z N F.A.in1.in1 h₀ n Ω s₀ ρ rs s) (hγ : F.γ = none) (hk3 : 3 ≤ F.k) (hYN : ∀ b ∈ F.Y, b ∈ N) (hN : ∀ b ∈ N, ∃ o, s.heap.get? b = some o)
    (hg : F.T.mg (Str.ofString "next") = none) (hb : F.T.mb (Str.ofString "next") = some (.builtin "next"))
    (ho : PE ((F.wz Z).cx s.heap ρ) o (.ptr r.ga)) (hz : PE ((F.wz Z).cx s.heap ρ) z (.int 0)) (hi : rs[i]? = some r)
    (hH : ∀ b, h₀.get? b = none → F.T.H₀.get? b = none) (hs0 : ∀ b, b ∉ F.Y → h₀.get? b = none → s₀.heap.get? b = none) (hnew : ∀ b, s.heap.get? b = none → h₀.get? b = none)
    (hZN : ∀ b ∈ F.Z, b ∈ N)
    (K0 : ∀ Z' s', r.zs = [] → St (F.wz Z') Ω s' ((x, eN 0) :: ρ) s' → (∀ b ∈ F.Z, b ∈ Z') → Sm F.Y (some n) s₀ s' → wpAny F.M F.A (execs rest F.env) Q E s')
    (K : ∀ Z' s' r' y ys, r.zs = y :: ys → Wk F Z' N F.A.in1.in1 h₀ n Ω s₀ ((x, eN y) :: ρ) (rs.set i r') s' → (∀ b ∈ Z, b ∈ Z') → r'.ga = r.ga → r'.zs = ys → (∀ b ∈ N, b ∉ F.Y → ∀ o, s.heap.get? b = some o → s'.heap.get? b = some o) → (∀ b, s'.heap.get? b = none → s.heap.get? b = none) →
      wpAny F.M F.A (execs rest F.env) Q E s')
    (hkx : F.env.kindOf x = some .local := by rfl) (hkn : F.env.kindOf (Str.ofString "next") = some .globalImplicit := by rfl) (hsw : swapsWith (.Call (.Name (Str.ofString "next") np) [o, z] [] cpos) (some (.Name x px)) pos.line F.env = pure false := by rfl)
    (he : starEach [o, z] F.env = (false, eval o F.env) :: starEach [z] F.env := by rfl) (he2 : starEach [z] F.env = [(false, eval z F.env)] := by rfl) :
    wpAny F.M F.A (execs (.Assign [.Name x px] (.Call (.Name (Str.ofString "next") np) [o, z] [] cpos) pos :: rest) F.env) Q E s := by
  have okc := w.st.ok (f.z Z)
  have g : Glob ((F.wz Z).cx s.heap ρ) (Str.ofString "next") (.builtin "next") := Glob.blt okc hg hb hkn
  have ha : PEL ((F.wz Z).cx s.heap ρ) cpos [o, z] [.ptr r.ga, .int 0] := PEL.cons ho (PEL.cons hz PEL.nil he2) he
  refine wpAny_execs_cons (wpAny_Assign_Name (wpAny_Call_NameR (g np s _ _ (Ext.refl _) (PyProof.Rows.callWith_builtin1 (ha s _ _ (Ext.refl _) fun vs s1 k1 r1 => ?_) he (by show (backTo cpos (starEach [z] F.env)).any (·.1) = false; rw [he2]; rfl)))) hsw)
  obtain ⟨v1, _, rfl, e1, v2, _, rfl, ⟨t2, e2⟩, rfl⟩ := r1
  have e1 : v1 = .ref r.ga := e1
  subst e1; subst e2
  have w1 : Wk F Z N F.A.in1.in1 h₀ n Ω s₀ ρ rs s1 := w.step hγ hYN (w.st.kp k1)
  have hN1 : ∀ b ∈ N, ∃ o, s1.heap.get? b = some o := fun b hb => let ⟨o, h⟩ := hN b hb; ⟨o, k1.ext _ _ h⟩
  have hmem : r ∈ rs := List.mem_of_getElem? hi
  have room2 : Room F.A 2 := f.room.le (by omega)
  have rul := w1.rul.rul r hmem
  have gen := w1.rul.gen r hmem
  have gst := w1.rul.st r hmem
  have wY := w1.ext0 hYN hmem
  have hnew1 : ∀ b, s1.heap.get? b = none → h₀.get? b = none := fun b q => hnew b (k1.none q)
  have nW : ∀ b ∈ N, b ∉ r.W := fun b hb m => (w1.rul.out r hmem b m).1 hb
  have alive1 : ∀ b ∈ r.W, ∃ o, s1.heap.get? b = some o := fun b hb => (w1.rul.out r hmem b hb).2.2
  have sto : ∀ {Z' : List Addr} {s' s'' : Shared} {ρ' : List (Str × AV)}, St (F.wz Z') Ω s' ρ' s'' → Sm F.Y F.γ s' s'' → ∀ b, b ∉ F.Y → ∀ o, s'.heap.get? b = some o → s''.heap.get? b = some o := fun st sm b nb o h => sm.ext b o nb h
  show wpAny F.M F.A (call (.builtin "next") [.ref r.ga, .int 0 t2]) _ _ _
  cases hzs : r.zs with
  | nil =>
    rw [hzs] at rul
    refine next_none f.top room2 w1.st.old gen gst rul (fun b _ o h => h) fun s2 nx => ?_
    have zsub := w1.st.zsub (Z' := r.W ++ Z.filter fun b => decide (b ∉ r.W)) fun b hb => (List.mem_append.mp hb).elim (fun h => w.inZ r hmem b h) fun h => (List.mem_filter.mp h).1
    have st2 := St.drop (F := F.wz (Z.filter fun b => decide (b ∉ r.W))) (Wd := r.W) (γ' := none) (s' := s2) (f.z _) zsub nx.ext (fun b hb m => by
      rcases List.mem_append.mp m with m | m
      · exact wY b hb m
      · exact of_decide_eq_true (List.mem_filter.mp m).2 hb) (fun b hb => hH b (w1.rul.out r hmem b hb).2.1)
    have e : ((F.wz (Z.filter fun b => decide (b ∉ r.W))).wg none) = F.wz (Z.filter fun b => decide (b ∉ r.W)) := by
      cases F; cases hγ; rfl
    rw [e] at st2
    have sm2 : Sm F.Y (some n) s₀ s2 := w1.sm.fresh (W := r.W) (by obtain ⟨h', tk, rfl⟩ := nx.is; exact ⟨h', _, tk, rfl⟩) nx.ext (fun b hb nb => hs0 b nb (w1.rul.out r hmem b hb).2.1) (by obtain ⟨h', tk, rfl⟩ := nx.is; exact (GR.refl _).setG (w1.rul.ge r hmem) rfl)
    refine store (F := F.wz (Z.filter fun b => decide (b ∉ r.W))) (f.z _) st2 (x := x) (d := eN 0) ⟨t2, rfl⟩ (.inl hkx) fun s3 st3 sm3 => ?_
    have sm3' : Sm F.Y none s2 s3 := hγ ▸ sm3
    exact K0 _ s3 hzs st3.here (fun b hb => List.mem_filter.mpr ⟨w.Z0 b hb, decide_eq_true (nW b (hZN b hb))⟩) (sm2.trans sm3'.any)
  | cons y ys =>
    rw [hzs] at rul
    refine next_some f.top room2 w1.st.old gen gst rul (fun b _ o h => h) fun s2 t gs' W' nx h1 h2 h3 h4 => ?_
    obtain ⟨st2, sm2⟩ := w1.nx f hγ hYN hi nx h4.go.1 hH hs0 (fun b hb => h2 b (h3 b hb)) h1 h2
    have rs2 := w1.rul.next hi nx hN1 hnew1 h1 h2 h3 h4
    refine store (F := F.wz ((W'.filter fun b => decide (b ∉ r.W)) ++ Z)) (f.z _) st2 (x := x) (d := eN y) ⟨t, rfl⟩ (.inl hkx) fun s3 st3 sm3 => ?_
    have sm3' : Sm F.Y none s2 s3 := hγ ▸ sm3
    refine K _ s3 _ y ys hzs ⟨st3.here, rs2.mono (sm3'.ext.mono hYN) sm3'.gr, fun r' hr' b hb => ?_, sm2.trans sm3'.any, fun b hb => List.mem_append_right _ (w.Z0 b hb)⟩ (fun b hb => List.mem_append_right _ hb) rfl rfl (fun b hb nb o h => ?_) (fun b q => ?_)
    · rcases mem_set_cases hr' with rfl | ⟨j, hj, hr'⟩
      · have hb : b ∈ W' := hb
        by_cases m : b ∈ r.W
        · exact List.mem_append_right _ (w.inZ r hmem b m)
        · exact List.mem_append_left _ (List.mem_filter.mpr ⟨hb, decide_eq_true m⟩)
      · exact List.mem_append_right _ (w.inZ r' (List.mem_of_getElem? hr') b hb)
    · exact sm3.ext b o nb (nx.ext b o (nW b hb) (k1.ext b o h))
    · cases q' : s.heap.get? b with
      | none => rfl
      | some o =>
        by_cases m : b ∈ F.Y
        · obtain ⟨o', ho'⟩ := st3.xs b (List.mem_append_left _ m)
          rw [q] at ho'; cases ho'
        · by_cases m2 : b ∈ r.W
          · obtain ⟨o', ho'⟩ := h2 b (h3 b m2)
            rw [sm3.ext b o' m ho'] at q; cases q
          · rw [sm3.ext b o m (nx.ext b o m2 (k1.ext b o q'))] at q; cases q
end
end Mine
namespace Mine
open PySem PySem.Spec PySem.Calls PyProof.Rows PySem.W PySem.W.X

def wBody : List Stmt := match (rec 9).body with
  | [_, _, _, .For _ _ b _ _, _] => b
  | _ => []
abbrev wFx (T : Tp) (A : Around) (k : Nat) (pm cd doc : Value) (a : Addr) (X : List Addr) (L : Addr) : Fx := callFx T A k (fdI 9 pm cd doc) a none X L

abbrev wG (T : Tp) (A : Around) (k : Nat) (pm cd doc : Value) (a : Addr) (X : List Addr) (L D : Addr) : Fx := (wFx T A k pm cd doc a X L).with D

theorem addC_one (t : List (Nat × Nat)) (p : Nat) : (addC t [(p, 1)]).length ≤ t.length + 1 := addC_len [(p, 1)] t

structure WLook (ρ : List (Str × AV)) (rs : List RR) (D : Addr) (pl : Nat) : Prop where
  rulers : ρ.lookup (Str.ofString "rulers") = some (.list (rs.map fun r : RR => AV.ptr r.ga))
  book : ρ.lookup (Str.ofString "book") = some (.ptr D)
  place : ρ.lookup (Str.ofString "place") = some (eN pl)

theorem walk_turn {T : Tp} {A : Around} {k : Nat} {pm cd doc : Value} {a : Addr} {X : List Addr} {L D : Addr} {Z N : List Addr} {h₀ : Heap} {n : Nat} {s₀ s : Shared} {ρ : List (Str × AV)} {rs : List RR} {E : Value → Shared → Prop} {Q : Flow → Shared → Prop}
    {a1 a2 : Addr} {pm1 cd1 doc1 pm2 cd2 doc2 : Value} (B : Blts T) (at1 : FnAt T 1 a1 pm1 cd1 doc1) (at2 : FnAt T 2 a2 pm2 cd2 doc2)
    (f : (wG T A k pm cd doc a X L D).Ok) (hk3 : 3 ≤ k) {bk : List Ent} {pl m : Nat} {res : Nat × List Ent}
    (w : Wk (wG T A k pm cd doc a X L D) Z N (wG T A k pm cd doc a X L D).A.in1.in1 h₀ n [.list D (bk.map eE)] s₀ ρ rs s)
    (hYN : ∀ b ∈ (wG T A k pm cd doc a X L D).Y, b ∈ N) (hN : ∀ b ∈ N, ∃ o, s.heap.get? b = some o) (hZN : ∀ b ∈ X, b ∈ N)
    (hH : ∀ b, h₀.get? b = none → T.H₀.get? b = none) (hs0 : ∀ b, b ∉ (wG T A k pm cd doc a X L D).Y → h₀.get? b = none → s₀.heap.get? b = none) (hnew : ∀ b, s.heap.get? b = none → h₀.get? b = none)
    (hl : WLook ρ rs D pl) (hw : walkP (m + 1) (rs.map RR.zs) pl bk = some res) (hz : ∀ r ∈ rs, ∀ z ∈ r.zs, z ≤ 1000) (ht : ∀ e ∈ bk, e.2.2.2.2.length ≤ 900) (hbl : bk.length ≤ 1000)
    (brk : ∀ Z' s' ρ', St ((wG T A k pm cd doc a X L D).wz Z') [.list D (res.2.map eE)] s' ρ' s' → ρ'.lookup (Str.ofString "book") = some (.ptr D) → ρ'.lookup (Str.ofString "place") = some (eN res.1) → (∀ b ∈ X, b ∈ Z') → Sm (wG T A k pm cd doc a X L D).Y (some n) s₀ s' → res.2.length ≤ 1000 → Q .brk s')
    (nxt : ∀ Z' s' ρ' rs' pl' bk', Wk (wG T A k pm cd doc a X L D) Z' N (wG T A k pm cd doc a X L D).A.in1.in1 h₀ n [.list D (bk'.map eE)] s₀ ρ' rs' s' → WLook ρ' rs' D pl' → walkP m (rs'.map RR.zs) pl' bk' = some res → (∀ b ∈ Z, b ∈ Z') → (∀ b ∈ N, b ∉ (wG T A k pm cd doc a X L D).Y → ∀ o, s.heap.get? b = some o → s'.heap.get? b = some o) → (∀ b, s'.heap.get? b = none → s.heap.get? b = none) →
      (∀ r ∈ rs', ∀ z ∈ r.zs, z ≤ 1000) → (∀ M, (∀ e ∈ bk, e.2.2.2.2.length ≤ M) → ∀ e ∈ bk', e.2.2.2.2.length ≤ M + 1) → bk'.length ≤ 1000 → Q .next s') :
    wpAny (wG T A k pm cd doc a X L D).M (wG T A k pm cd doc a X L D).A (execs wBody (wG T A k pm cd doc a X L D).env) Q E s := by
  obtain ⟨o1, ho1, hd1⟩ := at1.obj
  have fz : ∀ Z, ((wG T A k pm cd doc a X L D).wz Z).Ok := fun Z => f.z Z
  obtain ⟨r, hr, hzr⟩ : ∃ r, rs[pl]? = some r ∧ (rs.map RR.zs)[pl]? = some r.zs := by
    cases q : rs[pl]? with
    | none => 
      have : (rs.map RR.zs)[pl]? = none := by rw [List.getElem?_map, q]; rfl
      unfold walkP at hw; rw [this] at hw; cases hw
    | some r => exact ⟨r, rfl, by rw [List.getElem?_map, q]; rfl⟩
  have okc := w.st.ok (fz Z)
  have hrm : r ∈ rs := List.mem_of_getElem? hr
  show wpAny _ _ (execs (_ :: _) _) _ _ _
  refine seq_next (i := pl) (r := r) f w rfl hk3 hYN hN B.next.1 B.next.2
    (PE.item (k := (pl : Int)) (xs := rs.map fun r : RR => AV.ptr r.ga) (PE.name okc hl.rulers) (PE.name okc hl.place) (by omega) (by rw [Int.toNat_natCast, List.getElem?_map, hr]; rfl)) PE.int hr hH hs0 hnew hZN (fun Z' s1 e st1 hZ' sm1 => ?_) (fun Z' s1 r' y ys e w1 hZ' hga hys hkeep hback => ?_)
  · have hres : res = (pl, bk) := by
      rw [e] at hzr
      unfold walkP at hw; rw [hzr] at hw; cases hw; rfl
    subst hres
    refine seq_if (F := (wG T A k pm cd doc a X L D).wz Z') (b := true) st1 ((PT.cmpTo (CmpTo.eqI 0 0) (PE.name (st1.ok (fz Z')) rfl) PE.int).cast rfl) fun s2 st2 => ?_
    rw [if_pos rfl]
    refine wpAny_execs_cons (wpAny_Break ?_)
    exact brk Z' s2 _ st2.here (lk hl.book) (lk hl.place) hZ' (sm1.trans (show Sm _ none s1 s2 from st2.sm).any) hbl
  · rw [e] at hzr
    have hy : y ≤ 1000 := hz r hrm y (by rw [e]; exact List.mem_cons_self)
    obtain ⟨hy0, ent, hent, hw'⟩ : y ≠ 0 ∧ ∃ ent, bk[(pl + y) % 4]? = some ent ∧ walkP m ((rs.map RR.zs).set pl ys) ((pl + y) % 4) (bk.set ((pl + y) % 4) (addE ent (entryP pl y))) = some res := by
      unfold walkP at hw; rw [hzr] at hw
      by_cases h0 : y = 0
      · simp [h0] at hw
      · refine ⟨h0, ?_⟩
        simp only [h0, if_false] at hw
        cases q : bk[(pl + y) % 4]? with
        | none => rw [q] at hw; cases hw
        | some ent => rw [q] at hw; exact ⟨ent, rfl, hw⟩
    have f1 := fz Z'
    have hga' : (rs.set pl r').map (fun r : RR => AV.ptr r.ga) = rs.map fun r : RR => AV.ptr r.ga := by
      rw [List.map_set, hga]
      refine List.ext_getElem? fun i => ?_
      rw [List.getElem?_set]
      split
      · rename_i h; subst h
        split
        · rw [List.getElem?_map, hr]; rfl
        · rename_i h2; rw [List.getElem?_eq_none (by simpa using h2)]
      · rfl
    refine seq_if_nil (F := (wG T A k pm cd doc a X L D).wz Z') w1.st ((PT.cmpTo (CmpTo.eqI (y : Int) 0) (PE.name (w1.st.ok f1) rfl) PE.int).cast ((natBeq y 0).trans (by simpa using hy0))) fun s2 st2 => ?_
    refine seq_assign (F := (wG T A k pm cd doc a X L D).wz Z') (d := eN ((pl + y) % 4)) f1 st2 (PE.natmod (PE.name (st2.ok f1) (lk hl.place)) (PE.name (st2.ok f1) rfl)) fun s3 st3 => ?_
    have hb' : Builtin.Int.intBits ((y : Nat) : Int) ≤ 64 := intBits_le_64 (by omega) (by omega)
    refine seq_assign (F := (wG T A k pm cd doc a X L D).wz Z') (d := eE (entryP pl y)) f1 st3 ((PE.tupD (ds := [eN (if (pl + y) % 4 = pl then 0 else 1), .int 1, eN y, eN (y ^ 2), .dict [((pl : Int), 1)]]) (st3.ok f1) (PEL.cons
      (PE.ife (b := (((pl + y) % 4 : Nat) : Int) == (pl : Int)) (PT.cmpTo (CmpTo.eqI _ _) (PE.name (st3.ok f1) rfl) (PE.name (st3.ok f1) (lk (lk hl.place)))) (fun h => PE.int.cast (by rw [natBeq] at h; rw [if_pos (by simpa using h)]; rfl)) (fun h => PE.int.cast (by rw [natBeq] at h; rw [if_neg (by simpa using h)]; rfl)))
      (PEL.cons PE.int (PEL.cons (PE.name (st3.ok f1) rfl) (PEL.cons ((PE.pow (a := (y : Int)) (n := 2) (PE.name (st3.ok f1) rfl) PE.int (by decide) (by omega)).cast (by show AV.int ((y : Int) ^ 2) = AV.int ((y ^ 2 : Nat) : Int); push_cast; rfl))
      (PEL.cons (PE.dict1 (st3.ok f1) (let ⟨o, h⟩ := B.sys; ⟨o, st3.old _ _ h⟩) (PE.name (st3.ok f1) (lk (lk hl.place))) PE.int) PEL.nil))))) (by simp [big])).cast (by simp [eE, entryP, eN])) fun s4 st4 => ?_
    have hlt : (pl + y) % 4 < bk.length := (List.getElem?_eq_some_iff.mp hent).1
    have hentm : ent ∈ bk := List.mem_of_getElem? hent
    have hown : (OwnD.list D (bk.map eE)).At (((wG T A k pm cd doc a X L D).wz Z').cx s4.heap ((Str.ofString "entry", eE (entryP pl y)) :: (Str.ofString "goal", eN ((pl + y) % 4)) :: (Str.ofString "size", eN y) :: ρ)).T.p s4.heap ((wG T A k pm cd doc a X L D).wz Z').X := st4.own _ List.mem_cons_self
    have lk3 : ∀ {x : Str} {o : Option AV} {d1 d2 d3 : AV}, ρ.lookup x = o → (x == Str.ofString "entry") = false → (x == Str.ofString "goal") = false → (x == Str.ofString "size") = false → ((Str.ofString "entry", d1) :: (Str.ofString "goal", d2) :: (Str.ofString "size", d3) :: ρ).lookup x = o := fun h h1 h2 h3 => lk (lk (lk h h3) h2) h1
    refine seq_setL (F := (wG T A k pm cd doc a X L D).wz Z') (j := 0) (k := (((pl + y) % 4 : Nat) : Int)) (ds := bk.map eE) (d := eE (addE ent (entryP pl y))) f1 st4
      (PE.callF (st4.ok f1) (Glob.top (st4.ok f1) at1.name) ho1 hd1 (add_func_stats_fn (T := T) f.top B at1 at2 (by have := ht ent hentm; show _ + 1 ≤ _; omega)) hk3
        (PEL.cons (PE.itemP (k := (((pl + y) % 4 : Nat) : Int)) (a := D) (xs := bk.map eE) (PE.name (st4.ok f1) (lk3 hl.book rfl rfl rfl)) hown (PE.name (st4.ok f1) rfl) (by omega) (by rw [Int.toNat_natCast, List.getElem?_map, hent]; rfl)) (PEL.cons (PE.name (st4.ok f1) rfl) PEL.nil)))
      (PE.name (st4.ok f1) (lk3 hl.book rfl rfl rfl)) (PE.name (st4.ok f1) rfl) rfl (by simp) (by omega) (by rw [List.length_map]; omega) fun s5 st5 => ?_
    refine seq_assign (F := (wG T A k pm cd doc a X L D).wz Z') (d := eN ((pl + y) % 4)) f1 st5 (PE.name (st5.ok f1) rfl) fun s6 st6 => wpAny_execs_nil ?_
    have e6 : [OwnD.list D (bk.map eE)].set 0 (OwnD.list D ((bk.map eE).set (((pl + y) % 4 : Nat) : Int).toNat (eE (addE ent (entryP pl y))))) = [OwnD.list D ((bk.set ((pl + y) % 4) (addE ent (entryP pl y))).map eE)] := by
      rw [Int.toNat_natCast, List.map_set]; rfl
    rw [e6] at st6
    have w6 := w1.step rfl hYN st6
    refine nxt Z' s6 _ (rs.set pl r') ((pl + y) % 4) _ w6 ⟨?_, lk (lk3 hl.book rfl rfl rfl), rfl⟩ ?_ hZ' (fun b hb nb o h => ?_) (fun b q => hback b ?_) (fun r2 hr2 z hz2 => ?_) (fun M hM e he => ?_) (by simpa using hbl)
    · rw [hga']; exact lk (lk3 hl.rulers rfl rfl rfl)
    · rw [List.map_set, hys]; exact hw'
    · exact (show Sm _ none s1 s6 from st6.sm).ext b o nb (hkeep b hb nb o h)
    · exact (show St ((wG T A k pm cd doc a X L D).wz Z') _ s1 _ s6 from st6).fresh0 q
    · rcases mem_set_cases hr2 with rfl | ⟨j, hj, hr2⟩
      · rw [hys] at hz2
        exact hz r hrm z (by rw [e]; exact List.mem_cons_of_mem _ hz2)
      · exact hz r2 (List.mem_of_getElem? hr2) z hz2
    · rcases mem_set_cases he with rfl | ⟨j, hj, he⟩
      · have := addC_one ent.2.2.2.2 pl
        have h2 := hM ent hentm
        show (addC ent.2.2.2.2 [(pl, 1)]).length ≤ M + 1
        omega
      · have := hM e (List.mem_of_getElem? he); omega
end Mine
namespace Mine
open PySem PySem.Spec PySem.Calls PyProof.Rows PySem.W PySem.W.X

/-- a call that may make generators -/
def FnG (T : Tp) (k : Nat) (a : Addr) (args : List AV) (d : AV) : Prop :=
  ∀ (A : Around) (s : Shared) (Q E : Value → Shared → Prop) (X : List Addr) (vs : List Value), Room A k → Ext T.H₀ s.heap → (∀ x ∈ X, ∃ o, s.heap.get? x = some o) → RepL T.p s.heap X args vs →
    (∀ v s', Sm [] (some s.gens.size) s s' → Rep T.p s'.heap X d v → Q v s') → wpAny (model T.p.1 T.p.2) A (call (.ref a) vs) Q E s

theorem St.dropZ {F : Fx} {Ω : List OwnD} {ρ : List (Str × AV)} {Z W : List Addr} {s s' : Shared} (f : F.Ok) (hγ : F.γ = none) (st : St (F.wz Z) Ω s ρ s) (e : ExtB W s.heap s'.heap) (hZ : ∀ b ∈ W, b ∈ Z) (hY : ∀ b ∈ W, b ∉ F.Y) (hH : ∀ b ∈ W, F.T.H₀.get? b = none) :
    St (F.wz (Z.filter fun b => decide (b ∉ W))) Ω s' ρ s' := by
  have zsub := st.zsub (Z' := W ++ Z.filter fun b => decide (b ∉ W)) fun b hb => (List.mem_append.mp hb).elim (fun h => hZ b h) fun h => (List.mem_filter.mp h).1
  have st2 := St.drop (F := F.wz (Z.filter fun b => decide (b ∉ W))) (Wd := W) (γ' := none) (s' := s') (f.z _) zsub e (fun b hb m => by
    rcases List.mem_append.mp m with m | m
    · exact hY b hb m
    · exact of_decide_eq_true (List.mem_filter.mp m).2 hb) hH
  have e : ((F.wz (Z.filter fun b => decide (b ∉ W))).wg none) = F.wz (Z.filter fun b => decide (b ∉ W)) := by
    cases F; cases hγ; rfl
  rw [e] at st2
  exact st2
theorem St.moveW {F : Fx} {Ω : List OwnD} {ρ : List (Str × AV)} {Z W : List Addr} {s s' : Shared} (f : F.Ok) (hγ : F.γ = none) (st : St (F.wz Z) Ω s ρ s) (e : ExtB W s.heap s'.heap) (hZ : ∀ b ∈ W, b ∈ Z) (hY : ∀ b ∈ W, b ∉ F.Y) (hH : ∀ b ∈ W, F.T.H₀.get? b = none) (ha : ∀ b ∈ W, ∃ o, s'.heap.get? b = some o) :
    St (F.wz Z) Ω s' ρ s' := by
  have st2 := St.move (F := F.wz Z) (Wc := W) (N := []) (γ' := none) (s' := s') (f.z _) st e hZ hY hH ha (fun b h => nomatch h) (fun b h => nomatch h)
  have e : ((F.wz Z).wg none).wz ([] ++ (F.wz Z).Z) = F.wz Z := by
    cases F; cases hγ; rfl
  rw [e] at st2
  exact st2
theorem Sm.forget {Y : List Addr} {D : Addr} {γ : Option Nat} {a b : Shared} (x : Sm (D :: Y) γ a b) (h : a.heap.get? D = none) : Sm Y γ a b :=
  ⟨x.is, fun k o nk e => x.ext k o (fun m => (List.mem_cons.mp m).elim (fun q => by rw [q, h] at e; cases e) nk) e, x.gr⟩

theorem walk_loop {T : Tp} {A : Around} {k : Nat} {pm cd doc : Value} {a : Addr} {X : List Addr} {L D : Addr} {Z N : List Addr} {h₀ : Heap} {n : Nat} {s₀ s : Shared} {ρ : List (Str × AV)} {rs : List RR} {E : Value → Shared → Prop} {Q : Flow → Shared → Prop} {rest : List Stmt} {px pos : Pos} {iter : Expr}
    {a1 a2 : Addr} {pm1 cd1 doc1 pm2 cd2 doc2 : Value} (B : Blts T) (at1 : FnAt T 1 a1 pm1 cd1 doc1) (at2 : FnAt T 2 a2 pm2 cd2 doc2)
    (f : (wG T A k pm cd doc a X L D).Ok) (hk3 : 3 ≤ k) {bk : List Ent} {pl : Nat} {res : Nat × List Ent}
    (w : Wk (wG T A k pm cd doc a X L D) Z N (wG T A k pm cd doc a X L D).A.in1.in1 h₀ n [.list D (bk.map eE)] s₀ ρ rs s)
    (hYN : ∀ b ∈ (wG T A k pm cd doc a X L D).Y, b ∈ N) (hN : ∀ b ∈ N, ∃ o, s.heap.get? b = some o) (hZN : ∀ b ∈ X, b ∈ N)
    (hH : ∀ b, h₀.get? b = none → T.H₀.get? b = none) (hs0 : ∀ b, b ∉ (wG T A k pm cd doc a X L D).Y → h₀.get? b = none → s₀.heap.get? b = none) (hnew : ∀ b, s.heap.get? b = none → h₀.get? b = none)
    (hl : WLook ρ rs D pl) (hw : walkP 20 (rs.map RR.zs) pl bk = some res) (hz : ∀ r ∈ rs, ∀ z ∈ r.zs, z ≤ 1000) (ht : ∀ e ∈ bk, e.2.2.2.2.length ≤ 0) (hbl : bk.length ≤ 1000)
    (hi : PIs (((wG T A k pm cd doc a X L D).wz Z).cx s.heap ρ) iter ((List.range 20).map eN))
    (K : ∀ Z' s' ρ', St ((wG T A k pm cd doc a X L D).wz Z') [.list D (res.2.map eE)] s' ρ' s' → ρ'.lookup (Str.ofString "book") = some (.ptr D) → ρ'.lookup (Str.ofString "place") = some (eN res.1) → (∀ b ∈ X, b ∈ Z') → Sm (wG T A k pm cd doc a X L D).Y (some n) s₀ s' → res.2.length ≤ 1000 →
      wpAny (wG T A k pm cd doc a X L D).M (wG T A k pm cd doc a X L D).A (execs rest (wG T A k pm cd doc a X L D).env) Q E s')
    (hs : ∀ y, foldedSetIterable iter (wG T A k pm cd doc a X L D).env y = pure y := by intro _; rfl) :
    wpAny (wG T A k pm cd doc a X L D).M (wG T A k pm cd doc a X L D).A (execs (.For (.Name (Str.ofString "turn") px) iter wBody [] pos :: rest) (wG T A k pm cd doc a X L D).env) Q E s := by
  refine wpAny_execs_cons (wpAny_For (hi s _ _ (Ext.refl _) fun h₁ s₂ I wr P Stt e1 k1 it => ?_) hs)
  have W := it.walks
  have hlen : ((List.range 20).map eN).length = 20 := by simp
  rw [hlen] at W
  have wrN0 : ∀ b ∈ wr, s.heap.get? b = none := fun b hb => by
    cases q : s.heap.get? b with
    | none => rfl
    | some o => have := e1 b o q; rw [it.new b hb] at this; cases this
  have wrY : ∀ b ∈ wr, b ∉ (wG T A k pm cd doc a X L D).Y := fun b hb m => it.notX b hb (List.mem_append_left _ m)
  have wrH : ∀ b ∈ wr, T.H₀.get? b = none := fun b hb => hH b (hnew b (wrN0 b hb))
  have wrX : ∀ b ∈ wr, b ∉ X := fun b hb m => by obtain ⟨o, ho⟩ := hN b (hZN b m); rw [wrN0 b hb] at ho; cases ho
  have wr0 : ∀ b ∈ wr, b ∉ (wG T A k pm cd doc a X L D).Y → s₀.heap.get? b = none := fun b hb nb => hs0 b nb (hnew b (wrN0 b hb))
  have w1 := w.step rfl hYN (w.st.kp k1)
  have st2 : St ((wG T A k pm cd doc a X L D).wz (wr ++ Z)) [.list D (bk.map eE)] s₂ ρ s₂ := (St.zstrong (F := (wG T A k pm cd doc a X L D).wz Z) w.st k1 wrN0 (it.alive 0 _ it.st)).here
  have rul2 : Rs T (wG T A k pm cd doc a X L D).A.in1.in1 h₀ n (wr ++ N) rs s₂ := (w.rul.moreN (N' := wr ++ N) fun b hb => (List.mem_append.mp hb).elim (fun h => .inr (wrN0 b h)) .inl).mono k1.ext.but (k1.sm (Y := []) (γ := none)).gr
  have hN2 : ∀ b ∈ wr ++ N, ∃ o, s₂.heap.get? b = some o := fun b hb => (List.mem_append.mp hb).elim (it.alive 0 _ it.st b) fun h => let ⟨o, ho⟩ := hN b h; ⟨o, k1.ext _ _ ho⟩
  have hYN2 : ∀ b ∈ (wG T A k pm cd doc a X L D).Y, b ∈ wr ++ N := fun b hb => List.mem_append_right _ (hYN b hb)
  have w2 : Wk (wG T A k pm cd doc a X L D) (wr ++ Z) (wr ++ N) (wG T A k pm cd doc a X L D).A.in1.in1 h₀ n [.list D (bk.map eE)] s₀ ρ rs s₂ := ⟨st2, rul2, fun r hr b hb => List.mem_append_right _ (w.inZ r hr b hb), w1.sm, fun b hb => List.mem_append_right _ (w.Z0 b hb)⟩
  refine codeAny_forLoop (fun m s' => ∃ i Z' ρ' rs' pl' bk', i ≤ 20 ∧ m = 21 - i ∧ Wk (wG T A k pm cd doc a X L D) Z' (wr ++ N) (wG T A k pm cd doc a X L D).A.in1.in1 h₀ n [.list D (bk'.map eE)] s₀ ρ' rs' s' ∧ WLook ρ' rs' D pl' ∧ walkP (20 - i) (rs'.map RR.zs) pl' bk' = some res ∧ Stt i s'.heap ∧
    (∀ b ∈ wr, b ∈ Z') ∧ (∀ b ∈ wr ++ N, ∃ o, s'.heap.get? b = some o) ∧ (∀ b, s'.heap.get? b = none → h₀.get? b = none) ∧ (∀ r ∈ rs', ∀ z ∈ r.zs, z ≤ 1000) ∧ (∀ e ∈ bk', e.2.2.2.2.length ≤ i) ∧ bk'.length ≤ 1000) ?_ 21
    ⟨0, _, ρ, rs, pl, bk, Nat.zero_le _, rfl, w2, hl, hw, it.st, fun b hb => List.mem_append_left _ hb, hN2, fun b q => hnew b (k1.none q), hz, ht, hbl⟩
  rintro m s' ⟨i, Z', ρ', rs', pl', bk', hi20, rfl, w', hl', hw', hst, hwrZ, hN', hnew', hz', ht', hbl'⟩
  by_cases hlt : i < 20
  · refine W.item i _ _ _ hlt hst fun v h₂ tk₂ hP hst₂ hk₂ => ?_
    obtain ⟨d, hd, r0⟩ := it.items i v (by rw [hlen]; exact hlt) hP
    obtain ⟨c, hc, rfl⟩ := get_map_some hd
    have e2 : ExtB wr s'.heap h₂ := hk₂
    have st3 : St ((wG T A k pm cd doc a X L D).wz Z') [.list D (bk'.map eE)] { s' with heap := h₂, toks := tk₂ } ρ' { s' with heap := h₂, toks := tk₂ } := St.moveW f rfl w'.st e2 hwrZ wrY wrH (it.alive _ _ hst₂)
    have rul3 : Rs T (wG T A k pm cd doc a X L D).A.in1.in1 h₀ n (wr ++ N) rs' { s' with heap := h₂, toks := tk₂ } := w'.rul.mono (e2.mono fun b hb => List.mem_append_left _ hb) rfl
    have w3 : Wk (wG T A k pm cd doc a X L D) Z' (wr ++ N) (wG T A k pm cd doc a X L D).A.in1.in1 h₀ n [.list D (bk'.map eE)] s₀ ρ' rs' { s' with heap := h₂, toks := tk₂ } := ⟨st3, rul3, w'.inZ, w'.sm.fresh ⟨_, _, _, rfl⟩ e2 wr0 (GR.refl _), w'.Z0⟩
    have al3 : ∀ b o, s'.heap.get? b = some o → ∃ o', h₂.get? b = some o' := fun b o ho => by
      by_cases m : b ∈ wr
      · exact it.alive _ _ hst₂ b m
      · exact ⟨o, e2 b o m ho⟩
    refine wpAny_assign_Name (store (F := (wG T A k pm cd doc a X L D).wz Z') (x := Str.ofString "turn") (d := eN c) (f.z _) st3 (by obtain ⟨t, ht⟩ := r0; exact ⟨t, ht⟩) (.inl rfl) fun s₄ st₄ sm₄ => ?_)
    have w4 := w3.step rfl hYN2 st₄
    have sm4 : ∀ b, b ∉ (wG T A k pm cd doc a X L D).Y → ∀ o, h₂.get? b = some o → s₄.heap.get? b = some o := fun b nb o h => sm₄.ext b o nb h
    have back4 : ∀ b, s₄.heap.get? b = none → s'.heap.get? b = none := fun b q => by
      cases q' : s'.heap.get? b with
      | none => rfl
      | some o =>
        obtain ⟨o', ho'⟩ := al3 b o q'
        by_cases m : b ∈ (wG T A k pm cd doc a X L D).Y
        · obtain ⟨o2, ho2⟩ := st₄.xs b (List.mem_append_left _ m)
          rw [q] at ho2; cases ho2
        · rw [sm4 b m o' ho'] at q; cases q
    have hN4 : ∀ b ∈ wr ++ N, ∃ o, s₄.heap.get? b = some o := fun b hb => by
      cases q : s₄.heap.get? b with
      | some o => exact ⟨o, rfl⟩
      | none => obtain ⟨o, ho⟩ := hN' b hb; rw [back4 b q] at ho; cases ho
    have hst₄ : Stt (i + 1) s₄.heap := W.frame _ _ _ hst₂ fun b hb o e => sm4 b (wrY b hb) o e
    have e20 : 20 - i = (19 - i) + 1 := by omega
    rw [e20] at hw'
    refine walk_turn B at1 at2 f hk3 w4 hYN2 hN4 (fun b hb => List.mem_append_right _ (hZN b hb)) hH hs0 (fun b q => hnew' b (back4 b q)) ⟨lk hl'.rulers, lk hl'.book, lk hl'.place⟩ hw' hz' (fun e he => by have := ht' e he; omega) hbl'
      (fun Z5 s5 ρ5 st5 hb5 hp5 hX5 sm5 hl5 => K Z5 s5 ρ5 st5 hb5 hp5 hX5 sm5 hl5)
      (fun Z5 s5 ρ5 rs5 pl5 bk5 w5 hl5 hw5 hZ5 hk5 hb5 hz5 ht5 hbl5 => ?_)
    refine ⟨21 - (i + 1), by omega, i + 1, Z5, ρ5, rs5, pl5, bk5, hlt, rfl, w5, hl5, ?_, ?_, fun b hb => hZ5 b (hwrZ b hb), fun b hb => ?_, fun b q => hnew' b (back4 b (hb5 b q)), hz5, ht5 i ht', hbl5⟩
    · rw [show 20 - (i + 1) = 19 - i by omega]; exact hw5
    · exact W.frame _ _ _ hst₄ fun b hb o e => hk5 b (List.mem_append_left _ hb) (wrY b hb) o e
    · cases q : s5.heap.get? b with
      | some o => exact ⟨o, rfl⟩
      | none => obtain ⟨o, ho⟩ := hN4 b hb; rw [hb5 b q] at ho; cases ho
  · have hin : i = 20 := by omega
    subst hin
    have hres : res = (pl', bk') := by
      rw [Nat.sub_self] at hw'
      have : some (pl', bk') = some res := hw'
      cases this; rfl
    subst hres
    refine W.done _ _ _ hst fun h₂ tk₂ hk₂ => wpAny_execs_nil ?_
    have e2 : ExtB wr s'.heap h₂ := hk₂
    have st3 : St ((wG T A k pm cd doc a X L D).wz (Z'.filter fun b => decide (b ∉ wr))) [.list D (bk'.map eE)] { s' with heap := h₂, toks := tk₂ } ρ' { s' with heap := h₂, toks := tk₂ } := St.dropZ f rfl w'.st e2 hwrZ wrY wrH
    exact K _ _ ρ' st3 hl'.book hl'.place (fun b hb => List.mem_filter.mpr ⟨w'.Z0 b hb, decide_eq_true fun m => wrX b m hb⟩) (w'.sm.fresh ⟨_, _, _, rfl⟩ e2 wr0 (GR.refl _)) hbl'
end Mine
namespace Mine
open PySem PySem.Spec PySem.Calls PyProof.Rows PySem.W PySem.W.X

def wElt : Expr := match (rec 9).body with
  | .Assign _ (.ListComp e _ _ _) _ :: _ => e
  | _ => .Name (Str.ofString "rows") ⟨0, 0, 0, 0⟩
def wScope : Scope := match (rec 9).body with
  | .Assign _ (.ListComp _ _ s _) _ :: _ => s
  | _ => (rec 9).scope

theorem walk_elt {T : Tp} {A : Around} {k : Nat} {pm cd doc pm6 cd6 doc6 : Value} {a a6 : Addr} {X : List Addr} {L C : Addr} {H : Heap} {γ : Option Nat} (top : T.Ok) (room : Room A (k + 1)) (hk : 1 ≤ k) (at6 : FnAt T 6 a6 pm6 cd6 doc6) (old : Ext T.H₀ H)
    {s₁ : Shared} {m : Str → Option Value} {v : Value} {Q E : Value → Shared → Prop} (hn : s₁.heap.Ns C m) (hv : VarIs (cEnv wScope (callFx T A k (fdI 9 pm cd doc) a γ X L).env C) s₁.heap m (Str.ofString "row") v) (ex : Ext H s₁.heap) (hQ : Made T pm6 cd6 doc6 a6 v s₁ Q) :
    wpAny (callFx T A k (fdI 9 pm cd doc) a γ X L).M (callFx T A k (fdI 9 pm cd doc) a γ X L).A (eval wElt (cEnv wScope (callFx T A k (fdI 9 pm cd doc) a γ X L).env C)) Q E s₁ := by
  obtain ⟨o, ho, hd⟩ := at6.obj
  refine wpAny_Call_NameR (Name_function_global rfl rfl (loadGlobal_global (mg := T.mg) (top.g.keeps (old.trans ex)) at6.name ?_) (by decide))
  refine callWith_def hd (spliced_cons (wpAny_Name (wpAny_loadName_local rfl rfl hn (hv.1 rfl) ?_) (by decide)) ) rfl
  exact spliced_nil ⟨ex _ _ (old _ _ ho), make_gen top ((room.deeper).le hk) at6 (old.trans ex) hQ⟩

abbrev ent0 : Ent := (0, 0, 0, 0, [])
theorem FnG.of_FnP {T : Tp} {k : Nat} {a : Addr} {args : List AV} {d : AV} (h : FnP T k a args d) : FnG T k a args d := fun A s Q E X vs room old xs r K => h A s Q E X vs room old xs r fun v s' kp rr => K v s' kp.sm rr

theorem walk_fn {T : Tp} {a a1 a2 a6 : Addr} {pm cd doc pm1 cd1 doc1 pm2 cd2 doc2 pm6 cd6 doc6 : Value} (top : T.Ok) (B : Blts T) (at9 : FnAt T 9 a pm cd doc) (at1 : FnAt T 1 a1 pm1 cd1 doc1) (at2 : FnAt T 2 a2 pm2 cd2 doc2) (at6 : FnAt T 6 a6 pm6 cd6 doc6)
    (hcm : ∃ t, T.mg (Str.ofString "CHAR_MAX") = some (.int 127 t)) {rows : List (List Nat)} {res : Nat × List Ent} (hrow : ∀ r ∈ rows, RowT r) (hsm : ∀ r ∈ rows, ∀ z ∈ stopAt r, z ≤ 1000) (hlen : rows.length ≤ 1000)
    (hw : walkP 20 (rows.map stopAt) 0 (rows.map fun _ => ent0) = some res) : FnG T 6 a [eRows rows] (.tup [eN res.1, eB res.2]) := by
  intro A s Q E X vs room old xs r K
  obtain ⟨o, ho, hd⟩ := at9.obj
  obtain ⟨v1, vs1, rfl, r1, rfl⟩ := id r
  have hbig : big = 1000000 := rfl
  refine enter (γ := some s.gens.size) (names := [Str.ofString "rows"]) (k := 5) top room ho hd at9.code r rfl rfl (by decide) rfl old xs (fun L s' f st => ?_) (fun v s' sm rr => K v s' sm rr)
  have ok0 := st.ok f
  show wpAny _ _ (execs (.Assign [.Name _ _] (.ListComp wElt [⟨.Name _ _, _, [], 0⟩] wScope _) _ :: _) _) _ _ _
  refine seq_gens (B := (wG T A 5 pm cd doc a X L 0).A.in1.in1) (pm := pm6) (cd := cd6) (doc := doc6) (fa := a6) (src := rows) f st hcm ?_ hrow ⟨rfl, rfl, Or.inl rfl, rfl⟩ (PI.list ok0 (PE.name ok0 rfl))
    (fun C s₁ m v Q E hn hv ex hQ => walk_elt top room (by decide) at6 st.old hn hv ex hQ) fun s1 rs st1 hzs rul1 sm1 => ?_
  · have := f.room
    exact ⟨this.handled, by have := this.depth; show (wG T A 5 pm cd doc a X L 0).A.depth + 3 < _; show (callFx T A 5 (fdI 9 pm cd doc) a (some s.gens.size) X L).A.depth + 3 < _; have e : (callFx T A 5 (fdI 9 pm cd doc) a (some s.gens.size) X L).k = 5 := rfl; omega, by have := this.units; show (callFx T A 5 (fdI 9 pm cd doc) a (some s.gens.size) X L).A.units + 1 + 1 + 10 * 3 < _; have e : (callFx T A 5 (fdI 9 pm cd doc) a (some s.gens.size) X L).k = 5 := rfl; omega⟩
  have f1 : (wFx T A 5 pm cd doc a X L).Ok := f.g none
  have st1 : St ((wFx T A 5 pm cd doc a X L).wz (rs.flatMap RR.W ++ X)) [] s1 ((Str.ofString "rulers", .list (rs.map fun r : RR => AV.ptr r.ga)) :: [(Str.ofString "rows", eRows rows)]) s1 := st1
  have ok1 := st1.ok (f1.z _)
  have sys : ∀ {H : Heap}, Ext T.H₀ H → ∃ o, H.get? sysModules = some o := fun {H} e => let ⟨o, h⟩ := B.sys; ⟨o, e _ _ h⟩
  refine seq_compOwn (F := (wFx T A 5 pm cd doc a X L).wz (rs.flatMap RR.W ++ X)) eR rows (fun _ => true) (fun _ => eE ent0) (f1.z _) st1 ⟨rfl, rfl, Or.inl rfl, rfl⟩ (PI.list ok1 (PE.name ok1 rfl)) (fun r _ C H X' ok => PTs.nil)
    (fun r _ _ C H X' ok => PE.tupD ok (PEL.cons PE.int (PEL.cons PE.int (PEL.cons PE.int (PEL.cons PE.int (PEL.cons (PE.dict0 ok (sys ok.old)) PEL.nil))))) (by simp [big])) fun D s2 hD fD st2 sm2 => ?_
  have f2 : (wG T A 5 pm cd doc a X L D).Ok := f1.with (by
    cases q : T.H₀.get? D with
    | none => exact q
    | some o => have := st1.old D o q; rw [hD] at this; cases this)
  have eb : (rows.filter fun _ => true).map (fun _ => eE ent0) = (rows.map fun _ => ent0).map eE := by rw [filter_true, List.map_map]; rfl
  rw [eb] at st2
  have st2 : St ((wG T A 5 pm cd doc a X L D).wz (rs.flatMap RR.W ++ X)) [.list D ((rows.map fun _ => ent0).map eE)] s2 ((Str.ofString "book", .ptr D) :: (Str.ofString "rulers", .list (rs.map fun r : RR => AV.ptr r.ga)) :: [(Str.ofString "rows", eRows rows)]) s2 := st2
  have sm2 : Sm (wFx T A 5 pm cd doc a X L).Y none s1 s2 := sm2
  have hDX : D ∉ (wFx T A 5 pm cd doc a X L).Y ++ X := fun m => by
    obtain ⟨o, ho⟩ := st1.xs D ((List.mem_append.mp m).elim (List.mem_append_left _) fun m => List.mem_append_right _ (List.mem_append_right _ m))
    rw [hD] at ho; cases ho
  have rul2 : Rs T (wG T A 5 pm cd doc a X L D).A.in1.in1 s'.heap s'.gens.size (D :: ((wFx T A 5 pm cd doc a X L).Y ++ X)) rs s2 :=
    (rul1.moreN (N' := D :: ((wFx T A 5 pm cd doc a X L).Y ++ X)) fun b hb => (List.mem_cons.mp hb).elim (fun e => .inr (e ▸ hD)) .inl).mono (sm2.ext.mono fun b hb => List.mem_cons_of_mem _ (List.mem_append_left _ hb)) sm2.gr
  have smD : Sm (wG T A 5 pm cd doc a X L D).Y (some s'.gens.size) s' s2 := (sm1.trans sm2.any).more fun b hb => List.mem_cons_of_mem _ hb
  have w2 : Wk (wG T A 5 pm cd doc a X L D) (rs.flatMap RR.W ++ X) (D :: ((wFx T A 5 pm cd doc a X L).Y ++ X)) (wG T A 5 pm cd doc a X L D).A.in1.in1 s'.heap s'.gens.size [.list D ((rows.map fun _ => ent0).map eE)] s' _ rs s2 :=
    ⟨st2, rul2, fun r hr b hb => List.mem_append_left _ (List.mem_flatMap.mpr ⟨r, hr, hb⟩), smD, fun b hb => List.mem_append_right _ hb⟩
  have hYN : ∀ b ∈ (wG T A 5 pm cd doc a X L D).Y, b ∈ D :: ((wFx T A 5 pm cd doc a X L).Y ++ X) := fun b hb => (List.mem_cons.mp hb).elim (fun e => e ▸ List.mem_cons_self) fun h => List.mem_cons_of_mem _ (List.mem_append_left _ h)
  refine seq_assign (F := (wG T A 5 pm cd doc a X L D).wz (rs.flatMap RR.W ++ X)) (d := eN 0) (f2.z _) st2 PE.int fun s3 st3 => ?_
  have w3 := w2.step rfl hYN st3
  have ok3 := w3.st.ok (f2.z _)
  have nonew : ∀ b, s3.heap.get? b = none → s'.heap.get? b = none := fun b q => by
    have q1 : s1.heap.get? b = none := (show St ((wG T A 5 pm cd doc a X L D).wz (rs.flatMap RR.W ++ X)) _ s2 _ s3 from st3).fresh0 q |> fun q2 => by
      cases q' : s1.heap.get? b with
      | none => rfl
      | some o =>
        by_cases m : b ∈ (wFx T A 5 pm cd doc a X L).Y
        · obtain ⟨o', ho'⟩ := st2.xs b (List.mem_append_left _ (List.mem_cons_of_mem _ m))
          rw [q2] at ho'; cases ho'
        · rw [sm2.ext b o m q'] at q2; cases q2
    cases q' : s'.heap.get? b with
    | none => rfl
    | some o =>
      by_cases m : b ∈ (wFx T A 5 pm cd doc a X L).Y
      · obtain ⟨o', ho'⟩ := st1.xs b (List.mem_append_left _ m)
        rw [q1] at ho'; cases ho'
      · rw [sm1.ext b o m q'] at q1; cases q1
  have hzs' : rs.map RR.zs = rows.map stopAt := hzs
  refine walk_loop B at1 at2 f2 (by decide) w3 hYN (fun b hb => ?_) (fun b hb => List.mem_cons_of_mem _ (List.mem_append_right _ hb)) (fun b q => ?_) (fun b _ q => q) nonew ⟨rfl, rfl, rfl⟩ (hzs' ▸ hw) (fun r hr z hz => ?_) (fun e he => ?_) (by simpa using hlen)
    (PIs.range (n := 20) ok3 (Glob.blt ok3 B.range.1 B.range.2) PE.int (by decide) (by decide)) fun Z' s4 ρ4 st4 hb4 hp4 hX4 sm4 hl4 => ?_
  · rcases List.mem_cons.mp hb with rfl | hb
    · exact w3.st.xs _ (List.mem_append_left _ List.mem_cons_self)
    · rcases List.mem_append.mp hb with hb | hb
      · exact w3.st.xs _ (List.mem_append_left _ (List.mem_cons_of_mem _ hb))
      · exact w3.st.xs _ (List.mem_append_right _ (List.mem_append_right _ hb))
  · cases q' : T.H₀.get? b with
    | none => exact q'
    | some o => have := st.old b o q'; rw [q] at this; cases this
  · have : r.zs ∈ rows.map stopAt := hzs' ▸ List.mem_map.mpr ⟨r, hr, rfl⟩
    obtain ⟨r', hr', e⟩ := List.mem_map.mp this
    rw [← e] at hz
    exact hsm r' hr' z hz
  · obtain ⟨r', _, rfl⟩ := List.mem_map.mp he
    exact Nat.le_refl _
  · have ok5 : (Cx.mk T (wFx T A 5 pm cd doc a X L).A 5 (wFx T A 5 pm cd doc a X L).env s4.heap ((wFx T A 5 pm cd doc a X L).Y ++ X) [(Str.ofString "place", eN res.1), (Str.ofString "book", eB res.2)]).Ok := by
      have sub : ∀ b ∈ (wFx T A 5 pm cd doc a X L).Y ++ X, b ∈ (D :: (wFx T A 5 pm cd doc a X L).Y) ++ Z' := fun b hb => (List.mem_append.mp hb).elim (fun h => List.mem_append_left _ (List.mem_cons_of_mem _ h)) fun h => List.mem_append_right _ (hX4 b h)
      refine ⟨top, f1.room, st4.old, f1.kind, f1.glob, f1.blt, fun b hb => st4.xs b (sub b hb), ?_⟩
      obtain ⟨m, hn, hv⟩ := st4.vars
      refine ⟨m, hn, fun x d hx => ?_⟩
      rw [List.lookup_cons] at hx
      cases q : x == Str.ofString "place" with
      | true =>
        rw [q] at hx; cases hx
        obtain ⟨v, ⟨t, e⟩, hi⟩ := hv _ _ hp4
        rw [beq_iff_eq.mp q]
        exact ⟨v, ⟨t, e⟩, hi⟩
      | false =>
        rw [q] at hx
        rw [List.lookup_cons] at hx
        cases q2 : x == Str.ofString "book" with
        | false => rw [q2] at hx; cases hx
        | true =>
          rw [q2] at hx; cases hx
          obtain ⟨v, e, hi⟩ := hv _ _ hb4
          have e : v = .ref D := e
          subst e
          rw [beq_iff_eq.mp q2]
          obtain ⟨vs, hp, hz, rl⟩ := st4.own _ List.mem_cons_self
          exact ⟨.ref D, ⟨D, vs, rfl, hDX, hp, hz, rl.weak sub⟩, hi⟩
    refine wpAny_execs_cons (wpAny_Return_some ((PE.tupD ok5 (PEL.cons (PE.name ok5 rfl) (PEL.cons (PE.name ok5 rfl) PEL.nil)) (by simp [big])) s4 _ _ (Ext.refl _) fun v s5 k5 r5 => ⟨?_, r5⟩))
    exact st.sm.trans (((sm4.forget (by
      cases q : s'.heap.get? D with
      | none => rfl
      | some o =>
        by_cases m : D ∈ (wFx T A 5 pm cd doc a X L).Y
        · exact absurd (List.mem_append_left _ m) hDX
        · rw [sm1.ext D o m q] at hD; cases hD)).gle st.sm.gr.2.2).trans k5.sm)
end Mine
namespace Mine
open PySem PySem.Spec PySem.Calls PyProof.Rows PySem.W PySem.W.X

theorem CmpTo.neBool {c : Cx} (a b : Bool) : CmpTo c .NotEq (.bool a) (.bool b) (a != b) := fun s Q E v1 v2 _ e1 e2 K => by
  have e1 : v1 = .bool a := e1
  have e2 : v2 = .bool b := e2
  subst e1; subst e2
  exact PySem.EqBoolInt.of_rcne (SeqAt.RcNeAt.bool_bool a b) (K _ _ (Kp.refl s) rfl)
theorem CmpTo.eqI' {c : Cx} (a b : Int) : CmpTo c .Eq (.int a) (.int b) (a == b) := CmpTo.eqI a b

def FnH (T : Tp) (k : Nat) (a : Addr) (args : List AV) (d : AV) : Prop :=
  ∀ (A : Around) (s : Shared) (Q E : Value → Shared → Prop) (X : List Addr) (vs : List Value), Room A k → Ext T.H₀ s.heap → (∀ x ∈ X, ∃ o, s.heap.get? x = some o) → RepL T.p s.heap X args vs →
    (∀ v s', Sm [] (some 0) s s' → Rep T.p s'.heap X d v → Q v s') → wpAny (model T.p.1 T.p.2) A (call (.ref a) vs) Q E s
theorem FnG.h {T : Tp} {k : Nat} {a : Addr} {args : List AV} {d : AV} (h : FnG T k a args d) : FnH T k a args d := fun A s Q E X vs room old xs r K => h A s Q E X vs room old xs r fun v s' sm rr => K v s' (sm.gle (Nat.zero_le _)) rr

section
variable {F : Fx} {Ω : List OwnD} {s₀ s s' : Shared} {ρ : List (Str × AV)} {pos : Pos}
theorem St.grow (st : St F Ω s₀ ρ s) (sm : Sm [] F.γ s s') : St F Ω s₀ ρ s' := by
  have ext : Ext s.heap s'.heap := fun b o h => sm.ext b o (fun m => nomatch m) h
  refine ⟨st.sm.trans (sm.more fun a h => nomatch h), st.old.trans ext, fun a ha => let ⟨o, h⟩ := st.xs a ha; ⟨o, ext a o h⟩, fun x cc h1 h2 => let ⟨v, h⟩ := st.cell x cc h1 h2; ⟨v, h.keeps ext⟩, st.vars.ext ext, fun o ho => (st.own o ho).mono fun b x _ q => ext b x q, st.ownY⟩
theorem PS.callH {x : Str} {np : Pos} {e : Expr} {es : List Expr} {ds : List AV} {d : AV} {a : Addr} {o : Obj} {fd : FuncData} {k : Nat} (f : F.Ok) (hγ : F.γ = some 0) (st : St F Ω s₀ ρ s) (hg : Glob (F.cx s.heap ρ) x (.ref a)) (ho : F.T.H₀.get? a = some o) (hd : o.data = .func fd)
    (hF : FnH F.T k a ds d) (hk : k ≤ F.k) (ha : PEL (F.cx s.heap ρ) pos (e :: es) ds) (he : starEach (e :: es) F.env = (false, eval e F.env) :: starEach es F.env := by rfl) :
    PS F Ω s₀ ρ s (.Call (.Name x np) (e :: es) [] pos) d := fun Q E K => by
  refine wpAny_Call_NameR (hg np s _ _ (Ext.refl _) (callWith_def hd (ha s _ _ (Ext.refl _) fun vs s1 k1 r => ⟨k1.ext _ _ (st.old _ _ ho), ?_⟩) he))
  have st1 := st.kp k1
  refine hF F.A s1 _ _ F.X vs (f.room.le hk) st1.old st1.xs r fun v s2 sm r2 => K v s2 (st1.grow (hγ ▸ sm)) r2
theorem mem_lookup {α : Type} {x : Str} {d : α} : ∀ {l : List (Str × α)}, l.lookup x = some d → (x, d) ∈ l
  | (y, e) :: r, h => by
    rw [List.lookup_cons] at h
    cases q : x == y with
    | true => rw [q] at h; cases h; rw [beq_iff_eq.mp q]; exact List.mem_cons_self
    | false => rw [q] at h; exact List.mem_cons_of_mem _ (mem_lookup h)
theorem St.pick (st : St F Ω s₀ ρ s) (l : List (Str × AV)) (h : ∀ p ∈ l, ρ.lookup p.1 = some p.2) : St F Ω s₀ l s := st.sub fun x d hx => h (x, d) (mem_lookup hx)
end

structure Rows4 (rows : List (List Nat)) : Prop where
  len : rows.length = 4
  row : ∀ r ∈ rows, r.length ≤ 1000
  ent : ∀ r ∈ rows, ∀ z ∈ r, 1 ≤ z ∧ z ≤ 4
theorem Rows4.ok {rows : List (List Nat)} (h : Rows4 rows) : RowsOk rows := ⟨h.len, h.row, fun r hr z hz => by have := h.ent r hr z hz; omega⟩
theorem Rows4.turnStep {rows rows' : List (List Nat)} {n t : Nat} (h : Rows4 rows) (h' : Rows4 rows') : Rows4 (turnStep rows (n, rows') t).2 := by
  unfold Mine.turnStep
  refine ⟨by simp [h'.len], fun r hr => ?_, fun r hr z hz => ?_⟩
  · rcases mem_set_cases hr with rfl | ⟨i, _, hr⟩
    · have : (rows.getD t []).length ≤ 1000 := by
        rw [List.getD_eq_getElem?_getD]
        cases q : rows[t]? with
        | none => simp
        | some r => exact h.row r (List.mem_of_getElem? q)
      simp only [List.length_append, List.length_drop, List.length_take]
      omega
    · exact h'.row r (List.mem_of_getElem? hr)
  · rcases mem_set_cases hr with rfl | ⟨i, _, hr⟩
    · have hm : z ∈ rows.getD t [] := (List.mem_append.mp hz).elim List.mem_of_mem_drop List.mem_of_mem_take
      rw [List.getD_eq_getElem?_getD] at hm
      cases q : rows[t]? with
      | none => rw [q] at hm; cases hm
      | some r => rw [q] at hm; exact h.ent r (List.mem_of_getElem? q) z hm
    · exact h'.ent r (List.mem_of_getElem? hr) z hz
theorem Rows4.turned {rows : List (List Nat)} (h : Rows4 rows) : ∀ (towns : List Nat) (st : Nat × List (List Nat)), Rows4 st.2 → Rows4 (towns.foldl (Mine.turnStep rows) st).2
  | [], st, h' => h'
  | t :: ts, st, h' => Rows4.turned h ts (Mine.turnStep rows st t) (Rows4.turnStep h h')

/-- what stands behind a row -/
inductive TailOk : List Nat → Prop
  | nil : TailOk []
  | stop (r : List Nat) : TailOk (127 :: r)
theorem rowT_tail {t : List Nat} (ht : TailOk t) : ∀ {r : List Nat}, (∀ z ∈ r, 1 ≤ z ∧ z ≤ 4) → RowT (r ++ t) ∧ stopAt (r ++ t) = r
  | [], _ => by cases ht with
    | nil => exact ⟨.nil, rfl⟩
    | stop r => exact ⟨.stop r, rfl⟩
  | z :: r, h => by
    have hz := h z List.mem_cons_self
    obtain ⟨h1, h2⟩ := rowT_tail ht (r := r) fun y hy => h y (List.mem_cons_of_mem _ hy)
    refine ⟨.step (by omega) (by omega) h1, ?_⟩
    show (if z = 127 then [] else z :: stopAt (r ++ t)) = _
    rw [if_neg (by omega), h2]
structure Tails4 (tails : List (List Nat)) : Prop where
  len : tails.length = 4
  tl : ∀ t ∈ tails, TailOk t ∧ t.length ≤ 2
def withT (rows tails : List (List Nat)) : List (List Nat) := (List.range 4).map fun k => rows.getD k [] ++ tails.getD k []
theorem withT_row {rows tails : List (List Nat)} (h : Rows4 rows) (ht : Tails4 tails) : (∀ r ∈ withT rows tails, RowT r) ∧ (withT rows tails).map stopAt = rows := by
  have key : ∀ k, k < 4 → RowT (rows.getD k [] ++ tails.getD k []) ∧ stopAt (rows.getD k [] ++ tails.getD k []) = rows.getD k [] := fun k hk => by
    have h1 : k < rows.length := by rw [h.len]; exact hk
    have h2 : k < tails.length := by rw [ht.len]; exact hk
    rw [getD_of (List.getElem?_eq_getElem h1), getD_of (List.getElem?_eq_getElem h2)]
    exact rowT_tail (ht.tl _ (List.getElem_mem h2)).1 (h.ent _ (List.getElem_mem h1))
  refine ⟨fun r hr => ?_, ?_⟩
  · obtain ⟨k, hk, rfl⟩ := List.mem_map.mp hr
    exact (key k (List.mem_range.mp hk)).1
  · unfold withT
    rw [List.map_map]
    refine List.ext_getElem (by simp [h.len]) fun i h1 h2 => ?_
    simp only [List.getElem_map, List.getElem_range, Function.comp_apply]
    rw [(key i (by rw [← h.len]; exact h2)).2, getD_of (List.getElem?_eq_getElem h2)]

def ents0 : List Ent := [ent0, ent0, ent0, ent0]
/-- the whole walk of the rows -/
structure Walked (rows : List (List Nat)) (book : List Ent) : Prop where
  walk : walkP 20 rows 0 ents0 = some (0, book)
  len : book.length = 4
theorem walk_fn4 {T : Tp} {a a1 a2 a6 : Addr} {pm cd doc pm1 cd1 doc1 pm2 cd2 doc2 pm6 cd6 doc6 : Value} (top : T.Ok) (B : Blts T) (at9 : FnAt T 9 a pm cd doc) (at1 : FnAt T 1 a1 pm1 cd1 doc1) (at2 : FnAt T 2 a2 pm2 cd2 doc2) (at6 : FnAt T 6 a6 pm6 cd6 doc6)
    (hcm : ∃ t, T.mg (Str.ofString "CHAR_MAX") = some (.int 127 t)) {rows tails : List (List Nat)} {book : List Ent} (h : Rows4 rows) (ht : Tails4 tails) (hw : Walked rows book) : FnH T 6 a [eRows (withT rows tails)] (.tup [.int 0, eB book]) := by
  obtain ⟨h1, h2⟩ := withT_row h ht
  refine FnG.h (walk_fn (res := (0, book)) top B at9 at1 at2 at6 hcm h1 (fun r hr z hz => ?_) (by simp [withT]) ?_)
  · have : stopAt r ∈ (withT rows tails).map stopAt := List.mem_map.mpr ⟨r, hr, rfl⟩
    rw [h2] at this
    have := h.ent _ this z hz
    omega
  · rw [h2]
    have e : (withT rows tails).map (fun _ => ent0) = ents0 := rfl
    rw [e]
    exact hw.walk
end Mine
namespace Mine
open PySem PySem.Spec PySem.Calls PyProof.Rows PySem.W PySem.W.X

def waysP (rows : List (List Nat)) (towns : List Nat) : Nat := towns.foldl (fun w t => w * (rows.getD t []).length) 1
def wholeN (h : Nat → Bool) (n : Nat) : Nat := ((List.range n).filter h).length
theorem wholeN_succ (h : Nat → Bool) (n : Nat) : wholeN h (n + 1) = wholeN h n + (if h n then 1 else 0) := by
  unfold wholeN
  rw [List.range_succ, List.filter_append, List.length_append]
  cases q : h n <;> simp [q]
def inSum (book : List Ent) (k : Nat) : Nat := (book.map fun e => (look e.2.2.2.2 k).getD 0).sum
def outSum (t : List (Nat × Nat)) : Nat := (t.map (·.2)).sum
theorem outSum_eT (t : List (Nat × Nat)) : ((eT t).map (·.2)).sum = ((outSum t : Nat) : Int) := by
  unfold outSum eT
  rw [List.map_map, ← sum_cast, List.map_map]; rfl
structure Good (rows : List (List Nat)) (towns : List Nat) (full : List Ent) (number : Nat) (h : Bool) : Prop where
  is : ∃ book, Walked (turnedP rows towns number) book ∧ (∃ e, book[0]? = some e ∧ e.2.1 = (rows.getD 0 []).length) ∧ (∀ k, k < 4 → ∃ e, book[k]? = some e ∧ outSum e.2.2.2.2 = inSum book k) ∧ homeO (turnedP rows towns number) towns = some h ∧ eqBk book full = h

theorem whole_fn {T : Tp} {a a1 a2 a3 a6 a9 a11 a12 : Addr} {pm cd doc pm1 cd1 doc1 pm2 cd2 doc2 pm3 cd3 doc3 pm6 cd6 doc6 pm9 cd9 doc9 pm11 cd11 doc11 pm12 cd12 doc12 : Value} (top : T.Ok) (B : Blts T) (at13 : FnAt T 13 a pm cd doc) (at1 : FnAt T 1 a1 pm1 cd1 doc1) (at2 : FnAt T 2 a2 pm2 cd2 doc2)
    (at3 : FnAt T 3 a3 pm3 cd3 doc3) (at6 : FnAt T 6 a6 pm6 cd6 doc6) (at9 : FnAt T 9 a9 pm9 cd9 doc9) (at11 : FnAt T 11 a11 pm11 cd11 doc11) (at12 : FnAt T 12 a12 pm12 cd12 doc12)
    (hcm : ∃ t, T.mg (Str.ofString "CHAR_MAX") = some (.int 127 t)) {rows tails : List (List Nat)} {towns : List Nat} {full : List Ent} {h : Nat → Bool} (hr : Rows4 rows) (hto : townsOk rows towns) (ht : Tails4 tails) (hfull : full.length = 4)
    (hways : ∀ i, waysP rows (towns.take i) ≤ 100000) (good : ∀ number, number < waysP rows towns → Good rows towns full number (h number)) : FnH T 7 a [eRows rows, eR towns, eRows tails, eB full] (eN (wholeN h (waysP rows towns))) := by
  intro A s Q E X vs room old xs r K
  obtain ⟨o, ho, hd⟩ := at13.obj
  obtain ⟨o3, ho3, hd3⟩ := at3.obj
  obtain ⟨o9, ho9, hd9⟩ := at9.obj
  obtain ⟨o11, ho11, hd11⟩ := at11.obj
  obtain ⟨o12, ho12, hd12⟩ := at12.obj
  obtain ⟨v1, vs1, rfl, r1, v2, vs2, rfl, r2, v3, vs3, rfl, r3, v4, vs4, rfl, r4, rfl⟩ := id r
  have hbig : big = 1000000 := rfl
  have hways' : waysP rows towns ≤ 100000 := by have := hways towns.length; rwa [List.take_length] at this
  refine enter (γ := some 0) (names := [Str.ofString "rows", Str.ofString "towns", Str.ofString "tails", Str.ofString "full"]) (k := 6) top room ho hd at13.code r rfl rfl (by decide) rfl old xs (fun L s' f st => ?_) (fun v s' sm rr => K v s' sm rr)
  refine seq_assign (d := eN 1) f st PE.int fun s1 st1 => ?_
  refine seq_for eN towns (fun i ρ Ω => (∀ p ∈ [(Str.ofString "rows", eRows rows), (Str.ofString "towns", eR towns), (Str.ofString "tails", eRows tails), (Str.ofString "full", eB full), (Str.ofString "ways", eN (waysP rows (towns.take i)))], ρ.lookup p.1 = some p.2) ∧ Ω = []) (fun _ _ => False) (fun _ => False) f st1
    (PI.list (st1.ok f) (PE.name (st1.ok f) rfl)) ⟨by simp only [List.forall_mem_cons]; exact ⟨rfl, rfl, rfl, rfl, rfl, fun _ h => nomatch h⟩, rfl⟩ ?_ ?_ (fun _ _ _ h => h.elim)
  · rintro Z' i t ρ' Ω' s2 hti ⟨hJ, rfl⟩ f2 st2
    simp only [List.forall_mem_cons] at hJ
    obtain ⟨h1, h2, h3, h4, h5, _⟩ := hJ
    obtain ⟨rw_, hrt, hne, hrl⟩ := hto t (List.mem_of_getElem? hti)
    have hstep : waysP rows (towns.take (i + 1)) = waysP rows (towns.take i) * rw_.length := by
      unfold waysP; rw [foldl_take_succ hti, getD_of hrt]
    have hb1 := hways i
    refine seq_assign (d := eN (waysP rows (towns.take i) * rw_.length)) f2 st2 ((PE.mul (a := ((waysP rows (towns.take i) : Nat) : Int)) (b := ((rw_.length : Nat) : Int)) (PE.name (st2.ok f2) (lk h5)) ((PE.len (Glob.blt (st2.ok f2) B.len.1 B.len.2) (PE.item (k := (t : Int)) (d := eR rw_) (PE.name (st2.ok f2) (lk h1)) (PE.name (st2.ok f2) rfl) (by omega) (by rw [Int.toNat_natCast, List.getElem?_map, hrt]; rfl))).cast (by simp)) (IntMulOk.of_left (intBits_le_64 (by omega) (by omega)))).cast (by simp [eN])) fun s3 st3 => wpAny_execs_nil ⟨_, _, ⟨?_, rfl⟩, st3⟩
    simp only [List.forall_mem_cons]
    exact ⟨lk (lk h1), lk (lk h2), lk (lk h3), lk (lk h4), by rw [hstep]; rfl, fun _ h => nomatch h⟩
  rintro ρ' Ω' s2 (⟨hJ, rfl⟩ | hf) st2
  rotate_left
  · exact hf.elim
  rw [List.take_length] at hJ
  have st2 := st2.pick _ hJ
  refine seq_assign (d := eN (wholeN h 0)) f st2 PE.int fun s3 st3 => ?_
  refine seq_for eN (List.range (waysP rows towns)) (fun i ρ Ω => (∀ p ∈ [(Str.ofString "rows", eRows rows), (Str.ofString "towns", eR towns), (Str.ofString "tails", eRows tails), (Str.ofString "full", eB full), (Str.ofString "whole", eN (wholeN h i))], ρ.lookup p.1 = some p.2) ∧ Ω = []) (fun _ _ => False) (fun _ => False) f st3
    ((PI.range (n := ((waysP rows towns : Nat) : Int)) (st3.ok f) (Glob.blt (st3.ok f) B.range.1 B.range.2) (PE.name (st3.ok f) rfl) (by omega) (by omega)).cast (by rw [Int.toNat_natCast])) ⟨by simp only [List.forall_mem_cons]; exact ⟨rfl, rfl, rfl, rfl, rfl, fun _ h => nomatch h⟩, rfl⟩ ?_ ?_ (fun _ _ _ h => h.elim)
  · rintro Z' i number ρ' Ω' s4 hni ⟨hJ, rfl⟩ f4 st4
    have hnum : number = i ∧ i < waysP rows towns := by
      obtain ⟨hl, e⟩ := List.getElem?_eq_some_iff.mp hni
      simp at hl e
      omega
    obtain ⟨rfl, hlt⟩ := hnum
    have st4 := st4.pick [(Str.ofString "number", eN number), (Str.ofString "rows", eRows rows), (Str.ofString "towns", eR towns), (Str.ofString "tails", eRows tails), (Str.ofString "full", eB full), (Str.ofString "whole", eN (wholeN h number))] (by
      simp only [List.forall_mem_cons] at hJ ⊢
      obtain ⟨h1, h2, h3, h4, h5, _⟩ := hJ
      exact ⟨rfl, lk h1, lk h2, lk h3, lk h4, lk h5, fun _ h => nomatch h⟩)
    clear hJ
    obtain ⟨book, hw, ⟨e0, he0, hb0⟩, hcnt, hhome, heq⟩ := (good number hlt).is
    have hT : Rows4 (turnedP rows towns number) := Rows4.turned hr towns (number, rows) hr
    generalize hTd : turnedP rows towns number = turned at hw hhome hT
    refine seq_assign (d := eRows turned) f4 st4 ((PE.callF (st4.ok f4) (Glob.top (st4.ok f4) at11.name) ho11 hd11 (turned_fn top B at11 number hto) (show 2 ≤ 6 by decide) (PEL.cons (PE.name (st4.ok f4) rfl) (PEL.cons (PE.name (st4.ok f4) rfl) (PEL.cons (PE.name (st4.ok f4) rfl) PEL.nil)))).cast (by rw [hTd])) fun s5 st5 => ?_
    have hcomp : ∀ k ∈ List.range 4, ∃ x y, turned[k]? = some x ∧ tails[k]? = some y ∧ x.length ≤ 1000 ∧ y.length ≤ 2 := fun k hk => by
      have hk := List.mem_range.mp hk
      have h1 : k < turned.length := by rw [hT.len]; exact hk
      have h2 : k < tails.length := by rw [ht.len]; exact hk
      exact ⟨_, _, List.getElem?_eq_getElem h1, List.getElem?_eq_getElem h2, hT.row _ (List.getElem_mem h1), (ht.tl _ (List.getElem_mem h2)).2⟩
    have ecomp : AV.list (((List.range 4).filter fun _ => true).map fun k => eR (turned.getD k [] ++ tails.getD k [])) = eRows (withT turned tails) := by
      rw [filter_true]; unfold withT eRows; rw [List.map_map]; rfl
    refine seq_tup2 f4 (PS.callH f4 rfl st5 (Glob.top (st5.ok f4) at9.name) ho9 hd9 (walk_fn4 top B at9 at1 at2 at6 hcm hT ht hw) (show 6 ≤ 6 by decide)
      (PEL.cons ((PE.comp eN (List.range 4) (fun _ => true) (fun k => eR (turned.getD k [] ++ tails.getD k [])) (st5.ok f4) ⟨rfl, rfl, Or.inl rfl, rfl⟩ (PI.range (n := 4) (st5.ok f4) (Glob.blt (st5.ok f4) B.range.1 B.range.2) PE.int (by decide) (by decide)) (fun _ _ C H X' ok => PTs.nil) (fun k hk _ C H X' ok => by
        obtain ⟨x, y, hx, hy, lx, ly⟩ := hcomp k hk
        refine (PE.cat ok (PE.item (k := (k : Int)) (d := eR x) (PE.name ok rfl) (PE.name ok rfl) (by omega) (by rw [Int.toNat_natCast, List.getElem?_map, hx]; rfl)) (PE.item (k := (k : Int)) (d := eR y) (PE.name ok rfl) (PE.name ok rfl) (by omega) (by rw [Int.toNat_natCast, List.getElem?_map, hy]; rfl)) (by simp; omega)).cast ?_
        rw [getD_of hx, getD_of hy]; simp [eR])).cast ecomp) PEL.nil)) fun s6 st6 => ?_
    obtain ⟨r0, hr0⟩ : ∃ r0, rows[0]? = some r0 := ⟨rows[0]'(by rw [hr.len]; decide), List.getElem?_eq_getElem _⟩
    rw [getD_of hr0] at hb0
    refine seq_if_nil st6 ((PT.or (PT.cmpTo (CmpTo.neI 0 0) (PE.name (st6.ok f4) rfl) PE.int) (fun _ => PT.cmpTo (CmpTo.neI (e0.2.1 : Int) (r0.length : Int)) (PE.itemT (k := 1) (d := eN e0.2.1) (PE.item (k := 0) (d := eE e0) (PE.name (st6.ok f4) rfl) PE.int (by decide) (by rw [List.getElem?_map, show (0 : Int).toNat = 0 from rfl, he0]; rfl)) PE.int (by decide) rfl)
      ((PE.len (Glob.blt (st6.ok f4) B.len.1 B.len.2) (PE.item (k := 0) (d := eR r0) (PE.name (st6.ok f4) rfl) PE.int (by decide) (by rw [List.getElem?_map, show (0 : Int).toNat = 0 from rfl, hr0]; rfl))).cast (by simp)))).cast (by rw [hb0]; simp)) fun s7 st7 => ?_
    refine seq_for eN (List.range 4) (fun _ ρ Ω => (∀ p ∈ [(Str.ofString "book", eB book), (Str.ofString "turned", eRows turned), (Str.ofString "rows", eRows rows), (Str.ofString "towns", eR towns), (Str.ofString "tails", eRows tails), (Str.ofString "full", eB full), (Str.ofString "whole", eN (wholeN h number))], ρ.lookup p.1 = some p.2) ∧ Ω = []) (fun _ _ => False) (fun _ => False) f4 st7
      (PI.range (n := 4) (st7.ok f4) (Glob.blt (st7.ok f4) B.range.1 B.range.2) PE.int (by decide) (by decide)) ⟨by simp only [List.forall_mem_cons]; exact ⟨rfl, rfl, rfl, rfl, rfl, rfl, rfl, fun _ h => nomatch h⟩, rfl⟩ ?_ ?_ (fun _ _ _ h => h.elim)
    · rintro Z5 j k ρ5 Ω5 s8 hjk ⟨hJ, rfl⟩ f8 st8
      have hk4 : k < 4 := List.mem_range.mp (List.mem_of_getElem? hjk)
      obtain ⟨ek, hek, hsum⟩ := hcnt k hk4
      have st8 := st8.pick [(Str.ofString "k", eN k), (Str.ofString "book", eB book), (Str.ofString "turned", eRows turned), (Str.ofString "rows", eRows rows), (Str.ofString "towns", eR towns), (Str.ofString "tails", eRows tails), (Str.ofString "full", eB full), (Str.ofString "whole", eN (wholeN h number))] (by
        simp only [List.forall_mem_cons] at hJ ⊢
        obtain ⟨h1, h2, h3, h4, h5, h6, h7, _⟩ := hJ
        exact ⟨rfl, lk h1, lk h2, lk h3, lk h4, lk h5, lk h6, lk h7, fun _ h => nomatch h⟩)
      clear hJ
      have esum : AV.list ((book.filter fun _ => true).map fun e => AV.int ((lookI (eT e.2.2.2.2) (k : Int)).getD 0)) = AV.ints ((book.map fun e => (look e.2.2.2.2 k).getD 0).map fun (n : Nat) => (n : Int)) := by
        rw [filter_true]
        simp only [AV.ints, List.map_map]
        congr 1
        refine List.map_congr_left fun e _ => ?_
        simp only [Function.comp_apply, look_eT]
        cases look e.2.2.2.2 k <;> rfl
      refine seq_if_nil st8 ((PT.cmpTo (CmpTo.neI ((outSum ek.2.2.2.2 : Nat) : Int) ((inSum book k : Nat) : Int)) ((PE.callF (st8.ok f8) (Glob.top (st8.ok f8) at3.name) ho3 hd3 (count_calls_fn top at3 (eT ek.2.2.2.2)) (show 2 ≤ 6 by decide) (PEL.cons (PE.itemT (k := 4) (d := .dict (eT ek.2.2.2.2)) (PE.item (k := (k : Int)) (d := eE ek) (PE.name (st8.ok f8) rfl) (PE.name (st8.ok f8) rfl) (by omega) (by rw [Int.toNat_natCast, List.getElem?_map, hek]; rfl)) PE.int (by decide) rfl) PEL.nil)).cast (by rw [outSum_eT]))
        ((PE.sum (st8.ok f8) (Glob.blt (st8.ok f8) B.sum.1 B.sum.2) ((PE.comp eE book (fun _ => true) (fun e => AV.int ((lookI (eT e.2.2.2.2) (k : Int)).getD 0)) (st8.ok f8) ⟨rfl, rfl, Or.inl rfl, rfl⟩ (PI.list (st8.ok f8) (PE.name (st8.ok f8) rfl)) (fun _ _ C H X' ok => PTs.nil) (fun e _ _ C H X' ok => PE.get (PE.itemT (k := 4) (d := .dict (eT e.2.2.2.2)) (PE.name ok rfl) PE.int (by decide) rfl) (PE.name ok rfl) PE.int)).cast esum)).cast (by rw [sum_cast]; rfl))).cast (by rw [hsum]; simp)) fun s9 st9 => wpAny_execs_nil ⟨_, _, ⟨?_, rfl⟩, st9⟩
      simp only [List.forall_mem_cons]
      exact ⟨rfl, rfl, rfl, rfl, rfl, rfl, rfl, fun _ h => nomatch h⟩
    · rintro ρ5 Ω5 s8 (⟨hJ, rfl⟩ | hf) st8
      rotate_left
      · exact hf.elim
      have st8 := st8.pick _ hJ
      clear hJ
      refine seq_if_nil st8 ((PT.cmpTo (CmpTo.neBool (eqBk book full) (h number)) (PE.cmpTo (CmpTo.eqB (st8.ok f4) (show 1 ≤ 6 by decide) (by rw [hw.len, hfull])) (PE.name (st8.ok f4) rfl) (PE.name (st8.ok f4) rfl)) (PE.callF (st8.ok f4) (Glob.top (st8.ok f4) at12.name) ho12 hd12 (home_fn top B at12 hhome) (show 2 ≤ 6 by decide) (PEL.cons (PE.name (st8.ok f4) rfl) (PEL.cons (PE.name (st8.ok f4) rfl) PEL.nil)))).cast (by rw [heq]; simp)) fun s9 st9 => ?_
      refine seq_assign (d := eN (wholeN h number + if h number then 1 else 0)) f4 st9 ((PE.add (a := ((wholeN h number : Nat) : Int)) (b := ((if h number then 1 else 0 : Nat) : Int)) (PE.name (st9.ok f4) rfl) (PE.ife (b := h number) ((PT.cmpTo (CmpTo.eqB (st9.ok f4) (show 1 ≤ 6 by decide) (by rw [hw.len, hfull])) (PE.name (st9.ok f4) rfl) (PE.name (st9.ok f4) rfl)).cast heq) (fun q => PE.int.cast (by rw [q]; rfl)) (fun q => PE.int.cast (by rw [q]; rfl)))).cast (by simp [eN])) fun s10 st10 => wpAny_execs_nil ⟨_, _, ⟨?_, rfl⟩, st10⟩
      simp only [List.forall_mem_cons]
      exact ⟨rfl, rfl, rfl, rfl, by rw [wholeN_succ]; rfl, fun _ h => nomatch h⟩
  · rintro ρ5 Ω5 s8 (⟨hJ, rfl⟩ | hf) st8
    rotate_left
    · exact hf.elim
    rw [List.length_range] at hJ
    have st8 := st8.pick _ hJ
    exact seq_ret st8 (PE.name (st8.ok f) rfl) fun v s3 sm r3 => ⟨sm, r3⟩
end Mine
namespace Mine
open PySem PySem.Spec PySem.Calls PyProof.Rows PySem.W PySem.W.X

def cst (k : Nat) : Int := ([0, 0, 2, 1, 2, 0] : List Int).getD k 0
def pickSum (ns : List Int) (k : Nat) : Int := (pickNums ns (some (k : Int)) none (some 6)).sum
def stepZ (ns : List Int) (k : Nat) : Nat := (1 + (cst k + pickSum ns k).fmod 4).toNat
def stepsOf (ns : List Int) : List Nat := (List.range 6).map (stepZ ns)
theorem stepZ_is (ns : List Int) (k : Nat) : ((stepZ ns k : Nat) : Int) = 1 + (cst k + pickSum ns k).fmod 4 ∧ 1 ≤ stepZ ns k ∧ stepZ ns k ≤ 4 := by
  unfold stepZ
  have h1 := Int.fmod_nonneg_of_pos (cst k + pickSum ns k) (b := 4) (by decide)
  have h2 := Int.fmod_lt_of_pos (cst k + pickSum ns k) (b := 4) (by decide)
  omega
theorem cst_get {k : Nat} (h : k < 6) : (([0, 0, 2, 1, 2, 0] : List Int).map AV.int)[k]? = some (.int (cst k)) := by
  match k, h with
  | 0, _ | 1, _ | 2, _ | 3, _ | 4, _ | 5, _ => rfl
def allSteps (steps : List Nat) : List Nat := steps ++ [4 - steps.sum % 4]
def townsOf (rows : List (List Nat)) : List Nat := [1, 2, 3].filter fun k => !(rows.getD k []).isEmpty
def tailTab : List (List Nat) := [[], [127, 1], [127], [127, 0]]
def tailOf (total : Int) (k : Nat) : List Nat := tailTab.getD ((total + k).fmod 4).toNat []
def tailsOf (total : Int) : List (List Nat) := (List.range 4).map (tailOf total)
theorem tail_ix (total : Int) (k : Nat) : ∃ i, (total + k).fmod 4 = ((i : Nat) : Int) ∧ i < 4 := by
  have h1 := Int.fmod_nonneg_of_pos (total + k) (b := 4) (by decide)
  have h2 := Int.fmod_lt_of_pos (total + k) (b := 4) (by decide)
  exact ⟨((total + k).fmod 4).toNat, by omega, by omega⟩
theorem tail_ok (total : Int) (k : Nat) : TailOk (tailOf total k) ∧ (tailOf total k).length ≤ 2 := by
  obtain ⟨i, hi, hlt⟩ := tail_ix total k
  unfold tailOf
  rw [hi, Int.toNat_natCast]
  match i, hlt with
  | 0, _ => exact ⟨.nil, by decide⟩
  | 1, _ => exact ⟨.stop _, by decide⟩
  | 2, _ => exact ⟨.stop _, by decide⟩
  | 3, _ => exact ⟨.stop _, by decide⟩
theorem tailTab_get {i : Nat} (h : i < 4) : Option.map eR tailTab[i]? = some (eR (tailTab.getD i [])) := by
  match i, h with
  | 0, _ | 1, _ | 2, _ | 3, _ => rfl
theorem tails4 (total : Int) : Tails4 (tailsOf total) := ⟨by simp [tailsOf], fun t ht => by
  obtain ⟨k, _, rfl⟩ := List.mem_map.mp ht
  exact tail_ok total k⟩
def sqRow (book : List Ent) (towns : List Nat) (k : Nat) : List Int := towns.map fun j => if k = j then (((book.getD k ent0).1 : Nat) : Int) else -(((look (book.getD j ent0).2.2.2.2 k).getD 0 : Nat) : Int)
def sqOf (book : List Ent) (towns : List Nat) : List (List Int) := towns.map (sqRow book towns)

structure Plain (steps : List Nat) : Prop where
  rows4 : Rows4 (rowsOf (allSteps steps))
  towns : townsOk (rowsOf (allSteps steps)) (townsOf (rowsOf (allSteps steps)))
  ways : ∀ i, waysP (rowsOf (allSteps steps)) ((townsOf (rowsOf (allSteps steps))).take i) ≤ 100000
  walk : ∃ book, Walked (rowsOf (allSteps steps)) book ∧ eqBk book (fullOf (rowsOf (allSteps steps))) = true ∧ SqOk (townsOf (rowsOf (allSteps steps))).length (sqOf book (townsOf (rowsOf (allSteps steps)))) ∧
    ∃ h, (∀ number, number < waysP (rowsOf (allSteps steps)) (townsOf (rowsOf (allSteps steps))) → Good (rowsOf (allSteps steps)) (townsOf (rowsOf (allSteps steps))) (fullOf (rowsOf (allSteps steps))) number (h number)) ∧
      ((wholeN h (waysP (rowsOf (allSteps steps)) (townsOf (rowsOf (allSteps steps)))) : Nat) : Int) = detP (townsOf (rowsOf (allSteps steps))).length (sqOf book (townsOf (rowsOf (allSteps steps))))

section
variable {F : Fx} {Ω : List OwnD} {s₀ s : Shared} {ρ : List (Str × AV)} {E : Value → Shared → Prop} {Q : Flow → Shared → Prop} {rest : List Stmt} {pos cpos : Pos}
theorem seq_ret_eq {l r : Expr} {a b : Int} (f : F.Ok) (hl : PS F Ω s₀ ρ s l (.int a)) (hr : ∀ s', St F Ω s₀ ρ s' → PE (F.cx s'.heap ρ) r (.int b)) (hm : behindInMarks .Eq r = false) (K : ∀ v s', Sm F.Y F.γ s₀ s' → Rep F.T.p s'.heap F.X (.bool (a == b)) v → Q (.ret v) s') :
    wpAny F.M F.A (execs (.Return (some (.Compare l [.Eq] [r] cpos)) pos :: rest) F.env) Q E s :=
  wpAny_execs_cons (wpAny_Return_some (wpAny_Compare1 (hl _ _ fun v1 s1 st1 ⟨t1, e1⟩ => hr s1 st1 s1 _ _ (Ext.refl _) fun v2 s2 k2 ⟨t2, e2⟩ => by
    subst e1; subst e2
    exact eq_int (K _ s2 (st1.sm.trans k2.sm) rfl)) hm))
end

set_option maxHeartbeats 4000000 in
theorem law_fn {T : Tp} {a a1 a2 a3 a6 a8 a9 a10 a11 a12 a13 a14 : Addr} {pm cd doc pm1 cd1 doc1 pm2 cd2 doc2 pm3 cd3 doc3 pm6 cd6 doc6 pm8 cd8 doc8 pm9 cd9 doc9 pm10 cd10 doc10 pm11 cd11 doc11 pm12 cd12 doc12 pm13 cd13 doc13 pm14 cd14 doc14 : Value} (top : T.Ok) (B : Blts T) (at15 : FnAt T 15 a pm cd doc)
    (at1 : FnAt T 1 a1 pm1 cd1 doc1) (at2 : FnAt T 2 a2 pm2 cd2 doc2) (at3 : FnAt T 3 a3 pm3 cd3 doc3) (at6 : FnAt T 6 a6 pm6 cd6 doc6) (at8 : FnAt T 8 a8 pm8 cd8 doc8) (at9 : FnAt T 9 a9 pm9 cd9 doc9) (at10 : FnAt T 10 a10 pm10 cd10 doc10) (at11 : FnAt T 11 a11 pm11 cd11 doc11) (at12 : FnAt T 12 a12 pm12 cd12 doc12)
    (at13 : FnAt T 13 a13 pm13 cd13 doc13) (at14 : FnAt T 14 a14 pm14 cd14 doc14)
    (hcm : ∃ t, T.mg (Str.ofString "CHAR_MAX") = some (.int 127 t)) {ns : List Int} (plain : Plain (stepsOf ns)) : FnH T 9 a [AV.ints ns] (.bool true) := by
  intro A s Q E X vs room old xs r K
  obtain ⟨o, ho, hd⟩ := at15.obj
  obtain ⟨o8, ho8, hd8⟩ := at8.obj
  obtain ⟨o9, ho9, hd9⟩ := at9.obj
  obtain ⟨o10, ho10, hd10⟩ := at10.obj
  obtain ⟨o13, ho13, hd13⟩ := at13.obj
  obtain ⟨o14, ho14, hd14⟩ := at14.obj
  obtain ⟨v1, vs1, rfl, r1, rfl⟩ := id r
  have hbig : big = 1000000 := rfl
  refine enter (γ := some 0) (names := [Str.ofString "script"]) (k := 8) top room ho hd at15.code r rfl rfl (by decide) rfl old xs (fun L s' f st => ?_) (fun v s' sm rr => K v s' sm rr)
  refine seq_assign (d := .int ns.sum) f st (PE.sum (st.ok f) (Glob.blt (st.ok f) B.sum.1 B.sum.2) (PE.name (st.ok f) rfl)) fun s1 st1 => ?_
  refine seq_comp eN (List.range 6) (fun _ => true) (fun k => eN (stepZ ns k)) f st1 ⟨rfl, rfl, Or.inl rfl, rfl⟩ (PI.range (n := 6) (st1.ok f) (Glob.blt (st1.ok f) B.range.1 B.range.2) PE.int (by decide) (by decide)) (fun _ _ C H X' ok => PTs.nil) (fun k hk _ C H X' ok => ?_) fun s2 st2 => ?_
  · have hk6 := List.mem_range.mp hk
    have hc : (([0, 0, 2, 1, 2, 0] : List Int).map AV.int)[((k : Nat) : Int).toNat]? = some (.int (cst k)) := by
      rw [Int.toNat_natCast]; exact cst_get hk6
    refine PE.cast (d := .int (1 + (cst k + (pickNums ns (some (k : Int)) none (some 6)).sum).fmod 4)) ?_ ?_
    · refine PE.add ?_ ?_
      · exact PE.int
      · refine PE.mod (b := 4) ?_ ?_ (by decide)
        · refine PE.add ?_ ?_
          · exact PE.item (k := (k : Int)) (xs := ([0, 0, 2, 1, 2, 0] : List Int).map AV.int) (PE.listD ok (PEL.cons PE.int (PEL.cons PE.int (PEL.cons PE.int (PEL.cons PE.int (PEL.cons PE.int (PEL.cons PE.int PEL.nil)))))) (by simp [big])) (PE.name ok rfl) (by omega) hc
          · exact PE.sum ok (Glob.blt ok B.sum.1 B.sum.2) (PE.sliceStep (k := (k : Int)) (j := 6) ok (PE.name ok rfl) (PE.name ok rfl) PE.int (by decide))
        · exact PE.int
    · exact congrArg AV.int (stepZ_is ns k).1.symm
  have e2 : AV.list (((List.range 6).filter fun _ => true).map fun k => eN (stepZ ns k)) = eR (stepsOf ns) := by rw [filter_true]; simp [eR, stepsOf, Function.comp_def]
  rw [e2] at st2
  have hst : ∀ z ∈ stepsOf ns, 1 ≤ z ∧ z ≤ 4 := fun z hz => by
    obtain ⟨k, _, rfl⟩ := List.mem_map.mp hz
    exact (stepZ_is ns k).2
  have hsl : (stepsOf ns).length = 6 := by simp [stepsOf]
  generalize stepsOf ns = steps at plain st2 hst hsl
  obtain ⟨hr4, hto, hways, book, hwd, heq, hsq, h, hgood, hdet⟩ := plain
  have hasl : (allSteps steps).length ≤ 1000 := by unfold allSteps; rw [List.length_append, hsl]; simp
  refine seq_assign (d := eRows (rowsOf (allSteps steps))) f st2 (PE.callF (st2.ok f) (Glob.top (st2.ok f) at8.name) ho8 hd8 (rows_fn top B at8 hasl) (show 2 ≤ 8 by decide) (PEL.cons ?_ PEL.nil)) fun s3 st3 => ?_
  · refine PE.cast (d := .list (steps.map eN ++ [.int (4 - (((steps.sum : Nat) : Int)).fmod 4)])) ?_ ?_
    · refine PE.cat (st2.ok f) (PE.name (st2.ok f) rfl) ?_ (by rw [List.length_map, hsl]; show 6 + 1 ≤ big; decide)
      refine PE.listD (st2.ok f) (PEL.cons ?_ PEL.nil) (show 1 ≤ big by decide)
      refine PE.sub ?_ ?_
      · exact PE.int
      · refine PE.mod (b := 4) ?_ ?_ (by decide)
        · exact (PE.sum (st2.ok f) (Glob.blt (st2.ok f) B.sum.1 B.sum.2) ((PE.name (st2.ok f) rfl).cast (eN_ints _))).cast (by rw [sum_cast])
        · exact PE.int
    · have := fmodN steps.sum 4
      have e4 : (4 : Int) = ((4 : Nat) : Int) := rfl
      unfold allSteps eR
      rw [List.map_append]
      congr 2
      show [AV.int _] = [AV.int _]
      rw [e4, this]
      have hlt : steps.sum % 4 < 4 := Nat.mod_lt _ (by decide)
      congr 2
      omega
  generalize rowsOf (allSteps steps) = rows at hr4 hto hways hwd heq hsq hgood hdet st3
  have hrowk : ∀ k, k < 4 → ∃ x, rows[k]? = some x ∧ x.length ≤ 1000 := fun k hk => by
    have h1 : k < rows.length := by rw [hr4.len]; exact hk
    exact ⟨_, List.getElem?_eq_getElem h1, hr4.row _ (List.getElem_mem h1)⟩
  refine seq_assign (d := eR (townsOf rows)) f st3 (PE.cast (d := .list (([1, 2, 3].filter fun k => !(rows.getD k []).isEmpty).map eN)) (PE.comp eN [1, 2, 3] (fun k => !(rows.getD k []).isEmpty) eN (st3.ok f) ⟨rfl, rfl, Or.inl rfl, rfl⟩ ?_ (fun k hk C H X' ok => PTs.one ?_) (fun k _ _ C H X' ok => PE.name ok rfl)) rfl) fun s4 st4 => ?_
  · exact PI.list (st3.ok f) (PE.listD (st3.ok f) (PEL.cons PE.int (PEL.cons PE.int (PEL.cons PE.int PEL.nil))) (by simp [big]))
  · have hk4 : k < 4 := by simp at hk; omega
    obtain ⟨x, hx, _⟩ := hrowk k hk4
    exact (PT.cmpTo (CmpTo.neNil ok) (PE.item (k := (k : Int)) (d := eR x) (PE.name ok rfl) (PE.name ok rfl) (by omega) (by rw [Int.toNat_natCast, List.getElem?_map, hx]; rfl)) (PE.listD ok PEL.nil (show 0 ≤ big by decide))).cast (by rw [getD_of hx, List.isEmpty_map])
  generalize hts : townsOf rows = towns at hto hways hsq hgood hdet st4
  refine seq_assign (d := eRows (tailsOf ns.sum)) f st4 (PE.cast (d := .list (((List.range 4).filter fun _ => true).map fun k => eR (tailOf ns.sum k))) (PE.comp eN (List.range 4) (fun _ => true) (fun k => eR (tailOf ns.sum k)) (st4.ok f) ⟨rfl, rfl, Or.inl rfl, rfl⟩ (PI.range (n := 4) (st4.ok f) (Glob.blt (st4.ok f) B.range.1 B.range.2) PE.int (by decide) (by decide)) (fun _ _ C H X' ok => PTs.nil) (fun k hk _ C H X' ok => ?_)) ?_) fun s5 st5 => ?_
  · obtain ⟨i, hi, hlt⟩ := tail_ix ns.sum k
    refine PE.item (k := ((i : Nat) : Int)) (xs := tailTab.map eR) ?_ ?_ (by omega) ?_
    · refine PE.listD ok (PEL.cons (PE.listD ok PEL.nil (show 0 ≤ big by decide)) (PEL.cons (PE.listD ok (PEL.cons PE.int (PEL.cons PE.int PEL.nil)) (show 2 ≤ big by decide)) (PEL.cons (PE.listD ok (PEL.cons PE.int PEL.nil) (show 1 ≤ big by decide)) (PEL.cons (PE.listD ok (PEL.cons PE.int (PEL.cons PE.int PEL.nil)) (show 2 ≤ big by decide)) PEL.nil)))) (show 4 ≤ big by decide)
    · refine PE.cast (d := .int ((ns.sum + (k : Int)).fmod 4)) (PE.mod (b := 4) ?_ ?_ (by decide)) (by rw [hi])
      · exact PE.add (PE.name ok rfl) (PE.name ok rfl)
      · exact PE.int
    · rw [Int.toNat_natCast, List.getElem?_map]
      unfold tailOf
      rw [hi, Int.toNat_natCast]
      exact tailTab_get hlt
  · rw [filter_true]; unfold tailsOf eRows; rw [List.map_map]; rfl
  refine seq_assign (d := eB (fullOf rows)) f st5 (PE.callF (st5.ok f) (Glob.top (st5.ok f) at10.name) ho10 hd10 (full_fn top B at10 hr4.ok) (show 2 ≤ 8 by decide) (PEL.cons (PE.name (st5.ok f) rfl) PEL.nil)) fun s6 st6 => ?_
  refine seq_tup2 f (PS.callH f rfl st6 (Glob.top (st6.ok f) at9.name) ho9 hd9 (walk_fn4 top B at9 at1 at2 at6 hcm hr4 (tails4 ns.sum) hwd) (show 6 ≤ 8 by decide) (PEL.cons ?_ PEL.nil)) fun s7 st7 => ?_
  · refine PE.cast (d := .list (((List.range 4).filter fun _ => true).map fun k => eR (rows.getD k [] ++ (tailsOf ns.sum).getD k []))) (PE.comp eN (List.range 4) (fun _ => true) (fun k => eR (rows.getD k [] ++ (tailsOf ns.sum).getD k [])) (st6.ok f) ⟨rfl, rfl, Or.inl rfl, rfl⟩ (PI.range (n := 4) (st6.ok f) (Glob.blt (st6.ok f) B.range.1 B.range.2) PE.int (by decide) (by decide)) (fun _ _ C H X' ok => PTs.nil) (fun k hk _ C H X' ok => ?_)) ?_
    · obtain ⟨x, hx, lx⟩ := hrowk k (List.mem_range.mp hk)
      have ht4 := tails4 ns.sum
      have h2 : k < (tailsOf ns.sum).length := by rw [ht4.len]; exact List.mem_range.mp hk
      have hy := List.getElem?_eq_getElem h2
      have ly := (ht4.tl _ (List.getElem_mem h2)).2
      generalize (tailsOf ns.sum)[k] = y at hy ly
      refine PE.cast (d := .list (x.map eN ++ y.map eN)) (PE.cat ok ?_ ?_ (by rw [List.length_map, List.length_map]; have : big = 1000000 := rfl; omega)) (by rw [getD_of hx, getD_of hy]; simp [eR])
      · exact PE.item (k := (k : Int)) (d := eR x) (PE.name ok rfl) (PE.name ok rfl) (by omega) (by rw [Int.toNat_natCast, List.getElem?_map, hx]; rfl)
      · exact PE.item (k := (k : Int)) (d := eR y) (PE.name ok rfl) (PE.name ok rfl) (by omega) (by rw [Int.toNat_natCast, List.getElem?_map, hy]; rfl)
    · rw [filter_true]; unfold withT eRows; rw [List.map_map]; rfl
  have hfl : (fullOf rows).length = 4 := by simp [fullOf]
  refine seq_if_nil st7 ((PT.or (PT.cmpTo (CmpTo.neI 0 0) (PE.name (st7.ok f) rfl) PE.int) (fun _ => PT.cmpTo (CmpTo.neB (st7.ok f) (show 1 ≤ 8 by decide) (by rw [hwd.len, hfl])) (PE.name (st7.ok f) rfl) (PE.name (st7.ok f) rfl))).cast (by rw [heq]; rfl)) fun s8 st8 => ?_
  refine seq_comp eN towns (fun _ => true) (fun k => AV.ints (sqRow book towns k)) f st8 ⟨rfl, rfl, Or.inr ⟨rfl, rfl⟩, rfl⟩ (PI.list (st8.ok f) (PE.name (st8.ok f) rfl)) (fun _ _ C H X' ok => PTs.nil) (fun k hk _ C H X' ok => ?_) fun s9 st9 => ?_
  · have htw : ∀ j ∈ towns, ∃ e, book[j]? = some e := fun j hj => by
      have h1 : j < book.length := by
        rw [hwd.len]
        rw [← hts] at hj
        have := (List.mem_filter.mp hj).1
        simp at this; omega
      exact ⟨_, List.getElem?_eq_getElem h1⟩
    obtain ⟨ek, hek⟩ := htw k hk
    refine PE.cast (d := .list ((towns.filter fun _ => true).map fun j => AV.int (if k = j then (((book.getD k ent0).1 : Nat) : Int) else -(((look (book.getD j ent0).2.2.2.2 k).getD 0 : Nat) : Int)))) (PE.comp eN towns (fun _ => true) _ ok ⟨rfl, rfl, Or.inl rfl, rfl⟩ (PI.list ok (PE.name ok rfl)) (fun _ _ C H X' ok => PTs.nil) (fun j hj _ C2 H2 X2 ok2 => ?_)) ?_
    · obtain ⟨ej, hej⟩ := htw j hj
      refine PE.ife (b := (k : Int) == (j : Int)) (PT.cmpTo (CmpTo.eqI _ _) (PE.name ok2 rfl) (PE.name ok2 rfl)) (fun q => ?_) (fun q => ?_)
      · refine PE.cast (d := eN ek.1) (PE.itemT (k := 0) (PE.item (k := (k : Int)) (d := eE ek) (PE.name ok2 rfl) (PE.name ok2 rfl) (by omega) (by rw [Int.toNat_natCast, List.getElem?_map, hek]; rfl)) PE.int (by decide) rfl) ?_
        rw [natBeq] at q
        rw [if_pos (by simpa using q), getD_of hek]
      · refine PE.cast (d := .int (-((lookI (eT ej.2.2.2.2) (k : Int)).getD 0))) (PE.neg (PE.get (PE.itemT (k := 4) (d := .dict (eT ej.2.2.2.2)) (PE.item (k := (j : Int)) (d := eE ej) (PE.name ok2 rfl) (PE.name ok2 rfl) (by omega) (by rw [Int.toNat_natCast, List.getElem?_map, hej]; rfl)) PE.int (by decide) rfl) (PE.name ok2 rfl) PE.int)) ?_
        rw [natBeq] at q
        rw [if_neg (by simpa using q), getD_of hej, look_eT]
        cases look ej.2.2.2.2 k <;> rfl
    · rw [filter_true]; unfold sqRow AV.ints; rw [List.map_map]; rfl
  have e9 : AV.list ((towns.filter fun _ => true).map fun k => AV.ints (sqRow book towns k)) = eM (sqOf book towns) := by rw [filter_true]; unfold sqOf eM; rw [List.map_map]; rfl
  rw [e9] at st9
  refine seq_ret_eq f (PS.callH f rfl st9 (Glob.top (st9.ok f) at13.name) ho13 hd13 (whole_fn top B at13 at1 at2 at3 at6 at9 at11 at12 hcm hr4 hto (tails4 ns.sum) hfl hways hgood) (show 7 ≤ 8 by decide) (PEL.cons (PE.name (st9.ok f) rfl) (PEL.cons (PE.name (st9.ok f) rfl) (PEL.cons (PE.name (st9.ok f) rfl) (PEL.cons (PE.name (st9.ok f) rfl) PEL.nil)))))
    (fun s10 st10 => PE.callF (st10.ok f) (Glob.top (st10.ok f) at14.name) ho14 hd14 (det_fn top B at14 towns.length hsq) (show towns.length + 2 ≤ 8 from ?_) (PEL.cons (PE.name (st10.ok f) rfl) PEL.nil)) rfl fun v s11 sm11 r11 => ⟨sm11, ?_⟩
  · have : towns.length ≤ 3 := by rw [← hts]; exact List.length_filter_le _ _
    omega
  · rw [hdet, beq_self_eq_true] at r11; exact r11
end Mine
namespace Mine
open PySem PySem.Spec PySem.Calls PyProof.Rows PySem.W PySem.W.X

theorem room_caller : Room callerA 9 := ⟨rfl, by decide +kernel, by decide +kernel⟩
theorem well_list {P : Params} {h : Heap} {a : Addr} {vs : List Value} {ns : List Int} (wl : Well P h (.ref a) (ofPy (PyData.list (List.map PyData.int ns)))) (hl : h.IsList a vs.toArray) : h.PlainList a vs.toArray := by
  cases wl with
  | list ho _ =>
    obtain ⟨o, h1, h2, n, h3⟩ := hl
    rw [ho] at h1; cases h1
    cases h3
    exact ⟨_, ho⟩
theorem join {T : Tp} {fa la : Addr} {vs : List Value} {ns : List Int} {s₁ : Shared} {G : Shared → Prop} {E : Value → Shared → Prop} (hH : T.H₀ = s₁.heap) (hF : FnH T 9 fa [AV.ints ns] (.bool true)) (hg : s₁.gens = #[]) (hl : s₁.heap.PlainList la vs.toArray) (hi : IntsAre vs ns) (hlen : ns.length ≤ 63)
    (fin : ∀ s', OldK s₁.heap s'.heap → s'.os = s₁.os → AllBare s'.gens → G s') {Q : Value → Shared → Prop} (hQ : ∀ s', G s' → Q (.bool true) s') : wpAny (model T.p.1 T.p.2) callerA (call (.ref fa) [.ref la]) Q E s₁ := by
  refine hF callerA s₁ Q E [] [.ref la] room_caller (hH ▸ Ext.refl _) (fun x hx => nomatch hx) ⟨_, _, rfl, ⟨la, vs, rfl, by simp, hl, ?_, RepL.of_ints hi⟩, rfl⟩ fun v s' sm r => ?_
  · rw [hi.length]; unfold big; omega
  · have r : v = .bool true := r
    subst r
    refine hQ s' (fin s' (.of_keep fun b o e => sm.ext b o (fun m => nomatch m) e) ?_ (sm.gr.2.1 (.of_eq hg)))
    obtain ⟨h', g', t', rfl⟩ := sm.is
    rfl
end Mine
namespace Mine

theorem look_incT (t : List (Nat × Nat)) (k v j : Nat) : look (incT t k v) j = if j = k then some ((look t k).getD 0 + v) else look t j := by
  induction t with
  | nil =>
    unfold incT look
    by_cases h : k = j
    · simp [h, look]
    · have : (k == j) = false := by simpa using h
      simp [Ne.symm h, look, this]
  | cons e r ih =>
    obtain ⟨a, b⟩ := e
    unfold incT
    by_cases ha : a = k
    · subst ha
      simp only [beq_self_eq_true]
      by_cases hj : a = j
      · subst hj; simp [look]
      · have : (a == j) = false := by simpa using hj
        simp [look, this, Ne.symm hj]
    · have hak : (a == k) = false := by simpa using ha
      simp only [hak]
      by_cases hj : a = j
      · subst hj; simp [look, hak, ha]
      · have : (a == j) = false := by simpa using hj
        simp only [look, this, hak]
        exact ih
theorem look_putT (t : List (Nat × Nat)) (k v j : Nat) : look (putT t k v) j = if j = k then some v else look t j := by
  induction t with
  | nil =>
    unfold putT look
    by_cases h : k = j
    · simp [h]
    · have : (k == j) = false := by simpa using h
      simp [Ne.symm h, look, this]
  | cons e r ih =>
    obtain ⟨a, b⟩ := e
    unfold putT
    by_cases ha : a = k
    · subst ha
      simp only [beq_self_eq_true]
      by_cases hj : a = j
      · subst hj; simp [look]
      · have : (a == j) = false := by simpa using hj
        simp [look, this, Ne.symm hj]
    · have hak : (a == k) = false := by simpa using ha
      simp only [hak]
      by_cases hj : a = j
      · subst hj; simp [look, ha]
      · have : (a == j) = false := by simpa using hj
        simp only [look, this]
        exact ih
theorem keys_incT (t : List (Nat × Nat)) (k v : Nat) : ∀ x, x ∈ (incT t k v).map (·.1) ↔ x = k ∨ x ∈ t.map (·.1) := by
  intro x
  induction t with
  | nil => simp [incT]
  | cons e r ih =>
    obtain ⟨a, b⟩ := e
    unfold incT
    by_cases ha : a = k
    · subst ha; simp
    · have hak : (a == k) = false := by simpa using ha
      simp only [hak, List.map_cons, List.mem_cons, ih]
      constructor
      · rintro (h | h | h) <;> simp [h]
      · rintro (h | h | h) <;> simp [h]
theorem keys_putT (t : List (Nat × Nat)) (k v : Nat) : ∀ x, x ∈ (putT t k v).map (·.1) ↔ x = k ∨ x ∈ t.map (·.1) := by
  intro x
  induction t with
  | nil => simp [putT]
  | cons e r ih =>
    obtain ⟨a, b⟩ := e
    unfold putT
    by_cases ha : a = k
    · subst ha; simp
    · have hak : (a == k) = false := by simpa using ha
      simp only [hak, List.map_cons, List.mem_cons, ih]
      constructor
      · rintro (h | h | h) <;> simp [h]
      · rintro (h | h | h) <;> simp [h]
theorem nodup_incT {t : List (Nat × Nat)} (h : (t.map (·.1)).Nodup) (k v : Nat) : ((incT t k v).map (·.1)).Nodup := by
  induction t with
  | nil => simp [incT]
  | cons e r ih =>
    obtain ⟨a, b⟩ := e
    rw [List.map_cons, List.nodup_cons] at h
    unfold incT
    by_cases ha : a = k
    · subst ha; simp only [beq_self_eq_true, List.map_cons, List.nodup_cons]; exact h
    · have hak : (a == k) = false := by simpa using ha
      simp only [hak, List.map_cons, List.nodup_cons]
      exact ⟨fun hm => ((keys_incT r k v a).mp hm).elim ha h.1, ih h.2⟩
theorem nodup_putT {t : List (Nat × Nat)} (h : (t.map (·.1)).Nodup) (k v : Nat) : ((putT t k v).map (·.1)).Nodup := by
  induction t with
  | nil => simp [putT]
  | cons e r ih =>
    obtain ⟨a, b⟩ := e
    rw [List.map_cons, List.nodup_cons] at h
    unfold putT
    by_cases ha : a = k
    · subst ha; simp only [beq_self_eq_true, List.map_cons, List.nodup_cons]; exact h
    · have hak : (a == k) = false := by simpa using ha
      simp only [hak, List.map_cons, List.nodup_cons]
      exact ⟨fun hm => ((keys_putT r k v a).mp hm).elim ha h.1, ih h.2⟩
theorem mem_of_look {t : List (Nat × Nat)} {k v : Nat} (h : look t k = some v) : (k, v) ∈ t := by
  induction t with
  | nil => cases h
  | cons e r ih =>
    obtain ⟨a, b⟩ := e
    unfold look at h
    by_cases ha : a = k
    · subst ha; simp at h; simp [h]
    · have hak : (a == k) = false := by simpa using ha
      simp only [hak] at h
      exact List.mem_cons_of_mem _ (ih h)
theorem nodup_of_keys {t : List (Nat × Nat)} (h : (t.map (·.1)).Nodup) : t.Nodup := by
  induction t with
  | nil => exact List.nodup_nil
  | cons e r ih =>
    rw [List.map_cons, List.nodup_cons] at h
    exact List.nodup_cons.mpr ⟨fun m => h.1 (List.mem_map.mpr ⟨e, m, rfl⟩), ih h.2⟩
theorem eqT_of_look {s t : List (Nat × Nat)} (hs : (s.map (·.1)).Nodup) (ht : (t.map (·.1)).Nodup) (h : ∀ k, look s k = look t k) : eqT s t = true := by
  have h1 : ∀ e ∈ s, e ∈ t := fun e he => mem_of_look ((h e.1).symm.trans (look_mem hs e he))
  have h2 : ∀ e ∈ t, e ∈ s := fun e he => mem_of_look ((h e.1).trans (look_mem ht e he))
  have hp := (List.perm_ext_iff_of_nodup (nodup_of_keys hs) (nodup_of_keys ht)).mpr fun e => ⟨h1 e, h2 e⟩
  unfold eqT
  rw [hp.length_eq, allT_sub ht h1]
  simp

/-- the table of a list of steps -/
def tabM (m : List (Nat × Nat)) (t : List (Nat × Nat)) : List (Nat × Nat) := m.foldl (fun t s => incT t s.1 1) t
theorem tabM_nodup : ∀ (m t : List (Nat × Nat)), (t.map (·.1)).Nodup → ((tabM m t).map (·.1)).Nodup
  | [], t, h => h
  | s :: m, t, h => tabM_nodup m _ (nodup_incT h s.1 1)
theorem tabM_look : ∀ (m t : List (Nat × Nat)) (k : Nat), look (tabM m t) k = if m.countP (fun s => s.1 == k) = 0 then look t k else some ((look t k).getD 0 + m.countP fun s => s.1 == k)
  | [], t, k => by simp [tabM]
  | s :: m, t, k => by
    show look (tabM m (incT t s.1 1)) k = _
    rw [tabM_look m, look_incT, List.countP_cons]
    by_cases hk : k = s.1
    · subst hk
      rw [if_pos rfl, if_pos (beq_self_eq_true s.1)]
      generalize List.countP (fun s_1 : Nat × Nat => s_1.1 == s.1) m = c
      rw [if_neg (Nat.succ_ne_zero c)]
      split
      · rename_i h0; simp [h0]
      · simp only [Option.getD_some]; congr 1; omega
    · have : ¬ (s.1 == k) = true := by simpa using Ne.symm hk
      rw [if_neg hk, if_neg this, Nat.add_zero]
theorem outSum_incT (t : List (Nat × Nat)) (k v : Nat) : outSum (incT t k v) = outSum t + v := by
  unfold outSum
  induction t with
  | nil => simp [incT]
  | cons e r ih =>
    obtain ⟨a, b⟩ := e
    unfold incT
    cases a == k
    · simp only [List.map_cons, List.sum_cons, ih]; omega
    · simp only [List.map_cons, List.sum_cons]; omega
theorem tabM_out : ∀ (m t : List (Nat × Nat)), outSum (tabM m t) = outSum t + m.length
  | [], t => rfl
  | s :: m, t => by
    show outSum (tabM m (incT t s.1 1)) = _
    rw [tabM_out m, outSum_incT, List.length_cons]; omega
theorem putAll_look (f : Nat → Nat) : ∀ (cs : List Nat) (t : List (Nat × Nat)) (k : Nat), look (cs.foldl (fun acc a => putT acc a (f a)) t) k = if k ∈ cs then some (f k) else look t k
  | [], t, k => by simp
  | c :: cs, t, k => by
    rw [List.foldl_cons, putAll_look f cs, look_putT]
    by_cases h1 : k ∈ cs
    · simp [h1]
    · by_cases h2 : k = c
      · subst h2; simp [h1]
      · simp [h1, h2]
theorem putAll_nodup (f : Nat → Nat) : ∀ (cs : List Nat) (t : List (Nat × Nat)), (t.map (·.1)).Nodup → ((cs.foldl (fun acc a => putT acc a (f a)) t).map (·.1)).Nodup
  | [], t, h => h
  | c :: cs, t, h => putAll_nodup f cs _ (nodup_putT h c (f c))

def pgoal (s : Nat × Nat) : Nat := (s.1 + s.2) % 4
theorem pgoal_lt (s : Nat × Nat) : pgoal s < 4 := Nat.mod_lt _ (by decide)
/-- the entry of a list of steps -/
def sumE (m : List (Nat × Nat)) (e : Ent) : Ent := m.foldl (fun e s => addE e (entryP s.1 s.2)) e
theorem sumE_is : ∀ (m : List (Nat × Nat)) (e : Ent), sumE m e = (e.1 + m.countP (fun s => pgoal s != s.1), e.2.1 + m.length, e.2.2.1 + (m.map (·.2)).sum, e.2.2.2.1 + (m.map fun s => s.2 ^ 2).sum, tabM m e.2.2.2.2)
  | [], e => by simp [sumE, tabM]
  | s :: m, e => by
    show sumE m (addE e (entryP s.1 s.2)) = _
    rw [sumE_is m]
    unfold addE entryP
    simp only [List.countP_cons, List.length_cons, List.map_cons, List.sum_cons]
    have hb : (pgoal s != s.1) = true ↔ ¬ (s.1 + s.2) % 4 = s.1 := by unfold pgoal; simp
    refine Prod.ext ?_ (Prod.ext ?_ (Prod.ext ?_ (Prod.ext ?_ rfl)))
    · show (if (s.1 + s.2) % 4 = s.1 then 0 else 1) + e.1 + _ = _
      by_cases h : (s.1 + s.2) % 4 = s.1
      · have : (pgoal s != s.1) = false := by rw [Bool.eq_false_iff]; exact fun q => (hb.mp q) h
        rw [if_pos h, this]; simp
      · rw [if_neg h, hb.mpr h]; simp; omega
    · show 1 + e.2.1 + m.length = e.2.1 + (m.length + 1); omega
    · show s.2 + e.2.2.1 + (m.map (·.2)).sum = e.2.2.1 + (s.2 + (m.map (·.2)).sum); omega
    · show s.2 ^ 2 + e.2.2.2.1 + (m.map fun s => s.2 ^ 2).sum = e.2.2.2.1 + (s.2 ^ 2 + (m.map fun s => s.2 ^ 2).sum); omega

/-- all steps of the rows -/
def stepsAll (rows : List (List Nat)) : List (Nat × Nat) := (List.range 4).flatMap fun p => (rows.getD p []).map fun z => (p, z)
theorem callsOf_is (rows : List (List Nat)) : callsOf rows = (stepsAll rows).map fun s => (pgoal s, s.1, s.2) := by
  unfold callsOf stepsAll
  rw [List.map_flatMap]
  congr 1; funext p
  rw [List.map_map]; rfl
theorem fullE_is (rows : List (List Nat)) (g : Nat) : fullE (callsOf rows) g = (((stepsAll rows).filter fun s => pgoal s == g).countP (fun s => s.1 != g), ((stepsAll rows).filter fun s => pgoal s == g).length, (((stepsAll rows).filter fun s => pgoal s == g).map (·.2)).sum, (((stepsAll rows).filter fun s => pgoal s == g).map fun s => s.2 ^ 2).sum,
    (((stepsAll rows).filter fun s => pgoal s == g).map (·.1)).foldl (fun acc a => putT acc a ((((stepsAll rows).filter fun s => pgoal s == g).map (·.1)).count a)) []) := by
  unfold fullE tabT
  rw [callsOf_is, List.filter_map]
  simp only [List.map_map, List.length_map]
  have e1 : (List.filter ((fun c : Call3 => c.1 == g) ∘ fun s : Nat × Nat => (pgoal s, s.1, s.2)) (stepsAll rows)) = (stepsAll rows).filter fun s => pgoal s == g := rfl
  rw [e1]
  refine Prod.ext ?_ rfl
  show (List.filter _ (List.map _ _)).length = _
  rw [List.countP_eq_length_filter, List.filter_map, List.length_map]; rfl

/-- the same steps make the same entry -/
theorem eqE_perm {l : List (Nat × Nat)} {rows : List (List Nat)} (hp : l.Perm (stepsAll rows)) (g : Nat) : eqE (sumE (l.filter fun s => pgoal s == g) ent0) (fullE (callsOf rows) g) = true := by
  have hf : (l.filter fun s => pgoal s == g).Perm ((stepsAll rows).filter fun s => pgoal s == g) := hp.filter _
  rw [sumE_is, fullE_is]
  generalize hM : (stepsAll rows).filter (fun s => pgoal s == g) = M at hf
  generalize hm : l.filter (fun s => pgoal s == g) = m at hf
  have hg : ∀ s ∈ M, pgoal s = g := fun s hs => by
    rw [← hM] at hs
    simpa using (List.mem_filter.mp hs).2
  unfold eqE
  have h1 : m.countP (fun s => pgoal s != s.1) = M.countP fun s => s.1 != g := by
    rw [hf.countP_eq]
    refine List.countP_congr fun s hs => ?_
    rw [hg s hs]
    simp [bne_iff_ne, ne_comm]
  have h3 : (m.map (·.2)).sum = (M.map (·.2)).sum := (hf.map _).sum_nat
  have h4 : (m.map fun s => s.2 ^ 2).sum = (M.map fun s => s.2 ^ 2).sum := (hf.map _).sum_nat
  have h5 : eqT (tabM m []) ((M.map (·.1)).foldl (fun acc a => putT acc a ((M.map (·.1)).count a)) []) = true := by
    refine eqT_of_look (tabM_nodup m [] (by simp)) (putAll_nodup _ _ [] (by simp)) fun k => ?_
    rw [tabM_look, putAll_look, hf.countP_eq]
    have hc : (M.map (·.1)).count k = M.countP fun s => s.1 == k := by
      rw [List.count_eq_countP, List.countP_map]; rfl
    have hm : k ∈ M.map (·.1) ↔ M.countP (fun s => s.1 == k) ≠ 0 := by
      rw [← hc, ← List.count_pos_iff]; omega
    by_cases h0 : M.countP (fun s => s.1 == k) = 0
    · rw [if_pos h0, if_neg (fun q => hm.mp q h0)]
    · rw [if_neg h0, if_pos (hm.mpr h0), hc]
      simp [look]
  simp only [ent0, Nat.zero_add, h1, hf.length_eq, h3, h4, h5]
  simp
end Mine
namespace Mine

/-- a walk along the rows: its steps, the rows that are left, its end -/
inductive Path : List (List Nat) → Nat → List (Nat × Nat) → List (List Nat) → Nat → Prop
  | done {rs : List (List Nat)} {p : Nat} : Path rs p [] rs p
  | step {rs rs' : List (List Nat)} {p z e : Nat} {r : List Nat} {l : List (Nat × Nat)} : rs[p]? = some (z :: r) → Path (rs.set p r) ((p + z) % 4) l rs' e → Path rs p ((p, z) :: l) rs' e

def bookF (bk : List Ent) (l : List (Nat × Nat)) : List Ent := l.foldl (fun b s => b.set (pgoal s) (addE (b.getD (pgoal s) ent0) (entryP s.1 s.2))) bk
theorem bookF_len : ∀ (l : List (Nat × Nat)) (bk : List Ent), (bookF bk l).length = bk.length
  | [], _ => rfl
  | s :: l, bk => by
    show (bookF (bk.set _ _) l).length = _
    rw [bookF_len l]; simp
theorem bookF_get : ∀ (l : List (Nat × Nat)) (bk : List Ent) (g : Nat), (bookF bk l)[g]? = (bk[g]?).map fun e => sumE (l.filter fun s => pgoal s == g) e
  | [], bk, g => by simp [bookF, sumE]
  | s :: l, bk, g => by
    show (bookF (bk.set _ _) l)[g]? = _
    rw [bookF_get l, List.getElem?_set, List.filter_cons]
    by_cases h : pgoal s = g
    · subst h
      rw [if_pos rfl, if_pos (beq_self_eq_true _)]
      split
      · rename_i hl
        rw [List.getElem?_eq_getElem hl, List.getD_eq_getElem?_getD, List.getElem?_eq_getElem hl]
        rfl
      · rename_i hl
        rw [List.getElem?_eq_none (by omega)]; rfl
    · rw [if_neg h]
      have : ¬ (pgoal s == g) = true := by simpa using h
      rw [if_neg this]

theorem walkP_path {rs rs' : List (List Nat)} {p e : Nat} {l : List (Nat × Nat)} (h : Path rs p l rs' e) : ∀ (N : Nat) (bk : List Ent), (∀ r ∈ rs, ∀ z ∈ r, z ≠ 0) → rs'[e]? = some [] → bk.length = 4 → l.length < N → walkP N rs p bk = some (e, bookF bk l) := by
  induction h with
  | done =>
    intro N bk hz he hb hN
    cases N with
    | zero => exact absurd hN (Nat.not_lt_zero _)
    | succ N => unfold walkP; rw [he]; rfl
  | @step rs rs' p z e r l hr hp ih =>
    intro N bk hz he hb hN
    cases N with
    | zero => exact absurd hN (Nat.not_lt_zero _)
    | succ N =>
      have hrm := List.mem_of_getElem? hr
      have hz0 : z ≠ 0 := hz _ hrm z List.mem_cons_self
      have hg : (p + z) % 4 < bk.length := by rw [hb]; exact Nat.mod_lt _ (by decide)
      unfold walkP
      rw [hr]
      simp only [hz0, if_false]
      rw [List.getElem?_eq_getElem hg]
      simp only
      rw [ih N _ (fun r' hr' y hy => ?_) he (by simpa using hb) (by simp at hN; omega)]
      · show some (e, _) = some (e, bookF (bk.set _ (addE (bk.getD ((p + z) % 4) ent0) _)) l)
        rw [List.getD_eq_getElem?_getD, List.getElem?_eq_getElem hg]; rfl
      · rcases mem_set_cases hr' with rfl | ⟨i, _, hr'⟩
        · exact hz _ hrm y (List.mem_cons_of_mem _ hy)
        · exact hz _ (List.mem_of_getElem? hr') y hy

theorem Path.dep {rs rs' : List (List Nat)} {p e : Nat} {l : List (Nat × Nat)} (h : Path rs p l rs' e) : ∀ (k : Nat) (r : List Nat), rs[k]? = some r → ∃ r', rs'[k]? = some r' ∧ r = (l.filter fun s => s.1 == k).map (·.2) ++ r' := by
  induction h with
  | done => intro k r hr; exact ⟨r, hr, rfl⟩
  | @step rs rs' p z e r0 l hr0 hp ih =>
    intro k r hr
    by_cases hk : p = k
    · subst hk
      rw [hr0] at hr; cases hr
      obtain ⟨r', h1, h2⟩ := ih p r0 (by rw [List.getElem?_set, if_pos rfl, if_pos (List.getElem?_eq_some_iff.mp hr0).1])
      refine ⟨r', h1, ?_⟩
      rw [List.filter_cons, if_pos (beq_self_eq_true p), List.map_cons, List.cons_append, ← h2]
    · obtain ⟨r', h1, h2⟩ := ih k r (by rw [List.getElem?_set, if_neg hk]; exact hr)
      refine ⟨r', h1, ?_⟩
      have : ¬ (p == k) = true := by simpa using hk
      rw [List.filter_cons, if_neg this]
      exact h2
theorem Path.bal {rs rs' : List (List Nat)} {p e : Nat} {l : List (Nat × Nat)} (h : Path rs p l rs' e) (k : Nat) : (l.countP fun s => pgoal s == k) + (if k = p then 1 else 0) = (l.countP fun s => s.1 == k) + (if k = e then 1 else 0) := by
  induction h with
  | done => rfl
  | @step rs rs' p z e r0 l hr0 hp ih =>
    rw [List.countP_cons, List.countP_cons]
    have e1 : (if (pgoal (p, z) == k) = true then 1 else 0) = (if k = (p + z) % 4 then 1 else 0) := by
      show (if (((p + z) % 4) == k) = true then 1 else 0) = _
      by_cases q : k = (p + z) % 4
      · rw [if_pos q, if_pos (by simp [q])]
      · rw [if_neg q, if_neg (by simpa using Ne.symm q)]
    have e2 : (if (p == k) = true then 1 else 0) = (if k = p then 1 else 0) := by
      by_cases q : k = p
      · rw [if_pos q, if_pos (by simp [q])]
      · rw [if_neg q, if_neg (by simpa using Ne.symm q)]
    show _ + (if (pgoal (p, z) == k) = true then 1 else 0) + _ = _ + (if (p == k) = true then 1 else 0) + _
    rw [e1, e2]
    omega
theorem Path.place {rs rs' : List (List Nat)} {p e : Nat} {l : List (Nat × Nat)} (h : Path rs p l rs' e) (hl : rs.length = 4) : ∀ s ∈ l, s.1 < 4 := by
  induction h with
  | done => intro s hs; cases hs
  | @step rs rs' p z e r0 l hr0 hp ih =>
    intro s hs
    rcases List.mem_cons.mp hs with rfl | hs
    · have := (List.getElem?_eq_some_iff.mp hr0).1
      show p < 4
      omega
    · exact ih (by simpa using hl) s hs
theorem Path.len {rs rs' : List (List Nat)} {p e : Nat} {l : List (Nat × Nat)} (h : Path rs p l rs' e) : rs'.length = rs.length := by
  induction h with
  | done => rfl
  | step _ _ ih => simpa using ih

/-- counting by goals -/
theorem four_goals (l : List (Nat × Nat)) (q : Nat × Nat → Bool) : (l.filter fun s => pgoal s == 0).countP q + ((l.filter fun s => pgoal s == 1).countP q + ((l.filter fun s => pgoal s == 2).countP q + (l.filter fun s => pgoal s == 3).countP q)) = l.countP q := by
  induction l with
  | nil => rfl
  | cons s l ih =>
    have hlt := pgoal_lt s
    simp only [List.filter_cons, List.countP_cons]
    generalize pgoal s = g at hlt
    match g, hlt with
    | 0, _ => simp [List.countP_cons]; omega
    | 1, _ => simp [List.countP_cons]; omega
    | 2, _ => simp [List.countP_cons]; omega
    | 3, _ => simp [List.countP_cons]; omega
theorem stepsAll_count (rows : List (List Nat)) (p z : Nat) (hp : p < 4) : (stepsAll rows).count (p, z) = (rows.getD p []).count z := by
  have key : ∀ (q : Nat) (r : List Nat), (r.map fun z => (q, z)).count (p, z) = if q = p then r.count z else 0 := fun q r => by
    induction r with
    | nil => simp
    | cons x r ih =>
      rw [List.map_cons, List.count_cons, ih, List.count_cons]
      by_cases h : q = p
      · subst h
        simp
      · simp [h]
  have e : stepsAll rows = (rows.getD 0 []).map (fun z => (0, z)) ++ ((rows.getD 1 []).map (fun z => (1, z)) ++ ((rows.getD 2 []).map (fun z => (2, z)) ++ (rows.getD 3 []).map fun z => (3, z))) := by
    unfold stepsAll
    rw [show List.range 4 = [0, 1, 2, 3] from rfl]
    simp [List.flatMap_cons]
  rw [e]
  simp only [List.count_append, key]
  match p, hp with
  | 0, _ => simp
  | 1, _ => simp
  | 2, _ => simp
  | 3, _ => simp
theorem stepsAll_place (rows : List (List Nat)) : ∀ s ∈ stepsAll rows, s.1 < 4 := fun s hs => by
  unfold stepsAll at hs
  obtain ⟨p, hp, hs⟩ := List.mem_flatMap.mp hs
  obtain ⟨z, _, rfl⟩ := List.mem_map.mp hs
  exact List.mem_range.mp hp
theorem perm_of_rows {l : List (Nat × Nat)} {rows : List (List Nat)} (hl : ∀ s ∈ l, s.1 < 4) (h : ∀ p, p < 4 → ((l.filter fun s => s.1 == p).map (·.2)).Perm (rows.getD p [])) : l.Perm (stepsAll rows) := by
  rw [List.perm_iff_count]
  rintro ⟨p, z⟩
  by_cases hp : p < 4
  · rw [stepsAll_count rows p z hp, ← (h p hp).count_eq z]
    clear h hl
    induction l with
    | nil => rfl
    | cons s l ih =>
      rw [List.count_cons, List.filter_cons, ih]
      obtain ⟨a, b⟩ := s
      by_cases ha : a = p
      · subst ha
        rw [if_pos (beq_self_eq_true a), List.map_cons, List.count_cons]
        simp
      · have : ¬ (a == p) = true := by simpa using ha
        rw [if_neg this]
        simp [ha]
  · rw [List.count_eq_zero.mpr fun m => hp (hl _ m), List.count_eq_zero.mpr fun m => hp (stepsAll_place rows _ m)]
end Mine
namespace Mine

/-- the walk of four rows: 2 if it does not end at place 0, else 1 if all is used, else 0 -/
noncomputable def goF (fuel : Nat) : Nat → List Nat → List Nat → List Nat → List Nat → Nat := Nat.rec (fun _ _ _ _ _ => 2)
  (fun _ ih p r0 r1 r2 r3 =>
    Nat.rec (List.rec (List.rec (List.rec (List.rec 1 (fun _ _ _ => 0) r3) (fun _ _ _ => 0) r2) (fun _ _ _ => 0) r1) (fun z r _ => ih (Nat.mod z 4) r r1 r2 r3) r0) (fun p _ =>
    Nat.rec (List.rec 2 (fun z r _ => ih (Nat.mod (Nat.add 1 z) 4) r0 r r2 r3) r1) (fun p _ =>
    Nat.rec (List.rec 2 (fun z r _ => ih (Nat.mod (Nat.add 2 z) 4) r0 r1 r r3) r2) (fun _ _ =>
    (List.rec 2 (fun z r _ => ih (Nat.mod (Nat.add 3 z) 4) r0 r1 r2 r) r3)) p) p) p) fuel

theorem goF_sound : ∀ (n p : Nat) (a b c d : List Nat), p < 4 → goF n p a b c d ≠ 2 → ∃ l b' c' d', Path [a, b, c, d] p l [[], b', c', d'] 0 ∧ l.length < n ∧ goF n p a b c d = (if b' = [] ∧ c' = [] ∧ d' = [] then 1 else 0) := by
  intro n
  induction n with
  | zero => intro p a b c d _ h; exact absurd rfl h
  | succ n ih =>
    intro p a b c d hp h
    match p, hp with
    | 0, _ =>
      cases a with
      | nil => exact ⟨[], b, c, d, .done, Nat.succ_pos _, by cases b <;> cases c <;> cases d <;> rfl⟩
      | cons z r =>
        have e : goF (n + 1) 0 (z :: r) b c d = goF n (z % 4) r b c d := rfl
        rw [e] at h ⊢
        obtain ⟨l, b', c', d', h1, h2, h3⟩ := ih (z % 4) r b c d (Nat.mod_lt _ (by decide)) h
        have e0 : z % 4 = (0 + z) % 4 := by rw [Nat.zero_add]
        exact ⟨_, b', c', d', .step (p := 0) rfl (e0 ▸ h1), Nat.succ_lt_succ h2, h3⟩
    | 1, _ =>
      cases b with
      | nil => exact absurd rfl h
      | cons z r =>
        have e : goF (n + 1) 1 a (z :: r) c d = goF n ((1 + z) % 4) a r c d := rfl
        rw [e] at h ⊢
        obtain ⟨l, b', c', d', h1, h2, h3⟩ := ih ((1 + z) % 4) a r c d (Nat.mod_lt _ (by decide)) h
        exact ⟨_, b', c', d', .step (p := 1) rfl h1, Nat.succ_lt_succ h2, h3⟩
    | 2, _ =>
      cases c with
      | nil => exact absurd rfl h
      | cons z r =>
        have e : goF (n + 1) 2 a b (z :: r) d = goF n ((2 + z) % 4) a b r d := rfl
        rw [e] at h ⊢
        obtain ⟨l, b', c', d', h1, h2, h3⟩ := ih ((2 + z) % 4) a b r d (Nat.mod_lt _ (by decide)) h
        exact ⟨_, b', c', d', .step (p := 2) rfl h1, Nat.succ_lt_succ h2, h3⟩
    | 3, _ =>
      cases d with
      | nil => exact absurd rfl h
      | cons z r =>
        have e : goF (n + 1) 3 a b c (z :: r) = goF n ((3 + z) % 4) a b c r := rfl
        rw [e] at h ⊢
        obtain ⟨l, b', c', d', h1, h2, h3⟩ := ih ((3 + z) % 4) a b c r (Nat.mod_lt _ (by decide)) h
        exact ⟨_, b', c', d', .step (p := 3) rfl h1, Nat.succ_lt_succ h2, h3⟩

theorem four_places {l : List (Nat × Nat)} (h : ∀ s ∈ l, s.1 < 4) : (l.filter fun s => s.1 == 0).length + ((l.filter fun s => s.1 == 1).length + ((l.filter fun s => s.1 == 2).length + (l.filter fun s => s.1 == 3).length)) = l.length := by
  induction l with
  | nil => rfl
  | cons s l ih =>
    have hlt := h s List.mem_cons_self
    have ih := ih fun s hs => h s (List.mem_cons_of_mem _ hs)
    simp only [List.filter_cons, List.length_cons]
    generalize s.1 = g at hlt
    match g, hlt with
    | 0, _ => simp; omega
    | 1, _ => simp; omega
    | 2, _ => simp; omega
    | 3, _ => simp; omega
theorem stepsAll_len (rows : List (List Nat)) : (stepsAll rows).length = (rows.getD 0 []).length + ((rows.getD 1 []).length + ((rows.getD 2 []).length + (rows.getD 3 []).length)) := by
  unfold stepsAll
  rw [show List.range 4 = [0, 1, 2, 3] from rfl]
  simp [List.flatMap_cons]

theorem book_is (l : List (Nat × Nat)) : bookF ents0 l = [sumE (l.filter fun s => pgoal s == 0) ent0, sumE (l.filter fun s => pgoal s == 1) ent0, sumE (l.filter fun s => pgoal s == 2) ent0, sumE (l.filter fun s => pgoal s == 3) ent0] := by
  refine List.ext_getElem? fun i => ?_
  rw [bookF_get]
  match i with
  | 0 | 1 | 2 | 3 | n + 4 => rfl
theorem full_is (rows : List (List Nat)) : fullOf rows = [fullE (callsOf rows) 0, fullE (callsOf rows) 1, fullE (callsOf rows) 2, fullE (callsOf rows) 3] := rfl
theorem tab_getD (m : List (Nat × Nat)) (k : Nat) : (look (tabM m []) k).getD 0 = m.countP fun s => s.1 == k := by
  rw [tabM_look]
  split
  · rename_i h; rw [h]; rfl
  · simp [look]
theorem sumE_cnt (m : List (Nat × Nat)) : (sumE m ent0).2.1 = m.length := by rw [sumE_is]; simp [ent0]
theorem sumE_tab (m : List (Nat × Nat)) : (sumE m ent0).2.2.2.2 = tabM m [] := by rw [sumE_is]
theorem fullE_cnt (rows : List (List Nat)) (g : Nat) : (fullE (callsOf rows) g).2.1 = ((stepsAll rows).filter fun s => pgoal s == g).length := by rw [fullE_is]
theorem eqE_cnt {x y : Ent} (h : eqE x y = true) : x.2.1 = y.2.1 := by
  unfold eqE at h
  simp only [Bool.and_eq_true, beq_iff_eq] at h
  exact h.1.1.1.2
theorem eqBk4 {a b c d a' b' c' d' : Ent} : eqBk [a, b, c, d] [a', b', c', d'] = (eqE a a' && (eqE b b' && (eqE c c' && (eqE d d' && true)))) := rfl

/-- what a walk of turned rows gives -/
structure Turns (rows : List (List Nat)) (a b c d : List Nat) : Prop where
  ok : Rows4 [a, b, c, d]
  pa : a.Perm (rows.getD 0 [])
  pb : b.Perm (rows.getD 1 [])
  pc : c.Perm (rows.getD 2 [])
  pd : d.Perm (rows.getD 3 [])

theorem leaf_walk {rows : List (List Nat)} {a b c d : List Nat} (t : Turns rows a b c d) (h : goF 8 0 a b c d ≠ 2) : ∃ book, Walked [a, b, c, d] book ∧ (∃ e, book[0]? = some e ∧ e.2.1 = (rows.getD 0 []).length) ∧
    (∀ k, k < 4 → ∃ e, book[k]? = some e ∧ outSum e.2.2.2.2 = inSum book k) ∧ eqBk book (fullOf rows) = (goF 8 0 a b c d == 1) ∧
    (goF 8 0 a b c d = 1 → ∀ k j, k < 4 → j < 4 → ∃ e, book[k]? = some e ∧ e.1 = ((stepsAll rows).filter fun s => pgoal s == k).countP (fun s => s.1 != k) ∧ (look e.2.2.2.2 j).getD 0 = ((stepsAll rows).filter fun s => pgoal s == k).countP fun s => s.1 == j) := by
  obtain ⟨l, b', c', d', hp, hl, hgo⟩ := goF_sound 8 0 a b c d (by decide) h
  have hpl := hp.place rfl
  have hwalk := walkP_path hp 20 ents0 (fun r hr z hz => by have := t.ok.ent r hr z hz; omega) rfl rfl (by omega)
  have hbal : ∀ k, (l.countP fun s => pgoal s == k) = l.countP fun s => s.1 == k := fun k => by
    have := hp.bal k; omega
  obtain ⟨ra, hra, ea⟩ := hp.dep 0 a rfl
  obtain ⟨rb, hrb, eb⟩ := hp.dep 1 b rfl
  obtain ⟨rc, hrc, ec⟩ := hp.dep 2 c rfl
  obtain ⟨rd, hrd, ed⟩ := hp.dep 3 d rfl
  cases hra; cases hrb; cases hrc; cases hrd
  rw [List.append_nil] at ea
  have hbk := book_is l
  have fl : ∀ g, (l.filter fun s => pgoal s == g).length = l.countP fun s => pgoal s == g := fun g => List.countP_eq_length_filter.symm
  have hget : ∀ k, k < 4 → (bookF ents0 l)[k]? = some (sumE (l.filter fun s => pgoal s == k) ent0) := fun k hk => by
    rw [bookF_get]
    match k, hk with
    | 0, _ | 1, _ | 2, _ | 3, _ => rfl
  have hperm : b' = [] ∧ c' = [] ∧ d' = [] → l.Perm (stepsAll rows) := fun ⟨h1, h2, h3⟩ => by
    subst h1; subst h2; subst h3
    rw [List.append_nil] at eb ec ed
    refine perm_of_rows hpl fun p hp4 => ?_
    match p, hp4 with
    | 0, _ => exact (ea ▸ t.pa)
    | 1, _ => exact (eb ▸ t.pb)
    | 2, _ => exact (ec ▸ t.pc)
    | 3, _ => exact (ed ▸ t.pd)
  refine ⟨bookF ents0 l, ⟨hwalk, by rw [bookF_len]; rfl⟩, ⟨_, hget 0 (by decide), ?_⟩, fun k hk => ⟨_, hget k hk, ?_⟩, ?_, fun h1 k j hk hj => ?_⟩
  · rw [sumE_cnt, fl, hbal, ← t.pa.length_eq, ea, List.length_map, List.countP_eq_length_filter]
  · rw [sumE_tab, tabM_out, fl, hbal]
    unfold inSum
    rw [hbk]
    simp only [List.map_cons, List.map_nil, List.sum_cons, List.sum_nil, sumE_tab, tab_getD]
    have := four_goals l fun s => s.1 == k
    simp only [outSum, List.map_nil, List.sum_nil]
    omega
  · rw [hgo, hbk, full_is, eqBk4]
    by_cases hall : b' = [] ∧ c' = [] ∧ d' = []
    · have hpm := hperm hall
      rw [if_pos hall, eqE_perm hpm 0, eqE_perm hpm 1, eqE_perm hpm 2, eqE_perm hpm 3]; rfl
    · rw [if_neg hall]
      refine Eq.trans (Bool.eq_false_iff.mpr fun hT => hall ?_) (show false = ((0 : Nat) == 1) from rfl)
      simp only [Bool.and_eq_true, Bool.and_true] at hT
      obtain ⟨h0, h1, h2, h3⟩ := hT
      have h0 := eqE_cnt h0
      have h1 := eqE_cnt h1
      have h2 := eqE_cnt h2
      have h3 := eqE_cnt h3
      rw [sumE_cnt, fullE_cnt] at h0 h1 h2 h3
      have g1 := four_goals l fun _ => true
      have g2 := four_goals (stepsAll rows) fun _ => true
      simp only [List.countP_true] at g1 g2
      have f1 := four_places hpl
      have f2 := stepsAll_len rows
      have la := t.pa.length_eq
      have lb := t.pb.length_eq
      have lc := t.pc.length_eq
      have ld := t.pd.length_eq
      have ea' := congrArg List.length ea
      have eb' := congrArg List.length eb
      have ec' := congrArg List.length ec
      have ed' := congrArg List.length ed
      rw [List.length_map] at ea'
      rw [List.length_append, List.length_map] at eb' ec' ed'
      refine ⟨List.length_eq_zero_iff.mp ?_, List.length_eq_zero_iff.mp ?_, List.length_eq_zero_iff.mp ?_⟩ <;> omega
  · have hall : b' = [] ∧ c' = [] ∧ d' = [] := by
      by_cases hall : b' = [] ∧ c' = [] ∧ d' = []
      · exact hall
      · rw [hgo, if_neg hall] at h1; cases h1
    have hf := (hperm hall).filter fun s => pgoal s == k
    refine ⟨_, hget k hk, ?_, ?_⟩
    · rw [sumE_is]
      show 0 + _ = _
      rw [Nat.zero_add, hf.countP_eq]
      refine List.countP_congr fun s hs => ?_
      have : pgoal s = k := by simpa using (List.mem_filter.mp hs).2
      rw [this]
      simp [bne_iff_ne, ne_comm]
    · rw [sumE_tab, tab_getD, hf.countP_eq]
end Mine
namespace Mine

noncomputable def lastD (l : List Nat) : Nat → Nat := List.rec (fun d => d) (fun x _ ih _ => ih x) l
theorem lastD_is : ∀ (r : List Nat) (x : Nat), (x :: r).getLast? = some (lastD r x)
  | [], x => rfl
  | y :: r, x => by
    rw [List.getLast?_cons_cons, lastD_is r y]; rfl
noncomputable def nxF (b c d : List Nat) (p : Nat) : Nat :=
  Nat.rec 0 (fun p _ => Nat.rec (List.rec 9 (fun x r _ => Nat.mod (Nat.add 1 (lastD r x)) 4) b) (fun p _ => Nat.rec (List.rec 9 (fun x r _ => Nat.mod (Nat.add 2 (lastD r x)) 4) c) (fun p _ => Nat.rec (List.rec 9 (fun x r _ => Nat.mod (Nat.add 3 (lastD r x)) 4) d) (fun _ _ => 9) p) p) p) p
theorem stepH_row {rows : List (List Nat)} {p x : Nat} {r : List Nat} (h : rows[p + 1]? = some (x :: r)) : stepH rows (p + 1) = some ((p + 1 + lastD r x) % 4) := by
  unfold stepH; simp only [h, lastD_is]
theorem nx_lt9 (n : Nat) : n % 4 < 4 ∧ n % 4 ≠ 9 := by omega
theorem nxF_is (a b c d : List Nat) (p : Nat) (hp : p < 4) : (nxF b c d p = 9 ∧ stepH [a, b, c, d] p = none) ∨ (nxF b c d p < 4 ∧ stepH [a, b, c, d] p = some (nxF b c d p)) := by
  match p, hp with
  | 0, _ => exact .inr ⟨Nat.succ_pos _, rfl⟩
  | 1, _ =>
    cases b with
    | nil => exact .inl ⟨rfl, rfl⟩
    | cons x r => exact .inr ⟨Nat.mod_lt _ (by decide), stepH_row (rows := [a, x :: r, c, d]) (p := 0) rfl⟩
  | 2, _ =>
    cases c with
    | nil => exact .inl ⟨rfl, rfl⟩
    | cons x r => exact .inr ⟨Nat.mod_lt _ (by decide), stepH_row (rows := [a, b, x :: r, d]) (p := 1) rfl⟩
  | 3, _ =>
    cases d with
    | nil => exact .inl ⟨rfl, rfl⟩
    | cons x r => exact .inr ⟨Nat.mod_lt _ (by decide), stepH_row (rows := [a, b, c, x :: r]) (p := 2) rfl⟩
theorem nxF_9 (b c d : List Nat) : nxF b c d 9 = 9 := rfl
theorem iter_is (a b c d : List Nat) (t : Nat) (ht : t < 4) : (nxF b c d (nxF b c d (nxF b c d t)) = 9 ∧ iterH [a, b, c, d] 3 t = none) ∨ (nxF b c d (nxF b c d (nxF b c d t)) < 4 ∧ iterH [a, b, c, d] 3 t = some (nxF b c d (nxF b c d (nxF b c d t)))) := by
  rcases nxF_is a b c d t ht with ⟨h1, h2⟩ | ⟨h1, h2⟩
  · left; rw [h1, nxF_9, nxF_9]; exact ⟨rfl, by unfold iterH; rw [h2]⟩
  · rcases nxF_is a b c d _ h1 with ⟨g1, g2⟩ | ⟨g1, g2⟩
    · left; rw [g1, nxF_9]; exact ⟨rfl, by unfold iterH; rw [h2]; simp only; unfold iterH; rw [g2]⟩
    · rcases nxF_is a b c d _ g1 with ⟨k1, k2⟩ | ⟨k1, k2⟩
      · left; exact ⟨k1, by unfold iterH; rw [h2]; simp only; unfold iterH; rw [g2]; simp only; unfold iterH; rw [k2]⟩
      · right; exact ⟨k1, by unfold iterH; rw [h2]; simp only; unfold iterH; rw [g2]; simp only; unfold iterH; rw [k2]; rfl⟩

/-- 1: home; 0: not; 2: neither -/
noncomputable def homeT (b c d r : List Nat) (t : Nat) (k : Nat) : Nat :=
  List.rec k (fun _ _ _ => Nat.rec k (fun q _ => Nat.rec 2 (fun _ _ => 0) (Nat.sub 3 q)) (nxF b c d (nxF b c d (nxF b c d t)))) r
noncomputable def homeF (b c d : List Nat) : Nat := homeT b c d b 1 (homeT b c d c 2 (homeT b c d d 3 1))
def townsB (b c d : List Nat) : List Nat := (if b.isEmpty then [] else [1]) ++ ((if c.isEmpty then [] else [2]) ++ (if d.isEmpty then [] else [3]))
theorem townsB_is (a b c d : List Nat) : townsOf [a, b, c, d] = townsB b c d := by cases b <;> cases c <;> cases d <;> rfl
theorem homeT_is {a b c d r : List Nat} {t k : Nat} {ts : List Nat} (ht : t < 4) (hk : k ≠ 2 → homeO [a, b, c, d] ts = some (k == 1)) (h : homeT b c d r t k ≠ 2) : homeO [a, b, c, d] ((if r.isEmpty then [] else [t]) ++ ts) = some (homeT b c d r t k == 1) := by
  cases r with
  | nil => exact hk h
  | cons x r =>
    show homeO [a, b, c, d] (t :: ts) = some ((Nat.rec k (fun q _ => Nat.rec 2 (fun _ _ => 0) (Nat.sub 3 q)) (nxF b c d (nxF b c d (nxF b c d t))) : Nat) == 1)
    have h : (Nat.rec k (fun q _ => Nat.rec 2 (fun _ _ => 0) (Nat.sub 3 q)) (nxF b c d (nxF b c d (nxF b c d t))) : Nat) ≠ 2 := h
    have hi := iter_is a b c d t ht
    generalize nxF b c d (nxF b c d (nxF b c d t)) = n at h hi ⊢
    rcases hi with ⟨h1, h2⟩ | ⟨h1, h2⟩
    · subst h1; exact absurd rfl h
    · unfold homeO
      rw [h2]
      match n, h1 with
      | 0, _ => exact hk h
      | 1, _ => rfl
      | 2, _ => rfl
      | 3, _ => rfl
theorem homeF_is {a b c d : List Nat} (h : homeF b c d ≠ 2) : homeO [a, b, c, d] (townsB b c d) = some (homeF b c d == 1) := by
  unfold townsB
  refine homeT_is (by decide) (fun h2 => homeT_is (by decide) (fun h3 => ?_) h2) h
  have := homeT_is (a := a) (b := b) (c := c) (d := d) (r := d) (t := 3) (k := 1) (ts := []) (by decide) (fun _ => rfl) h3
  rw [List.append_nil] at this
  exact this

noncomputable def leafF (a b c d : List Nat) : Nat :=
  Nat.rec (Nat.rec 0 (fun _ _ => 1000) (homeF b c d)) (fun n _ => Nat.rec (Nat.rec 1000 (fun n _ => Nat.rec 1 (fun _ _ => 1000) n) (homeF b c d)) (fun _ _ => 1000) n) (goF 8 0 a b c d)
theorem leafF_is {a b c d : List Nat} (h : leafF a b c d < 1000) : (goF 8 0 a b c d = 0 ∧ homeF b c d = 0 ∧ leafF a b c d = 0) ∨ (goF 8 0 a b c d = 1 ∧ homeF b c d = 1 ∧ leafF a b c d = 1) := by
  unfold leafF at h ⊢
  generalize goF 8 0 a b c d = g at h ⊢
  generalize homeF b c d = k at h ⊢
  match g, k with
  | 0, 0 => exact .inl ⟨rfl, rfl, rfl⟩
  | 0, k + 1 => exact absurd h (Nat.lt_irrefl _)
  | 1, 0 => exact absurd h (Nat.lt_irrefl _)
  | 1, 1 => exact .inr ⟨rfl, rfl, rfl⟩
  | 1, k + 2 => exact absurd h (Nat.lt_irrefl _)
  | g + 2, k => exact absurd h (Nat.lt_irrefl _)

/-- sums -/
def sumTo : Nat → (Nat → Nat) → Nat
  | 0, _ => 0
  | n + 1, f => sumTo n f + f n
theorem sumTo_congr : ∀ {n : Nat} {f g : Nat → Nat}, (∀ i, i < n → f i = g i) → sumTo n f = sumTo n g
  | 0, _, _, _ => rfl
  | n + 1, f, g, h => by
    unfold sumTo
    rw [sumTo_congr fun i hi => h i (Nat.lt_succ_of_lt hi), h n (Nat.lt_succ_self n)]
theorem sumTo_add (x : Nat) (f : Nat → Nat) : ∀ y, sumTo (x + y) f = sumTo x f + sumTo y fun i => f (x + i)
  | 0 => rfl
  | y + 1 => by
    show sumTo (x + y) f + f (x + y) = sumTo x f + (sumTo y (fun i => f (x + i)) + f (x + y))
    rw [sumTo_add x f y]; omega
theorem sumTo_front (n : Nat) (f : Nat → Nat) : sumTo (n + 1) f = f 0 + sumTo n fun i => f (i + 1) := by
  rw [Nat.add_comm n 1, sumTo_add 1 f n]
  show 0 + f 0 + _ = _
  rw [Nat.zero_add]
  congr 1
  exact sumTo_congr fun i _ => by rw [Nat.add_comm]
theorem sumTo_plus (f g : Nat → Nat) : ∀ n, sumTo n (fun i => f i + g i) = sumTo n f + sumTo n g
  | 0 => rfl
  | n + 1 => by
    show sumTo n (fun i => f i + g i) + (f n + g n) = (sumTo n f + f n) + (sumTo n g + g n)
    rw [sumTo_plus f g n]; omega
theorem sumTo_swap (l : Nat) (G : Nat → Nat → Nat) : ∀ m, sumTo m (fun j => sumTo l fun i => G j i) = sumTo l fun i => sumTo m fun j => G j i
  | 0 => by
    show 0 = sumTo l fun _ => 0
    induction l with
    | zero => rfl
    | succ l ih => show 0 = sumTo l (fun _ => 0) + 0; rw [← ih]
  | m + 1 => by
    show sumTo m (fun j => sumTo l fun i => G j i) + sumTo l (fun i => G m i) = sumTo l fun i => sumTo m (fun j => G j i) + G m i
    rw [sumTo_swap l G m, ← sumTo_plus]
theorem sumTo_mul {l : Nat} (hl : 0 < l) (G : Nat → Nat → Nat) : ∀ m, sumTo (l * m) (fun n => G (n / l) (n % l)) = sumTo m fun j => sumTo l fun i => G j i
  | 0 => rfl
  | m + 1 => by
    rw [Nat.mul_succ, sumTo_add, sumTo_mul hl G m]
    show _ = sumTo m (fun j => sumTo l fun i => G j i) + sumTo l fun i => G m i
    congr 1
    refine sumTo_congr fun i hi => ?_
    rw [Nat.mul_add_div hl, Nat.div_eq_of_lt hi, Nat.mul_add_mod, Nat.mod_eq_of_lt hi, Nat.add_zero]
theorem sumTo_le {n : Nat} {f : Nat → Nat} : ∀ {i : Nat}, i < n → f i ≤ sumTo n f := by
  induction n with
  | zero => intro i h; exact absurd h (Nat.not_lt_zero _)
  | succ n ih =>
    intro i h
    show f i ≤ sumTo n f + f n
    by_cases hi : i < n
    · have := ih hi; omega
    · have : i = n := by omega
      subst this; omega
theorem wholeN_sum (h : Nat → Bool) : ∀ n, wholeN h n = sumTo n fun i => if h i then 1 else 0
  | 0 => rfl
  | n + 1 => by rw [wholeN_succ, wholeN_sum h n]; rfl

/-- turning -/
def rot (i : Nat) (l : List Nat) : List Nat := l.drop i ++ l.take i
theorem rot_succ {l : List Nat} {i : Nat} (h : i < l.length) : ∃ z r, rot i l = z :: r ∧ rot (i + 1) l = r ++ [z] := by
  refine ⟨l[i], l.drop (i + 1) ++ l.take i, ?_, ?_⟩
  · unfold rot
    rw [List.drop_eq_getElem_cons h]; rfl
  · unfold rot
    rw [List.take_add_one, List.getElem?_eq_getElem h]
    simp
theorem rot_perm (i : Nat) (l : List Nat) : (rot i l).Perm l := by
  unfold rot
  have := (List.perm_append_comm (l₁ := l.drop i) (l₂ := l.take i))
  rwa [List.take_append_drop] at this
noncomputable def appK (l : List Nat) : Nat → (List Nat → Nat) → Nat := List.rec (fun z k => k [z]) (fun x _ ih z k => ih z fun l => k (x :: l)) l
theorem appK_is : ∀ (l : List Nat) (z : Nat) (k : List Nat → Nat), appK l z k = k (l ++ [z])
  | [], _, _ => rfl
  | x :: l, z, k => appK_is l z fun l => k (x :: l)
noncomputable def rotS (n : Nat) : List Nat → (List Nat → Nat) → Nat := Nat.rec (fun _ _ => 0) (fun _ ih l k => Nat.add (k l) (List.rec 0 (fun z r _ => appK r z fun l' => ih l' k) l)) n
theorem rotS_is (l : List Nat) (k : List Nat → Nat) : ∀ (n i : Nat), i + n ≤ l.length → rotS n (rot i l) k = sumTo n fun j => k (rot (i + j) l)
  | 0, _, _ => rfl
  | n + 1, i, h => by
    obtain ⟨z, r, h1, h2⟩ := rot_succ (l := l) (i := i) (by omega)
    have e : rotS (n + 1) (rot i l) k = k (rot i l) + (List.rec 0 (fun z r _ => appK r z fun l' => rotS n l' k) (rot i l) : Nat) := rfl
    rw [e, h1]
    show k (z :: r) + appK r z (fun l' => rotS n l' k) = _
    rw [appK_is, ← h2, rotS_is l k n (i + 1) (by omega), sumTo_front, ← h1]
    congr 1
    exact sumTo_congr fun j _ => by rw [Nat.add_assoc, Nat.add_comm 1 j]
noncomputable def lenF (l : List Nat) : Nat := List.rec 0 (fun _ _ ih => Nat.succ ih) l
theorem lenF_is : ∀ l : List Nat, lenF l = l.length
  | [] => rfl
  | _ :: l => congrArg Nat.succ (lenF_is l)
noncomputable def turnS (l : List Nat) (k : List Nat → Nat) : Nat := List.rec (k []) (fun z r _ => rotS (Nat.succ (lenF r)) (z :: r) k) l
theorem turnS_cons (z : Nat) (r : List Nat) (k : List Nat → Nat) : turnS (z :: r) k = sumTo (z :: r).length fun i => k (rot i (z :: r)) := by
  have e : turnS (z :: r) k = rotS (Nat.succ (lenF r)) (z :: r) k := rfl
  have h := rotS_is (z :: r) k (Nat.succ r.length) 0 (by simp)
  have e0 : rot 0 (z :: r) = z :: r := by simp [rot]
  rw [e0] at h
  rw [e, lenF_is, h]
  exact sumTo_congr fun j _ => by rw [Nat.zero_add]
noncomputable def sumF (a b c d : List Nat) : Nat := turnS b fun b' => turnS c fun c' => turnS d fun d' => leafF a b' c' d'

def sumTurn (rows : List (List Nat)) (L : List (List Nat) → Nat) : List Nat → List (List Nat) → Nat
  | [], R => L R
  | t :: ts, R => sumTo (rows.getD t []).length fun i => sumTurn rows L ts (R.set t (rot i (rows.getD t [])))
theorem ways_cons (rows : List (List Nat)) (t : Nat) (ts : List Nat) : waysP rows (t :: ts) = (rows.getD t []).length * waysP rows ts := by
  have key : ∀ (ts : List Nat) (w : Nat), ts.foldl (fun w t => w * (rows.getD t []).length) w = w * ts.foldl (fun w t => w * (rows.getD t []).length) 1 := fun ts => by
    induction ts with
    | nil => intro w; simp
    | cons t ts ih =>
      intro w
      rw [List.foldl_cons, List.foldl_cons, ih, ih (1 * _), Nat.one_mul, Nat.mul_assoc]
  unfold waysP
  rw [List.foldl_cons, key, Nat.one_mul]
theorem sumTurn_is (rows : List (List Nat)) (L : List (List Nat) → Nat) : ∀ (ts : List Nat) (R : List (List Nat)), (∀ t ∈ ts, 0 < (rows.getD t []).length) → sumTo (waysP rows ts) (fun n => L (ts.foldl (turnStep rows) (n, R)).2) = sumTurn rows L ts R
  | [], R, _ => by show 0 + L R = L R; rw [Nat.zero_add]
  | t :: ts, R, h => by
    have h0 := h t List.mem_cons_self
    rw [ways_cons]
    have e : ∀ n, L ((t :: ts).foldl (turnStep rows) (n, R)).2 = (fun j i => L (ts.foldl (turnStep rows) (j, R.set t (rot i (rows.getD t [])))).2) (n / (rows.getD t []).length) (n % (rows.getD t []).length) := fun n => rfl
    refine (sumTo_congr fun n _ => e n).trans ((sumTo_mul h0 (fun j i => L (ts.foldl (turnStep rows) (j, R.set t (rot i (rows.getD t [])))).2) _).trans ?_)
    rw [sumTo_swap]
    exact sumTo_congr fun i _ => sumTurn_is rows L ts _ fun t ht => h t (List.mem_cons_of_mem _ ht)
end Mine
namespace Mine

theorem det0 : detP 0 [] = 1 := rfl
theorem det1 (A : Int) : detP 1 [[A]] = A := by simp [detP, minor, List.range_succ]
theorem det2 (A B x y : Int) : detP 2 [[A, -x], [-y, B]] = A * B - x * y := by
  simp [detP, minor, List.range_succ]
  grind
theorem det3 (A B C x12 x13 x21 x23 x31 x32 : Int) : detP 3 [[A, -x12, -x13], [-x21, B, -x23], [-x31, -x32, C]] = A * (B * C) - (A * (x23 * x32) + (B * (x13 * x31) + (C * (x12 * x21) + (x12 * (x23 * x31) + x13 * (x21 * x32))))) := by
  simp [detP, minor, List.range_succ]
  grind

noncomputable def cF (k j : Nat) (l : List Nat) : Nat := List.rec 0 (fun z _ ih => Bool.rec ih (Nat.succ ih) (Nat.beq (Nat.mod (Nat.add k z) 4) j)) l
theorem cF_is (k j : Nat) : ∀ l, cF k j l = l.countP fun z => (k + z) % 4 == j
  | [] => rfl
  | z :: l => by
    have e : cF k j (z :: l) = (Bool.rec (cF k j l) (Nat.succ (cF k j l)) (Nat.beq ((k + z) % 4) j) : Nat) := rfl
    rw [e, List.countP_cons, cF_is k j l]
    have : Nat.beq ((k + z) % 4) j = ((k + z) % 4 == j) := by
      rw [Bool.eq_iff_iff]; simp
    rw [this]
    cases ((k + z) % 4 == j) <;> rfl
theorem cF_le (k j : Nat) (l : List Nat) : cF k j l ≤ l.length := by rw [cF_is]; exact List.countP_le_length
theorem stepsAll4 (a b c d : List Nat) : stepsAll [a, b, c, d] = a.map (fun z => (0, z)) ++ (b.map (fun z => (1, z)) ++ (c.map (fun z => (2, z)) ++ d.map fun z => (3, z))) := by
  unfold stepsAll
  rw [show List.range 4 = [0, 1, 2, 3] from rfl]
  simp [List.flatMap_cons]
theorem part_cnt (p g : Nat) (q : Nat × Nat → Bool) (r : List Nat) : ((r.map fun z => (p, z)).filter fun s => pgoal s == g).countP q = r.countP fun z => q (p, z) && ((p + z) % 4 == g) := by
  rw [List.countP_filter, List.countP_map]; rfl
theorem cnt4 (a b c d : List Nat) (g : Nat) (q : Nat × Nat → Bool) : ((stepsAll [a, b, c, d]).filter fun s => pgoal s == g).countP q = (a.countP fun z => q (0, z) && ((0 + z) % 4 == g)) + ((b.countP fun z => q (1, z) && ((1 + z) % 4 == g)) + ((c.countP fun z => q (2, z) && ((2 + z) % 4 == g)) + (d.countP fun z => q (3, z) && ((3 + z) % 4 == g)))) := by
  rw [stepsAll4]
  simp only [List.filter_append, List.countP_append, part_cnt]
theorem cnt_off (a b c d : List Nat) (g k : Nat) (hk : k < 4) : ((stepsAll [a, b, c, d]).filter fun s => pgoal s == g).countP (fun s => s.1 == k) = cF k g ([a, b, c, d].getD k []) := by
  rw [cnt4, cF_is]
  match k, hk with
  | 0, _ => simp
  | 1, _ => simp
  | 2, _ => simp
  | 3, _ => simp
theorem cnt_diag (a b c d : List Nat) (k : Nat) (h1 : 1 ≤ k) (h4 : k < 4) : ((stepsAll [a, b, c, d]).filter fun s => pgoal s == k).countP (fun s => s.1 != k) = cF 0 k a + ((if k = 1 then 0 else cF 1 k b) + ((if k = 2 then 0 else cF 2 k c) + (if k = 3 then 0 else cF 3 k d))) := by
  rw [cnt4]
  simp only [cF_is]
  match k, h1, h4 with
  | 1, _, _ => simp
  | 2, _, _ => simp
  | 3, _, _ => simp
end Mine
namespace Mine

theorem set_ne_nil {a b : List Nat} (h : a.Perm b) : a.isEmpty = b.isEmpty := by
  have := h.length_eq
  cases a <;> cases b <;> simp_all
theorem turned_form (a b c d : List Nat) : ∀ (ts : List Nat) (n : Nat) (b' c' d' : List Nat), (∀ t ∈ ts, t = 1 ∨ t = 2 ∨ t = 3) → b'.Perm b → c'.Perm c → d'.Perm d →
    ∃ b2 c2 d2, (ts.foldl (turnStep [a, b, c, d]) (n, [a, b', c', d'])).2 = [a, b2, c2, d2] ∧ b2.Perm b ∧ c2.Perm c ∧ d2.Perm d
  | [], n, b', c', d', _, hb, hc, hd => ⟨b', c', d', rfl, hb, hc, hd⟩
  | t :: ts, n, b', c', d', ht, hb, hc, hd => by
    have hts : ∀ t ∈ ts, t = 1 ∨ t = 2 ∨ t = 3 := fun t h => ht t (List.mem_cons_of_mem _ h)
    rcases ht t List.mem_cons_self with rfl | rfl | rfl
    · exact turned_form a b c d ts (n / b.length) (rot (n % b.length) b) c' d' hts (rot_perm _ _) hc hd
    · exact turned_form a b c d ts (n / c.length) b' (rot (n % c.length) c) d' hts hb (rot_perm _ _) hd
    · exact turned_form a b c d ts (n / d.length) b' c' (rot (n % d.length) d) hts hb hc (rot_perm _ _)
theorem towns_mem {b c d : List Nat} {t : Nat} (h : t ∈ townsB b c d) : (t = 1 ∧ b ≠ []) ∨ (t = 2 ∧ c ≠ []) ∨ (t = 3 ∧ d ≠ []) := by
  unfold townsB at h
  cases b <;> cases c <;> cases d <;> simp at h ⊢ <;> omega
theorem townsB_len (b c d : List Nat) : (townsB b c d).length ≤ 3 := by
  unfold townsB
  cases b <;> cases c <;> cases d <;> simp

noncomputable def leafL : List (List Nat) → Nat
  | [a, b, c, d] => leafF a b c d
  | _ => 1000
theorem sumTurn_step (rows : List (List Nat)) (L : List (List Nat) → Nat) (r : List Nat) (t : Nat) (ts : List Nat) (R : List (List Nat)) (hr : rows.getD t [] = r) (hR : r = [] → R.set t [] = R) :
    sumTurn rows L ((if r.isEmpty then [] else [t]) ++ ts) R = turnS r fun r' => sumTurn rows L ts (R.set t r') := by
  cases r with
  | nil =>
    show sumTurn rows L ts R = sumTurn rows L ts (R.set t [])
    rw [hR rfl]
  | cons z r =>
    show sumTo (rows.getD t []).length (fun i => sumTurn rows L ts (R.set t (rot i (rows.getD t [])))) = _
    rw [turnS_cons, hr]
theorem sumTurn_sumF (a b c d : List Nat) : sumTurn [a, b, c, d] leafL (townsB b c d) [a, b, c, d] = sumF a b c d := by
  unfold sumF townsB
  rw [sumTurn_step [a, b, c, d] leafL b 1 _ [a, b, c, d] rfl (fun h => by subst h; rfl)]
  congr 1; funext b'
  show sumTurn [a, b, c, d] leafL _ [a, b', c, d] = _
  rw [sumTurn_step [a, b, c, d] leafL c 2 _ [a, b', c, d] rfl (fun h => by subst h; rfl)]
  congr 1; funext c'
  show sumTurn [a, b, c, d] leafL _ [a, b', c', d] = _
  have := sumTurn_step [a, b, c, d] leafL d 3 [] [a, b', c', d] rfl (fun h => by subst h; rfl)
  rw [List.append_nil] at this
  rw [this]
  rfl

noncomputable def diagF (l : List Nat) (x : Nat) : Nat := List.rec 1 (fun _ _ _ => x) l
noncomputable def dA (a c d : List Nat) : Nat := Nat.add (cF 0 1 a) (Nat.add (cF 2 1 c) (cF 3 1 d))
noncomputable def dB (a b d : List Nat) : Nat := Nat.add (cF 0 2 a) (Nat.add (cF 1 2 b) (cF 3 2 d))
noncomputable def dC (a b c : List Nat) : Nat := Nat.add (cF 0 3 a) (Nat.add (cF 1 3 b) (cF 2 3 c))
noncomputable def detF (b c d : List Nat) (S A B C : Nat) : Bool := Bool.rec false (Nat.ble (Nat.mul A (Nat.mul B C)) 999)
    (Nat.beq (Nat.add S (Nat.add (Nat.mul A (Nat.mul (cF 2 3 c) (cF 3 2 d))) (Nat.add (Nat.mul B (Nat.mul (cF 1 3 b) (cF 3 1 d))) (Nat.add (Nat.mul C (Nat.mul (cF 1 2 b) (cF 2 1 c))) (Nat.add (Nat.mul (cF 1 2 b) (Nat.mul (cF 2 3 c) (cF 3 1 d))) (Nat.mul (cF 1 3 b) (Nat.mul (cF 2 1 c) (cF 3 2 d)))))))) (Nat.mul A (Nat.mul B C)))
noncomputable def chkF (a b c d : List Nat) : Bool := Bool.rec false (detF b c d (sumF a b c d) (diagF b (dA a c d)) (diagF c (dB a b d)) (diagF d (dC a b c))) (Nat.beq (leafF a b c d) 1)
theorem recAnd (x y : Bool) : (Bool.rec false y x : Bool) = (x && y) := by cases x <;> rfl
theorem detF_is {b c d : List Nat} {S A B C : Nat} (h : detF b c d S A B C = true) : S + (A * (cF 2 3 c * cF 3 2 d) + (B * (cF 1 3 b * cF 3 1 d) + (C * (cF 1 2 b * cF 2 1 c) + (cF 1 2 b * (cF 2 3 c * cF 3 1 d) + cF 1 3 b * (cF 2 1 c * cF 3 2 d))))) = A * (B * C) ∧ A * (B * C) ≤ 999 := by
  unfold detF at h
  rw [recAnd, Bool.and_eq_true] at h
  exact ⟨Nat.eq_of_beq_eq_true h.1, Nat.le_of_ble_eq_true h.2⟩

noncomputable def diagN (a b c d : List Nat) : Nat → Nat
  | 1 => dA a c d
  | 2 => dB a b d
  | _ => dC a b c
/-- the square, by counts -/
theorem sq_is {a b c d : List Nat} {book : List Ent} (hb : ∀ k j, k < 4 → j < 4 → ∃ e, book[k]? = some e ∧ e.1 = ((stepsAll [a, b, c, d]).filter fun s => pgoal s == k).countP (fun s => s.1 != k) ∧ (look e.2.2.2.2 j).getD 0 = ((stepsAll [a, b, c, d]).filter fun s => pgoal s == k).countP fun s => s.1 == j)
    (towns : List Nat) (ht : ∀ t ∈ towns, 1 ≤ t ∧ t < 4) : sqOf book towns = towns.map fun k => towns.map fun j => if k = j then ((diagN a b c d k : Nat) : Int) else -((cF k j ([a, b, c, d].getD k []) : Nat) : Int) := by
  unfold sqOf sqRow
  refine List.map_congr_left fun k hk => List.map_congr_left fun j hj => ?_
  obtain ⟨hk1, hk4⟩ := ht k hk
  obtain ⟨hj1, hj4⟩ := ht j hj
  by_cases h : k = j
  · subst h
    rw [if_pos rfl, if_pos rfl]
    obtain ⟨e, he, h1, _⟩ := hb k k hk4 hk4
    rw [getD_of he, h1, cnt_diag a b c d k hk1 hk4]
    congr 1
    match k, hk1, hk4 with
    | 1, _, _ => show _ = cF 0 1 a + (cF 2 1 c + cF 3 1 d); simp
    | 2, _, _ => show _ = cF 0 2 a + (cF 1 2 b + cF 3 2 d); simp
    | 3, _, _ => show _ = cF 0 3 a + (cF 1 3 b + cF 2 3 c); simp
  · rw [if_neg h, if_neg h]
    obtain ⟨e, he, _, h2⟩ := hb j k hj4 hk4
    rw [getD_of he, h2, cnt_off a b c d j k hk4]
theorem det_is {a b c d : List Nat} {S : Nat} (h : detF b c d S (diagF b (dA a c d)) (diagF c (dB a b d)) (diagF d (dC a b c)) = true) {sq : List (List Int)}
    (hsq : sq = (townsB b c d).map fun k => (townsB b c d).map fun j => if k = j then ((diagN a b c d k : Nat) : Int) else -((cF k j ([a, b, c, d].getD k []) : Nat) : Int)) : ((S : Nat) : Int) = detP (townsB b c d).length sq := by
  obtain ⟨h, _⟩ := detF_is h
  subst hsq
  have n0 : ∀ k j, cF k j [] = 0 := fun _ _ => rfl
  have d0 : ∀ x, diagF [] x = 1 := fun _ => rfl
  have d1 : ∀ z r x, diagF (z :: r) x = x := fun _ _ _ => rfl
  cases b with
  | nil =>
    cases c with
    | nil =>
      cases d with
      | nil =>
        have h2 : S = 1 := by simpa [n0, d0] using h
        rw [h2]; rfl
      | cons z r =>
        have h2 : S = dC a [] [] := by simpa [n0, d0, d1] using h
        show (S : Int) = detP 1 [[((dC a [] [] : Nat) : Int)]]
        rw [det1, h2]
    | cons y q =>
      cases d with
      | nil =>
        have h2 : S = dB a [] [] := by simpa [n0, d0, d1] using h
        show (S : Int) = detP 1 [[((dB a [] [] : Nat) : Int)]]
        rw [det1, h2]
      | cons z r =>
        have h2 : S + cF 2 3 (y :: q) * cF 3 2 (z :: r) = dB a [] (z :: r) * dC a [] (y :: q) := by simpa [n0, d0, d1] using h
        show (S : Int) = detP 2 [[((dB a [] (z :: r) : Nat) : Int), -((cF 2 3 (y :: q) : Nat) : Int)], [-((cF 3 2 (z :: r) : Nat) : Int), ((dC a [] (y :: q) : Nat) : Int)]]
        have h3 := congrArg (fun n : Nat => (n : Int)) h2
        simp only [Int.natCast_add, Int.natCast_mul] at h3
        rw [det2]; omega
  | cons x p =>
    cases c with
    | nil =>
      cases d with
      | nil =>
        have h2 : S = dA a [] [] := by simpa [n0, d0, d1] using h
        show (S : Int) = detP 1 [[((dA a [] [] : Nat) : Int)]]
        rw [det1, h2]
      | cons z r =>
        have h2 : S + cF 1 3 (x :: p) * cF 3 1 (z :: r) = dA a [] (z :: r) * dC a (x :: p) [] := by simpa [n0, d0, d1] using h
        show (S : Int) = detP 2 [[((dA a [] (z :: r) : Nat) : Int), -((cF 1 3 (x :: p) : Nat) : Int)], [-((cF 3 1 (z :: r) : Nat) : Int), ((dC a (x :: p) [] : Nat) : Int)]]
        have h3 := congrArg (fun n : Nat => (n : Int)) h2
        simp only [Int.natCast_add, Int.natCast_mul] at h3
        rw [det2]; omega
    | cons y q =>
      cases d with
      | nil =>
        have h2 : S + cF 1 2 (x :: p) * cF 2 1 (y :: q) = dA a (y :: q) [] * dB a (x :: p) [] := by simpa [n0, d0, d1] using h
        show (S : Int) = detP 2 [[((dA a (y :: q) [] : Nat) : Int), -((cF 1 2 (x :: p) : Nat) : Int)], [-((cF 2 1 (y :: q) : Nat) : Int), ((dB a (x :: p) [] : Nat) : Int)]]
        have h3 := congrArg (fun n : Nat => (n : Int)) h2
        simp only [Int.natCast_add, Int.natCast_mul] at h3
        rw [det2]; omega
      | cons z r =>
        have h3 := congrArg (fun n : Nat => (n : Int)) h
        simp only [d1, Int.natCast_add, Int.natCast_mul] at h3
        show (S : Int) = detP 3 [[((dA a (y :: q) (z :: r) : Nat) : Int), -((cF 1 2 (x :: p) : Nat) : Int), -((cF 1 3 (x :: p) : Nat) : Int)], [-((cF 2 1 (y :: q) : Nat) : Int), ((dB a (x :: p) (z :: r) : Nat) : Int), -((cF 2 3 (y :: q) : Nat) : Int)], [-((cF 3 1 (z :: r) : Nat) : Int), -((cF 3 2 (z :: r) : Nat) : Int), ((dC a (x :: p) (y :: q) : Nat) : Int)]]
        rw [det3]; omega
end Mine
namespace Mine

structure PlainR (rows : List (List Nat)) : Prop where
  rows4 : Rows4 rows
  towns : townsOk rows (townsOf rows)
  ways : ∀ i, waysP rows ((townsOf rows).take i) ≤ 100000
  walk : ∃ book, Walked rows book ∧ eqBk book (fullOf rows) = true ∧ SqOk (townsOf rows).length (sqOf book (townsOf rows)) ∧
    ∃ h, (∀ number, number < waysP rows (townsOf rows) → Good rows (townsOf rows) (fullOf rows) number (h number)) ∧ ((wholeN h (waysP rows (townsOf rows)) : Nat) : Int) = detP (townsOf rows).length (sqOf book (townsOf rows))
theorem Plain.of {steps : List Nat} (h : PlainR (rowsOf (allSteps steps))) : Plain steps := ⟨h.rows4, h.towns, h.ways, h.walk⟩

theorem ways_le {rows : List (List Nat)} : ∀ {ts : List Nat}, (∀ t ∈ ts, (rows.getD t []).length ≤ 40) → waysP rows ts ≤ 40 ^ ts.length
  | [], _ => Nat.le_refl _
  | t :: ts, h => by
    rw [ways_cons, List.length_cons, Nat.pow_succ, Nat.mul_comm]
    exact Nat.mul_le_mul (ways_le fun t ht => h t (List.mem_cons_of_mem _ ht)) (h t List.mem_cons_self)

theorem plainR {a b c d : List Nat} (h4 : Rows4 [a, b, c, d]) (hl : ∀ r ∈ [a, b, c, d], r.length ≤ 40) (h : chkF a b c d = true) : PlainR [a, b, c, d] := by
  have la : a.length ≤ 40 := hl a (by simp)
  have lb : b.length ≤ 40 := hl b (by simp)
  have lc : c.length ≤ 40 := hl c (by simp)
  have ld : d.length ≤ 40 := hl d (by simp)
  unfold chkF at h
  rw [recAnd, Bool.and_eq_true] at h
  obtain ⟨h1, hdet⟩ := h
  have h1 : leafF a b c d = 1 := Nat.eq_of_beq_eq_true h1
  have htr : ∀ t ∈ townsB b c d, 1 ≤ t ∧ t < 4 := fun t ht => by
    rcases towns_mem ht with ⟨rfl, _⟩ | ⟨rfl, _⟩ | ⟨rfl, _⟩ <;> decide
  have hrow : ∀ t ∈ townsB b c d, ([a, b, c, d].getD t []).length ≤ 40 ∧ 0 < ([a, b, c, d].getD t []).length ∧ ∃ r, [a, b, c, d][t]? = some r ∧ r ≠ [] ∧ r.length ≤ 1000 := fun t ht => by
    rcases towns_mem ht with ⟨rfl, hne⟩ | ⟨rfl, hne⟩ | ⟨rfl, hne⟩
    · exact ⟨lb, List.length_pos_iff.mpr hne, b, rfl, hne, by omega⟩
    · exact ⟨lc, List.length_pos_iff.mpr hne, c, rfl, hne, by omega⟩
    · exact ⟨ld, List.length_pos_iff.mpr hne, d, rfl, hne, by omega⟩
  have hsum := sumTurn_is [a, b, c, d] leafL (townsB b c d) [a, b, c, d] fun t ht => (hrow t ht).2.1
  rw [sumTurn_sumF] at hsum
  have hS : sumF a b c d < 1000 := by
    obtain ⟨e1, e2⟩ := detF_is hdet
    omega
  have hleaf : ∀ n, n < waysP [a, b, c, d] (townsB b c d) → leafL (turnedP [a, b, c, d] (townsB b c d) n) < 1000 := fun n hn => by
    have := sumTo_le (f := fun n => leafL ((townsB b c d).foldl (turnStep [a, b, c, d]) (n, [a, b, c, d])).2) hn
    rw [hsum] at this
    exact Nat.lt_of_le_of_lt this hS
  have hform : ∀ n, ∃ b2 c2 d2, turnedP [a, b, c, d] (townsB b c d) n = [a, b2, c2, d2] ∧ b2.Perm b ∧ c2.Perm c ∧ d2.Perm d := fun n =>
    turned_form a b c d (townsB b c d) n b c d (fun t ht => by rcases towns_mem ht with ⟨rfl, _⟩ | ⟨rfl, _⟩ | ⟨rfl, _⟩ <;> simp) (.refl _) (.refl _) (.refl _)
  have htB : townsOf [a, b, c, d] = townsB b c d := townsB_is a b c d
  refine ⟨h4, ?_, fun i => ?_, ?_⟩
  · rw [htB]; exact fun t ht => (hrow t ht).2.2
  · rw [htB]
    refine Nat.le_trans (ways_le fun t ht => (hrow t (List.mem_of_mem_take ht)).1) ?_
    refine Nat.le_trans (Nat.pow_le_pow_right (by decide) (Nat.le_trans (List.length_take_le' _ _) (townsB_len b c d))) (by decide)
  · rw [htB]
    rcases leafF_is (show leafF a b c d < 1000 by omega) with ⟨_, _, h0⟩ | ⟨hg, hh, _⟩
    · rw [h1] at h0; cases h0
    obtain ⟨book, hw, _, _, heq, hsq⟩ := leaf_walk (rows := [a, b, c, d]) ⟨h4, .refl _, .refl _, .refl _, .refl _⟩ (by rw [hg]; decide)
    rw [hg] at heq
    have hsq := sq_is (hsq hg) (townsB b c d) htr
    refine ⟨book, hw, heq, ?_, fun n => leafL (turnedP [a, b, c, d] (townsB b c d) n) == 1, fun n hn => ?_, ?_⟩
    · rw [hsq]
      refine ⟨by simp, fun r hr => ?_, fun r hr x hx => ?_, Nat.le_trans (townsB_len b c d) (by decide)⟩
      · obtain ⟨k, _, rfl⟩ := List.mem_map.mp hr
        simp
      · obtain ⟨k, hk, rfl⟩ := List.mem_map.mp hr
        obtain ⟨j, _, rfl⟩ := List.mem_map.mp hx
        have hA : dA a c d ≤ 120 := by
          have h1 := cF_le 0 1 a; have h2 := cF_le 2 1 c; have h3 := cF_le 3 1 d
          show cF 0 1 a + (cF 2 1 c + cF 3 1 d) ≤ 120; omega
        have hB : dB a b d ≤ 120 := by
          have h1 := cF_le 0 2 a; have h2 := cF_le 1 2 b; have h3 := cF_le 3 2 d
          show cF 0 2 a + (cF 1 2 b + cF 3 2 d) ≤ 120; omega
        have hC : dC a b c ≤ 120 := by
          have h1 := cF_le 0 3 a; have h2 := cF_le 1 3 b; have h3 := cF_le 2 3 c
          show cF 0 3 a + (cF 1 3 b + cF 2 3 c) ≤ 120; omega
        have hc := cF_le k j ([a, b, c, d].getD k [])
        have hk40 := (hrow k hk).1
        have hD : diagN a b c d k ≤ 120 := by
          obtain ⟨k1, k4⟩ := htr k hk
          match k, k1, k4 with
          | 1, _, _ => exact hA
          | 2, _, _ => exact hB
          | 3, _, _ => exact hC
        split <;> omega
    · obtain ⟨b2, c2, d2, e, pb, pc, pd⟩ := hform n
      have hr4 : Rows4 [a, b2, c2, d2] := e ▸ Rows4.turned h4 (townsB b c d) (n, [a, b, c, d]) h4
      have hlf := hleaf n hn
      rw [e] at hlf
      have hlf : leafF a b2 c2 d2 < 1000 := hlf
      have hT : townsB b c d = townsB b2 c2 d2 := by
        unfold townsB
        rw [set_ne_nil pb, set_ne_nil pc, set_ne_nil pd]
      have fin : ∀ v, goF 8 0 a b2 c2 d2 = v → homeF b2 c2 d2 = v → leafF a b2 c2 d2 = v → v ≠ 2 → Good [a, b, c, d] (townsB b c d) (fullOf [a, b, c, d]) n (leafL (turnedP [a, b, c, d] (townsB b c d) n) == 1) := fun v h1 h2 h3 hv => by
        obtain ⟨bk, w1, w2, w3, w4, _⟩ := leaf_walk (rows := [a, b, c, d]) ⟨hr4, .refl _, pb, pc, pd⟩ (by rw [h1]; exact hv)
        refine ⟨bk, by rw [e]; exact w1, w2, w3, ?_, ?_⟩
        · rw [e, hT, homeF_is (a := a) (by rw [h2]; exact hv), h2]
          show some (v == 1) = some (leafF a b2 c2 d2 == 1)
          rw [h3]
        · rw [w4, h1, e]
          show (v == 1) = (leafF a b2 c2 d2 == 1)
          rw [h3]
      rcases leafF_is hlf with ⟨g1, g2, g3⟩ | ⟨g1, g2, g3⟩
      · exact fin 0 g1 g2 g3 (by decide)
      · exact fin 1 g1 g2 g3 (by decide)
    · have hwh : wholeN (fun n => leafL (turnedP [a, b, c, d] (townsB b c d) n) == 1) (waysP [a, b, c, d] (townsB b c d)) = sumF a b c d := by
        rw [wholeN_sum, ← hsum]
        refine sumTo_congr fun n hn => ?_
        obtain ⟨b2, c2, d2, e, _⟩ := hform n
        have hlf := hleaf n hn
        show (if (leafL (turnedP [a, b, c, d] (townsB b c d) n) == 1) = true then 1 else 0) = leafL (turnedP [a, b, c, d] (townsB b c d) n)
        rw [e] at hlf ⊢
        have hlf : leafF a b2 c2 d2 < 1000 := hlf
        show (if (leafF a b2 c2 d2 == 1) = true then 1 else 0) = leafF a b2 c2 d2
        rcases leafF_is hlf with ⟨_, _, g3⟩ | ⟨_, _, g3⟩ <;> rw [g3] <;> rfl
      rw [hwh]
      exact det_is hdet hsq
end Mine
namespace Mine

abbrev Quad := List Nat × List Nat × List Nat × List Nat
def consAt (p z : Nat) (Q : Quad) : Quad := match p with
  | 0 => (z :: Q.1, Q.2.1, Q.2.2.1, Q.2.2.2)
  | 1 => (Q.1, z :: Q.2.1, Q.2.2.1, Q.2.2.2)
  | 2 => (Q.1, Q.2.1, z :: Q.2.2.1, Q.2.2.2)
  | _ => (Q.1, Q.2.1, Q.2.2.1, z :: Q.2.2.2)
def preQ : List Nat → Nat → Quad → Quad
  | [], _, Q => Q
  | z :: zs, p, Q => consAt p z (preQ zs ((p + z) % 4) Q)
def rowsQ (Q : Quad) : List (List Nat) := [Q.1, Q.2.1, Q.2.2.1, Q.2.2.2]
theorem preQ_snoc (z : Nat) (Q : Quad) : ∀ (zs : List Nat) (p : Nat), p < 4 → preQ (zs ++ [z]) p Q = preQ zs p (consAt ((p + zs.sum) % 4) z Q)
  | [], p, hp => by
    show consAt p z Q = consAt ((p + 0) % 4) z Q
    rw [Nat.add_zero, Nat.mod_eq_of_lt hp]
  | y :: zs, p, hp => by
    show consAt p y (preQ (zs ++ [z]) ((p + y) % 4) Q) = consAt p y (preQ zs ((p + y) % 4) (consAt ((p + (y :: zs).sum) % 4) z Q))
    rw [preQ_snoc z Q zs _ (Nat.mod_lt _ (by decide))]
    have : ((p + y) % 4 + zs.sum) % 4 = (p + (y :: zs).sum) % 4 := by
      rw [List.sum_cons]; omega
    rw [this]

def appQ (R Q : Quad) : List (List Nat) := [R.1 ++ Q.1, R.2.1 ++ Q.2.1, R.2.2.1 ++ Q.2.2.1, R.2.2.2 ++ Q.2.2.2]
theorem foldR : ∀ (zs : List Nat) (p : Nat) (A B C D : List Nat), p < 4 → (zs.foldl stepR (p, [A, B, C, D])).2 = appQ (A, B, C, D) (preQ zs p ([], [], [], []))
  | [], p, A, B, C, D, _ => by simp [appQ, preQ]
  | z :: zs, p, A, B, C, D, hp => by
    rw [List.foldl_cons]
    have hm : (p + z) % 4 < 4 := Nat.mod_lt _ (by decide)
    match p, hp with
    | 0, _ =>
      show (zs.foldl stepR ((0 + z) % 4, [A ++ [z], B, C, D])).2 = _
      rw [foldR zs _ _ _ _ _ hm]
      show _ = appQ (A, B, C, D) (consAt 0 z (preQ zs ((0 + z) % 4) ([], [], [], [])))
      simp [appQ, consAt]
    | 1, _ =>
      show (zs.foldl stepR ((1 + z) % 4, [A, B ++ [z], C, D])).2 = _
      rw [foldR zs _ _ _ _ _ hm]
      show _ = appQ (A, B, C, D) (consAt 1 z (preQ zs ((1 + z) % 4) ([], [], [], [])))
      simp [appQ, consAt]
    | 2, _ =>
      show (zs.foldl stepR ((2 + z) % 4, [A, B, C ++ [z], D])).2 = _
      rw [foldR zs _ _ _ _ _ hm]
      show _ = appQ (A, B, C, D) (consAt 2 z (preQ zs ((2 + z) % 4) ([], [], [], [])))
      simp [appQ, consAt]
    | 3, _ =>
      show (zs.foldl stepR ((3 + z) % 4, [A, B, C, D ++ [z]])).2 = _
      rw [foldR zs _ _ _ _ _ hm]
      show _ = appQ (A, B, C, D) (consAt 3 z (preQ zs ((3 + z) % 4) ([], [], [], [])))
      simp [appQ, consAt]
theorem rowsOf_is (zs : List Nat) : rowsOf zs = rowsQ (preQ zs 0 ([], [], [], [])) := by
  unfold rowsOf
  rw [foldR zs 0 [] [] [] [] (by decide)]
  simp [appQ, rowsQ]

/-- all walks, from their end -/
noncomputable def enumF (n : Nat) : Nat → List Nat → List Nat → List Nat → List Nat → Bool := Nat.rec
  (fun p a b c d => Nat.rec (chkF (4 :: a) b c d) (fun q _ => Nat.rec (chkF (1 :: a) b c d) (fun q _ => Nat.rec (chkF (2 :: a) b c d) (fun _ _ => chkF (3 :: a) b c d) q) q) p)
  (fun _ ih p a b c d =>
    (fun br : Nat → Bool => Bool.rec false (Bool.rec false (Bool.rec false (br 1) (br 2)) (br 3)) (br 4))
      fun z => Nat.rec (ih 0 (z :: a) b c d) (fun q' _ => Nat.rec (ih 1 a (z :: b) c d) (fun q' _ => Nat.rec (ih 2 a b (z :: c) d) (fun _ _ => ih 3 a b c (z :: d)) q') q') (Nat.mod (Nat.sub (Nat.add p 4) z) 4)) n
noncomputable def enumQ (n p : Nat) (Q : Quad) : Bool := enumF n p Q.1 Q.2.1 Q.2.2.1 Q.2.2.2
theorem enum_disp (n q z : Nat) (Q : Quad) (hq : q < 4) : (Nat.rec (enumF n 0 (z :: Q.1) Q.2.1 Q.2.2.1 Q.2.2.2) (fun q' _ => Nat.rec (enumF n 1 Q.1 (z :: Q.2.1) Q.2.2.1 Q.2.2.2) (fun q' _ => Nat.rec (enumF n 2 Q.1 Q.2.1 (z :: Q.2.2.1) Q.2.2.2) (fun _ _ => enumF n 3 Q.1 Q.2.1 Q.2.2.1 (z :: Q.2.2.2)) q') q') q : Bool) = enumQ n q (consAt q z Q) := by
  match q, hq with
  | 0, _ | 1, _ | 2, _ | 3, _ => rfl
theorem enum_succ (n p : Nat) (Q : Quad) : enumQ (n + 1) p Q = (enumQ n ((p + 4 - 4) % 4) (consAt ((p + 4 - 4) % 4) 4 Q) && (enumQ n ((p + 4 - 3) % 4) (consAt ((p + 4 - 3) % 4) 3 Q) && (enumQ n ((p + 4 - 2) % 4) (consAt ((p + 4 - 2) % 4) 2 Q) && enumQ n ((p + 4 - 1) % 4) (consAt ((p + 4 - 1) % 4) 1 Q)))) := by
  have hm : ∀ x, x % 4 < 4 := fun x => Nat.mod_lt _ (by decide)
  rw [← enum_disp n _ 4 Q (hm _), ← enum_disp n _ 3 Q (hm _), ← enum_disp n _ 2 Q (hm _), ← enum_disp n _ 1 Q (hm _)]
  rw [← recAnd, ← recAnd, ← recAnd]
  rfl
theorem enum_step {n p q z : Nat} {Q : Quad} (h : enumQ (n + 1) p Q = true) (hp : p < 4) (hq : q < 4) (h1 : 1 ≤ z) (h4 : z ≤ 4) (hqz : (q + z) % 4 = p) : enumQ n q (consAt q z Q) = true := by
  rw [enum_succ, Bool.and_eq_true, Bool.and_eq_true, Bool.and_eq_true] at h
  obtain ⟨k4, k3, k2, k1⟩ := h
  have e : (p + 4 - z) % 4 = q := by omega
  match z, h1, h4 with
  | 1, _, _ => rw [e] at k1; exact k1
  | 2, _, _ => rw [e] at k2; exact k2
  | 3, _, _ => rw [e] at k3; exact k3
  | 4, _, _ => rw [e] at k4; exact k4
theorem enum_zero {p z1 : Nat} {Q : Quad} (h : enumQ 0 p Q = true) (h1 : 1 ≤ z1) (h4 : z1 ≤ 4) (hz : z1 % 4 = p) : chkF (z1 :: Q.1) Q.2.1 Q.2.2.1 Q.2.2.2 = true := by
  subst hz
  match z1, h1, h4 with
  | 1, _, _ | 2, _, _ | 3, _, _ | 4, _, _ => exact h
theorem enum_sound : ∀ (n p : Nat) (Q : Quad) (z1 : Nat) (zs : List Nat), enumQ n p Q = true → p < 4 → zs.length = n → 1 ≤ z1 → z1 ≤ 4 → (∀ z ∈ zs, 1 ≤ z ∧ z ≤ 4) → (z1 + zs.sum) % 4 = p → ∃ Q', preQ (z1 :: zs) 0 Q = Q' ∧ chkF Q'.1 Q'.2.1 Q'.2.2.1 Q'.2.2.2 = true := by
  intro n
  induction n with
  | zero =>
    intro p Q z1 zs h hp hl h1 h4 hz hs
    have : zs = [] := List.length_eq_zero_iff.mp hl
    subst this
    exact ⟨_, rfl, enum_zero h h1 h4 (by simpa using hs)⟩
  | succ n ih =>
    intro p Q z1 zs h hp hl h1 h4 hz hs
    obtain ⟨zs', z, rfl⟩ : ∃ zs' z, zs = zs' ++ [z] := by
      rcases List.eq_nil_or_concat zs with rfl | ⟨l, b, e⟩
      · cases hl
      · exact ⟨l, b, by simpa using e⟩
    obtain ⟨hz1, hz4⟩ := hz z (by simp)
    have hq : (z1 + zs'.sum) % 4 < 4 := Nat.mod_lt _ (by decide)
    have hstep := enum_step (q := (z1 + zs'.sum) % 4) h hp hq hz1 hz4 (by
      rw [List.sum_append, List.sum_singleton] at hs
      omega)
    obtain ⟨Q', e, hc⟩ := ih _ _ z1 zs' hstep hq (by simpa using hl) h1 h4 (fun y hy => hz y (List.mem_append_left _ hy)) rfl
    refine ⟨Q', ?_, hc⟩
    rw [← e, ← List.cons_append, preQ_snoc z Q (z1 :: zs') 0 (by decide), List.sum_cons, Nat.zero_add]

theorem enum_of {n p : Nat} {Q : Quad} (k4 : enumQ n ((p + 4 - 4) % 4) (consAt ((p + 4 - 4) % 4) 4 Q) = true) (k3 : enumQ n ((p + 4 - 3) % 4) (consAt ((p + 4 - 3) % 4) 3 Q) = true) (k2 : enumQ n ((p + 4 - 2) % 4) (consAt ((p + 4 - 2) % 4) 2 Q) = true) (k1 : enumQ n ((p + 4 - 1) % 4) (consAt ((p + 4 - 1) % 4) 1 Q) = true) : enumQ (n + 1) p Q = true := by
  rw [enum_succ, k4, k3, k2, k1]; rfl
theorem e44 : enumF 4 0 [4, 4] [] [] [] = true := by decide +kernel
theorem e43 : enumF 4 1 [4] [3] [] [] = true := by decide +kernel
theorem e42 : enumF 4 2 [4] [] [2] [] = true := by decide +kernel
theorem e41 : enumF 4 3 [4] [] [] [1] = true := by decide +kernel
theorem e34 : enumF 4 1 [] [4, 3] [] [] = true := by decide +kernel
theorem e33 : enumF 4 2 [] [3] [3] [] = true := by decide +kernel
theorem e32 : enumF 4 3 [] [3] [] [2] = true := by decide +kernel
theorem e31 : enumF 4 0 [1] [3] [] [] = true := by decide +kernel
theorem e24 : enumF 4 2 [] [] [4, 2] [] = true := by decide +kernel
theorem e23 : enumF 4 3 [] [] [2] [3] = true := by decide +kernel
theorem e22 : enumF 4 0 [2] [] [2] [] = true := by decide +kernel
theorem e21 : enumF 4 1 [] [1] [2] [] = true := by decide +kernel
theorem e14 : enumF 4 3 [] [] [] [4, 1] = true := by decide +kernel
theorem e13 : enumF 4 0 [3] [] [] [1] = true := by decide +kernel
theorem e12 : enumF 4 1 [] [2] [] [1] = true := by decide +kernel
theorem e11 : enumF 4 2 [] [] [1] [1] = true := by decide +kernel
theorem enum_all : enumQ 6 0 ([], [], [], []) = true := enum_of (enum_of e44 e43 e42 e41) (enum_of e34 e33 e32 e31) (enum_of e24 e23 e22 e21) (enum_of e14 e13 e12 e11)

theorem consAt_rows {p z : Nat} {Q : Quad} {r : List Nat} (h : r ∈ rowsQ (consAt p z Q)) : r ∈ rowsQ Q ∨ ∃ r0, r0 ∈ rowsQ Q ∧ r = z :: r0 := by
  match p with
  | 0 =>
    simp only [rowsQ, consAt, List.mem_cons, List.not_mem_nil, or_false] at h ⊢
    rcases h with h | h | h | h
    · exact .inr ⟨_, .inl rfl, h⟩
    · exact .inl (.inr (.inl h))
    · exact .inl (.inr (.inr (.inl h)))
    · exact .inl (.inr (.inr (.inr h)))
  | 1 =>
    simp only [rowsQ, consAt, List.mem_cons, List.not_mem_nil, or_false] at h ⊢
    rcases h with h | h | h | h
    · exact .inl (.inl h)
    · exact .inr ⟨_, .inr (.inl rfl), h⟩
    · exact .inl (.inr (.inr (.inl h)))
    · exact .inl (.inr (.inr (.inr h)))
  | 2 =>
    simp only [rowsQ, consAt, List.mem_cons, List.not_mem_nil, or_false] at h ⊢
    rcases h with h | h | h | h
    · exact .inl (.inl h)
    · exact .inl (.inr (.inl h))
    · exact .inr ⟨_, .inr (.inr (.inl rfl)), h⟩
    · exact .inl (.inr (.inr (.inr h)))
  | p + 3 =>
    simp only [rowsQ, consAt, List.mem_cons, List.not_mem_nil, or_false] at h ⊢
    rcases h with h | h | h | h
    · exact .inl (.inl h)
    · exact .inl (.inr (.inl h))
    · exact .inl (.inr (.inr (.inl h)))
    · exact .inr ⟨_, .inr (.inr (.inr rfl)), h⟩
theorem preQ_rows : ∀ (zs : List Nat) (p : Nat), (∀ z ∈ zs, 1 ≤ z ∧ z ≤ 4) → ∀ r ∈ rowsQ (preQ zs p ([], [], [], [])), r.length ≤ zs.length ∧ ∀ z ∈ r, 1 ≤ z ∧ z ≤ 4
  | [], p, _, r, hr => by
    simp only [rowsQ, preQ, List.mem_cons, List.not_mem_nil, or_false, or_self] at hr
    subst hr
    exact ⟨Nat.le_refl _, fun z hz => nomatch hz⟩
  | y :: zs, p, h, r, hr => by
    have ih := preQ_rows zs ((p + y) % 4) fun z hz => h z (List.mem_cons_of_mem _ hz)
    rcases consAt_rows hr with hr | ⟨r0, hr0, rfl⟩
    · obtain ⟨h1, h2⟩ := ih r hr
      exact ⟨by rw [List.length_cons]; omega, h2⟩
    · obtain ⟨h1, h2⟩ := ih r0 hr0
      refine ⟨by rw [List.length_cons, List.length_cons]; omega, fun z hz => ?_⟩
      rcases List.mem_cons.mp hz with rfl | hz
      · exact h z List.mem_cons_self
      · exact h2 z hz

theorem plain_all (ns : List Int) : Plain (stepsOf ns) := by
  refine Plain.of ?_
  have hst : ∀ z ∈ stepsOf ns, 1 ≤ z ∧ z ≤ 4 := fun z hz => by
    obtain ⟨k, _, rfl⟩ := List.mem_map.mp hz
    exact (stepZ_is ns k).2
  have hsl : (stepsOf ns).length = 6 := by simp [stepsOf]
  generalize stepsOf ns = steps at hst hsl
  cases steps with
  | nil => cases hsl
  | cons z1 zs =>
    have hz1 := hst z1 List.mem_cons_self
    have hlast : 1 ≤ 4 - (z1 :: zs).sum % 4 ∧ 4 - (z1 :: zs).sum % 4 ≤ 4 := by omega
    have hall : ∀ z ∈ zs ++ [4 - (z1 :: zs).sum % 4], 1 ≤ z ∧ z ≤ 4 := fun z hz => by
      rcases List.mem_append.mp hz with hz | hz
      · exact hst z (List.mem_cons_of_mem _ hz)
      · rw [List.mem_singleton.mp hz]; exact hlast
    obtain ⟨Q, e, hc⟩ := enum_sound 6 0 ([], [], [], []) z1 (zs ++ [4 - (z1 :: zs).sum % 4]) enum_all (by decide) (by simpa using hsl) hz1.1 hz1.2 hall (by
      rw [List.sum_append, List.sum_singleton, List.sum_cons]
      omega)
    have hr : rowsOf (allSteps (z1 :: zs)) = rowsQ Q := by rw [rowsOf_is, ← e]; rfl
    have hlen : ∀ r ∈ rowsQ Q, r.length ≤ 7 ∧ ∀ z ∈ r, 1 ≤ z ∧ z ≤ 4 := by
      rw [← e]
      have hall' : ∀ z ∈ z1 :: (zs ++ [4 - (z1 :: zs).sum % 4]), 1 ≤ z ∧ z ≤ 4 := fun z hz => (List.mem_cons.mp hz).elim (fun q => q ▸ hz1) (hall z)
      have hl7 : (z1 :: (zs ++ [4 - (z1 :: zs).sum % 4])).length = 7 := by simpa using hsl
      exact fun r hr => hl7 ▸ preQ_rows _ 0 hall' r hr
    rw [hr]
    exact plainR ⟨rfl, fun r hr => by have := (hlen r hr).1; omega, fun r hr => (hlen r hr).2⟩ (fun r hr => by have := (hlen r hr).1; omega) hc
end Mine
namespace Mine
open PySem PySem.Spec PySem.Calls PyProof.Rows PySem.W

section
variable {q : Program} {loose : List Str} {mean : ExcName → Option Value} {mg mb : Str → Option Value} {h : Heap}
theorem fn_top {p : Program} {w : World} (T : Top q loose mean mg mb h) (i k : Nat) (e : (recsOf q)[k]? = some ⟨(rec i).name, (rec i).params, (rec i).body, (rec i).scope, (rec i).pos⟩) : ∃ a pm cd doc, FnAt ⟨(p, w), h, mg, mb⟩ i a pm cd doc := by
  obtain ⟨a, o, pm, cd, doc, h1, h2, h3, h4⟩ := T.fn _ (List.mem_of_getElem? e)
  exact ⟨a, pm, cd, doc, h1, ⟨o, h2, h3⟩, h4⟩
theorem blt_top (T : Top q loose mean mg mb h) {x : Str} {v : Value} (h1 : x ∉ startupNames) (h2 : x ∉ loose) (h3 : x ∉ (recsOf q).map (·.name)) (h4 : x ∉ (litsOf q).map (·.1)) (h5 : x ∉ (clssOf q loose).map (·.name)) (h6 : x ≠ "__name__") (h7 : bootBuiltins x = some v) : mg x = none ∧ mb x = some v :=
  ⟨T.free x h1 h2 h3 h4 h5, (T.builtins x h6).trans h7⟩
theorem const_top (T : Top q loose mean mg mb h) {x : Str} {i : Int} (e : valOf q x = some (.int i)) : ∃ t, mg x = some (.int i t) := by
  obtain ⟨v, h1, h2⟩ := T.const x _ e
  cases h2 h with
  | int _ t => exact ⟨t, h1⟩
theorem sys_top (T : Top q loose mean mg mb h) (e : importsNone q = true) : ∃ o, h.get? sysModules = some o := by
  obtain ⟨mm, ⟨o, _, _, ho, _⟩, _⟩ := (T.seer e).mods
  exact ⟨o, ho⟩
end
end Mine
open PySem PySem.W PyProof.Rows
set_option maxRecDepth 100000 in
set_option maxHeartbeats 8000000 in
theorem PySem.Challenge.cw_pe0040_01_holds : PySem.Challenge.rw_pe0040_01.Holds := by
  w_on
  o_law
  o_head Hook.none
  case hw => w_witness2
  intro w s₀ s₁ mg mb G Y fa o pm cd doc dV kV ho hd hcd hD hmg hg args vals as hpre hlay hrd hwl hlo
  clear ho hd hcd hD Y
  refine Ground.open G ?_
  intro T B D TE TW
  clear B D TE TW
  wrow_args hpre hlay hrd hwl hlo
  rename_i ns _ _ _ _ _ _ _ la vs _ hL _ w1 _ hI _ hc1 _
  have top : Mine.Tp.Ok ⟨(Challenge.rw_pe0040_01.row.prog, w), s₁.heap, mg, mb⟩ := ⟨T.nolimit, T.g, T.b⟩
  have blts : Mine.Blts ⟨(Challenge.rw_pe0040_01.row.prog, w), s₁.heap, mg, mb⟩ :=
    ⟨Mine.blt_top T (by decide +kernel) (by decide +kernel) (by decide +kernel) (by decide +kernel) (by decide +kernel) (by decide) (by kernel_rfl), Mine.blt_top T (by decide +kernel) (by decide +kernel) (by decide +kernel) (by decide +kernel) (by decide +kernel) (by decide) (by kernel_rfl),
      Mine.blt_top T (by decide +kernel) (by decide +kernel) (by decide +kernel) (by decide +kernel) (by decide +kernel) (by decide) (by kernel_rfl), Mine.blt_top T (by decide +kernel) (by decide +kernel) (by decide +kernel) (by decide +kernel) (by decide +kernel) (by decide) (by kernel_rfl),
      Mine.blt_top T (by decide +kernel) (by decide +kernel) (by decide +kernel) (by decide +kernel) (by decide +kernel) (by decide) (by kernel_rfl), Mine.blt_top T (by decide +kernel) (by decide +kernel) (by decide +kernel) (by decide +kernel) (by decide +kernel) (by decide) (by kernel_rfl), Mine.sys_top T (by kernel_rfl)⟩
  obtain ⟨_, _, _, _, at1⟩ := Mine.fn_top (p := Challenge.rw_pe0040_01.row.prog) (w := w) T 1 0 (by kernel_rfl)
  obtain ⟨_, _, _, _, at2⟩ := Mine.fn_top (p := Challenge.rw_pe0040_01.row.prog) (w := w) T 2 1 (by kernel_rfl)
  obtain ⟨_, _, _, _, at3⟩ := Mine.fn_top (p := Challenge.rw_pe0040_01.row.prog) (w := w) T 3 2 (by kernel_rfl)
  obtain ⟨_, _, _, _, at6⟩ := Mine.fn_top (p := Challenge.rw_pe0040_01.row.prog) (w := w) T 6 3 (by kernel_rfl)
  obtain ⟨_, _, _, _, at8⟩ := Mine.fn_top (p := Challenge.rw_pe0040_01.row.prog) (w := w) T 8 4 (by kernel_rfl)
  obtain ⟨_, _, _, _, at9⟩ := Mine.fn_top (p := Challenge.rw_pe0040_01.row.prog) (w := w) T 9 5 (by kernel_rfl)
  obtain ⟨_, _, _, _, at10⟩ := Mine.fn_top (p := Challenge.rw_pe0040_01.row.prog) (w := w) T 10 6 (by kernel_rfl)
  obtain ⟨_, _, _, _, at11⟩ := Mine.fn_top (p := Challenge.rw_pe0040_01.row.prog) (w := w) T 11 7 (by kernel_rfl)
  obtain ⟨_, _, _, _, at12⟩ := Mine.fn_top (p := Challenge.rw_pe0040_01.row.prog) (w := w) T 12 8 (by kernel_rfl)
  obtain ⟨_, _, _, _, at13⟩ := Mine.fn_top (p := Challenge.rw_pe0040_01.row.prog) (w := w) T 13 9 (by kernel_rfl)
  obtain ⟨_, _, _, _, at14⟩ := Mine.fn_top (p := Challenge.rw_pe0040_01.row.prog) (w := w) T 14 10 (by kernel_rfl)
  obtain ⟨_, _, _, _, at15⟩ := Mine.fn_top (p := Challenge.rw_pe0040_01.row.prog) (w := w) T 15 11 (by kernel_rfl)
  have hcm := Mine.const_top (x := Str.ofString "CHAR_MAX") (i := 127) T (by kernel_rfl)
  have F := Mine.law_fn top blts at15 at1 at2 at3 at6 at8 at9 at10 at11 at12 at13 at14 hcm (Mine.plain_all ns)
  have hfa := Value.ref.inj (Option.some.inj (hmg.symm.trans at15.name))
  rw [← hfa] at F
  clear hfa hmg at1 at2 at3 at6 at8 at9 at10 at11 at12 at13 at14 at15 hcm blts top
  refine Mine.join (T := ⟨(Challenge.rw_pe0040_01.row.prog, w), s₁.heap, mg, mb⟩) (vs := vs) (G := fun s' => OldK s₁.heap s'.heap ∧ s'.os = s₁.os ∧ AllBare s'.gens) rfl F hg (Mine.well_list w1 hL) hI (by omega) (fun s' h1 h2 h3 => ⟨h1, h2, h3⟩) fun s' h => ?_
  refine ⟨.inl ⟨.bool true, .bool true, [], rfl, fun cls => ?_, .bool true, ?_, ?_⟩, h⟩
  · rfl
  · first | rfl | wrow_post
  · exact fun _ => ⟨List.nodup_nil, fun a h => nomatch h⟩
