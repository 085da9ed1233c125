import PyProof.Rows.All
import Wide.All
import OpenK.AllK
import Wide.FinOn
import PySem.Challenge.RW_ph0004_04
open PySem PySem.W PySem.Calls PyProof.Rows
set_option Elab.async false
set_option linter.unusedVariables false
set_option autoImplicit false
set_option maxRecDepth 100000
set_option maxHeartbeats 8000000
namespace Mine

/-- pure data -/
inductive PV where
  | none
  | bool (b : Bool)
  | int (i : Int)
  | str (s : Str)
  | bytes (b : Array UInt8)
  | list (xs : List PV)
  | tuple (xs : List PV)
  | range (a b c : Int)
deriving Inhabited

def Ext (h h' : Heap) : Prop := ∀ b o, h.get? b = some o → h'.get? b = some o
theorem Ext.refl (h : Heap) : Ext h h := fun _ _ e => e
theorem Ext.trans {h h' h'' : Heap} (x : Ext h h') (y : Ext h' h'') : Ext h h'' := fun b o e => y b o (x b o e)
theorem Ext.push (h : Heap) (o : Obj) : Ext h (h.push o) := fun _ _ e => Heap.get?_push_of_some o e
theorem get_lt {h : Heap} {a : Addr} {o : Obj} (e : h.get? a = some o) : a < h.objs.size := Heap.lt_size e

def Solid (o : Obj) : Prop := (∃ xs n, o.data = .seq xs n) ∨ (o.cls = .type "range" ∧ ∃ vs, o.data = .fields vs)
theorem Solid.no_dict {o : Obj} (s : Solid o) {es : Array DictEntry} {ep : Nat} : o.data ≠ .dict es ep := fun e => by
  rcases s with ⟨_, _, q⟩ | ⟨_, _, q⟩ <;> (rw [e] at q; cases q)
theorem Solid.no_cell {o : Obj} (s : Solid o) {v : Option Value} : o.data ≠ .cell v := fun e => by
  rcases s with ⟨_, _, q⟩ | ⟨_, _, q⟩ <;> (rw [e] at q; cases q)
theorem Solid.no_iter {o : Obj} (s : Solid o) {vs : Array Value} (hd : o.data = .fields vs) (hc : o.cls ≠ .type "range") : False := by
  rcases s with ⟨_, _, q⟩ | ⟨q, _⟩
  · rw [hd] at q; cases q
  · exact hc q

def PlainTup (h : Heap) (a : Addr) (items : Array Value) : Prop := ∃ n, h.get? a = some { cls := .type "tuple", data := .seq items n }
/-- a value that stands for a datum; its objects are none of O -/
inductive Rep (O : Addr → Prop) (h : Heap) : Value → PV → Prop where
  | none : Rep O h .none .none
  | bool (b : Bool) : Rep O h (.bool b) (.bool b)
  | int (i : Int) (t : Tok) : Rep O h (.int i t) (.int i)
  | str (s : Str) (t : Tok) : Rep O h (.str s t) (.str s)
  | bytes (b : Array UInt8) (t : Tok) : Rep O h (.bytes b t) (.bytes b)
  | list {a : Addr} {vs : List Value} {xs : List PV} : ¬ O a → h.PlainList a vs.toArray → vs.length = xs.length →
      (∀ (i : Nat) (v : Value) (x : PV), vs[i]? = some v → xs[i]? = some x → Rep O h v x) → Rep O h (.ref a) (.list xs)
  | tuple {a : Addr} {vs : List Value} {xs : List PV} : ¬ O a → PlainTup h a vs.toArray → vs.length = xs.length →
      (∀ (i : Nat) (v : Value) (x : PV), vs[i]? = some v → xs[i]? = some x → Rep O h v x) → Rep O h (.ref a) (.tuple xs)
  | range {r : Addr} {a b c : Int} {t u v : Tok} : ¬ O r → IsRange h r a b c t u v → Rep O h (.ref r) (.range a b c)

def RepL (O : Addr → Prop) (h : Heap) (vs : List Value) (xs : List PV) : Prop :=
  vs.length = xs.length ∧ ∀ (i : Nat) (v : Value) (x : PV), vs[i]? = some v → xs[i]? = some x → Rep O h v x

theorem RepL.nil {O : Addr → Prop} {h : Heap} : RepL O h [] [] := ⟨rfl, fun _ _ _ e => by simp at e⟩
theorem RepL.cons {O : Addr → Prop} {h : Heap} {v : Value} {vs : List Value} {x : PV} {xs : List PV} (a : Rep O h v x) (b : RepL O h vs xs) : RepL O h (v :: vs) (x :: xs) := by
  refine ⟨by simp [b.1], fun i w y e e' => ?_⟩
  cases i with
  | zero => simp at e e'; subst e; subst e'; exact a
  | succ i => simp at e e'; exact b.2 i w y e e'
theorem RepL.cons_inv {O : Addr → Prop} {h : Heap} {vs : List Value} {x : PV} {xs : List PV} (a : RepL O h vs (x :: xs)) : ∃ v vs', vs = v :: vs' ∧ Rep O h v x ∧ RepL O h vs' xs := by
  cases vs with
  | nil => have := a.1; simp at this
  | cons v vs => exact ⟨v, vs, rfl, a.2 0 v x rfl rfl, by have := a.1; simpa using this, fun i w y e e' => a.2 (i + 1) w y (by simpa using e) (by simpa using e')⟩
theorem RepL.nil_inv {O : Addr → Prop} {h : Heap} {vs : List Value} (a : RepL O h vs []) : vs = [] := List.eq_nil_of_length_eq_zero a.1
theorem RepL.append {O : Addr → Prop} {h : Heap} {vs ws : List Value} {xs ys : List PV} (a : RepL O h vs xs) (b : RepL O h ws ys) : RepL O h (vs ++ ws) (xs ++ ys) := by
  induction vs generalizing xs with
  | nil => cases xs with
    | nil => exact b
    | cons x xs => have := a.1; simp at this
  | cons v vs ih => cases xs with
    | nil => have := a.1; simp at this
    | cons x xs =>
      obtain ⟨v', vs', e, r, q⟩ := a.cons_inv
      cases e
      exact RepL.cons r (ih q)
theorem RepL.drop {O : Addr → Prop} {h : Heap} {vs : List Value} {xs : List PV} (a : RepL O h vs xs) (n : Nat) : RepL O h (vs.drop n) (xs.drop n) :=
  ⟨by simp [a.1], fun i v x e e' => a.2 (n + i) v x (by simpa using e) (by simpa using e')⟩
theorem RepL.take {O : Addr → Prop} {h : Heap} {vs : List Value} {xs : List PV} (a : RepL O h vs xs) (n : Nat) : RepL O h (vs.take n) (xs.take n) :=
  ⟨by simp [a.1], fun i v x e e' => by
    rw [List.getElem?_take] at e e'
    split at e
    · rename_i q; rw [if_pos q] at e'; exact a.2 i v x e e'
    · cases e⟩
theorem RepL.reverse {O : Addr → Prop} {h : Heap} {vs : List Value} {xs : List PV} (a : RepL O h vs xs) : RepL O h vs.reverse xs.reverse := by
  induction vs generalizing xs with
  | nil => cases xs with
    | nil => exact .nil
    | cons x xs => have := a.1; simp at this
  | cons v vs ih => cases xs with
    | nil => have := a.1; simp at this
    | cons x xs =>
      obtain ⟨v', vs', e, r, q⟩ := a.cons_inv
      cases e
      simp only [List.reverse_cons]
      exact (ih q).append (.cons r .nil)

theorem solid_list {o : Obj} {xs : Array Value} {n : Nat} (hd : o.data = .seq xs n) : Solid o := .inl ⟨_, _, hd⟩
theorem Rep.mono {O O' : Addr → Prop} {h h' : Heap} {v : Value} {x : PV} (r : Rep O h v x) (hO : ∀ b o, ¬ O b → h.get? b = some o → ¬ O' b)
    (hk : ∀ b o, ¬ O b → Solid o → h.get? b = some o → h'.get? b = some o) : Rep O' h' v x := by
  induction r with
  | none => exact .none
  | bool b => exact .bool b
  | int i t => exact .int i t
  | str s t => exact .str s t
  | bytes b t => exact .bytes b t
  | list ho hl hn _ ih =>
    obtain ⟨n, e⟩ := hl
    exact .list (hO _ _ ho e) ⟨n, hk _ _ ho (solid_list rfl) e⟩ hn ih
  | tuple ho hl hn _ ih =>
    obtain ⟨n, e⟩ := hl
    exact .tuple (hO _ _ ho e) ⟨n, hk _ _ ho (solid_list rfl) e⟩ hn ih
  | range ho hr =>
    exact .range (hO _ _ ho hr) (hk _ _ ho (.inr ⟨rfl, _, rfl⟩) hr)
theorem Rep.ext {O : Addr → Prop} {h h' : Heap} {v : Value} {x : PV} (r : Rep O h v x) (hk : Ext h h') : Rep O h' v x :=
  r.mono (fun _ _ a _ => a) fun b o _ _ e => hk b o e
theorem RepL.mono {O O' : Addr → Prop} {h h' : Heap} {vs : List Value} {xs : List PV} (r : RepL O h vs xs) (hO : ∀ b o, ¬ O b → h.get? b = some o → ¬ O' b)
    (hk : ∀ b o, ¬ O b → Solid o → h.get? b = some o → h'.get? b = some o) : RepL O' h' vs xs := ⟨r.1, fun i v x e e' => (r.2 i v x e e').mono hO hk⟩
theorem RepL.ext {O : Addr → Prop} {h h' : Heap} {vs : List Value} {xs : List PV} (r : RepL O h vs xs) (hk : Ext h h') : RepL O h' vs xs :=
  ⟨r.1, fun i v x e e' => (r.2 i v x e e').ext hk⟩
theorem Rep.list' {O : Addr → Prop} {h : Heap} {a : Addr} {vs : List Value} {xs : List PV} (ho : ¬ O a) (hl : h.PlainList a vs.toArray) (r : RepL O h vs xs) : Rep O h (.ref a) (.list xs) := .list ho hl r.1 r.2
theorem Rep.tuple' {O : Addr → Prop} {h : Heap} {a : Addr} {vs : List Value} {xs : List PV} (ho : ¬ O a) (hl : PlainTup h a vs.toArray) (r : RepL O h vs xs) : Rep O h (.ref a) (.tuple xs) := .tuple ho hl r.1 r.2
theorem Rep.list_inv' {O : Addr → Prop} {h : Heap} {v : Value} {xs : List PV} (r : Rep O h v (.list xs)) : ∃ a vs n, v = .ref a ∧ ¬ O a ∧ h.get? a = some { cls := .type "list", data := .seq (List.toArray vs) n } ∧ RepL O h vs xs := by
  cases r with
  | list ho hl hn ih => obtain ⟨n, e⟩ := hl; exact ⟨_, _, n, rfl, ho, e, hn, ih⟩
theorem Rep.list_inv {O : Addr → Prop} {h : Heap} {v : Value} {xs : List PV} (r : Rep O h v (.list xs)) : ∃ a vs, v = .ref a ∧ ¬ O a ∧ h.IsList a vs.toArray ∧ RepL O h vs xs := by
  obtain ⟨a, vs, n, e, ho, hg, rl⟩ := r.list_inv'
  exact ⟨a, vs, e, ho, ⟨_, hg, rfl, n, rfl⟩, rl⟩
theorem Rep.tuple_inv' {O : Addr → Prop} {h : Heap} {v : Value} {xs : List PV} (r : Rep O h v (.tuple xs)) : ∃ a vs n, v = .ref a ∧ ¬ O a ∧ h.get? a = some { cls := .type "tuple", data := .seq (List.toArray vs) n } ∧ RepL O h vs xs := by
  cases r with
  | tuple ho hl hn ih => obtain ⟨n, e⟩ := hl; exact ⟨_, _, n, rfl, ho, e, hn, ih⟩
theorem Rep.tuple_inv {O : Addr → Prop} {h : Heap} {v : Value} {xs : List PV} (r : Rep O h v (.tuple xs)) : ∃ a vs, v = .ref a ∧ ¬ O a ∧ h.IsTuple a vs.toArray ∧ RepL O h vs xs := by
  obtain ⟨a, vs, n, e, ho, hg, rl⟩ := r.tuple_inv'
  exact ⟨a, vs, e, ho, ⟨_, hg, rfl, n, rfl⟩, rl⟩
theorem Rep.int_inv {O : Addr → Prop} {h : Heap} {v : Value} {i : Int} (r : Rep O h v (.int i)) : ∃ t, v = .int i t := by cases r; exact ⟨_, rfl⟩
theorem Rep.str_inv {O : Addr → Prop} {h : Heap} {v : Value} {i : Str} (r : Rep O h v (.str i)) : ∃ t, v = .str i t := by cases r; exact ⟨_, rfl⟩
theorem Rep.bytes_inv {O : Addr → Prop} {h : Heap} {v : Value} {i : Array UInt8} (r : Rep O h v (.bytes i)) : ∃ t, v = .bytes i t := by cases r; exact ⟨_, rfl⟩
theorem Rep.bool_inv {O : Addr → Prop} {h : Heap} {v : Value} {i : Bool} (r : Rep O h v (.bool i)) : v = .bool i := by cases r; rfl
theorem Rep.range_inv {O : Addr → Prop} {h : Heap} {v : Value} {a b c : Int} (r : Rep O h v (.range a b c)) : ∃ r t u w, v = .ref r ∧ ¬ O r ∧ IsRange h r a b c t u w := by
  cases r with
  | range ho hr => exact ⟨_, _, _, _, rfl, ho, hr⟩

/-- what a name holds: a datum, or a list of the frame's own that nothing else holds -/
inductive Ent where
  | val (x : PV)
  | own (xs : List PV)
abbrev PEnv := List (Str × Ent)

/-- the text's ground: the written part, the top -/
structure GC where
  prog : Program
  w : World
  K : Frag
  p : Program
  loose : List Str
  mg : Str → Option Value
  mb : Str → Option Value
structure GC.At (g : GC) (h : Heap) : Prop where
  k : g.K.In h
  t : TopRead g.p g.loose g.mg g.mb h
theorem GC.At.ext {g : GC} {h h' : Heap} (x : g.At h) (hk : Ext h h') : g.At h' := ⟨x.k.keeps hk, x.t.keeps hk⟩

structure Room (A : Around) (n : Nat) : Prop where
  hd : A.handled = none
  dp : A.depth + n < 900
  un : A.units + 10 * n < 9000
theorem Room.mono {A : Around} {n m : Nat} (x : Room A n) (h : m ≤ n) : Room A m := ⟨x.hd, by have := x.dp; omega, by have := x.un; omega⟩
theorem Room.deeper {A : Around} {n : Nat} (x : Room A (n + 1)) (env : Env) : Room (A.deeper env) n :=
  ⟨x.hd, by have := x.dp; show A.depth + 1 + n < 900; omega, by have := x.un; show A.units + 3 + 10 * n < 9000; omega⟩

structure FC extends GC where
  A : Around
  env : Env
  h₀ : Heap
  B : Addr → Prop
  n : Nat

structure FC.Good (c : FC) : Prop where
  kind : c.env.scope.kind = .function
  glob : c.env.globals = mainGlobals
  blt : c.env.builtins = builtinsNs
  room : Room c.A c.n
  top : c.toGC.At c.h₀

def Slot (env : Env) (m cm : Str → Option Value) (x : Str) (v : Value) : Prop :=
  (env.kindOf x = some .local ∧ m x = some v) ∨ ((env.kindOf x = some .cell) ∧ (env.cells.lookup x).isSome = true ∧ cm x = some v)

structure Inv (c : FC) (ρ : PEnv) (O : Addr → Prop) (m cm : Str → Option Value) (h : Heap) : Prop where
  good : c.Good
  ns : h.Ns c.env.locals m
  cell : ∀ n a, c.env.cells.lookup n = some a → h.IsCell a (cm n)
  keep : Ext c.h₀ h
  val : ∀ x pv, ρ.lookup x = some (.val pv) → ∃ v, Slot c.env m cm x v ∧ Rep O h v pv
  own : ∀ x xs, ρ.lookup x = some (.own xs) → ∃ a vs n, Slot c.env m cm x (.ref a) ∧ O a ∧ ¬ c.B a ∧ c.h₀.get? a = none ∧ h.get? a = some { cls := .type "list", data := .seq (List.toArray vs) n } ∧ RepL O h vs xs
  inj : ∀ x y xs ys a, ρ.lookup x = some (.own xs) → ρ.lookup y = some (.own ys) → Slot c.env m cm x (.ref a) → Slot c.env m cm y (.ref a) → x = y
  sub : ∀ a, c.B a → O a
  live : ∀ a, O a → ∃ o, h.get? a = some o

end Mine
namespace Mine

/-- an expression's end: the old heap kept, the value a datum's -/
def Got (s : Shared) (O : Addr → Prop) (x : PV) (v : Value) (s' : Shared) : Prop :=
  ∃ h' tk', s' = { s with heap := h', toks := tk' } ∧ Ext s.heap h' ∧ Rep O h' v x
def Seen (s : Shared) (b b' : Bool) (s' : Shared) : Prop :=
  b' = b ∧ ∃ h' tk', s' = { s with heap := h', toks := tk' } ∧ Ext s.heap h'

theorem Got.same {s : Shared} {O : Addr → Prop} {x : PV} {v : Value} (r : Rep O s.heap v x) : Got s O x v s := ⟨s.heap, s.toks, rfl, Ext.refl _, r⟩
theorem Got.toks {s : Shared} {O : Addr → Prop} {x : PV} {v : Value} {tk : Nat} (r : Rep O s.heap v x) : Got s O x v { s with toks := tk } := ⟨s.heap, tk, rfl, Ext.refl _, r⟩
theorem Got.trans {s s₁ s₂ : Shared} {O O' : Addr → Prop} {x y : PV} {v w : Value} (a : Got s O x v s₁) (b : Got s₁ O' y w s₂) : Got s O' y w s₂ := by
  obtain ⟨h, tk, rfl, e, r⟩ := a
  obtain ⟨h', tk', rfl, e', r'⟩ := b
  exact ⟨h', tk', rfl, e.trans e', r'⟩
theorem Got.ext {s s₁ : Shared} {O : Addr → Prop} {x : PV} {v : Value} (a : Got s O x v s₁) : Ext s.heap s₁.heap := by
  obtain ⟨h, tk, rfl, e, r⟩ := a; exact e
theorem Got.rep {s s₁ : Shared} {O : Addr → Prop} {x : PV} {v : Value} (a : Got s O x v s₁) : Rep O s₁.heap v x := by
  obtain ⟨h, tk, rfl, e, r⟩ := a; exact r
theorem Got.seen {s s₁ s₂ : Shared} {O : Addr → Prop} {x : PV} {v : Value} {b b' : Bool} (a : Got s O x v s₁) (q : Seen s₁ b b' s₂) : Seen s b b' s₂ := by
  obtain ⟨h, tk, rfl, e, r⟩ := a
  obtain ⟨rfl, h', tk', rfl, e'⟩ := q
  exact ⟨rfl, h', tk', rfl, e.trans e'⟩
theorem Seen.got {s s₁ s₂ : Shared} {O : Addr → Prop} {x : PV} {v : Value} {b b' : Bool} (a : Seen s b b' s₁) (q : Got s₁ O x v s₂) : Got s O x v s₂ := by
  obtain ⟨rfl, h, tk, rfl, e⟩ := a
  obtain ⟨h', tk', rfl, e', r⟩ := q
  exact ⟨h', tk', rfl, e.trans e', r⟩
theorem Seen.seen {s s₁ s₂ : Shared} {b b' d d' : Bool} (a : Seen s b b' s₁) (q : Seen s₁ d d' s₂) : Seen s d d' s₂ := by
  obtain ⟨rfl, h, tk, rfl, e⟩ := a
  obtain ⟨rfl, h', tk', rfl, e'⟩ := q
  exact ⟨rfl, h', tk', rfl, e.trans e'⟩
theorem Seen.ext {s s₁ : Shared} {b b' : Bool} (a : Seen s b b' s₁) : Ext s.heap s₁.heap := by
  obtain ⟨_, h, tk, rfl, e⟩ := a; exact e
theorem Seen.same (s : Shared) (b : Bool) : Seen s b b s := ⟨rfl, s.heap, s.toks, rfl, Ext.refl _⟩

theorem Inv.ext {c : FC} {ρ : PEnv} {O : Addr → Prop} {m cm : Str → Option Value} {h h' : Heap} (I : Inv c ρ O m cm h) (hk : Ext h h') : Inv c ρ O m cm h' where
  good := I.good
  ns := I.ns.keeps hk
  cell := fun n a e => (I.cell n a e).keeps hk
  keep := I.keep.trans hk
  val := fun x pv e => let ⟨v, s, r⟩ := I.val x pv e; ⟨v, s, r.ext hk⟩
  own := fun x xs e => let ⟨a, vs, n, s, o, b, z, g, r⟩ := I.own x xs e; ⟨a, vs, n, s, o, b, z, hk _ _ g, r.ext hk⟩
  inj := I.inj
  sub := I.sub
  live := fun a q => let ⟨o, e⟩ := I.live a q; ⟨o, hk _ _ e⟩

theorem fresh_not {O : Addr → Prop} {h : Heap} {a : Addr} (hl : ∀ a, O a → ∃ o, h.get? a = some o) (hn : h.get? a = none) : ¬ O a := fun q => by
  obtain ⟨o, e⟩ := hl a q
  rw [hn] at e; cases e
theorem get_size (h : Heap) : h.get? h.objs.size = none := by
  cases e : h.get? h.objs.size with
  | none => rfl
  | some o => exact absurd (Heap.lt_size e) (Nat.lt_irrefl _)

/-- an expression gives a datum -/
structure EvP (c : FC) (ρ : PEnv) (e : Expr) (x : PV) : Prop where
  run : ∀ (O : Addr → Prop) (m cm : Str → Option Value) (s : Shared) (E : Value → Shared → Prop), Inv c ρ O m cm s.heap → wpAny (model c.prog c.w) c.A (eval e c.env) (Got s O x) E s
/-- a test gives a truth -/
structure TrP (c : FC) (ρ : PEnv) (e : Expr) (b : Bool) : Prop where
  run : ∀ (O : Addr → Prop) (m cm : Str → Option Value) (s : Shared) (E : Value → Shared → Prop), Inv c ρ O m cm s.heap → wpAny (model c.prog c.w) c.A (isTrue e c.env (eval e c.env)) (Seen s b) E s

/-- what a step may lean on, beside its own operands -/
structure Gnd (c : FC) (O : Addr → Prop) (h : Heap) : Prop where
  good : c.Good
  at_ : c.toGC.At h
  live : ∀ a, O a → ∃ o, h.get? a = some o
theorem Inv.gnd {c : FC} {ρ : PEnv} {O : Addr → Prop} {m cm : Str → Option Value} {h : Heap} (I : Inv c ρ O m cm h) : Gnd c O h := ⟨I.good, I.good.top.ext I.keep, I.live⟩
theorem Gnd.ext {c : FC} {O : Addr → Prop} {h h' : Heap} (G : Gnd c O h) (hk : Ext h h') : Gnd c O h' := ⟨G.good, G.at_.ext hk, fun a q => let ⟨o, e⟩ := G.live a q; ⟨o, hk _ _ e⟩⟩

/-- a step upon two operands -/
structure Op2 (c : FC) (t : Value → Value → Sem Value) (x y z : PV) : Prop where
  run : ∀ (O : Addr → Prop) (s : Shared) (v w : Value) (E : Value → Shared → Prop), Gnd c O s.heap → Rep O s.heap v x → Rep O s.heap w y → wpAny (model c.prog c.w) c.A (t v w) (Got s O z) E s
structure Op1 (c : FC) (t : Value → Sem Value) (x z : PV) : Prop where
  run : ∀ (O : Addr → Prop) (s : Shared) (v : Value) (E : Value → Shared → Prop), Gnd c O s.heap → Rep O s.heap v x → wpAny (model c.prog c.w) c.A (t v) (Got s O z) E s
structure Truth (c : FC) (x : PV) (b : Bool) : Prop where
  run : ∀ (O : Addr → Prop) (s : Shared) (v : Value) (E : Value → Shared → Prop), Gnd c O s.heap → Rep O s.heap v x → wpAny (model c.prog c.w) c.A (truthy v) (Seen s b) E s

section
variable {c : FC} {ρ : PEnv}
/-- two expressions one behind the other -/
theorem EvP.two {l r : Expr} {x y : PV} (hl : EvP c ρ l x) (hr : EvP c ρ r y) {O : Addr → Prop} {m cm : Str → Option Value} {s : Shared} {E : Value → Shared → Prop} (I : Inv c ρ O m cm s.heap)
    {Q : Value → Value → Shared → Prop} (h : ∀ v w s', Gnd c O s'.heap → Rep O s'.heap v x → Got s O y w s' → Q v w s') :
    wpAny (model c.prog c.w) c.A (eval l c.env) (fun v s₁ => wpAny (model c.prog c.w) c.A (eval r c.env) (fun w s₂ => Q v w s₂) E s₁) E s := by
  refine wpAny_mono (hl.run O m cm s E I) (fun v s₁ h₁ => ?_) fun _ _ x => x
  have I₁ := I.ext h₁.ext
  refine wpAny_mono (hr.run O m cm s₁ E I₁) (fun w s₂ h₂ => ?_) fun _ _ x => x
  exact h v w s₂ (I₁.gnd.ext h₂.ext) (h₁.rep.ext h₂.ext) (h₁.trans h₂)

theorem EvP.binop {l r : Expr} {op : Operator} {pos : Pos} {x y z : PV} (hl : EvP c ρ l x) (hr : EvP c ρ r y) (ho : Op2 c (binaryOp op) x y z) : EvP c ρ (.BinOp l op r pos) z := by
  refine ⟨fun O m cm s E I => ?_⟩
  refine wpAny_BinOp (hl.two hr I fun v w s' G r₁ g => ?_)
  exact wpAny_mono (ho.run O s' v w E G r₁ g.rep) (fun _ _ q => g.trans q) fun _ _ x => x
theorem EvP.cmp {l r : Expr} {op : CmpOp} {pos : Pos} {x y z : PV} (hl : EvP c ρ l x) (hr : EvP c ρ r y) (ho : Op2 c (compareOp op) x y z) (hm : behindInMarks op r = false := by with_unfolding_all rfl) : EvP c ρ (.Compare l [op] [r] pos) z := by
  refine ⟨fun O m cm s E I => ?_⟩
  refine wpAny_Compare1 (hl.two hr I fun v w s' G r₁ g => ?_) hm
  exact wpAny_mono (ho.run O s' v w E G r₁ g.rep) (fun _ _ q => g.trans q) fun _ _ x => x
theorem TrP.cmp {l r : Expr} {op : CmpOp} {pos : Pos} {x y : PV} {b : Bool} (hl : EvP c ρ l x) (hr : EvP c ρ r y) (ho : Op2 c (compareOp op) x y (.bool b)) (hm : behindInMarks op r = false := by with_unfolding_all rfl) : TrP c ρ (.Compare l [op] [r] pos) b := by
  refine ⟨fun O m cm s E I => ?_⟩
  refine wpAny_isTrue_Compare1 (hl.two hr I fun v w s' G r₁ g => ?_) hm
  refine wpAny_mono (ho.run O s' v w E G r₁ g.rep) (fun d s₂ q => ?_) fun _ _ x => x
  have := q.rep.bool_inv
  subst this
  exact wpAny_truthy_bool ((g.trans q).seen (Seen.same _ _))
theorem TrP.plain {e : Expr} {x : PV} {b : Bool} (h : EvP c ρ e x) (ht : Truth c x b) (he : ∀ whole, isTrue e c.env whole = (do let v ← whole; standAt e.pos; holding [v] (truthy v)) := by intro _; rfl) : TrP c ρ e b := by
  refine ⟨fun O m cm s E I => ?_⟩
  refine isTrue_plain (wpAny_mono (h.run O m cm s E I) (fun v s₁ h₁ => ?_) fun _ _ x => x) (he _)
  exact wpAny_mono (ht.run O s₁ v E (I.gnd.ext h₁.ext) h₁.rep) (fun _ _ q => h₁.seen q) fun _ _ x => x
theorem EvP.ifexp {test body orelse : Expr} {pos : Pos} {b : Bool} {x : PV} (ht : TrP c ρ test b) (h1 : b = true → EvP c ρ body x) (h2 : b = false → EvP c ρ orelse x) : EvP c ρ (.IfExp test body orelse pos) x := by
  refine ⟨fun O m cm s E I => ?_⟩
  refine IfExp_ (wpAny_mono (ht.run O m cm s E I) (fun b' s₁ h₁ => ?_) fun _ _ x => x)
  have I₁ := I.ext h₁.ext
  obtain ⟨e, _⟩ := id h₁
  subst e
  cases b' with
  | true => simp only [if_true]; exact wpAny_mono ((h1 rfl).run O m cm s₁ E I₁) (fun _ _ q => h₁.got q) fun _ _ x => x
  | false => simp only [Bool.false_eq_true, if_false]; exact wpAny_mono ((h2 rfl).run O m cm s₁ E I₁) (fun _ _ q => h₁.got q) fun _ _ x => x

theorem EvP.int (i : Int) (k : Nat) (pos : Pos) : EvP c ρ (.Constant (.int i) k pos) (.int i) := ⟨fun O m cm s E I => wpAny_Constant_int (Got.toks (.int _ _))⟩
theorem EvP.str (x : Str) (k : Nat) (pos : Pos) : EvP c ρ (.Constant (.str x) k pos) (.str x) := ⟨fun O m cm s E I => wpAny_Constant_str (Got.toks (.str _ _))⟩
theorem EvP.bool (b : Bool) (k : Nat) (pos : Pos) : EvP c ρ (.Constant (.bool b) k pos) (.bool b) := ⟨fun O m cm s E I => wpAny_Constant_bool (Got.same (.bool _))⟩
theorem EvP.bytes (b : List UInt8) (k : Nat) (pos : Pos) : EvP c ρ (.Constant (.bytes b) k pos) (.bytes b.toArray) := by
  refine ⟨fun O m cm s E I => ?_⟩
  intro Γ p hΓ
  exact ⟨s.heap, s.toks + 1, rfl, Ext.refl _, .bytes _ _⟩
/-- a name of the frame's -/
theorem EvP.name {x : Str} {pos : Pos} {v : PV} (hx : ρ.lookup x = some (.val v)) (hd : (x == ("__debug__" : Str)) = false := by decide) : EvP c ρ (.Name x pos) v := by
  refine ⟨fun O m cm s E I => ?_⟩
  obtain ⟨w, hs, r⟩ := I.val x v hx
  refine wpAny_Name ?_ hd
  rcases hs with ⟨hk, hm⟩ | ⟨hk, hc, hm⟩
  · exact wpAny_loadName_local I.good.kind hk I.ns hm (Got.same r)
  · obtain ⟨a, ha⟩ := Option.isSome_iff_exists.mp hc
    exact wpAny_loadName_cell I.good.kind hk ha (hm ▸ I.cell x a ha) (Got.same r)
end
end Mine
namespace Mine
section
variable {c : FC} {ρ : PEnv}

/-! operators -/
theorem Op2.addI (a b : Int) : Op2 c (binaryOp .Add) (.int a) (.int b) (.int (a + b)) := by
  refine ⟨fun O s v w E G r q => ?_⟩
  obtain ⟨t, rfl⟩ := r.int_inv; obtain ⟨u, rfl⟩ := q.int_inv
  exact add_int (Got.toks (.int _ _))
theorem Op2.subI (a b : Int) : Op2 c (binaryOp .Sub) (.int a) (.int b) (.int (a - b)) := by
  refine ⟨fun O s v w E G r q => ?_⟩
  obtain ⟨t, rfl⟩ := r.int_inv; obtain ⟨u, rfl⟩ := q.int_inv
  exact sub_int (Got.toks (.int _ _))
theorem Op2.mulI {a b : Int} (h : IntMulOk a b) : Op2 c (binaryOp .Mult) (.int a) (.int b) (.int (a * b)) := by
  refine ⟨fun O s v w E G r q => ?_⟩
  obtain ⟨t, rfl⟩ := r.int_inv; obtain ⟨u, rfl⟩ := q.int_inv
  exact mul_int (Got.toks (.int _ _)) h
theorem Op2.modI {a b : Int} (h : b ≠ 0) : Op2 c (binaryOp .Mod) (.int a) (.int b) (.int (a.fmod b)) := by
  refine ⟨fun O s v w E G r q => ?_⟩
  obtain ⟨t, rfl⟩ := r.int_inv; obtain ⟨u, rfl⟩ := q.int_inv
  exact mod_int' h (Got.toks (.int _ _))
theorem Op2.divI {a b : Int} (h : b ≠ 0) (hp : Builtin.divisionGoesByPylong a b = false) : Op2 c (binaryOp .FloorDiv) (.int a) (.int b) (.int (a.fdiv b)) := by
  refine ⟨fun O s v w E G r q => ?_⟩
  obtain ⟨t, rfl⟩ := r.int_inv; obtain ⟨u, rfl⟩ := q.int_inv
  exact floordiv_int h (Got.toks (.int _ _)) (.inl hp)
theorem Op2.powI {a b : Int} (h : 0 ≤ b) (hs : (Builtin.Int.intBits a : Int) * b ≤ 2 ^ 27) : Op2 c (binaryOp .Pow) (.int a) (.int b) (.int (a ^ b.toNat)) := by
  refine ⟨fun O s v w E G r q => ?_⟩
  obtain ⟨t, rfl⟩ := r.int_inv; obtain ⟨u, rfl⟩ := q.int_inv
  exact pow_int h hs (Got.toks (.int _ _))
theorem Op2.addS {a b : Str} (h : a.length + b.length ≤ sizeLine) : Op2 c (binaryOp .Add) (.str a) (.str b) (.str (a ++ b)) := by
  refine ⟨fun O s v w E G r q => ?_⟩
  obtain ⟨t, rfl⟩ := r.str_inv; obtain ⟨u, rfl⟩ := q.str_inv
  exact add_str (fun t' tk => Got.toks (.str _ _)) h
theorem Op2.iaddI (a b : Int) : Op2 c (inplaceOp .Add) (.int a) (.int b) (.int (a + b)) := by
  refine ⟨fun O s v w E G r q => ?_⟩
  obtain ⟨t, rfl⟩ := r.int_inv; obtain ⟨u, rfl⟩ := q.int_inv
  exact iadd_int (Got.toks (.int _ _))
theorem Op2.iaddS {a b : Str} (h : a.length + b.length ≤ sizeLine) : Op2 c (inplaceOp .Add) (.str a) (.str b) (.str (a ++ b)) := by
  refine ⟨fun O s v w E G r q => ?_⟩
  obtain ⟨t, rfl⟩ := r.str_inv; obtain ⟨u, rfl⟩ := q.str_inv
  exact iadd_str (fun t' tk => Got.toks (.str _ _)) h
theorem Op2.eqI (a b : Int) : Op2 c (compareOp .Eq) (.int a) (.int b) (.bool (a == b)) := by
  refine ⟨fun O s v w E G r q => ?_⟩
  obtain ⟨t, rfl⟩ := r.int_inv; obtain ⟨u, rfl⟩ := q.int_inv
  exact eq_int (Got.same (.bool _))
theorem Op2.neI (a b : Int) : Op2 c (compareOp .NotEq) (.int a) (.int b) (.bool (a != b)) := by
  refine ⟨fun O s v w E G r q => ?_⟩
  obtain ⟨t, rfl⟩ := r.int_inv; obtain ⟨u, rfl⟩ := q.int_inv
  exact ne_int (Got.same (.bool _))
theorem Op2.ltI (a b : Int) : Op2 c (compareOp .Lt) (.int a) (.int b) (.bool (decide (a < b))) := by
  refine ⟨fun O s v w E G r q => ?_⟩
  obtain ⟨t, rfl⟩ := r.int_inv; obtain ⟨u, rfl⟩ := q.int_inv
  exact lt_int (Got.same (.bool _))
theorem Op2.gtI (a b : Int) : Op2 c (compareOp .Gt) (.int a) (.int b) (.bool (decide (b < a))) := by
  refine ⟨fun O s v w E G r q => ?_⟩
  obtain ⟨t, rfl⟩ := r.int_inv; obtain ⟨u, rfl⟩ := q.int_inv
  exact gt_int (Got.same (.bool _))
theorem Op2.eqS (a b : Str) : Op2 c (compareOp .Eq) (.str a) (.str b) (.bool (a == b)) := by
  refine ⟨fun O s v w E G r q => ?_⟩
  obtain ⟨t, rfl⟩ := r.str_inv; obtain ⟨u, rfl⟩ := q.str_inv
  exact eq_str (Got.same (.bool _))
theorem Op2.neS (a b : Str) : Op2 c (compareOp .NotEq) (.str a) (.str b) (.bool (a != b)) := by
  refine ⟨fun O s v w E G r q => ?_⟩
  obtain ⟨t, rfl⟩ := r.str_inv; obtain ⟨u, rfl⟩ := q.str_inv
  exact ne_str (Got.same (.bool _))
theorem Op2.inS (a b : Str) : Op2 c (compareOp .In) (.str a) (.str b) (.bool (!(Builtin.Str.occurrences b a 0 b.length 1).isEmpty)) := by
  refine ⟨fun O s v w E G r q => ?_⟩
  obtain ⟨t, rfl⟩ := r.str_inv; obtain ⟨u, rfl⟩ := q.str_inv
  exact P.in_str (Got.same (.bool _))
theorem Op1.negI (a : Int) : Op1 c (unaryOp .USub) (.int a) (.int (-a)) := by
  refine ⟨fun O s v E G r => ?_⟩
  obtain ⟨t, rfl⟩ := r.int_inv
  exact neg_int (Got.toks (.int _ _))
theorem Truth.bool (b : Bool) : Truth c (.bool b) b := by
  refine ⟨fun O s v E G r => ?_⟩
  have := r.bool_inv; subst this
  exact wpAny_truthy_bool (Seen.same _ _)
theorem Truth.int (a : Int) : Truth c (.int a) (a != 0) := by
  refine ⟨fun O s v E G r => ?_⟩
  obtain ⟨t, rfl⟩ := r.int_inv
  exact P.truthy_int (Seen.same _ _)

theorem EvP.unop {e : Expr} {op : UnaryOp} {pos : Pos} {x z : PV} (h : EvP c ρ e x) (ho : Op1 c (unaryOp op) x z) : EvP c ρ (.UnaryOp op e pos) z := by
  refine ⟨fun O m cm s E I => ?_⟩
  refine PyProof.Rows.UnaryOp_ (wpAny_mono (h.run O m cm s E I) (fun v s₁ h₁ => ?_) fun _ _ x => x)
  exact wpAny_mono (ho.run O s₁ v E (I.gnd.ext h₁.ext) h₁.rep) (fun _ _ q => h₁.trans q) fun _ _ x => x

/-! items -/
theorem EvP.itemS {e i : Expr} {pos : Pos} {x : Str} {k : Int} {n : Nat} (he : EvP c ρ e (.str x)) (hi : EvP c ρ i (.int k)) (h0 : 0 ≤ k) (hk : k < 2 ^ 63) (hn : x.cps[k.toNat]? = some n)
    (hs : ∀ o v, subscripted i false o v = operate [o, v] (getItem o v) := by intro _ _; rfl) : EvP c ρ (.Subscript e i pos) (.str ⟨#[n]⟩) := by
  refine ⟨fun O m cm s E I => ?_⟩
  refine Subscript_ (he.two hi I fun v w s' G r g => ?_)
  obtain ⟨t, rfl⟩ := r.str_inv; obtain ⟨u, rfl⟩ := g.rep.int_inv
  refine tail_any (typeIs_str _ _ _) F.slot_str_getitem.lookup ?_ (hs _ _)
  have hlt : k.toNat < x.cps.size := (Array.getElem?_eq_some_iff.mp hn).1
  refine getItem_str (c := n) ?_ ?_ ?_
  · simp; omega
  · have e1 : seqIndex? k x.length = some k.toNat := by
      have h2 : ¬ k < 0 := by omega
      have h3 : k < (x.length : Int) := by simp only [Str.length]; omega
      simp [seqIndex?, h2, h0, h3]
    rw [e1]; exact hn
  · exact g.trans (Got.toks (.str _ _))
theorem EvP.itemL {e i : Expr} {pos : Pos} {xs : List PV} {k : Int} {x : PV} (he : EvP c ρ e (.list xs)) (hi : EvP c ρ i (.int k)) (h0 : 0 ≤ k) (hk : k < 2 ^ 63) (hn : xs[k.toNat]? = some x)
    (hs : ∀ o v, subscripted i false o v = operate [o, v] (getItem o v) := by intro _ _; rfl) : EvP c ρ (.Subscript e i pos) x := by
  refine ⟨fun O m cm s E I => ?_⟩
  refine Subscript_ (he.two hi I fun v w s' G r g => ?_)
  obtain ⟨a, vs, rfl, ho, hl, rl⟩ := r.list_inv; obtain ⟨u, rfl⟩ := g.rep.int_inv
  refine tail_any hl.typeIs slot_list_getitem.lookup ?_ (hs _ _)
  have hlt : k.toNat < xs.length := (List.getElem?_eq_some_iff.mp hn).1
  have hv : vs[k.toNat]? = some (vs[k.toNat]'(by rw [rl.1]; exact hlt)) := List.getElem?_eq_getElem _
  exact wpAny_getItem_list hl h0 hk (by simpa using hv) (g.trans (Got.same (rl.2 _ _ _ hv hn)))
theorem EvP.itemT {e i : Expr} {pos : Pos} {xs : List PV} {k : Int} {x : PV} (he : EvP c ρ e (.tuple xs)) (hi : EvP c ρ i (.int k)) (h0 : 0 ≤ k) (hk : k < 2 ^ 63) (hn : xs[k.toNat]? = some x)
    (hs : ∀ o v, subscripted i false o v = operate [o, v] (getItem o v) := by intro _ _; rfl) : EvP c ρ (.Subscript e i pos) x := by
  refine ⟨fun O m cm s E I => ?_⟩
  refine Subscript_ (he.two hi I fun v w s' G r g => ?_)
  obtain ⟨a, vs, rfl, ho, hl, rl⟩ := r.tuple_inv; obtain ⟨u, rfl⟩ := g.rep.int_inv
  refine tail_any hl.typeIs slot_tuple_getitem.lookup ?_ (hs _ _)
  have hlt : k.toNat < xs.length := (List.getElem?_eq_some_iff.mp hn).1
  have hv : vs[k.toNat]? = some (vs[k.toNat]'(by rw [rl.1]; exact hlt)) := List.getElem?_eq_getElem _
  refine PyProof.Rows.getItem_tuple (items := vs.toArray) hl (by omega) hk (j := k.toNat) ?_ (by simpa using hv) (g.trans (Got.same (rl.2 _ _ _ hv hn)))
  have h2 : ¬ k < 0 := by omega
  have h3 : k < (vs.length : Int) := by rw [rl.1]; omega
  simp [seqIndex?, h2, h0, h3]

/-! slices -/
structure PartP (c : FC) (ρ : PEnv) (e : Option Expr) (k : Option Int) : Prop where
  run : ∀ (O : Addr → Prop) (m cm : Str → Option Value) (s : Shared) (E : Value → Shared → Prop), Inv c ρ O m cm s.heap →
    wpAny (model c.prog c.w) c.A (evalPart e c.env) (fun v s' => IsPart v k ∧ Got s O .none .none s') E s
theorem PartP.none : PartP c ρ none none := ⟨fun O m cm s E I => wpAny_pure ⟨.none, Got.same .none⟩⟩
theorem PartP.some {e : Expr} {k : Int} (h : EvP c ρ e (.int k)) : PartP c ρ (some e) (some k) := by
  refine ⟨fun O m cm s E I => ?_⟩
  refine wpAny_mono (h.run O m cm s E I) (fun v s₁ h₁ => ?_) fun _ _ x => x
  obtain ⟨t, e⟩ := h₁.rep.int_inv
  subst e
  exact ⟨.int _ _, h₁.trans (Got.same .none)⟩
theorem EvP.sliceOf {e : Expr} {lower upper step : Option Expr} {p pos : Pos} {x z : PV} {lo hi st : Option Int} {T id : String} (he : EvP c ρ e x) (hl : PartP c ρ lower lo) (hu : PartP c ρ upper hi) (hst : PartP c ρ step st)
    (hT : ∀ O h v, Rep O h v x → ∀ s : Shared, s.heap = h → s.TypeIs v T) (hlook : typeLookup (.type T) "__getitem__" = pure (some (.builtin id)))
    (hg : ∀ (O : Addr → Prop) (s : Shared) (v vl vu vs : Value) (sl : Addr) (E : Value → Shared → Prop), Gnd c O s.heap → Rep O s.heap v x → s.heap.IsSliceOf sl vl vu vs → IsPart vl lo → IsPart vu hi → IsPart vs st → wpAny (model c.prog c.w) c.A (getItem v (.ref sl)) (Got s O z) E s) :
    EvP c ρ (.Subscript e (.Slice lower upper step p) pos) z := by
  refine ⟨fun O m cm s E I => ?_⟩
  refine Subscript_ (wpAny_mono (he.run O m cm s E I) (fun v s₁ h₁ => ?_) fun _ _ x => x)
  have I₁ := I.ext h₁.ext
  refine wpAny_Slice (wpAny_mono (hl.run O m cm s₁ E I₁) (fun vl s₂ h₂ => ?_) fun _ _ x => x)
  have I₂ := I₁.ext h₂.2.ext
  refine wpAny_mono (hu.run O m cm s₂ E I₂) (fun vu s₃ h₃ => ?_) fun _ _ x => x
  have I₃ := I₂.ext h₃.2.ext
  refine wpAny_mono (hst.run O m cm s₃ E I₃) (fun vs s₄ h₄ => ?_) fun _ _ x => x
  have I₄ := I₃.ext h₄.2.ext
  have e₄ : Ext s₁.heap s₄.heap := (h₂.2.ext.trans h₃.2.ext).trans h₄.2.ext
  have hp := Ext.push s₄.heap { cls := .type "slice", data := .fields #[vl, vu, vs] }
  have r₄ := (h₁.rep.ext e₄).ext hp
  have g₄ : Got s O Mine.PV.none .none s₄ := ((h₁.trans h₂.2).trans h₃.2).trans h₄.2
  have hgot : wpAny (model c.prog c.w) c.A (getItem v (.ref s₄.heap.objs.size)) (Got s O z) E { s₄ with heap := s₄.heap.push { cls := .type "slice", data := .fields #[vl, vu, vs] } } := by
    refine wpAny_mono (hg O _ v vl vu vs s₄.heap.objs.size E (I₄.gnd.ext hp) r₄ (Heap.IsSliceOf.new _ _ _ _) h₂.1 h₃.1 h₄.1) (fun d s₅ q => ?_) fun _ _ x => x
    exact g₄.trans (Got.trans (⟨_, _, rfl, hp, .none⟩ : Got s₄ O Mine.PV.none .none { s₄ with heap := s₄.heap.push { cls := .type "slice", data := .fields #[vl, vu, vs] } }) q)
  cases step with
  | none => exact tail_any (hT O _ v r₄ _ rfl) hlook hgot rfl
  | some st' => exact tail_any (hT O _ v r₄ _ rfl) hlook hgot rfl

theorem EvP.sliceL {e : Expr} {lower upper step : Option Expr} {p pos : Pos} {xs : List PV} {lo hi st : Option Int} {ys : List PV} (he : EvP c ρ e (.list xs)) (hl : PartP c ρ lower lo) (hu : PartP c ρ upper hi) (hst : PartP c ρ step st)
    (h0 : st ≠ some 0) (hsz : xs.length ≤ sizeLine) (hy : ∀ O h vs, RepL O h vs xs → RepL O h (slicePick vs.toArray lo hi st).toList ys) :
    EvP c ρ (.Subscript e (.Slice lower upper step p) pos) (.list ys) := by
  refine EvP.sliceOf (T := "list") he hl hu hst (fun O h v r s' e' => ?_) slot_list_getitem.lookup fun O s v vl vu vs sl E G r hs p1 p2 p3 => ?_
  · obtain ⟨a, vs, rfl, _, hl', _⟩ := r.list_inv
    subst e'
    exact hl'.typeIs
  · obtain ⟨a, ws, rfl, ho, hl', rl⟩ := r.list_inv
    refine wpAny_getItem_list_slice hl' hs p1 p2 p3 h0 ?_ (by simp [rl.1]; exact hsz)
    have hp := Ext.push s.heap { cls := .type "list", data := .seq (slicePick ws.toArray lo hi st) }
    refine ⟨_, _, rfl, hp, .list' (vs := (slicePick ws.toArray lo hi st).toList) (fresh_not G.live (get_size _)) ⟨0, (Heap.get?_push_size _ rfl).trans (by simp)⟩ ((hy O _ ws rl).ext hp)⟩
end
end Mine
namespace Mine

/-- several values at an end -/
def GotL (s : Shared) (O : Addr → Prop) (xs : List PV) (vs : List Value) (s' : Shared) : Prop :=
  ∃ h' tk', s' = { s with heap := h', toks := tk' } ∧ Ext s.heap h' ∧ RepL O h' vs xs
theorem GotL.ext {s s₁ : Shared} {O : Addr → Prop} {x : List PV} {v : List Value} (a : GotL s O x v s₁) : Ext s.heap s₁.heap := by
  obtain ⟨h, tk, rfl, e, r⟩ := a; exact e
theorem GotL.rep {s s₁ : Shared} {O : Addr → Prop} {x : List PV} {v : List Value} (a : GotL s O x v s₁) : RepL O s₁.heap v x := by
  obtain ⟨h, tk, rfl, e, r⟩ := a; exact r
theorem GotL.got {s s₁ s₂ : Shared} {O O' : Addr → Prop} {x : List PV} {v : List Value} {y : PV} {w : Value} (a : GotL s O x v s₁) (b : Got s₁ O' y w s₂) : Got s O' y w s₂ := by
  obtain ⟨h, tk, rfl, e, r⟩ := a
  obtain ⟨h', tk', rfl, e', r'⟩ := b
  exact ⟨h', tk', rfl, e.trans e', r'⟩
theorem Got.gotL {s s₁ s₂ : Shared} {O O' : Addr → Prop} {x : PV} {v : Value} {y : List PV} {w : List Value} (a : Got s O x v s₁) (b : GotL s₁ O' y w s₂) : GotL s O' y w s₂ := by
  obtain ⟨h, tk, rfl, e, r⟩ := a
  obtain ⟨h', tk', rfl, e', r'⟩ := b
  exact ⟨h', tk', rfl, e.trans e', r'⟩
/-- a new object on top of what was got -/
theorem Got.new {s : Shared} {O : Addr → Prop} {x : PV} {o : Obj} {tk : Nat} (r : Rep O (s.heap.push o) (.ref s.heap.objs.size) x) : Got s O x (.ref s.heap.objs.size) { s with heap := s.heap.push o, toks := tk } :=
  ⟨_, _, rfl, Ext.push _ _, r⟩
theorem Rep.newList {O : Addr → Prop} {h : Heap} {vs : List Value} {xs : List PV} (hl : ∀ a, O a → ∃ o, h.get? a = some o) (r : RepL O h vs xs) : Rep O (h.push { cls := .type "list", data := .seq vs.toArray }) (.ref h.objs.size) (.list xs) :=
  .list' (fresh_not hl (get_size _)) ⟨0, Heap.get?_push_size _ rfl⟩ (r.ext (Ext.push _ _))
theorem Rep.newTuple {O : Addr → Prop} {h : Heap} {vs : List Value} {xs : List PV} (hl : ∀ a, O a → ∃ o, h.get? a = some o) (r : RepL O h vs xs) : Rep O (h.push { cls := .type "tuple", data := .seq vs.toArray }) (.ref h.objs.size) (.tuple xs) :=
  .tuple' (fresh_not hl (get_size _)) ⟨0, Heap.get?_push_size _ rfl⟩ (r.ext (Ext.push _ _))

structure ArgsP (c : FC) (ρ : PEnv) (es : List Expr) (xs : List PV) : Prop where
  run : ∀ (pos : Pos) (O : Addr → Prop) (m cm : Str → Option Value) (s : Shared) (E : Value → Shared → Prop), Inv c ρ O m cm s.heap →
    wpAny (model c.prog c.w) c.A (spliced (backTo pos (starEach es c.env))) (GotL s O xs) E s

/-- a call's contract: the callee n frames deep at most -/
structure CallP (g : GC) (n : Nat) (f : Value) (xs : List PV) (z : PV) : Prop where
  run : ∀ (A : Around) (O : Addr → Prop) (s : Shared) (vs : List Value) (E : Value → Shared → Prop), Room A n → g.At s.heap → (∀ a, O a → ∃ o, s.heap.get? a = some o) → RepL O s.heap vs xs →
    wpAny (model g.prog g.w) A (call f vs) (Got s O z) E s

theorem CallP.more {g : GC} {n n' : Nat} {f : Value} {xs : List PV} {z : PV} (h : CallP g n f xs z) (hn : n ≤ n') : CallP g n' f xs z := ⟨fun A O s vs E R X => h.run A O s vs E (R.mono hn) X⟩
/-- a callee's name -/
structure HeadP (c : FC) (x : Str) (f : Value) : Prop where
  run : ∀ (pos : Pos) (O : Addr → Prop) (s : Shared) (E : Value → Shared → Prop), Gnd c O s.heap → wpAny (model c.prog c.w) c.A (eval (.Name x pos) c.env) (fun v s' => v = f ∧ s' = s) E s

section
variable {c : FC} {ρ : PEnv}
theorem ArgsP.nil : ArgsP c ρ [] [] := ⟨fun pos O m cm s E I => wpAny_items_nil ⟨s.heap, s.toks, rfl, Ext.refl _, .nil⟩⟩
theorem ArgsP.cons {e : Expr} {rest : List Expr} {x : PV} {xs : List PV} (he : EvP c ρ e x) (hr : ArgsP c ρ rest xs) (hs : starEach (e :: rest) c.env = (false, eval e c.env) :: starEach rest c.env := by rfl) : ArgsP c ρ (e :: rest) (x :: xs) := by
  refine ⟨fun pos O m cm s E I => ?_⟩
  refine wpAny_items_cons (wpAny_mono (he.run O m cm s E I) (fun v s₁ h₁ => ?_) fun _ _ x => x) hs
  refine wpAny_mono (hr.run pos O m cm s₁ E (I.ext h₁.ext)) (fun vs s₂ h₂ => ?_) fun _ _ x => x
  obtain ⟨h', tk, e', k, r⟩ := h₁.gotL h₂
  subst e'
  exact ⟨h', tk, rfl, k, .cons (h₁.rep.ext h₂.ext) r⟩
theorem ArgsP.star {e : Expr} {p : Pos} {rest : List Expr} {xs ys : List PV} (he : EvP c ρ e (.list xs)) (hr : ArgsP c ρ rest ys) (hz : xs.length ≤ sizeLine) : ArgsP c ρ (.Starred e p :: rest) (xs ++ ys) := by
  refine ⟨fun pos O m cm s E I => ?_⟩
  refine items_star (wpAny_mono (he.run O m cm s E I) (fun v s₁ h₁ => ?_) fun _ _ x => x)
  obtain ⟨a, vs, rfl, ho, hl, rl⟩ := h₁.rep.list_inv
  obtain ⟨ob, D, hc, n, hd⟩ := id hl
  unfold StarOf notIterableAtAll
  refine wpAny_bind (wpAny_specialOf hl.typeIs PySem.F.slot_list_iter.lookup (wpAny_pure ⟨rfl, ?_⟩))
  refine wpAny_collect_seq a (.inl rfl) D hc hd (fun h' hk => ?_) (by simp [rl.1]; exact hz)
  refine wpAny_mono (hr.run pos O m cm { s₁ with heap := h' } E ((I.ext h₁.ext).ext hk)) (fun ws s₂ h₂ => ?_) fun _ _ x => x
  have g : Got s O Mine.PV.none .none { s₁ with heap := h' } := h₁.trans ⟨h', s₁.toks, rfl, hk, .none⟩
  obtain ⟨h'', tk, e', k, r⟩ := g.gotL h₂
  subst e'
  exact ⟨h'', tk, rfl, k, ((rl.ext hk).ext h₂.ext).append r⟩

theorem EvP.list {es : List Expr} {pos : Pos} {xs : List PV} (h : ArgsP c ρ es xs) (hz : xs.length ≤ sizeLine) : EvP c ρ (.List es pos) (.list xs) := by
  refine ⟨fun O m cm s E I => ?_⟩
  refine wpAny_List (wpAny_mono (h.run pos O m cm s E I) (fun vs s₁ h₁ => ⟨by rw [h₁.rep.1]; exact hz, ?_⟩) fun _ _ x => x)
  exact h₁.got (Got.new (tk := s₁.toks) (Rep.newList (I.gnd.ext h₁.ext).live h₁.rep))
theorem EvP.tuple {es : List Expr} {k : Nat} {pos : Pos} {xs : List PV} (h : ArgsP c ρ es xs) (hz : xs.length ≤ sizeLine) : EvP c ρ (.Tuple es k pos) (.tuple xs) := by
  refine ⟨fun O m cm s E I => ?_⟩
  refine wpAny_Tuple (wpAny_mono (h.run pos O m cm s E I) (fun vs s₁ h₁ => ⟨by rw [h₁.rep.1]; exact hz, ?_⟩) fun _ _ x => x)
  exact h₁.got (Got.new (tk := s₁.toks) (Rep.newTuple (I.gnd.ext h₁.ext).live h₁.rep))

theorem HeadP.own {x : Str} {v : Value} (e : nsIn c.K mainGlobals x = some (some v)) (hx : c.env.kindOf x = some .globalImplicit) (hd : (x == ("__debug__" : Str)) = false := by decide) : HeadP c x v := by
  refine ⟨fun pos O s E G => ?_⟩
  refine Name_function_global G.good.kind hx (loadGlobal_global (mg := c.mg) ?_ (mg_of G.at_.k G.at_.t.g e) ⟨rfl, rfl⟩) hd
  rw [G.good.glob]; exact G.at_.t.g
theorem HeadP.boot {x : Str} {v : Value} (e : nsIn c.K mainGlobals x = some none) (hx : c.env.kindOf x = some .globalImplicit) (hv : bootBuiltins x = some v) (hn : x ≠ "__name__" := by decide) (hd : (x == ("__debug__" : Str)) = false := by decide) : HeadP c x v := by
  refine ⟨fun pos O s E G => ?_⟩
  refine Name_function_global G.good.kind hx (loadGlobal_builtin (mg := c.mg) (mb := c.mb) ?_ (mg_none_of G.at_.k G.at_.t.g e) ?_ ((G.at_.t.builtins x hn).trans hv) ⟨rfl, rfl⟩) hd
  · rw [G.good.glob]; exact G.at_.t.g
  · rw [G.good.blt]; exact G.at_.t.b

/-- the callee may be called -/
structure Calle (c : FC) (f : Value) : Prop where
  run : ∀ h, c.K.In h → ∃ k, (k = Keeper.frame ∨ k = Keeper.machine ∨ k = Keeper.boundFrame) ∧ Looks (model c.prog c.w) h (keeperOf f) k
theorem Calle.own {f : Addr} (hk : keepIn c.K (.ref f) = true) : Calle c (.ref f) := ⟨fun h X => keeps_K hk h X⟩
theorem Calle.builtin (id : String) : Calle c (.builtin id) := ⟨fun h X => ⟨.machine, .inr (.inl rfl), Looks.of_pure rfl⟩⟩
theorem Calle.type (id : String) : Calle c (.type id) := ⟨fun h X => ⟨.machine, .inr (.inl rfl), Looks.of_pure rfl⟩⟩

theorem callWith_any {M : Model} {A : Around} {E : Value → Shared → Prop} {s : Shared} {pos : Pos} {f : Value} {first : List Value} {Q : Value → Shared → Prop} {P : Heap → Prop} {args : List (Bool × Sem Value)}
    (hk : ∀ h, P h → ∃ k, (k = Keeper.frame ∨ k = Keeper.machine ∨ k = Keeper.boundFrame) ∧ Looks M h (keeperOf f) k)
    (h : wpAny M A (evalArgs f true args []) (fun a s₁ => P s₁.heap ∧ wpAny M A (call f (first ++ a.pos) a.kw) Q E s₁) E s) : wpAny M A (callWith pos f first args []) Q E s := by
  cases hst : args.any (·.1) with
  | true => exact ks_call hst hk h
  | false => exact callWith_of (by rw [hst]; rfl) hk h

theorem callArgs {a : Expr} {args : List Expr} {f : Value} {first : List Value} {xs : List PV} {pos : Pos} (hk : Calle c f) (ha : ArgsP c ρ (a :: args) xs) {O : Addr → Prop} {m cm : Str → Option Value} {s : Shared} {E : Value → Shared → Prop} (I : Inv c ρ O m cm s.heap) {Q : Value → Shared → Prop}
    (h : ∀ vs s₁, GotL s O xs vs s₁ → wpAny (model c.prog c.w) c.A (call f (first ++ vs)) Q E s₁) (he : starEach (a :: args) c.env = (false, eval a c.env) :: starEach args c.env := by rfl) :
    wpAny (model c.prog c.w) c.A (callWith pos f first (backTo pos (starEach (a :: args) c.env)) []) Q E s := by
  have h0 := ha.run pos O m cm s E I
  rw [he] at h0 ⊢
  refine callWith_any (P := c.K.In) hk.run (evalArgs_plain (wpAny_mono h0 (fun vs s₁ h₁ => ⟨?_, h vs s₁ h₁⟩) fun _ _ x => x))
  exact (I.gnd.ext h₁.ext).at_.k

theorem Good.roomN {c : FC} (G : c.Good) {n : Nat} (hn : n ≤ c.n) : Room c.A n := G.room.mono hn

/-- a call by a name -/
theorem EvP.call {x : Str} {p pos : Pos} {a : Expr} {args : List Expr} {f : Value} {xs : List PV} {z : PV} {n : Nat} (hf : HeadP c x f) (hk : Calle c f) (ha : ArgsP c ρ (a :: args) xs) (hc : CallP c.toGC n f xs z) (hn : n ≤ c.n)
    (he : starEach (a :: args) c.env = (false, eval a c.env) :: starEach args c.env := by rfl) : EvP c ρ (.Call (.Name x p) (a :: args) [] pos) z := by
  refine ⟨fun O m cm s E I => ?_⟩
  refine Call_Name rfl (wpAny_mono (hf.run p O s E I.gnd) (fun v s₁ h₁ => ?_) fun _ _ x => x)
  obtain ⟨rfl, rfl⟩ := h₁
  refine callArgs hk ha I (fun vs s₂ h₂ => ?_) he
  have G := I.gnd.ext h₂.ext
  exact wpAny_mono (hc.run c.A O s₂ vs E (I.good.room.mono hn) G.at_ G.live h₂.rep) (fun _ _ q => h₂.got q) fun _ _ x => x

/-! built-in callees -/
theorem CallP.abs {g : GC} {n : Nat} (a : Int) : CallP g n (.builtin "abs") [.int a] (.int (if a < 0 then -a else a)) := by
  refine ⟨fun A O s vs E R X L r => ?_⟩
  obtain ⟨v, vs', rfl, r₁, r₂⟩ := r.cons_inv; obtain rfl := r₂.nil_inv; obtain ⟨t, rfl⟩ := r₁.int_inv
  exact call_abs_int fun u tk => Got.toks (.int _ _)
theorem CallP.int {g : GC} {n : Nat} (a : Int) : CallP g n (.type "int") [.int a] (.int a) := by
  refine ⟨fun A O s vs E R X L r => ?_⟩
  obtain ⟨v, vs', rfl, r₁, r₂⟩ := r.cons_inv; obtain rfl := r₂.nil_inv; obtain ⟨t, rfl⟩ := r₁.int_inv
  exact call_int_int (Got.same (.int _ _))
theorem CallP.chr {g : GC} {n : Nat} {a : Int} (h0 : 0 ≤ a) (h1 : a ≤ 1114111) : CallP g n (.builtin "chr") [.int a] (.str ⟨#[a.toNat]⟩) := by
  refine ⟨fun A O s vs E R X L r => ?_⟩
  obtain ⟨v, vs', rfl, r₁, r₂⟩ := r.cons_inv; obtain rfl := r₂.nil_inv; obtain ⟨t, rfl⟩ := r₁.int_inv
  exact chr_of_range h0 h1 (Got.toks (.str _ _))
theorem CallP.lenS {g : GC} {n : Nat} {x : Str} (h : x.length ≤ sizeLine) : CallP g n (.builtin "len") [.str x] (.int x.length) := by
  refine ⟨fun A O s vs E R X L r => ?_⟩
  obtain ⟨v, vs', rfl, r₁, r₂⟩ := r.cons_inv; obtain rfl := r₂.nil_inv; obtain ⟨t, rfl⟩ := r₁.str_inv
  exact P.len_str (by rw [sizeLine_eq] at h; omega) (Got.toks (.int _ _))
theorem CallP.lenL {g : GC} {n : Nat} {xs : List PV} (h : xs.length ≤ sizeLine) : CallP g n (.builtin "len") [.list xs] (.int xs.length) := by
  refine ⟨fun A O s vs E R X L r => ?_⟩
  obtain ⟨v, vs', rfl, r₁, r₂⟩ := r.cons_inv; obtain rfl := r₂.nil_inv; obtain ⟨a, ws, rfl, ho, hl, rl⟩ := r₁.list_inv
  have e : ((ws.toArray.size : Nat) : Int) = (xs.length : Int) := by simp [rl.1]
  refine len_list hl (by rw [sizeLine_eq] at h; rw [e]; omega) ?_
  rw [e]; exact Got.toks (.int _ _)
theorem CallP.divmod {g : GC} {n : Nat} {a b : Int} (h : b ≠ 0) (hp : Builtin.divisionGoesByPylong a b = false) : CallP g n (.builtin "divmod") [.int a, .int b] (.tuple [.int (a.fdiv b), .int (a.fmod b)]) := by
  refine ⟨fun A O s vs E R X L r => ?_⟩
  obtain ⟨v, vs', rfl, r₁, r₂⟩ := r.cons_inv; obtain ⟨v', vs'', rfl, r₃, r₄⟩ := r₂.cons_inv; obtain rfl := r₄.nil_inv; obtain ⟨t, rfl⟩ := r₁.int_inv; obtain ⟨u, rfl⟩ := r₃.int_inv
  exact divmod_int h (Got.new (Rep.newTuple L (.cons (.int _ _) (.cons (.int _ _) .nil)))) (.inl hp)
theorem Rep.newRange {O : Addr → Prop} {h : Heap} {a b c : Int} {t u v : Tok} (hl : ∀ a, O a → ∃ o, h.get? a = some o) : Rep O (h.push { cls := .type "range", data := .fields #[.int a t, .int b u, .int c v] }) (.ref h.objs.size) (.range a b c) :=
  .range (fresh_not hl (get_size _)) (IsRange.new _ _ _ _ _ _ _)
theorem CallP.range1 {g : GC} {n : Nat} (a : Int) : CallP g n (.type "range") [.int a] (.range 0 a 1) := by
  refine ⟨fun A O s vs E R X L r => ?_⟩
  obtain ⟨v, vs', rfl, r₁, r₂⟩ := r.cons_inv; obtain rfl := r₂.nil_inv; obtain ⟨t, rfl⟩ := r₁.int_inv
  exact call_range_1 (Got.new (Rep.newRange L))
theorem CallP.range2 {g : GC} {n : Nat} (a b : Int) : CallP g n (.type "range") [.int a, .int b] (.range a b 1) := by
  refine ⟨fun A O s vs E R X L r => ?_⟩
  obtain ⟨v, vs', rfl, r₁, r₂⟩ := r.cons_inv; obtain ⟨v', vs'', rfl, r₃, r₄⟩ := r₂.cons_inv; obtain rfl := r₄.nil_inv; obtain ⟨t, rfl⟩ := r₁.int_inv; obtain ⟨u, rfl⟩ := r₃.int_inv
  exact call_range_2 (Got.new (Rep.newRange L))
theorem CallP.range3 {g : GC} {n : Nat} {a b c : Int} (h : c ≠ 0) (hp : Builtin.divisionGoesByPylong (b - a) c = false) : CallP g n (.type "range") [.int a, .int b, .int c] (.range a b c) := by
  refine ⟨fun A O s vs E R X L r => ?_⟩
  obtain ⟨v, vs', rfl, r₁, r₂⟩ := r.cons_inv; obtain ⟨v', vs'', rfl, r₃, r₄⟩ := r₂.cons_inv; obtain ⟨v'', vs3, rfl, r₅, r₆⟩ := r₄.cons_inv; obtain rfl := r₆.nil_inv; obtain ⟨t, rfl⟩ := r₁.int_inv; obtain ⟨u, rfl⟩ := r₃.int_inv; obtain ⟨u', rfl⟩ := r₅.int_inv
  exact call_range_3 h (Got.new (Rep.newRange L)) (.inl hp)

/-- the ints of a range -/
def rangePV (a c : Int) (n : Nat) : List PV := (List.range n).map fun (i : Nat) => PV.int (a + (i : Int) * c)
theorem rangePV_length (a c : Int) (n : Nat) : (rangePV a c n).length = n := by simp [rangePV]
theorem rangePV_get {a c : Int} {n i : Nat} (h : i < n) : (rangePV a c n)[i]? = some (.int (a + i * c)) := by simp [rangePV, h]
theorem CallP.listRange {g : GC} {n : Nat} {a b c : Int} {k : Nat} (hs : Builtin.Range.small a b c = true) (hn : Builtin.Range.rangeSize a b c = k) (hk : k ≤ 2 ^ 24) : CallP g n (.type "list") [.range a b c] (.list (rangePV a c k)) := by
  refine ⟨fun A O s vs E R X L r => ?_⟩
  obtain ⟨v, vs', rfl, r₁, r₂⟩ := r.cons_inv; obtain rfl := r₂.nil_inv; obtain ⟨q, t, u, w, rfl, ho, hr⟩ := r₁.range_inv
  refine call_list_range R.hd hr hs hn hk fun h' tk acc' c' hke hS hacc => ⟨h', tk, rfl, hke, ?_⟩
  refine .list' (vs := acc'.toList) (fresh_not L (get_size _)) ⟨c', by simpa using hS⟩ ⟨by simp [rangePV_length, hacc.1], fun i v x e e' => ?_⟩
  have e1 : acc'[i]? = some v := by simpa using e
  obtain ⟨t', rfl⟩ := hacc.2 i v e1
  have hi : i < k := by have := (Array.getElem?_eq_some_iff.mp e1).1; rw [hacc.1] at this; exact this
  rw [rangePV_get hi] at e'
  cases e'
  exact .int _ _
end
end Mine
namespace Mine

/-- how a run of statements ends -/
inductive Out where
  | next (ρ : PEnv)
  | brk (ρ : PEnv)
  | cont (ρ : PEnv)
  | ret (x : PV)

def Mut (c : FC) (b : Addr) : Prop := b = c.env.locals ∨ ∃ n, c.env.cells.lookup n = some b
def Kept (c : FC) (O : Addr → Prop) (h h' : Heap) : Prop := ∀ b o, h.get? b = some o → ¬ Mut c b → ¬ O b → h'.get? b = some o
structure FC.Fresh (c : FC) : Prop where
  loc : c.h₀.get? c.env.locals = none
  cel : ∀ n a, c.env.cells.lookup n = some a → c.h₀.get? a = none
  apart : ∀ n n' a, c.env.cells.lookup n = some a → c.env.cells.lookup n' = some a → n = n'

def GoesOn (c : FC) (h : Heap) (O : Addr → Prop) (ρ : PEnv) (h' : Heap) : Prop := ∃ O' m' cm', Inv c ρ O' m' cm' h' ∧ ∀ a, O' a → O a ∨ h.get? a = none
def Went (c : FC) (s : Shared) (O : Addr → Prop) (out : Out) (f : Flow) (s' : Shared) : Prop :=
  ∃ h' tk', s' = { s with heap := h', toks := tk' } ∧ Kept c O s.heap h' ∧
    match out with
    | .next ρ => f = .next ∧ GoesOn c s.heap O ρ h'
    | .brk ρ => f = .brk ∧ GoesOn c s.heap O ρ h'
    | .cont ρ => f = .cont ∧ GoesOn c s.heap O ρ h'
    | .ret x => (∃ v, f = .ret v ∧ Rep c.B h' v x) ∧ Ext c.h₀ h'

/-- statements lead from an environment to an end -/
structure ExP (c : FC) (ρ : PEnv) (st : List Stmt) (out : Out) : Prop where
  run : c.Fresh → ∀ (O : Addr → Prop) (m cm : Str → Option Value) (s : Shared) (E : Value → Shared → Prop), Inv c ρ O m cm s.heap →
    wpAny (model c.prog c.w) c.A (execs st c.env) (Went c s O out) E s
/-- one statement -/
structure StP (c : FC) (ρ : PEnv) (st : Stmt) (out : Out) : Prop where
  run : c.Fresh → ∀ (O : Addr → Prop) (m cm : Str → Option Value) (s : Shared) (E : Value → Shared → Prop), Inv c ρ O m cm s.heap →
    wpAny (model c.prog c.w) c.A (exec st c.env) (Went c s O out) E s

theorem Kept.refl {c : FC} {O : Addr → Prop} {h : Heap} : Kept c O h h := fun _ _ e _ _ => e
theorem Kept.ext {c : FC} {O : Addr → Prop} {h h' : Heap} (x : Ext h h') : Kept c O h h' := fun b o e _ _ => x b o e
theorem Kept.trans {c : FC} {O O' : Addr → Prop} {h h' h'' : Heap} (x : Kept c O h h') (y : Kept c O' h' h'') (ho : ∀ a, O' a → O a ∨ h.get? a = none) : Kept c O h h'' := fun b o e m n =>
  y b o (x b o e m n) m fun q => by
    rcases ho b q with a | a
    · exact n a
    · rw [e] at a; cases a
theorem GoesOn.refl {c : FC} {h : Heap} {O : Addr → Prop} {ρ : PEnv} {m cm : Str → Option Value} (I : Inv c ρ O m cm h) : GoesOn c h O ρ h := ⟨O, m, cm, I, fun _ q => .inl q⟩
theorem GoesOn.same {c : FC} {h h' : Heap} {O : Addr → Prop} {ρ : PEnv} {m cm : Str → Option Value} (I : Inv c ρ O m cm h') : GoesOn c h O ρ h' := ⟨O, m, cm, I, fun _ q => .inl q⟩

theorem none_of_kept {c : FC} {O O' : Addr → Prop} {h h' : Heap} (K : Kept c O h h') (a : Addr) (hn : h'.get? a = none) (hm : ¬ Mut c a) (ho : ¬ O a) : h.get? a = none := by
  cases e : h.get? a with
  | none => rfl
  | some o => rw [K a o e hm ho] at hn; cases hn

section
variable {c : FC} {ρ : PEnv}
theorem Inv.mut_live {O : Addr → Prop} {m cm : Str → Option Value} {h : Heap} (I : Inv c ρ O m cm h) {b : Addr} (q : Mut c b) : ∃ o, h.get? b = some o := by
  rcases q with rfl | ⟨n, e⟩
  · obtain ⟨o, _, _, e, _⟩ := I.ns; exact ⟨o, e⟩
  · obtain ⟨o, e, _⟩ := I.cell n b e; exact ⟨o, e⟩

/-- one behind the other -/
theorem Went.andThen {s s₁ s₂ : Shared} {O : Addr → Prop} {f : Flow} {out : Out} {h₁ : Heap} {tk : Nat} (e : s₁ = { s with heap := h₁, toks := tk }) (K : Kept c O s.heap h₁) {O' : Addr → Prop} {m cm : Str → Option Value} (I : Inv c ρ O' m cm h₁)
    (ho : ∀ a, O' a → O a ∨ s.heap.get? a = none) (w : Went c s₁ O' out f s₂) : Went c s O out f s₂ := by
  subst e
  obtain ⟨h₂, tk₂, rfl, K₂, r⟩ := w
  refine ⟨h₂, tk₂, rfl, K.trans K₂ ho, ?_⟩
  have tr : ∀ ρ', GoesOn c h₁ O' ρ' h₂ → GoesOn c s.heap O ρ' h₂ := fun ρ' ⟨O₂, m₂, cm₂, I₂, q⟩ => ⟨O₂, m₂, cm₂, I₂, fun a x => by
    rcases q a x with y | y
    · exact ho a y
    · by_cases oa : O a
      · exact .inl oa
      · by_cases ma : Mut c a
        · obtain ⟨o, eo⟩ := I.mut_live ma
          rw [y] at eo; cases eo
        · exact .inr (none_of_kept (O' := O') K a y ma oa)⟩
  cases out with
  | next ρ' => exact ⟨r.1, tr _ r.2⟩
  | brk ρ' => exact ⟨r.1, tr _ r.2⟩
  | cont ρ' => exact ⟨r.1, tr _ r.2⟩
  | ret x => exact r
theorem Got.went {s s₁ s₂ : Shared} {O : Addr → Prop} {x : PV} {v : Value} {f : Flow} {out : Out} {m cm : Str → Option Value} (I : Inv c ρ O m cm s.heap) (g : Got s O x v s₁) (w : Went c s₁ O out f s₂) : Went c s O out f s₂ := by
  have I₁ := I.ext g.ext
  obtain ⟨h, tk, rfl, e, r⟩ := g
  exact w.andThen rfl (Kept.ext e) I₁ fun _ q => .inl q
theorem Seen.went {s s₁ s₂ : Shared} {O : Addr → Prop} {b b' : Bool} {f : Flow} {out : Out} {m cm : Str → Option Value} (I : Inv c ρ O m cm s.heap) (g : Seen s b b' s₁) (w : Went c s₁ O out f s₂) : Went c s O out f s₂ := by
  have I₁ := I.ext g.ext
  obtain ⟨_, h, tk, rfl, e⟩ := g
  exact w.andThen rfl (Kept.ext e) I₁ fun _ q => .inl q

theorem ExP.nil : ExP c ρ [] (.next ρ) := ⟨fun _ O m cm s E I => wpAny_execs_nil ⟨s.heap, s.toks, rfl, Kept.refl, rfl, GoesOn.refl I⟩⟩
theorem ExP.cons {st : Stmt} {rest : List Stmt} {ρ' : PEnv} {out : Out} (h1 : StP c ρ st (.next ρ')) (h2 : ExP c ρ' rest out) : ExP c ρ (st :: rest) out := by
  refine ⟨fun hF O m cm s E I => ?_⟩
  refine wpAny_execs_cons (wpAny_mono (h1.run hF O m cm s E I) (fun f s₁ h₁ => ?_) fun _ _ x => x)
  obtain ⟨h', tk, rfl, K, rfl, O', m', cm', I', ho⟩ := h₁
  exact wpAny_mono (h2.run hF O' m' cm' _ E I') (fun _ _ w => w.andThen rfl K I' ho) fun _ _ x => x
theorem ExP.ret {st : Stmt} {rest : List Stmt} {x : PV} (h1 : StP c ρ st (.ret x)) : ExP c ρ (st :: rest) (.ret x) := by
  refine ⟨fun hF O m cm s E I => ?_⟩
  refine wpAny_execs_cons (wpAny_mono (h1.run hF O m cm s E I) (fun f s₁ h₁ => ?_) fun _ _ x => x)
  obtain ⟨h', tk, rfl, K, ⟨v, rfl, r⟩, k⟩ := h₁
  exact ⟨h', tk, rfl, K, ⟨v, rfl, r⟩, k⟩
theorem ExP.brk {st : Stmt} {rest : List Stmt} {ρ' : PEnv} (h1 : StP c ρ st (.brk ρ')) : ExP c ρ (st :: rest) (.brk ρ') := by
  refine ⟨fun hF O m cm s E I => ?_⟩
  refine wpAny_execs_cons (wpAny_mono (h1.run hF O m cm s E I) (fun f s₁ h₁ => ?_) fun _ _ x => x)
  obtain ⟨h', tk, rfl, K, rfl, g⟩ := h₁
  exact ⟨h', tk, rfl, K, rfl, g⟩
theorem ExP.one {st : Stmt} {out : Out} (h1 : StP c ρ st out) : ExP c ρ [st] out := by
  cases out with
  | next ρ' => exact ExP.cons h1 ExP.nil
  | ret x => exact ExP.ret h1
  | brk ρ' => exact ExP.brk h1
  | cont ρ' =>
    refine ⟨fun hF O m cm s E I => ?_⟩
    refine wpAny_execs_cons (wpAny_mono (h1.run hF O m cm s E I) (fun f s₁ h₁ => ?_) fun _ _ x => x)
    obtain ⟨h', tk, rfl, K, rfl, g⟩ := h₁
    exact ⟨h', tk, rfl, K, rfl, g⟩

/-! weakening -/
def Sub (ρ' ρ : PEnv) : Prop := ∀ x e, ρ'.lookup x = some e → ρ.lookup x = some e
theorem Inv.sub_env {ρ' : PEnv} {O : Addr → Prop} {m cm : Str → Option Value} {h : Heap} (I : Inv c ρ O m cm h) (S : Sub ρ' ρ) : Inv c ρ' O m cm h :=
  ⟨I.good, I.ns, I.cell, I.keep, fun x pv e => I.val x pv (S _ _ e), fun x xs e => I.own x xs (S _ _ e), fun x y xs ys a e e' => I.inj x y xs ys a (S _ _ e) (S _ _ e'), I.sub, I.live⟩
theorem ExP.weak {ρ' : PEnv} {st : List Stmt} {out : Out} (S : Sub ρ' ρ) (h : ExP c ρ' st out) : ExP c ρ st out := ⟨fun hF O m cm s E I => h.run hF O m cm s E (I.sub_env S)⟩
theorem StP.weak {ρ' : PEnv} {st : Stmt} {out : Out} (S : Sub ρ' ρ) (h : StP c ρ' st out) : StP c ρ st out := ⟨fun hF O m cm s E I => h.run hF O m cm s E (I.sub_env S)⟩
theorem EvP.weak {ρ' : PEnv} {e : Expr} {x : PV} (S : Sub ρ' ρ) (h : EvP c ρ' e x) : EvP c ρ e x := ⟨fun O m cm s E I => h.run O m cm s E (I.sub_env S)⟩
theorem Went.weak {ρ' ρ'' : PEnv} {s s' : Shared} {O : Addr → Prop} {f : Flow} (S : Sub ρ'' ρ') (w : Went c s O (.next ρ') f s') : Went c s O (.next ρ'') f s' := by
  obtain ⟨h', tk, e, K, e', O', m', cm', I', ho⟩ := w
  exact ⟨h', tk, e, K, e', O', m', cm', I'.sub_env S, ho⟩
theorem ExP.forget {ρ' ρ'' : PEnv} {st : List Stmt} (S : Sub ρ'' ρ') (h : ExP c ρ st (.next ρ')) : ExP c ρ st (.next ρ'') := ⟨fun hF O m cm s E I => wpAny_mono (h.run hF O m cm s E I) (fun _ _ w => w.weak S) fun _ _ x => x⟩
theorem StP.forget {ρ' ρ'' : PEnv} {st : Stmt} (S : Sub ρ'' ρ') (h : StP c ρ st (.next ρ')) : StP c ρ st (.next ρ'') := ⟨fun hF O m cm s E I => wpAny_mono (h.run hF O m cm s E I) (fun _ _ w => w.weak S) fun _ _ x => x⟩
theorem Sub.of_all {ρ' ρ : PEnv} (h : ∀ p ∈ ρ', ρ.lookup p.1 = some p.2) : Sub ρ' ρ := fun x e hx => h (x, e) (mem_of_lookup hx)

/-- freezing: an own list becomes a datum -/
theorem Inv.freeze {O : Addr → Prop} {m cm : Str → Option Value} {h : Heap} {x : Str} {xs : List PV} (I : Inv c ρ O m cm h) (hx : ρ.lookup x = some (.own xs)) :
    ∃ O', Inv c ((x, .val (.list xs)) :: ρ) O' m cm h ∧ ∀ a, O' a → O a := by
  obtain ⟨a, vs, n, sl, oa, nb, hz, hg, rl⟩ := I.own x xs hx
  refine ⟨fun b => O b ∧ b ≠ a, ⟨I.good, I.ns, I.cell, I.keep, ?_, ?_, ?_, ?_, ?_⟩, fun b q => q.1⟩
  · intro y pv e
    rw [List.lookup_cons] at e
    cases hb : y == x with
    | true =>
      rw [hb] at e; cases e
      rw [beq_iff_eq.mp hb]
      exact ⟨_, sl, .list' (fun q => q.2 rfl) ⟨n, hg⟩ (rl.mono (fun b o q _ q' => q q'.1) fun b o _ _ e => e)⟩
    | false =>
      rw [hb] at e
      obtain ⟨v, s, r⟩ := I.val y pv e
      exact ⟨v, s, r.mono (fun b o q _ q' => q q'.1) fun b o _ _ e => e⟩
  · intro y ys e
    rw [List.lookup_cons] at e
    cases hb : y == x with
    | true => rw [hb] at e; cases e
    | false =>
      rw [hb] at e
      obtain ⟨a', vs', n', sl', oa', nb', hz', hg', rl'⟩ := I.own y ys e
      refine ⟨a', vs', n', sl', ⟨oa', fun q => ?_⟩, nb', hz', hg', rl'.mono (fun b o q _ q' => q q'.1) fun b o _ _ e => e⟩
      subst q
      have := I.inj y x ys xs a' e hx sl' sl
      rw [this, beq_self_eq_true] at hb; cases hb
  · intro y z ys zs b e e' s s'
    rw [List.lookup_cons] at e e'
    cases hb : y == x with
    | true => rw [hb] at e; cases e
    | false =>
      cases hb' : z == x with
      | true => rw [hb'] at e'; cases e'
      | false => rw [hb] at e; rw [hb'] at e'; exact I.inj y z ys zs b e e' s s'
  · exact fun b q => ⟨I.sub b q, fun e => nb (e ▸ q)⟩
  · exact fun b q => I.live b q.1
theorem Went.frozen {s s' : Shared} {O O' : Addr → Prop} {f : Flow} {out : Out} (ho : ∀ a, O' a → O a) (w : Went c s O' out f s') : Went c s O out f s' := by
  obtain ⟨h', tk, e, K, r⟩ := w
  refine ⟨h', tk, e, fun b o eb m n => K b o eb m fun q => n (ho b q), ?_⟩
  have tr : ∀ ρ', GoesOn c s.heap O' ρ' h' → GoesOn c s.heap O ρ' h' := fun ρ' ⟨O₂, m₂, cm₂, I₂, q⟩ => ⟨O₂, m₂, cm₂, I₂, fun a x => (q a x).imp (ho a) id⟩
  cases out with
  | next ρ' => exact ⟨r.1, tr _ r.2⟩
  | brk ρ' => exact ⟨r.1, tr _ r.2⟩
  | cont ρ' => exact ⟨r.1, tr _ r.2⟩
  | ret x => exact r
theorem ExP.freeze {x : Str} {xs : List PV} {st : List Stmt} {out : Out} (hx : ρ.lookup x = some (.own xs)) (h : ExP c ((x, .val (.list xs)) :: ρ) st out) : ExP c ρ st out := by
  refine ⟨fun hF O m cm s E I => ?_⟩
  obtain ⟨O', I', ho⟩ := I.freeze hx
  exact wpAny_mono (h.run hF O' m cm s E I') (fun _ _ w => w.frozen ho) fun _ _ x => x
theorem StP.freeze {x : Str} {xs : List PV} {st : Stmt} {out : Out} (hx : ρ.lookup x = some (.own xs)) (h : StP c ((x, .val (.list xs)) :: ρ) st out) : StP c ρ st out := by
  refine ⟨fun hF O m cm s E I => ?_⟩
  obtain ⟨O', I', ho⟩ := I.freeze hx
  exact wpAny_mono (h.run hF O' m cm s E I') (fun _ _ w => w.frozen ho) fun _ _ x => x

/-! storing -/
theorem solid_ne {h : Heap} {L : Addr} {m : Str → Option Value} (hn : h.Ns L m) {b : Addr} {o : Obj} (e : h.get? b = some o) (hs : Solid o) : b ≠ L := by
  rintro rfl
  obtain ⟨o', es, ep, e', hd, _⟩ := hn
  rw [e] at e'; cases e'
  exact hs.no_dict hd
theorem solid_ne_cell {h : Heap} {a : Addr} {v : Option Value} (hn : h.IsCell a v) {b : Addr} {o : Obj} (e : h.get? b = some o) (hs : Solid o) : b ≠ a := by
  rintro rfl
  obtain ⟨o', e', hd⟩ := hn
  rw [e] at e'; cases e'
  exact hs.no_cell hd
theorem cell_ne {h : Heap} {L a : Addr} {m : Str → Option Value} {v : Option Value} (hn : h.Ns L m) (hc : h.IsCell a v) : a ≠ L := by
  rintro rfl
  obtain ⟨o', es, ep, e', hd, _⟩ := hn
  obtain ⟨o, e, hd'⟩ := hc
  rw [e] at e'; cases e'
  rw [hd] at hd'; cases hd'

def CanStore (c : FC) (x : Str) : Prop := c.env.kindOf x = some .local ∨ (c.env.kindOf x = some .cell ∧ (c.env.cells.lookup x).isSome = true)

/-- the frame with one name turned -/
theorem Inv.set {O : Addr → Prop} {m cm m' cm' : Str → Option Value} {h h' : Heap} {x : Str} {v : Value} {e : Ent} {b : Addr} (hF : c.Fresh) (I : Inv c ρ O m cm h) (hb : Mut c b) (hs : Heap.SameBut b h h')
    (hns : h'.Ns c.env.locals m') (hcl : ∀ n a, c.env.cells.lookup n = some a → h'.IsCell a (cm' n)) (hx : Slot c.env m' cm' x v) (hy : ∀ y w, y ≠ x → (Slot c.env m' cm' y w ↔ Slot c.env m cm y w))
    (hval : ∀ pv, e = .val pv → Rep O h v pv)
    (hown : ∀ xs, e = .own xs → ∃ a vs n, v = .ref a ∧ O a ∧ ¬ c.B a ∧ c.h₀.get? a = none ∧ h.get? a = some { cls := .type "list", data := .seq (List.toArray vs) n } ∧ RepL O h vs xs ∧ ∀ y ys, ρ.lookup y = some (.own ys) → ¬ Slot c.env m cm y (.ref a)) :
    Inv c ((x, e) :: ρ) O m' cm' h' := by
  have hk : ∀ b' o, Solid o → h.get? b' = some o → h'.get? b' = some o := fun b' o so e' => by
    have : b' ≠ b := by
      rcases hb with rfl | ⟨n, en⟩
      · exact solid_ne I.ns e' so
      · exact solid_ne_cell (I.cell n b en) e' so
    exact (hs.2 b' this).trans e'
  have hk0 : ∀ b' o, b' ≠ b → h.get? b' = some o → h'.get? b' = some o := fun b' o n e' => (hs.2 b' n).trans e'
  have h0b : c.h₀.get? b = none := by
    rcases hb with rfl | ⟨n, en⟩
    · exact hF.loc
    · exact hF.cel n b en
  refine ⟨I.good, hns, hcl, fun b' o e' => ?_, ?_, ?_, ?_, I.sub, ?_⟩
  · refine hk0 b' o (fun q => ?_) (I.keep b' o e')
    subst q; rw [h0b] at e'; cases e'
  · intro y pv ey
    rw [List.lookup_cons] at ey
    cases hb : y == x with
    | true =>
      rw [hb] at ey; cases ey
      rw [beq_iff_eq.mp hb]
      exact ⟨v, hx, (hval pv rfl).mono (fun _ _ q _ => q) fun b' o _ so e' => hk b' o so e'⟩
    | false =>
      rw [hb] at ey
      obtain ⟨w, s, r⟩ := I.val y pv ey
      exact ⟨w, (hy y w (fun q => by rw [q, beq_self_eq_true] at hb; cases hb)).mpr s, r.mono (fun _ _ q _ => q) fun b' o _ so e' => hk b' o so e'⟩
  · intro y ys ey
    rw [List.lookup_cons] at ey
    cases hb : y == x with
    | true =>
      rw [hb] at ey; cases ey
      rw [beq_iff_eq.mp hb]
      obtain ⟨a, vs, n, rfl, oa, nb, hz, hg, rl, _⟩ := hown ys rfl
      exact ⟨a, vs, n, hx, oa, nb, hz, hk a _ (solid_list rfl) hg, rl.mono (fun _ _ q _ => q) fun b' o _ so e' => hk b' o so e'⟩
    | false =>
      rw [hb] at ey
      obtain ⟨a, vs, n, s, oa, nb, hz, hg, rl⟩ := I.own y ys ey
      exact ⟨a, vs, n, (hy y _ (fun q => by rw [q, beq_self_eq_true] at hb; cases hb)).mpr s, oa, nb, hz, hk a _ (solid_list rfl) hg, rl.mono (fun _ _ q _ => q) fun b' o _ so e' => hk b' o so e'⟩
  · intro y z ys zs a ey ez sy sz
    rw [List.lookup_cons] at ey ez
    cases hby : y == x with
    | true =>
      rw [hby] at ey; cases ey
      have hyx := beq_iff_eq.mp hby
      cases hbz : z == x with
      | true => rw [hyx, beq_iff_eq.mp hbz]
      | false =>
        rw [hbz] at ez
        have hzx : z ≠ x := fun q => by rw [q, beq_self_eq_true] at hbz; cases hbz
        obtain ⟨a', vs, n, ev, oa, nb, hz, hg, rl, ap⟩ := hown ys rfl
        subst hyx ev
        have : a = a' := by
          rcases sy with ⟨k1, k2⟩ | ⟨k1, k1', k2⟩ <;> rcases hx with ⟨k3, k4⟩ | ⟨k3, k3', k4⟩
          · rw [k2] at k4; cases k4; rfl
          · rw [k1] at k3; cases k3
          · rw [k1] at k3; cases k3
          · rw [k2] at k4; cases k4; rfl
        subst this
        exact absurd ((hy z _ hzx).mp sz) (ap z zs ez)
    | false =>
      rw [hby] at ey
      have hyx : y ≠ x := fun q => by rw [q, beq_self_eq_true] at hby; cases hby
      cases hbz : z == x with
      | true =>
        rw [hbz] at ez; cases ez
        have hzx := beq_iff_eq.mp hbz
        obtain ⟨a', vs, n, ev, oa, nb, hz, hg, rl, ap⟩ := hown zs rfl
        subst hzx ev
        have : a = a' := by
          rcases sz with ⟨k1, k2⟩ | ⟨k1, k1', k2⟩ <;> rcases hx with ⟨k3, k4⟩ | ⟨k3, k3', k4⟩
          · rw [k2] at k4; cases k4; rfl
          · rw [k1] at k3; cases k3
          · rw [k1] at k3; cases k3
          · rw [k2] at k4; cases k4; rfl
        subst this
        exact absurd ((hy y _ hyx).mp sy) (ap y ys ey)
      | false =>
        rw [hbz] at ez
        have hzx : z ≠ x := fun q => by rw [q, beq_self_eq_true] at hbz; cases hbz
        exact I.inj y z ys zs a ey ez ((hy y _ hyx).mp sy) ((hy z _ hzx).mp sz)
  · intro a q
    obtain ⟨o, eo⟩ := I.live a q
    by_cases hab : a = b
    · subst hab
      rcases hb with rfl | ⟨n, en⟩
      · obtain ⟨o', _, _, e', _⟩ := hns; exact ⟨o', e'⟩
      · obtain ⟨o', e', _⟩ := hcl n a en; exact ⟨o', e'⟩
    · exact ⟨o, hk0 a o hab eo⟩

/-- a store of a name -/
theorem wp_store {O : Addr → Prop} {m cm : Str → Option Value} {s : Shared} {E : Value → Shared → Prop} {x : Str} {v : Value} {e : Ent} (hF : c.Fresh) (I : Inv c ρ O m cm s.heap) (hx : CanStore c x)
    (hval : ∀ pv, e = .val pv → Rep O s.heap v pv)
    (hown : ∀ xs, e = .own xs → ∃ a vs n, v = .ref a ∧ O a ∧ ¬ c.B a ∧ c.h₀.get? a = none ∧ s.heap.get? a = some { cls := .type "list", data := .seq (List.toArray vs) n } ∧ RepL O s.heap vs xs ∧ ∀ y ys, ρ.lookup y = some (.own ys) → ¬ Slot c.env m cm y (.ref a)) :
    wpAny (model c.prog c.w) c.A (storeName c.env x v) (fun _ s' => ∃ h' tk' m' cm', s' = { s with heap := h', toks := tk' } ∧ Kept c O s.heap h' ∧ Inv c ((x, e) :: ρ) O m' cm' h') E s := by
  rcases hx with hl | ⟨hl, hc⟩
  · refine wpAny_storeName_local hl I.ns (fun h' hn hs => ?_) (by rw [I.good.kind]; rfl)
    refine ⟨h', _, _, cm, rfl, fun b o e' nm no => (hs.2 b fun q => nm (.inl q)).trans e', I.set hF (.inl rfl) hs hn (fun n a en => (I.cell n a en).sameBut hs (cell_ne I.ns (I.cell n a en))) (.inl ⟨hl, by simp⟩) (fun y w hy => ?_) hval hown⟩
    unfold Slot
    dsimp only
    rw [if_neg hy]
  · obtain ⟨a, ha⟩ := Option.isSome_iff_exists.mp hc
    refine wpAny_storeName_cell I.good.kind hl ha (I.cell x a ha) fun h' hv hs => ?_
    refine ⟨h', _, m, fun y => if y = x then some v else cm y, rfl, fun b o e' nm no => (hs.2 b fun q => nm (.inr ⟨x, q ▸ ha⟩)).trans e',
      I.set hF (.inr ⟨x, ha⟩) hs (I.ns.sameBut hs (Ne.symm (cell_ne I.ns (I.cell x a ha)))) (fun n b en => ?_) (.inr ⟨hl, hc, by simp⟩) (fun y w hy => ?_) hval hown⟩
    · by_cases hn : n = x
      · subst hn; rw [ha] at en; cases en; simpa using hv
      · rw [if_neg hn]
        exact (I.cell n b en).sameBut hs fun q => hn (hF.apart n x b en (q ▸ ha))
    · unfold Slot
      dsimp only
      rw [if_neg hy]
end
end Mine
namespace Mine
/-- a method's call in its common form -/
abbrev MethForm (c : FC) (o : Expr) (name : Str) (ap : Pos) (args : List Expr) (cp : Pos) : Prop := ∃ pl : Sem Bool,
  eval (.Call (.Attribute o name ap) args [] cp) c.env = (do
    let ov ← eval o c.env
    standAt ap.atName
    let (f, first) ← holding [ov] (getMethod ov name pl)
    callWith cp f first (backTo cp (starEach args c.env)) [])
section
variable {c : FC} {ρ : PEnv}

theorem StP.assign {x : Str} {px pos : Pos} {e : Expr} {v : PV} (h : EvP c ρ e v) (hx : CanStore c x) (hs : swapsWith e (some (.Name x px)) pos.line c.env = pure false := by rfl) : StP c ρ (.Assign [.Name x px] e pos) (.next ((x, .val v) :: ρ)) := by
  refine ⟨fun hF O m cm s E I => ?_⟩
  refine wpAny_Assign_Name (wpAny_mono (h.run O m cm s E I) (fun w s₁ h₁ => ?_) fun _ _ x => x) hs
  have I₁ := I.ext h₁.ext
  refine wpAny_mono (wp_store (e := .val v) hF I₁ hx (fun pv e => by cases e; exact h₁.rep) (fun xs e => nomatch e)) (fun _ s₂ h₂ => ?_) fun _ _ x => x
  obtain ⟨h', tk, m', cm', rfl, K, I'⟩ := h₂
  exact h₁.went I ⟨h', tk, rfl, K, rfl, GoesOn.same I'⟩

theorem StP.aug {x : Str} {px pos : Pos} {op : Operator} {e : Expr} {a v z : PV} (ha : ρ.lookup x = some (.val a)) (h : EvP c ρ e v) (ho : Op2 c (inplaceOp op) a v z) (hx : CanStore c x) : StP c ρ (.AugAssign (.Name x px) op e pos) (.next ((x, .val z) :: ρ)) := by
  refine ⟨fun hF O m cm s E I => ?_⟩
  obtain ⟨w, hs, r⟩ := I.val x a ha
  refine wpAny_AugAssign_Name ?_
  have go : wpAny (model c.prog c.w) c.A (eval e c.env) (fun v' s₂ => wpAny (model c.prog c.w) c.A (inplaceOp op w v') (fun r s₃ => wpAny (model c.prog c.w) c.A (storeName c.env x r) (fun _ => Went c s O (.next ((x, .val z) :: ρ)) .next) E s₃) E s₂) E s := by
    refine wpAny_mono (h.run O m cm s E I) (fun v' s₁ h₁ => ?_) fun _ _ x => x
    have I₁ := I.ext h₁.ext
    refine wpAny_mono (ho.run O s₁ w v' E I₁.gnd (r.ext h₁.ext) h₁.rep) (fun r s₂ h₂ => ?_) fun _ _ x => x
    have I₂ := I₁.ext h₂.ext
    refine wpAny_mono (wp_store (e := .val z) hF I₂ hx (fun pv e => by cases e; exact h₂.rep) (fun xs e => nomatch e)) (fun _ s₃ h₃ => ?_) fun _ _ x => x
    obtain ⟨h', tk, m', cm', rfl, K, I'⟩ := h₃
    exact (h₁.trans h₂).went I ⟨h', tk, rfl, K, rfl, GoesOn.same I'⟩
  rcases hs with ⟨hk, hm⟩ | ⟨hk, hc, hm⟩
  · exact wpAny_loadName_local I.good.kind hk I.ns hm go
  · obtain ⟨a', ha'⟩ := Option.isSome_iff_exists.mp hc
    exact wpAny_loadName_cell I.good.kind hk ha' (hm ▸ I.cell x a' ha') go

theorem StP.ret {e : Expr} {pos : Pos} {v : PV} (h : EvP c ρ e v) : StP c ρ (.Return (some e) pos) (.ret v) := by
  refine ⟨fun hF O m cm s E I => ?_⟩
  refine wpAny_Return_some (wpAny_mono (h.run O m cm s E I) (fun w s₁ h₁ => ?_) fun _ _ x => x)
  have I₁ := I.ext h₁.ext
  obtain ⟨h', tk, rfl, k, r⟩ := h₁
  exact ⟨h', tk, rfl, Kept.ext k, ⟨w, rfl, r.mono (fun b o q _ q' => q (I.sub b q')) fun b o _ _ e => e⟩, I₁.keep⟩
theorem StP.brk {pos : Pos} : StP c ρ (.Break pos) (.brk ρ) := ⟨fun hF O m cm s E I => wpAny_Break ⟨s.heap, s.toks, rfl, Kept.refl, rfl, GoesOn.refl I⟩⟩

theorem StP.ite {test : Expr} {body orelse : List Stmt} {pos : Pos} {b : Bool} {out : Out} (ht : TrP c ρ test b) (h1 : b = true → ExP c ρ body out) (h2 : b = false → ExP c ρ orelse out) : StP c ρ (.If test body orelse pos) out := by
  refine ⟨fun hF O m cm s E I => ?_⟩
  refine wpAny_If (wpAny_mono (ht.run O m cm s E I) (fun b' s₁ h₁ => ?_) fun _ _ x => x)
  have I₁ := I.ext h₁.ext
  obtain ⟨e, _⟩ := id h₁
  subst e
  cases b' with
  | true => simp only [if_true]; exact wpAny_mono ((h1 rfl).run hF O m cm s₁ E I₁) (fun _ _ q => h₁.went I q) fun _ _ x => x
  | false => simp only [Bool.false_eq_true, if_false]; exact wpAny_mono ((h2 rfl).run hF O m cm s₁ E I₁) (fun _ _ q => h₁.went I q) fun _ _ x => x

/-- a new list of the frame's own -/
theorem StP.assignOwn {x : Str} {px pos lp : Pos} (hx : CanStore c x) (hs : swapsWith (.List [] lp) (some (.Name x px)) pos.line c.env = pure false := by rfl) : StP c ρ (.Assign [.Name x px] (.List [] lp) pos) (.next ((x, .own []) :: ρ)) := by
  refine ⟨fun hF O m cm s E I => ?_⟩
  refine wpAny_Assign_Name (wpAny_List (wpAny_items_nil ⟨by simp, ?_⟩)) hs
  have hp := Ext.push s.heap { cls := .type "list", data := .seq ([] : List Value).toArray }
  have I₁ := I.ext hp
  have hz : s.heap.get? s.heap.objs.size = none := get_size _
  have ho : ¬ O s.heap.objs.size := fresh_not I.live hz
  have hO : ∀ b o, ¬ O b → s.heap.get? b = some o → ¬ (O b ∨ b = s.heap.objs.size) := fun b o n e q => by
    rcases q with q | q
    · exact n q
    · subst q; rw [hz] at e; cases e
  have h0 : c.h₀.get? s.heap.objs.size = none := by
    cases e : c.h₀.get? s.heap.objs.size with
    | none => rfl
    | some o => have := I.keep _ _ e; rw [hz] at this; cases this
  have hB : ¬ c.B s.heap.objs.size := fun q => ho (I.sub _ q)
  have I₂ : Inv c ρ (fun b => O b ∨ b = s.heap.objs.size) m cm (s.heap.push { cls := .type "list", data := .seq ([] : List Value).toArray }) :=
    { good := I.good, ns := I₁.ns, cell := I₁.cell, keep := I₁.keep, inj := I.inj,
      val := fun y pv e => let ⟨v, sl, r⟩ := I.val y pv e; ⟨v, sl, r.mono hO fun b o _ _ e => hp b o e⟩
      own := fun y ys e => let ⟨a, vs, n, sl, oa, nb, z, g, r⟩ := I.own y ys e; ⟨a, vs, n, sl, .inl oa, nb, z, hp _ _ g, r.mono hO fun b o _ _ e => hp b o e⟩
      sub := fun a q => .inl (I.sub a q)
      live := fun a q => by
        rcases q with q | q
        · exact I₁.live a q
        · subst q; exact ⟨_, Heap.get?_push_size _ rfl⟩ }
  refine wpAny_mono (wp_store (s := { s with heap := s.heap.push { cls := .type "list", data := .seq ([] : List Value).toArray } }) (e := .own []) hF I₂ hx (fun pv e => nomatch e)
    (fun xs e => by
      cases e
      refine ⟨s.heap.objs.size, [], 0, rfl, .inr rfl, hB, h0, Heap.get?_push_size _ rfl, .nil, fun y ys ey sl => ?_⟩
      obtain ⟨a, vs, n, sl', oa, nb, z, g, r⟩ := I.own y ys ey
      have : a = s.heap.objs.size := by
        rcases sl with ⟨k1, k2⟩ | ⟨k1, k1', k2⟩ <;> rcases sl' with ⟨k3, k4⟩ | ⟨k3, k3', k4⟩
        · rw [k2] at k4; cases k4; rfl
        · rw [k1] at k3; cases k3
        · rw [k1] at k3; cases k3
        · rw [k2] at k4; cases k4; rfl
      subst this
      exact ho oa)) (fun _ s₂ h₂ => ?_) fun _ _ x => x
  obtain ⟨h', tk, m', cm', rfl, K, I'⟩ := h₂
  refine ⟨h', tk, rfl, fun b o e nm no => K b o (hp b o e) nm (hO b o no e), rfl, _, m', cm', I', fun a q => ?_⟩
  rcases q with q | q
  · exact .inl q
  · subst q; exact .inr hz

/-- an own list turned -/
theorem Inv.mutate {O : Addr → Prop} {m cm : Str → Option Value} {h h' : Heap} {x : Str} {xs ys : List PV} {a : Addr} {ws : List Value} {n : Nat} (hF : c.Fresh) (I : Inv c ρ O m cm h) (hx : ρ.lookup x = some (.own xs)) (sl : Slot c.env m cm x (.ref a)) (oa : O a) (hB : ¬ c.B a) (hz : c.h₀.get? a = none)
    {oo : Obj} (hg0 : h.get? a = some oo) (hso : Solid oo) (hs : Heap.SameBut a h h') (hg : h'.get? a = some { cls := .type "list", data := .seq (List.toArray ws) n }) (r : RepL O h ws ys) : Inv c ((x, .own ys) :: ρ) O m cm h' := by
  have hL : c.env.locals ≠ a := fun q => solid_ne (q ▸ I.ns) hg0 hso rfl
  have hC : ∀ n b, c.env.cells.lookup n = some b → b ≠ a := fun n b e q => solid_ne_cell (I.cell n b e) (q ▸ hg0) hso q.symm
  have hk : ∀ b o, b ≠ a → h.get? b = some o → h'.get? b = some o := fun b o q e => (hs.2 b q).trans e
  have hkO : ∀ b o, ¬ O b → Solid o → h.get? b = some o → h'.get? b = some o := fun b o q _ e => hk b o (fun q' => q (q' ▸ oa)) e
  refine ⟨I.good, I.ns.sameBut hs hL, fun n b e => (I.cell n b e).sameBut hs (hC n b e), fun b o e => hk b o (fun q => ?_) (I.keep b o e), ?_, ?_, ?_, I.sub, fun b q => ?_⟩
  · subst q; rw [hz] at e; cases e
  · intro y pv ey
    rw [List.lookup_cons] at ey
    cases hb : y == x with
    | true => rw [hb] at ey; cases ey
    | false =>
      rw [hb] at ey
      obtain ⟨v, s, r⟩ := I.val y pv ey
      exact ⟨v, s, r.mono (fun _ _ q _ => q) hkO⟩
  · intro y zs ey
    rw [List.lookup_cons] at ey
    cases hb : y == x with
    | true =>
      rw [hb] at ey; cases ey
      rw [beq_iff_eq.mp hb]
      exact ⟨a, ws, n, sl, oa, hB, hz, hg, r.mono (fun _ _ q _ => q) hkO⟩
    | false =>
      rw [hb] at ey
      obtain ⟨a', vs', n', sl', oa', nb', hz', hg', rl'⟩ := I.own y zs ey
      refine ⟨a', vs', n', sl', oa', nb', hz', hk _ _ (fun q => ?_) hg', rl'.mono (fun _ _ q _ => q) hkO⟩
      subst q
      have := I.inj y x zs xs a' ey hx sl' sl
      rw [this, beq_self_eq_true] at hb; cases hb
  · intro y z ys' zs b ey ez sy sz
    rw [List.lookup_cons] at ey ez
    cases hby : y == x with
    | true =>
      have e1 := beq_iff_eq.mp hby
      cases hbz : z == x with
      | true => rw [e1, beq_iff_eq.mp hbz]
      | false => rw [hbz] at ez; subst e1; exact I.inj y z xs zs b hx ez sy sz
    | false =>
      rw [hby] at ey
      cases hbz : z == x with
      | true => have e1 := beq_iff_eq.mp hbz; subst e1; exact I.inj y z ys' xs b ey hx sy sz
      | false => rw [hbz] at ez; exact I.inj y z ys' zs b ey ez sy sz
  · obtain ⟨o, e⟩ := I.live b q
    by_cases hb : b = a
    · subst hb; exact ⟨_, hg⟩
    · exact ⟨o, hk b o hb e⟩

theorem wp_nameOwn {O : Addr → Prop} {m cm : Str → Option Value} {s : Shared} {E : Value → Shared → Prop} {x : Str} {pos : Pos} {v : Value} (I : Inv c ρ O m cm s.heap) (sl : Slot c.env m cm x v) {Q : Value → Shared → Prop} (h : Q v s) (hd : (x == ("__debug__" : Str)) = false := by decide) :
    wpAny (model c.prog c.w) c.A (eval (.Name x pos) c.env) Q E s := by
  refine wpAny_Name ?_ hd
  rcases sl with ⟨hk, hm⟩ | ⟨hk, hc, hm⟩
  · exact wpAny_loadName_local I.good.kind hk I.ns hm h
  · obtain ⟨a, ha⟩ := Option.isSome_iff_exists.mp hc
    exact wpAny_loadName_cell I.good.kind hk ha (hm ▸ I.cell x a ha) h

theorem StP.append {x : Str} {px ap cp pos : Pos} {e : Expr} {xs : List PV} {v : PV} (hx : ρ.lookup x = some (.own xs)) (h : EvP c ρ e v) (hz : xs.length ≤ sizeLine) (hd : (x == ("__debug__" : Str)) = false := by decide)
    (he : starEach [e] c.env = [(false, eval e c.env)] := by rfl) (hi : interactive c.env = false := by rfl)
    (hsw : swapsWith (.Call (.Attribute (.Name x px) (Str.ofString "append") ap) [e] [] cp) none pos.line c.env = pure false := by rfl)
    (hev : MethForm c (.Name x px) (Str.ofString "append") ap [e] cp := by exact ⟨_, rfl⟩) :
    StP c ρ (.Expr (.Call (.Attribute (.Name x px) (Str.ofString "append") ap) [e] [] cp) pos) (.next ((x, .own (xs ++ [v])) :: ρ)) := by
  refine ⟨fun hF O m cm s E I => ?_⟩
  obtain ⟨a, vs, n, sl, oa, nb, hz0, hg, rl⟩ := I.own x xs hx
  refine wpAny_Expr ?_ hi hsw
  obtain ⟨pl, hev⟩ := hev
  refine MethodCall_ (pl := pl) (wp_nameOwn I sl ?_ hd) hev
  refine Calls.getMethod_list_append hg rfl rfl ?_
  refine callArgs (first := [.ref a]) (Calle.builtin _) (ArgsP.cons h ArgsP.nil he) I (fun ws s₁ h₁ => ?_) he
  obtain ⟨w, ws', rfl, r₁, r₂⟩ := h₁.rep.cons_inv; obtain rfl := r₂.nil_inv
  have I₁ := I.ext h₁.ext
  have hg₁ := h₁.ext _ _ hg
  refine append_at hg₁ (fun h' hs hg' => ?_) (by simp [rl.1]; exact hz)
  have hg'' : h'.get? a = some { cls := .type "list", data := .seq (List.toArray (vs ++ [w])) (n + 1) } := by simpa using hg'
  have I₂ := I₁.mutate hF hx sl oa nb hz0 hg₁ (solid_list rfl) hs hg'' ((rl.ext h₁.ext).append (.cons r₁ .nil))
  have g : Got s O Mine.PV.none .none s₁ := by
    obtain ⟨hh, tk, rfl, k, _⟩ := h₁
    exact ⟨hh, tk, rfl, k, .none⟩
  exact g.went I ⟨h', s₁.toks, rfl, fun b o e' nm no => (hs.2 b fun q => no (q ▸ oa)).trans e', rfl, GoesOn.same I₂⟩

theorem StP.extend {x : Str} {px ap cp pos : Pos} {e : Expr} {xs ys : List PV} (hx : ρ.lookup x = some (.own xs)) (h : EvP c ρ e (.list ys)) (hz : xs.length + ys.length ≤ sizeLine) (hd : (x == ("__debug__" : Str)) = false := by decide)
    (he : starEach [e] c.env = [(false, eval e c.env)] := by rfl) (hi : interactive c.env = false := by rfl)
    (hsw : swapsWith (.Call (.Attribute (.Name x px) (Str.ofString "extend") ap) [e] [] cp) none pos.line c.env = pure false := by rfl)
    (hev : MethForm c (.Name x px) (Str.ofString "extend") ap [e] cp := by exact ⟨_, rfl⟩) :
    StP c ρ (.Expr (.Call (.Attribute (.Name x px) (Str.ofString "extend") ap) [e] [] cp) pos) (.next ((x, .own (xs ++ ys)) :: ρ)) := by
  refine ⟨fun hF O m cm s E I => ?_⟩
  obtain ⟨a, vs, n, sl, oa, nb, hz0, hg, rl⟩ := I.own x xs hx
  refine wpAny_Expr ?_ hi hsw
  obtain ⟨pl, hev⟩ := hev
  refine MethodCall_ (pl := pl) (wp_nameOwn I sl ?_ hd) hev
  have hIL : s.heap.IsList a vs.toArray := ⟨_, hg, rfl, n, rfl⟩
  refine getMethod_list_of PySem.F.slot_list_extend PySem.F.type_list_extend hIL ⟨_, hg, rfl⟩ ?_
  refine callArgs (first := [.ref a]) (Calle.builtin _) (ArgsP.cons h ArgsP.nil he) I (fun ws s₁ h₁ => ?_) he
  obtain ⟨w, ws', rfl, r₁, r₂⟩ := h₁.rep.cons_inv; obtain rfl := r₂.nil_inv
  obtain ⟨b, us, n2, rfl, ob, hgb, rb⟩ := r₁.list_inv'
  have I₁ := I.ext h₁.ext
  have hg₁ := h₁.ext _ _ hg
  have hsz' : vs.toArray.size + us.toArray.size ≤ sizeLine := by simp [rl.1, rb.1]; exact hz
  refine call_meets PySem.F.slot_list_extend ⟨_, hg₁, rfl⟩ PySem.F.entry_list_extend (PySem.F.args_list_extend_2 _ _) (AutoSeq1.list_extend_list_list_0 a vs.toArray n b us.toArray n2 (extend_door hsz') (Nat.le_trans (Nat.le_add_right _ _) hsz')) ⟨hg₁, hgb, ?_⟩
  have hs : Heap.SameBut a s₁.heap (s₁.heap.update a (Obj.mapSeq fun x => x ++ us.toArray)) := Heap.SameBut.update ..
  have hg'' : (s₁.heap.update a (Obj.mapSeq fun x => x ++ us.toArray)).get? a = some { cls := .type "list", data := .seq (List.toArray (vs ++ us)) (if (vs.toArray ++ us.toArray).size == vs.toArray.size then n else n + 1) } := by
    rw [Heap.get?_update_self _ hg₁ (by rw [mapSeq_app]; rfl), mapSeq_app]
    simp
  have I₂ := I₁.mutate hF hx sl oa nb hz0 hg₁ (solid_list rfl) hs hg'' ((rl.ext h₁.ext).append rb)
  have g : Got s O Mine.PV.none .none s₁ := by
    obtain ⟨hh, tk, rfl, k, _⟩ := h₁
    exact ⟨hh, tk, rfl, k, .none⟩
  exact g.went I ⟨_, s₁.toks, rfl, fun b o e' nm no => (hs.2 b fun q => no (q ▸ oa)).trans e', rfl, GoesOn.same I₂⟩

/-- a method of a text with arguments -/
theorem EvP.methS {o a : Expr} {name : Str} {id : String} {ap cp : Pos} {args : List Expr} {x : Str} {xs : List PV} {z : PV} (ho : EvP c ρ o (.str x)) (ha : ArgsP c ρ (a :: args) xs) (slot : PySem.Slot "str" name id) (ty : typeOf (.builtin id) = pure (.type "method_descriptor"))
    (hc : ∀ n, CallP c.toGC n (.builtin id) (.str x :: xs) z) (he : starEach (a :: args) c.env = (false, eval a c.env) :: starEach args c.env := by rfl)
    (hev : MethForm c o name ap (a :: args) cp := by exact ⟨_, rfl⟩) : EvP c ρ (.Call (.Attribute o name ap) (a :: args) [] cp) z := by
  refine ⟨fun O m cm s E I => ?_⟩
  obtain ⟨pl, hev⟩ := hev
  refine MethodCall_ (pl := pl) (wpAny_mono (ho.run O m cm s E I) (fun v s₁ h₁ => ?_) fun _ _ x => x) hev
  obtain ⟨t, rfl⟩ := h₁.rep.str_inv
  refine GM.of (.str x t) (typeIs_str _ _ _) slot ty GM.noRef ?_
  have I₁ := I.ext h₁.ext
  refine callArgs (first := [.str x t]) (Calle.builtin _) ha I₁ (fun vs s₂ h₂ => ?_) he
  have G := I₁.gnd.ext h₂.ext
  exact wpAny_mono ((hc 0).run c.A O s₂ (.str x t :: vs) E (I.good.room.mono (Nat.zero_le _)) G.at_ G.live (.cons (.str _ _) h₂.rep)) (fun _ _ q => h₁.trans (h₂.got q)) fun _ _ x => x
/-- a method of a list -/
theorem EvP.methL {o a : Expr} {name : Str} {id : String} {ap cp : Pos} {args : List Expr} {ys : List PV} {xs : List PV} {z : PV} (ho : EvP c ρ o (.list ys)) (ha : ArgsP c ρ (a :: args) xs) (slot : PySem.Slot "list" name id) (ty : typeOf (.builtin id) = pure (.type "method_descriptor"))
    (hc : ∀ n, CallP c.toGC n (.builtin id) (.list ys :: xs) z) (he : starEach (a :: args) c.env = (false, eval a c.env) :: starEach args c.env := by rfl)
    (hev : MethForm c o name ap (a :: args) cp := by exact ⟨_, rfl⟩) : EvP c ρ (.Call (.Attribute o name ap) (a :: args) [] cp) z := by
  refine ⟨fun O m cm s E I => ?_⟩
  obtain ⟨pl, hev⟩ := hev
  refine MethodCall_ (pl := pl) (wpAny_mono (ho.run O m cm s E I) (fun v s₁ h₁ => ?_) fun _ _ x => x) hev
  obtain ⟨l, vs, n, rfl, ho, hg, rl⟩ := h₁.rep.list_inv'
  have hIL : s₁.heap.IsList l vs.toArray := ⟨_, hg, rfl, n, rfl⟩
  refine getMethod_list_of slot ty hIL ⟨_, hg, rfl⟩ ?_
  have I₁ := I.ext h₁.ext
  refine callArgs (first := [.ref l]) (Calle.builtin _) ha I₁ (fun ws s₂ h₂ => ?_) he
  have G := I₁.gnd.ext h₂.ext
  exact wpAny_mono ((hc 0).run c.A O s₂ (.ref l :: ws) E (I.good.room.mono (Nat.zero_le _)) G.at_ G.live (.cons (h₁.rep.ext h₂.ext) h₂.rep)) (fun _ _ q => h₁.trans (h₂.got q)) fun _ _ x => x

/-- texts as data -/
def strsPV (ys : List Str) : List PV := ys.map .str
theorem strsAre_of {O : Addr → Prop} {h : Heap} : ∀ {ys : List Str} {vs : List Value}, RepL O h vs (strsPV ys) → StrsAre vs ys
  | [], vs, r => by obtain rfl := r.nil_inv; exact .nil
  | y :: ys, vs, r => by
    obtain ⟨v, vs', rfl, r₁, r₂⟩ := r.cons_inv
    obtain ⟨t, rfl⟩ := r₁.str_inv
    exact .cons _ _ (strsAre_of r₂)
theorem CallP.join {g : GC} {n : Nat} {sep : Str} {ys : List Str} (hz : (ys.map (·.length)).sum + ys.length * sep.length ≤ 16777216) : CallP g n (.builtin "str.join") [.str sep, .list (strsPV ys)] (.str (Txt.join sep ys)) := by
  refine ⟨fun A O s vs E R X L r => ?_⟩
  obtain ⟨v, vs', rfl, r₁, r₂⟩ := r.cons_inv; obtain ⟨v', vs'', rfl, r₃, r₄⟩ := r₂.cons_inv; obtain rfl := r₄.nil_inv; obtain ⟨t, rfl⟩ := r₁.str_inv
  obtain ⟨l, ws, rfl, ho, hl, rl⟩ := r₃.list_inv
  exact join_list hl (by simpa using strsAre_of rl) hz fun t' k => Got.toks (.str _ _)
theorem EvP.join {o a : Expr} {ap cp : Pos} {sep : Str} {ys : List Str} {z : Str} (ho : EvP c ρ o (.str sep)) (ha : EvP c ρ a (.list (strsPV ys))) (hz : (ys.map (·.length)).sum + ys.length * sep.length ≤ 16777216) (hj : Txt.join sep ys = z) (he : starEach [a] c.env = [(false, eval a c.env)] := by rfl)
    (hev : MethForm c o (Str.ofString "join") ap [a] cp := by exact ⟨_, rfl⟩) : EvP c ρ (.Call (.Attribute o (Str.ofString "join") ap) [a] [] cp) (.str z) := by
  subst hj
  exact EvP.methS ho (ArgsP.cons ha ArgsP.nil he) F.slot_str_join F.type_str_join (fun n => CallP.join hz) he hev
/-- a text cut and joined anew -/
theorem EvP.joinSplit {o b a : Expr} {ap cp ap' cp' : Pos} {x y z r : Str} (ho : EvP c ρ o (.str z)) (hb : EvP c ρ b (.str x)) (ha : EvP c ρ a (.str y)) (hy : (y.length == 0) = false) (hx : x.length + 2 ≤ sizeLine) (hz : ((Txt.split x y).map (·.length)).sum + (Txt.split x y).length * z.length ≤ 16777216) (hj : Txt.join z (Txt.split x y) = r)
    (he : starEach [.Call (.Attribute b (Str.ofString "split") ap') [a] [] cp'] c.env = [(false, eval (.Call (.Attribute b (Str.ofString "split") ap') [a] [] cp') c.env)] := by rfl) (he' : starEach [a] c.env = [(false, eval a c.env)] := by rfl)
    (hev : MethForm c o (Str.ofString "join") ap [.Call (.Attribute b (Str.ofString "split") ap') [a] [] cp'] cp := by exact ⟨_, rfl⟩) (hev' : MethForm c b (Str.ofString "split") ap' [a] cp' := by exact ⟨_, rfl⟩) :
    EvP c ρ (.Call (.Attribute o (Str.ofString "join") ap) [.Call (.Attribute b (Str.ofString "split") ap') [a] [] cp'] [] cp) (.str r) := by
  subst hj
  refine EvP.join ho (?_ : EvP c ρ _ (.list (strsPV (Txt.split x y)))) hz rfl he hev
  refine EvP.methS hb (ArgsP.cons ha ArgsP.nil he') F.slot_str_split F.type_str_split (fun n => ?_) he' hev'
  refine ⟨fun A O s vs E R X L r => ?_⟩
  obtain ⟨v, vs', rfl, r₁, r₂⟩ := r.cons_inv; obtain ⟨v', vs'', rfl, r₃, r₄⟩ := r₂.cons_inv; obtain rfl := r₄.nil_inv; obtain ⟨t, rfl⟩ := r₁.str_inv; obtain ⟨u, rfl⟩ := r₃.str_inv
  have fin : ∀ (l : List (Str × Tok)) (tk : Nat), l.map (·.1) = Txt.split x y → Got s O (.list (strsPV (Txt.split x y))) (.ref s.heap.objs.size) { s with heap := s.heap.push { cls := .type "list", data := .seq (strValues l).toArray }, toks := tk } := fun l tk e => by
    refine Got.new (Rep.newList L ?_)
    rw [← e]
    clear e
    induction l with
    | nil => exact .nil
    | cons p l ih => exact .cons (.str _ _) ih
  have hn : (Builtin.Str.partsBetween x (Builtin.Str.occurrences x y 0 x.length (x.length + 1)) y.length).length ≤ sizeLine := by
    have e1 := StrLaws.occ_length_le x y 0 x.length (x.length + 1)
    rw [length_partsBetween]; omega
  cases h1 : (decide (x.length < y.length) || decide (Builtin.Str.strKind x < Builtin.Str.strKind y))
  · cases hf : (Builtin.Str.occurrences x y 0 x.length (x.length + 1)).isEmpty
    · refine call_meets F.slot_str_split (typeIs_str _ _ _) F.entry_str_split (F.args_str_split_2 _ _) (meets_str_split_sep x y t u h1 hy hf (by omega) hn) ?_
      rw [strsFrom_eq]
      exact fin (numbered s.toks _) _ ((numbered_texts _ _).trans ((if_neg (ne_true_of_eq_false h1)).trans (if_neg (ne_true_of_eq_false hf))).symm)
    · exact call_meets F.slot_str_split (typeIs_str _ _ _) F.entry_str_split (F.args_str_split_2 _ _) (meets_str_split_not_found x y t u h1 hy hf)
        (fin [(x, t)] s.toks ((if_neg (ne_true_of_eq_false h1)).trans (if_pos hf)).symm)
  · exact call_meets F.slot_str_split (typeIs_str _ _ _) F.entry_str_split (F.args_str_split_2 _ _) (meets_str_split_cannot_occur x y t u h1)
      (fin [(x, t)] s.toks (if_pos h1).symm)
end
end Mine
namespace Mine

def notIters : List String := ["range", "enumerate", "zip", "dict_itemiterator", "dict_reverseitemiterator", "odict_iterator", "itertools.zip_longest", "itertools.pairwise"]
def IterObj (h : Heap) (I : Addr) : Prop := ∃ o vs n, h.get? I = some o ∧ o.data = .fields vs ∧ o.cls = .type n ∧ notIters.contains n = false
theorem IterObj.no_solid {h : Heap} {I : Addr} (x : IterObj h I) {b : Addr} {o : Obj} (e : h.get? b = some o) (s : Solid o) : b ≠ I := by
  rintro rfl
  obtain ⟨o', vs, n, e', hd, hc, hn⟩ := x
  rw [e] at e'; cases e'
  refine s.no_iter hd fun q => ?_
  rw [hc] at q
  cases q
  exact absurd hn (by decide)
theorem IterObj.no_ns {h : Heap} {I : Addr} (x : IterObj h I) {b : Addr} {m : Str → Option Value} (e : h.Ns b m) : b ≠ I := by
  rintro rfl
  obtain ⟨o', vs, n, e', hd, hc, hn⟩ := x
  obtain ⟨o, es, ep, e, hd', _⟩ := e
  rw [e] at e'; cases e'
  rw [hd] at hd'; cases hd'
theorem IterObj.no_cell {h : Heap} {I : Addr} (x : IterObj h I) {b : Addr} {v : Option Value} (e : h.IsCell b v) : b ≠ I := by
  rintro rfl
  obtain ⟨o', vs, n, e', hd, hc, hn⟩ := x
  obtain ⟨o, e, hd'⟩ := e
  rw [e] at e'; cases e'
  rw [hd] at hd'; cases hd'
theorem wp_letGo {M : Model} {A : Around} {s : Shared} {E : Value → Shared → Prop} {I : Addr} {v : Value} {target : Expr} {Q : Unit → Shared → Prop} (x : IterObj s.heap I) (h : Q () s) : wpAny M A (letOwnedTupleGo target (.ref I) v) Q E s := by
  obtain ⟨o, vs, n, e, hd, hc, hn⟩ := x
  unfold letOwnedTupleGo
  have go : wpAny M A (do
      let (.ref r, .ref a) := (Value.ref I, v) | return
      let o ← load r
      match o.cls, o.data with
      | .type n, .fields vs =>
        if ["enumerate", "zip", "dict_itemiterator", "dict_reverseitemiterator", "odict_iterator", "itertools.zip_longest", "itertools.pairwise"].contains n && vs[0]? == some (rawInt a) then
          rule "for.unpacks-the-owned-tuple"
          updateField r 0 .none
      | _, _ => pure () : Sem Unit) Q E s := by
    cases v with
    | ref a =>
      refine wpAny_bind (wpAny_load e ?_)
      rw [hd, hc]
      have hf : ["enumerate", "zip", "dict_itemiterator", "dict_reverseitemiterator", "odict_iterator", "itertools.zip_longest", "itertools.pairwise"].contains n = false := by
        have : notIters.contains n = (n == "range" || ["enumerate", "zip", "dict_itemiterator", "dict_reverseitemiterator", "odict_iterator", "itertools.zip_longest", "itertools.pairwise"].contains n) := rfl
        rw [this, Bool.or_eq_false_iff] at hn
        exact hn.2
      dsimp only
      rw [hf, Bool.false_and]
      exact wpAny_pure h
    | _ => exact wpAny_pure h
  split
  · exact go
  · exact go
  · exact wpAny_pure h

/-- what a datum gives when it is gone through -/
structure IterP (prog : Program) (w : World) (x : PV) (xs : List PV) : Prop where
  run : ∀ (A : Around) (O : Addr → Prop) (s : Shared) (v : Value) (E : Value → Shared → Prop) (Q : Value → Shared → Prop), A.handled = none → Rep O s.heap v x →
    (∀ (ob : Obj) (fp : List Addr) (P : Nat → Value → Prop) (St : Nat → Heap → Prop),
      Walks prog w A s.heap.objs.size fp [s.heap.objs.size] xs.length P St → St 0 (s.heap.push ob) → ob.isFreed = false →
      (∀ b ∈ fp, b = s.heap.objs.size ∨ (¬ O b ∧ ∃ o, s.heap.get? b = some o ∧ Solid o)) →
      (∀ i h, St i h → IterObj h s.heap.objs.size) →
      (∀ i v y, P i v → xs[i]? = some y → Rep O s.heap v y) →
      Q (.ref s.heap.objs.size) { s with heap := s.heap.push ob }) →
    wpAny (model prog w) A (pyIter v) Q E s

section
variable {prog : Program} {w : World}
theorem IterP.list (xs : List PV) : IterP prog w (.list xs) xs := by
  refine ⟨fun A O s v E Q hh r h => ?_⟩
  obtain ⟨a, vs, rfl, ho, hl, rl⟩ := r.list_inv
  obtain ⟨ol, hol, hcl, nl, hdl⟩ := id hl
  have hne : a ≠ s.heap.objs.size := Nat.ne_of_lt (Heap.lt_size hol)
  have e : vs.toArray.size = xs.length := by simp [rl.1]
  refine wpAny_pyIter_list hl (h _ [s.heap.objs.size, a] _ _ (e ▸ Walks.list hh s.heap.objs.size a hne vs.toArray) ⟨⟨_, Heap.get?_push_size _ rfl, rfl, rfl⟩, hl.push _⟩ rfl ?_ ?_ ?_)
  · intro b hb
    simp only [List.mem_cons, List.not_mem_nil, or_false] at hb
    rcases hb with rfl | rfl
    · exact .inl rfl
    · exact .inr ⟨ho, ol, hol, solid_list hdl⟩
  · rintro i h ⟨⟨o, e, hc, hd⟩, _⟩
    exact ⟨o, _, _, e, hd, hc, by decide⟩
  · intro i v y hv hy
    exact rl.2 i v y (by simpa using hv) hy
theorem IterP.tuple (xs : List PV) : IterP prog w (.tuple xs) xs := by
  refine ⟨fun A O s v E Q hh r h => ?_⟩
  obtain ⟨a, vs, rfl, ho, hl, rl⟩ := r.tuple_inv
  obtain ⟨ol, hol, hcl, nl, hdl⟩ := id hl
  have hne : a ≠ s.heap.objs.size := Nat.ne_of_lt (Heap.lt_size hol)
  have e : vs.toArray.size = xs.length := by simp [rl.1]
  refine wpAny_pyIter_tuple hl (h _ [s.heap.objs.size, a] _ _ (e ▸ Walks.tuple hh s.heap.objs.size a hne vs.toArray) ⟨⟨_, Heap.get?_push_size _ rfl, rfl, rfl⟩, hl.push _⟩ rfl ?_ ?_ ?_)
  · intro b hb
    simp only [List.mem_cons, List.not_mem_nil, or_false] at hb
    rcases hb with rfl | rfl
    · exact .inl rfl
    · exact .inr ⟨ho, ol, hol, solid_list hdl⟩
  · rintro i h ⟨⟨o, e, hc, hd⟩, _⟩
    exact ⟨o, _, _, e, hd, hc, by decide⟩
  · intro i v y hv hy
    exact rl.2 i v y (by simpa using hv) hy
theorem IterP.range {a b c : Int} {k : Nat} (hs : Builtin.Range.small a b c = true) (hn : Builtin.Range.rangeSize a b c = k) : IterP prog w (.range a b c) (rangePV a c k) := by
  refine ⟨fun A O s v E Q hh r h => ?_⟩
  obtain ⟨q, t, u, v', rfl, ho, hr⟩ := r.range_inv
  refine wpAny_pyIter_range hr hs (h _ [s.heap.objs.size] _ _ ((rangePV_length a c k).symm ▸ Walks.range hh s.heap.objs.size a c k) ?_ rfl ?_ ?_ ?_)
  · show IsRangeIter _ _ _ _ _
    rw [hn]
    have e1 : a + ((0 : Nat) : Int) * c = a := by simp
    have e2 : ((rangePV a c k).length : Int) - ((0 : Nat) : Int) = k := by simp [rangePV_length]
    rw [e1, e2]
    exact Heap.get?_push_size s.heap (o := { cls := .type "range_iterator", data := .fields #[rawInt a, rawInt (k : Int), rawInt c] }) rfl
  · intro b hb
    simp only [List.mem_cons, List.not_mem_nil, or_false] at hb
    exact .inl hb
  · intro i h st
    exact ⟨_, _, _, st, rfl, rfl, by decide⟩
  · rintro i v y ⟨t, rfl⟩ hy
    have hi : i < k := by have := (List.getElem?_eq_some_iff.mp hy).1; rw [rangePV_length] at this; exact this
    rw [rangePV_get hi] at hy
    cases hy
    exact .int _ _
/-- a text's signs -/
def signsPV (x : Str) : List PV := x.cps.toList.map fun c => .str ⟨#[c]⟩
theorem IterP.str (x : Str) : IterP prog w (.str x) (signsPV x) := by
  refine ⟨fun A O s v E Q hh r h => ?_⟩
  obtain ⟨t, rfl⟩ := r.str_inv
  have e : x.cps.size = (signsPV x).length := by simp [signsPV]
  have items : ∀ (i : Nat) (v : Value) (y : PV), SignAt x i v → (signsPV x)[i]? = some y → Rep O s.heap v y := by
    rintro i v y ⟨c, u, hc, rfl⟩ hy
    have : (signsPV x)[i]? = some (.str ⟨#[c]⟩) := by simp [signsPV, hc]
    rw [this] at hy; cases hy
    exact .str _ _
  have fps : ∀ b ∈ [s.heap.objs.size], b = s.heap.objs.size ∨ (¬ O b ∧ ∃ o, s.heap.get? b = some o ∧ Solid o) := fun b hb => by
    simp only [List.mem_cons, List.not_mem_nil, or_false] at hb
    exact .inl hb
  cases ha : x.cps.all (· < 128)
  · refine wpAny_pyIter_wide ha (h _ [s.heap.objs.size] _ _ (e ▸ Walks.strWide hh _ x t) ⟨_, Heap.get?_push_size _ rfl, rfl, rfl⟩ rfl fps ?_ items)
    rintro i h ⟨o, e, hc, hd⟩
    exact ⟨o, _, _, e, hd, hc, by decide⟩
  · refine wpAny_pyIter_ascii ha (h _ [s.heap.objs.size] _ _ (e ▸ Walks.strAscii hh _ x t) ⟨_, Heap.get?_push_size _ rfl, rfl, rfl⟩ rfl fps ?_ items)
    rintro i h ⟨o, e, hc, hd⟩
    exact ⟨o, _, _, e, hd, hc, by decide⟩
/-- the ints of bytes -/
def bytesPV (b : Array UInt8) : List PV := b.toList.map fun c => .int (c.toNat : Int)
theorem IterP.bytes (b : Array UInt8) : IterP prog w (.bytes b) (bytesPV b) := by
  refine ⟨fun A O s v E Q hh r h => ?_⟩
  obtain ⟨t, rfl⟩ := r.bytes_inv
  have e : b.size = (bytesPV b).length := by simp [bytesPV]
  refine KBw.pyIter_bytes (h _ [s.heap.objs.size] _ _ (e ▸ KBw.walks hh _ b t) ?_ rfl ?_ ?_ ?_)
  · exact ⟨_, Heap.get?_push_size s.heap (o := { cls := .type "bytes_iterator", data := .fields #[.bytes b t, .int 0 0] }) rfl, rfl, rfl⟩
  · intro b hb
    simp only [List.mem_cons, List.not_mem_nil, or_false] at hb
    exact .inl hb
  · rintro i h ⟨o, e, hc, hd⟩
    exact ⟨o, _, _, e, hd, hc, by decide⟩
  · rintro i v y ⟨c, u, hc, rfl⟩ hy
    have : (bytesPV b)[i]? = some (.int (c.toNat : Int)) := by simp [bytesPV, hc]
    rw [this] at hy; cases hy
    exact .int _ _
end

section
variable {c : FC} {ρ : PEnv}
/-- what a target takes -/
structure TgtP (c : FC) (target : Expr) (y : PV) (ρ ρ' : PEnv) : Prop where
  run : c.Fresh → ∀ (O : Addr → Prop) (m cm : Str → Option Value) (s : Shared) (E : Value → Shared → Prop) (v : Value), Inv c ρ O m cm s.heap → Rep O s.heap v y →
    wpAny (model c.prog c.w) c.A (assign target c.env v) (fun _ s' => ∃ h' tk' m' cm', s' = { s with heap := h', toks := tk' } ∧ Kept c O s.heap h' ∧ Inv c ρ' O m' cm' h') E s
theorem TgtP.name {x : Str} {px : Pos} (y : PV) (hx : CanStore c x) : TgtP c (.Name x px) y ρ ((x, .val y) :: ρ) := by
  refine ⟨fun hF O m cm s E v I r => ?_⟩
  exact wpAny_assign_Name (wp_store (e := .val y) hF I hx (fun pv e => by cases e; exact r) fun xs e => nomatch e)

/-- a loop's turns -/
def ForR (c : FC) (target : Expr) (body : List Stmt) : List PV → PEnv → Out → Prop
  | [], ρ, out => out = .next ρ
  | y :: ys, ρ, out => ∃ ρ₁ o₁, TgtP c target y ρ ρ₁ ∧ ExP c ρ₁ body o₁ ∧ (match o₁ with
      | .next ρ' => ForR c target body ys ρ' out
      | .cont ρ' => ForR c target body ys ρ' out
      | .brk ρ' => out = .next ρ'
      | .ret v => out = .ret v)

/-- a change at an iterator alone -/
theorem Inv.iterStep {O : Addr → Prop} {m cm : Str → Option Value} {h h' : Heap} {I : Addr} (V : Inv c ρ O m cm h) (hI : IterObj h I) (hO : ¬ O I) (h0 : c.h₀.get? I = none) (hk : ∀ b o, b ∉ [I] → h.get? b = some o → h'.get? b = some o) : Inv c ρ O m cm h' := by
  have hk' : ∀ b o, b ≠ I → h.get? b = some o → h'.get? b = some o := fun b o n e => hk b o (by simpa using n) e
  have hkS : ∀ b o, Solid o → h.get? b = some o → h'.get? b = some o := fun b o s e => hk' b o (hI.no_solid e s) e
  refine ⟨V.good, ?_, fun n a e => ?_, fun b o e => hk' b o (fun q => ?_) (V.keep b o e), fun x pv e => ?_, fun x xs e => ?_, V.inj, V.sub, fun a q => ?_⟩
  · have := hI.no_ns V.ns
    obtain ⟨o, es, ep, e, r⟩ := V.ns
    exact ⟨o, es, ep, hk' _ _ this e, r⟩
  · have := hI.no_cell (V.cell n a e)
    obtain ⟨o, e', r⟩ := V.cell n a e
    exact ⟨o, hk' _ _ this e', r⟩
  · subst q; rw [h0] at e; cases e
  · obtain ⟨v, s, r⟩ := V.val x pv e
    exact ⟨v, s, r.mono (fun _ _ q _ => q) fun b o _ so e => hkS b o so e⟩
  · obtain ⟨a, vs, n, s, oa, nb, hz, hg, rl⟩ := V.own x xs e
    exact ⟨a, vs, n, s, oa, nb, hz, hkS _ _ (solid_list rfl) hg, rl.mono (fun _ _ q _ => q) fun b o _ so e => hkS b o so e⟩
  · obtain ⟨o, e⟩ := V.live a q
    exact ⟨o, hk' a o (fun q' => hO (q' ▸ q)) e⟩

theorem codeFor {R : Result → Shared → Prop} {target : Expr} {I : Addr} {body orelse : List Stmt} {env : Env} {prog : Program} {w : World} {A : Around} {s : Shared} (J : Nat → Shared → Prop)
    (turn : ∀ n s, J n s → IterObj s.heap I ∧ wpAny (model prog w) A (pyNext (.ref I)) (fun r s₁ => match r with
      | none => wpAny (model prog w) A (execs orelse env) (fun f s₃ => R (.ok f) s₃) (notedBy (model prog w) A env fun e s' => R (.error e) s') s₁
      | some v => IterObj s₁.heap I ∧ wpAny (model prog w) A (assign target env v) (fun _ s₂ => wpAny (model prog w) A (execs body env) (fun f s₃ => match f with
          | .next | .cont => ∃ m, m < n ∧ J m s₃
          | .brk => R (.ok .next) s₃
          | .ret v => R (.ok (.ret v)) s₃) (notedBy (model prog w) A env fun e s' => R (.error e) s') s₂) (notedBy (model prog w) A env fun e s' => R (.error e) s') s₁) (notedBy (model prog w) A env fun e s' => R (.error e) s') s)
    (n : Nat) (h : J n s) : codeAny (model prog w) A (.forLoop target (.ref I) body orelse env) R s := by
  refine codeAny_loop' rfl J (fun n s hI => ?_) n h
  show wpAny _ _ ((forTurn target (.ref I) body orelse env).onRaise (fun x => do noteFrame x env; theTreesLotGoes x)) _ _ s
  refine wpAny_noted ?_
  simp only [forTurn]
  refine wpAny_bind (wpAny_standAt (wpAny_bind (wpAny_onRaise (wpAny_mono (turn n s hI).2 (fun r s₁ h₁ => ?_) fun _ _ h' => wpAny_standAt h'))))
  cases r with
  | none => exact wpAny_pure (.inr ⟨rfl, codeAny_block h₁⟩)
  | some v =>
    refine wpAny_bind (wp_letGo h₁.1 ?_)
    refine wpAny_bind (wpAny_mono h₁.2 (fun _ s₂ h₂ => wpAny_bind (wpAny_mono h₂ (fun f s₃ h₃ => ?_) fun _ _ h' => h')) fun _ _ h' => h')
    cases f with
    | next => exact wpAny_pure (.inl ⟨rfl, h₃⟩)
    | cont => exact wpAny_pure (.inl ⟨rfl, h₃⟩)
    | brk => exact wpAny_pure h₃
    | ret v => exact wpAny_pure h₃

theorem ForR.step {target : Expr} {body : List Stmt} {y : PV} {ys : List PV} {ρ₁ ρ' : PEnv} {out : Out} (ht : TgtP c target y ρ ρ₁) (hb : ExP c ρ₁ body (.next ρ')) (hr : ForR c target body ys ρ' out) : ForR c target body (y :: ys) ρ out := ⟨ρ₁, _, ht, hb, hr⟩
theorem ForR.quit {target : Expr} {body : List Stmt} {y : PV} {ys : List PV} {ρ₁ : PEnv} {v : PV} (ht : TgtP c target y ρ ρ₁) (hb : ExP c ρ₁ body (.ret v)) : ForR c target body (y :: ys) ρ (.ret v) := ⟨ρ₁, _, ht, hb, rfl⟩
theorem ForR.leave {target : Expr} {body : List Stmt} {y : PV} {ys : List PV} {ρ₁ ρ' : PEnv} (ht : TgtP c target y ρ ρ₁) (hb : ExP c ρ₁ body (.brk ρ')) : ForR c target body (y :: ys) ρ (.next ρ') := ⟨ρ₁, _, ht, hb, rfl⟩
theorem ForR.nil {target : Expr} {body : List Stmt} : ForR c target body [] ρ (.next ρ) := rfl
/-- from a smaller environment -/
theorem StP.forIn {target iter : Expr} {body : List Stmt} {pos : Pos} {x : PV} {xs : List PV} {out : Out} (ρ₀ : PEnv) (hS : Sub ρ₀ ρ) (hi : EvP c ρ iter x) (hx : IterP c.prog c.w x xs) (hr : ForR c target body xs ρ₀ out)
    (hs : ∀ x, foldedSetIterable iter c.env x = pure x := by intro _; rfl) : StP c ρ (.For target iter body [] pos) out := by
  refine ⟨fun hF O m cm s E V => ?_⟩
  refine wpAny_For (wpAny_mono (hi.run O m cm s E V) (fun v s₁ h₁ => ?_) fun _ _ x => x) hs
  have V₁ := V.ext h₁.ext
  refine hx.run c.A O s₁ v E _ V.good.room.hd h₁.rep fun ob fp P St W st hfr hfp hio hP => ?_
  -- the state behind the iterator's making
  have hp := Ext.push s₁.heap ob
  have V₂ := V₁.ext hp
  generalize hs2 : ({ s₁ with heap := s₁.heap.push ob } : Shared) = s₂
  have hs2h : s₂.heap = s₁.heap.push ob := by rw [← hs2]
  have hII : s₁.heap.get? s₁.heap.objs.size = none := get_size _
  have hIO : ¬ O s₁.heap.objs.size := fresh_not V₁.live hII
  have hI0 : c.h₀.get? s₁.heap.objs.size = none := by
    cases e : c.h₀.get? s₁.heap.objs.size with
    | none => rfl
    | some o => have := V₁.keep _ _ e; rw [hII] at this; cases this
  have hIs : s.heap.get? s₁.heap.objs.size = none := by
    cases e : s.heap.get? s₁.heap.objs.size with
    | none => rfl
    | some o => have := h₁.ext _ _ e; rw [hII] at this; cases this
  have hIM : ¬ Mut c s₁.heap.objs.size := fun q => by
    obtain ⟨o, e⟩ := V₁.mut_live q
    rw [hII] at e; cases e
  have hI2 : ∃ o, s₂.heap.get? s₁.heap.objs.size = some o := by rw [hs2h]; exact ⟨_, Heap.get?_push_size _ hfr⟩
  have hg12 : Got s O Mine.PV.none .none s₂ := by
    subst hs2
    exact h₁.trans ⟨_, s₁.toks, rfl, hp, .none⟩
  have V₂' : Inv c ρ O m cm s₂.heap := by rw [hs2h]; exact V₂
  have P' : ∀ i v y, P i v → xs[i]? = some y → Rep O s₂.heap v y := fun i v y p e => by rw [hs2h]; exact (hP i v y p e).ext hp
  have fp' : ∀ b ∈ fp, b = s₁.heap.objs.size ∨ (¬ O b ∧ ∃ o, s₂.heap.get? b = some o ∧ Solid o) := fun b hb => (hfp b hb).imp id fun ⟨q, o, e, so⟩ => ⟨q, o, by rw [hs2h]; exact hp _ _ e, so⟩
  have st' : St 0 s₂.heap := by rw [hs2h]; exact st
  generalize s₁.heap.objs.size = I at *
  clear hs2 hs2h st hfp hP V₂ hp hII
  have solidI : ∀ b o, s₂.heap.get? b = some o → Solid o → b ≠ I := fun b o e so => (hio 0 _ st').no_solid e so
  have solidM : ∀ b o, s₂.heap.get? b = some o → Solid o → ¬ Mut c b := fun b o e so q => by
    rcases q with rfl | ⟨n, en⟩
    · exact solid_ne V₂'.ns e so rfl
    · exact solid_ne_cell (V₂'.cell n b en) e so rfl
  -- the loop
  refine codeFor (R := fun r s' => match r with | .ok f => Went c s O out f s' | .error e => cameBackBy (model c.prog c.w) c.A c.env E e s')
    (fun n s' => ∃ i h' tk' O' m' cm' ρ', s' = { s₂ with heap := h', toks := tk' } ∧ n = xs.length + 1 - i ∧ i ≤ xs.length ∧ St i h' ∧ Inv c ρ' O' m' cm' h' ∧
      (∀ b o, s₂.heap.get? b = some o → b ≠ I → ¬ Mut c b → ¬ O b → h'.get? b = some o) ∧ (∀ a, O' a → O a ∨ s₂.heap.get? a = none) ∧ ForR c target body (xs.drop i) ρ' out) ?_ (xs.length + 1)
    ⟨0, s₂.heap, s₂.toks, O, m, cm, ρ₀, rfl, rfl, Nat.zero_le _, st', V₂'.sub_env hS, fun _ _ e _ _ _ => e, fun _ q => .inl q, hr⟩
  rintro n s' ⟨i, h', tk', O', m', cm', ρ', rfl, rfl, hile, sti, Vi, Ki, Oi, Ri⟩
  refine ⟨hio i h' sti, ?_⟩
  have noI : ∀ O₃ : Addr → Prop, (∀ a, O₃ a → O a ∨ s₂.heap.get? a = none) → ¬ O₃ I := fun O₃ O3 q => by
    rcases O3 I q with a | a
    · exact hIO a
    · obtain ⟨o, e⟩ := hI2; rw [a] at e; cases e
  have keptS : ∀ h₃ : Heap, (∀ b o, s₂.heap.get? b = some o → b ≠ I → ¬ Mut c b → ¬ O b → h₃.get? b = some o) → Kept c O s.heap h₃ := fun h₃ K3 b o e nm no =>
    K3 b o (hg12.ext _ _ e) (fun q => by subst q; rw [hIs] at e; cases e) nm no
  have ownS : ∀ O₃ : Addr → Prop, (∀ a, O₃ a → O a ∨ s₂.heap.get? a = none) → ∀ a, O₃ a → O a ∨ s.heap.get? a = none := fun O₃ O3 a q => (O3 a q).imp id fun e => by
    cases e' : s.heap.get? a with
    | none => rfl
    | some o => have := hg12.ext _ _ e'; rw [e] at this; cases this
  have shS : ∀ h₃ tk₃, ({ s₂ with heap := h₃, toks := tk₃ } : Shared) = { s with heap := h₃, toks := tk₃ } := fun h₃ tk₃ => by
    obtain ⟨_, _, rfl, _, _⟩ := hg12
    rfl
  by_cases hlt : i < xs.length
  · have hget : xs[i]? = some (xs[i]) := List.getElem?_eq_getElem hlt
    rw [List.drop_eq_getElem_cons hlt] at Ri
    obtain ⟨ρ₁, o₁, ht, hb, hm⟩ := Ri
    refine W.item i _ _ _ hlt sti fun v h₃ tk₃ hPv st₃ hk₃ => ⟨hio (i + 1) h₃ st₃, ?_⟩
    have V₃ := Vi.iterStep (hio i h' sti) (noI O' Oi) hI0 hk₃
    have K3 : ∀ b o, s₂.heap.get? b = some o → b ≠ I → ¬ Mut c b → ¬ O b → h₃.get? b = some o := fun b o e nI nm no => hk₃ b o (by simpa using nI) (Ki b o e nI nm no)
    have r₃ : Rep O' h₃ v xs[i] := (P' i v _ hPv hget).mono (fun b o no e q => by
        rcases Oi b q with a | a
        · exact no a
        · rw [e] at a; cases a) fun b o no so e => K3 b o e (solidI b o e so) (solidM b o e so) no
    refine wpAny_mono (ht.run hF O' m' cm' { s₂ with heap := h₃, toks := tk₃ } _ v V₃ r₃) (fun _ s₄ h₄ => ?_) fun _ _ x => x
    obtain ⟨h₄, tk₄, m₄, cm₄, rfl, K4, V₄⟩ := h₄
    refine wpAny_mono (hb.run hF O' m₄ cm₄ { s₂ with heap := h₄, toks := tk₄ } _ V₄) (fun f s₅ w₅ => ?_) fun _ _ x => x
    obtain ⟨h₅, tk₅, rfl, K5, w₅⟩ := w₅
    -- what stays over the turn
    have I3 : ∃ o, h₃.get? I = some o := let ⟨o, _, _, e, _⟩ := hio (i + 1) h₃ st₃; ⟨o, e⟩
    have K35 : Kept c O' h₃ h₅ := K4.trans K5 fun _ q => .inl q
    have K25 : ∀ b o, s₂.heap.get? b = some o → b ≠ I → ¬ Mut c b → ¬ O b → h₅.get? b = some o := fun b o e nI nm no => K35 b o (K3 b o e nI nm no) nm fun q => by
      rcases Oi b q with a | a
      · exact no a
      · rw [e] at a; cases a
    have st₅ : St (i + 1) h₅ := W.frame (i + 1) h₃ h₅ st₃ fun b hb o e => by
      rcases fp' b hb with rfl | ⟨no, o', e', so⟩
      · exact K35 _ o e hIM (noI O' Oi)
      · exact K35 b o e (solidM b o' e' so) fun q => by
          rcases Oi b q with a | a
          · exact no a
          · rw [e'] at a; cases a
    have O5 : ∀ ρ₅, GoesOn c h₄ O' ρ₅ h₅ → ∃ O₅ m₅ cm₅, Inv c ρ₅ O₅ m₅ cm₅ h₅ ∧ ∀ a, O₅ a → O a ∨ s₂.heap.get? a = none := fun ρ₅ ⟨O₅, m₅, cm₅, V₅, q₅⟩ => ⟨O₅, m₅, cm₅, V₅, fun a qa => by
      rcases q₅ a qa with y | y
      · exact Oi a y
      · by_cases oa : O a
        · exact .inl oa
        · refine .inr ?_
          cases e : s₂.heap.get? a with
          | none => rfl
          | some o =>
            exfalso
            by_cases aI : a = I
            · subst aI
              obtain ⟨o₃, e₃⟩ := I3
              have := K4 a o₃ e₃ hIM (noI O' Oi)
              rw [y] at this; cases this
            · by_cases am : Mut c a
              · obtain ⟨o₄, e₄⟩ := V₄.mut_live am
                rw [y] at e₄; cases e₄
              · have := K4 a o (K3 a o e aI am oa) am (fun q => by
                  rcases Oi a q with z | z
                  · exact oa z
                  · rw [e] at z; cases z)
                rw [y] at this; cases this⟩
    have again : ∀ ρ₅, GoesOn c h₄ O' ρ₅ h₅ → ForR c target body (xs.drop (i + 1)) ρ₅ out → ∃ m, m < xs.length + 1 - i ∧ ∃ i' h'' tk'' O'' m'' cm'' ρ'', ({ s₂ with heap := h₅, toks := tk₅ } : Shared) = { s₂ with heap := h'', toks := tk'' } ∧ m = xs.length + 1 - i' ∧ i' ≤ xs.length ∧ St i' h'' ∧ Inv c ρ'' O'' m'' cm'' h'' ∧
        (∀ b o, s₂.heap.get? b = some o → b ≠ I → ¬ Mut c b → ¬ O b → h''.get? b = some o) ∧ (∀ a, O'' a → O a ∨ s₂.heap.get? a = none) ∧ ForR c target body (xs.drop i') ρ'' out := fun ρ₅ g₅ R₅ => by
      obtain ⟨O₅, m₅, cm₅, V₅, q₅⟩ := O5 ρ₅ g₅
      exact ⟨xs.length + 1 - (i + 1), by omega, i + 1, h₅, tk₅, O₅, m₅, cm₅, ρ₅, rfl, rfl, hlt, st₅, V₅, K25, q₅, R₅⟩
    cases o₁ with
    | next ρ₅ => obtain ⟨rfl, g₅⟩ := w₅; exact again ρ₅ g₅ hm
    | cont ρ₅ => obtain ⟨rfl, g₅⟩ := w₅; exact again ρ₅ g₅ hm
    | brk ρ₅ =>
      obtain ⟨rfl, g₅⟩ := w₅
      obtain ⟨O₅, m₅, cm₅, V₅, q₅⟩ := O5 ρ₅ g₅
      have e5 : out = .next ρ₅ := hm
      subst e5
      exact ⟨h₅, tk₅, shS _ _, keptS h₅ K25, rfl, O₅, m₅, cm₅, V₅, ownS O₅ q₅⟩
    | ret x₅ =>
      obtain ⟨⟨v₅, rfl, r₅⟩, k₅⟩ := w₅
      have e5 : out = .ret x₅ := hm
      subst e5
      exact ⟨h₅, tk₅, shS _ _, keptS h₅ K25, ⟨v₅, rfl, r₅⟩, k₅⟩
  · have hi : i = xs.length := by omega
    subst hi
    refine W.done _ _ _ sti fun h₃ tk₃ hk₃ => wpAny_execs_nil ?_
    have V₃ := Vi.iterStep (hio _ h' sti) (noI O' Oi) hI0 hk₃
    rw [List.drop_length] at Ri
    have e5 : out = .next ρ' := Ri
    subst e5
    exact ⟨h₃, tk₃, shS _ _, keptS h₃ (fun b o e nI nm no => hk₃ b o (by simpa using nI) (Ki b o e nI nm no)), rfl, O', m', cm', V₃, ownS O' Oi⟩
end
end Mine
namespace Mine
section
variable {c : FC} {ρ : PEnv}
/-- the turns of a while -/
inductive WhileR (c : FC) (test : Expr) (body : List Stmt) : Nat → PEnv → Out → Prop where
  | done {ρ : PEnv} : TrP c ρ test false → WhileR c test body 0 ρ (.next ρ)
  | step {n : Nat} {ρ ρ' : PEnv} {out : Out} : TrP c ρ test true → ExP c ρ body (.next ρ') → WhileR c test body n ρ' out → WhileR c test body (n + 1) ρ out

theorem StP.whileDo {test : Expr} {body : List Stmt} {pos : Pos} {n : Nat} {out : Out} (hr : WhileR c test body n ρ out) : StP c ρ (.While test body [] pos) out := by
  refine ⟨fun hF O m cm s E V => ?_⟩
  refine wpAny_While ?_
  refine codeAny_whileLoop (fun k s' => ∃ h' tk' O' m' cm' ρ' n', s' = { s with heap := h', toks := tk' } ∧ k = n' ∧ Inv c ρ' O' m' cm' h' ∧ Kept c O s.heap h' ∧ (∀ a, O' a → O a ∨ s.heap.get? a = none) ∧ WhileR c test body n' ρ' out) ?_ n
    ⟨s.heap, s.toks, O, m, cm, ρ, n, rfl, rfl, V, Kept.refl, fun _ q => .inl q, hr⟩
  rintro k s' ⟨h', tk', O', m', cm', ρ', n', rfl, rfl, V', K, ho, R⟩
  cases R with
  | done ht =>
    refine wpAny_mono (ht.run O' m' cm' _ _ V') (fun b s₁ h₁ => ?_) fun _ _ x => x
    have V₁ := V'.ext h₁.ext
    obtain ⟨rfl, h₂, tk₂, rfl, e⟩ := h₁
    simp only [Bool.false_eq_true, if_false]
    exact wpAny_execs_nil ⟨h₂, tk₂, rfl, fun b o e' nm no => e _ _ (K b o e' nm no), rfl, O', m', cm', V₁, ho⟩
  | step ht hb hr' =>
    refine wpAny_mono (ht.run O' m' cm' _ _ V') (fun b s₁ h₁ => ?_) fun _ _ x => x
    have V₁ := V'.ext h₁.ext
    obtain ⟨rfl, h₂, tk₂, rfl, e⟩ := h₁
    simp only [if_true]
    refine wpAny_mono (hb.run hF O' m' cm' _ _ V₁) (fun f s₂ w₂ => ?_) fun _ _ x => x
    have w₃ := w₂.andThen (s := s) (O := O) rfl (fun b o e' nm no => e _ _ (K b o e' nm no)) V₁ ho
    obtain ⟨h₃, tk₃, rfl, K₃, rfl, O₃, m₃, cm₃, V₃, ho₃⟩ := w₃
    exact ⟨_, Nat.lt_succ_self _, h₃, tk₃, O₃, m₃, cm₃, _, _, rfl, rfl, V₃, K₃, ho₃, hr'⟩
end

/-! calls of the text's own defs -/
theorem bindL_get {kindOf : Str → Option NameKind} : ∀ {binds : List (Str × Value)} {m : Str → Option Value} {x : Str} {v : Value}, (binds.map (·.1)).Nodup → (x, v) ∈ binds → kindOf x = some .local → bindL kindOf binds m x = some v
  | [], _, _, _, _, hm, _ => nomatch hm
  | (n, w) :: r, m, x, v, hd, hm, hk => by
    rw [bindL]
    have hd' := List.nodup_cons.mp hd
    rcases List.mem_cons.mp hm with e | hm
    · cases e
      rw [if_pos hk]
      have : ∀ (r : List (Str × Value)) (m : Str → Option Value), n ∉ r.map (·.1) → m n = some w → bindL kindOf r m n = some w := by
        intro r
        induction r with
        | nil => intro m _ h; exact h
        | cons p r ih =>
          intro m hn h
          obtain ⟨y, u⟩ := p
          rw [bindL]
          simp only [List.map_cons, List.mem_cons, not_or] at hn
          refine ih _ hn.2 ?_
          split
          · simp [hn.1, h]
          · exact h
      exact this r _ hd'.1 (by simp)
    · exact bindL_get hd'.2 hm hk
theorem bindC_get {kindOf : Str → Option NameKind} : ∀ {binds : List (Str × Value)} {m : Str → Option Value} {x : Str} {v : Value}, (binds.map (·.1)).Nodup → (x, v) ∈ binds → kindOf x ≠ some .local → bindC kindOf binds m x = some v
  | [], _, _, _, _, hm, _ => nomatch hm
  | (n, w) :: r, m, x, v, hd, hm, hk => by
    rw [bindC]
    have hd' := List.nodup_cons.mp hd
    rcases List.mem_cons.mp hm with e | hm
    · cases e
      rw [if_neg hk]
      have : ∀ (r : List (Str × Value)) (m : Str → Option Value), n ∉ r.map (·.1) → m n = some w → bindC kindOf r m n = some w := by
        intro r
        induction r with
        | nil => intro m _ h; exact h
        | cons p r ih =>
          intro m hn h
          obtain ⟨y, u⟩ := p
          rw [bindC]
          simp only [List.map_cons, List.mem_cons, not_or] at hn
          refine ih _ hn.2 ?_
          split
          · exact h
          · simp [hn.1, h]
      exact this r _ hd'.1 (by simp)
    · exact bindC_get hd'.2 hm hk

/-- a def of the text's -/
structure DefAt (g : GC) (f : Addr) (fd : FuncData) (body : List Stmt) : Prop where
  at_ : ∃ o, g.K.lookup f = some o ∧ o.data = .func fd
  code : ∃ ca co vs t, fd.code = .ref ca ∧ g.K.lookup ca = some co ∧ co.data = .fields vs ∧ vs[1]? = some (.str fd.qualname t)
  body : fd.body = .stmts body
  glob : fd.globals = mainGlobals
  blt : fd.builtins = builtinsNs
  clo : fd.closure = []
  co : fd.scope.isCoroutine = false
  gen : fd.scope.isGenerator = false
  kind : fd.scope.kind = .function

/-- the frame of a def -/
def frameOf (g : GC) (fd : FuncData) (f : Addr) (A : Around) (L : Addr) (h₀ : Heap) (B : Addr → Prop) (n : Nat) : FC :=
  { toGC := g, A := A.deeper (callEnvC fd L f), env := callEnvC fd L f, h₀ := h₀, B := B, n := n }

/-- what a def's parameters take of the arguments -/
structure BindP (fd : FuncData) (xs : List PV) (names : List Str) (ys : List PV) : Prop where
  run : ∀ (M : Model) (A : Around) (E : Value → Shared → Prop) (O : Addr → Prop) (s : Shared) (vs : List Value), (∀ a, O a → ∃ o, s.heap.get? a = some o) → RepL O s.heap vs xs →
    wpAny M A (bindArgs fd ⟨vs, []⟩) (fun binds s' => ∃ h' tk', s' = { s with heap := h', toks := tk' } ∧ Ext s.heap h' ∧ binds.map (·.1) = names ∧ RepL O h' (binds.map (·.2)) ys) E s

theorem CallP.def {g : GC} {f : Addr} {fd : FuncData} {body : List Stmt} {n : Nat} {xs ys : List PV} {names : List Str} {z : PV} (D : DefAt g f fd body) (hb : BindP fd xs names ys) (hlen : names.length = ys.length) (hnd : names.Nodup)
    (hk : ∀ L, ∀ x ∈ names, fd.scope.names.lookup x = some .local ∨ (fd.scope.names.lookup x = some .cell ∧ ((cellsFrom L fd.scope.names []).lookup x).isSome = true))
    (h : ∀ A L h₀ B, ExP (frameOf g fd f A L h₀ B n) (names.zip (ys.map .val)) body (.ret z)) : CallP g (n + 1) (.ref f) xs z := by
  refine ⟨fun A O s vs E R X L r => ?_⟩
  obtain ⟨o, ho, hd⟩ := D.at_
  obtain ⟨ca, co, cvs, ct, hc1, hc2, hc3, hc4⟩ := D.code
  refine wpAny_call (codeAny_call_function (by have := R.dp; show A.depth < 1000; omega) (X.k _ _ ho) hd D.co D.gen D.body ⟨ca, co, cvs, ct, hc1, X.k _ _ hc2, hc3, hc4⟩ ?_)
  refine wpAny_mono (hb.run _ _ _ O s vs L r) (fun binds s₁ h₁ => ?_) fun _ _ x => x
  obtain ⟨h₁', tk₁, rfl, e₁, hn, rb⟩ := h₁
  rw [D.clo]
  refine wpAny_newFunctionEnv_cells D.kind (fun x hx => hk _ x.1 (hn ▸ List.mem_map_of_mem hx)) fun env he s₂ Y => ?_
  obtain ⟨h₂, tk₂, rfl, k₂⟩ := Y.done
  have X₂ : g.At h₂ := (X.ext e₁).ext k₂
  refine ⟨X₂.t.nolimit, codeAny_func ?_⟩
  have henv : env = callEnvC fd h₁'.objs.size f := he
  subst henv
  have hframe : (frameOf g fd f A h₁'.objs.size h₁' O n).Good := ⟨D.kind, D.glob, D.blt, R.deeper _, X.ext e₁⟩
  have hfresh : (frameOf g fd f A h₁'.objs.size h₁' O n).Fresh := by
    refine ⟨get_size _, fun m a e => ?_, fun m m' a e e' => name_of_addr Y.apart (mem_of_lookup e) (mem_of_lookup e')⟩
    have := Y.above m a (mem_of_lookup e)
    cases q : h₁'.get? a with
    | none => exact q
    | some o => exact absurd (Heap.lt_size q) (Nat.not_lt.mpr (Nat.le_of_lt this))
  have hkind : ∀ x, (callEnvC fd h₁'.objs.size f).kindOf x = fd.scope.names.lookup x := fun x => rfl
  have hndb : (binds.map (·.1)).Nodup := hn ▸ hnd
  have hinv : Inv (frameOf g fd f A h₁'.objs.size h₁' O n) (names.zip (ys.map .val)) O (bindL (callEnvC fd h₁'.objs.size f).kindOf binds fun _ => none) (bindC (callEnvC fd h₁'.objs.size f).kindOf binds fun _ => none) h₂ := by
    refine ⟨hframe, Y.toInCall.ns, Y.cell, k₂, fun x pv e => ?_, fun x xs' e => ?_, fun x y xs' ys' a e => ?_, fun a q => q, fun a q => ?_⟩
    · have hm := mem_of_lookup e
      obtain ⟨i, hi, hie⟩ := List.mem_iff_getElem.mp hm
      simp only [List.length_zip, List.length_map] at hi
      rw [List.getElem_zip] at hie
      have hxn : names[i]? = some x := by
        rw [List.getElem?_eq_getElem (by omega)]; exact congrArg some (Prod.mk.inj hie).1
      have hyn : ys[i]? = some pv := by
        have e2 := (Prod.mk.inj hie).2
        rw [List.getElem_map] at e2
        cases e2
        exact List.getElem?_eq_getElem (by omega)
      have hbl : i < binds.length := by
        have := congrArg List.length hn
        simp only [List.length_map] at this; omega
      have hb1 : (binds[i]).1 = x := by
        have := congrArg (fun l => l[i]?) hn
        simp only [List.getElem?_map, List.getElem?_eq_getElem hbl, Option.map_some, hxn] at this
        exact Option.some.inj this
      have hmem : (x, (binds[i]).2) ∈ binds := by rw [← hb1]; exact List.getElem_mem hbl
      have hr : Rep O h₁' (binds[i]).2 pv := rb.2 i _ _ (by simp [hbl]) hyn
      refine ⟨(binds[i]).2, ?_, hr.ext k₂⟩
      rcases hk (h₁'.objs.size + 1) x (List.mem_of_getElem? hxn) with hl | ⟨hl, hc⟩
      · exact .inl ⟨hl, bindL_get hndb hmem hl⟩
      · exact .inr ⟨hl, hc, bindC_get hndb hmem (by rw [hkind, hl]; decide)⟩
    · have hm := mem_of_lookup e
      have := List.of_mem_zip hm
      obtain ⟨y, _, q⟩ := List.mem_map.mp this.2
      cases q
    · have hm := mem_of_lookup e
      have := List.of_mem_zip hm
      obtain ⟨y, _, q⟩ := List.mem_map.mp this.2
      cases q
    · obtain ⟨o, e⟩ := L a q
      exact ⟨o, k₂ _ _ (e₁ _ _ e)⟩
  refine wpAny_mono ((h A h₁'.objs.size h₁' O).run hfresh O _ _ _ _ hinv) (fun fl s₃ w₃ => ?_) fun _ _ x => x
  obtain ⟨h₃, tk₃, rfl, _, ⟨v, rfl, rv⟩, k₃⟩ := w₃
  exact ⟨h₃, tk₃, rfl, e₁.trans k₃, rv⟩

theorem BindP.plain {fd : FuncData} {xs : List PV} {names : List Str} (hl : names.length = xs.length) (h : ∀ vs : List Value, vs.length = xs.length → bindArgs fd ⟨vs, []⟩ = pure (names.zip vs)) : BindP fd xs names xs := by
  refine ⟨fun M A E O s vs L r => ?_⟩
  rw [h vs r.1]
  refine wpAny_pure ⟨s.heap, s.toks, rfl, Ext.refl _, ?_, ?_⟩
  · rw [List.map_fst_zip]; simp [hl, r.1]
  · have : (names.zip vs).map (·.2) = vs := List.map_snd_zip (by simp [hl, r.1])
    rw [this]; exact r
theorem BindP.one {fd : FuncData} {x : PV} {nm : Str} (h : ∀ v, bindArgs fd ⟨[v], []⟩ = pure [(nm, v)]) : BindP fd [x] [nm] [x] :=
  BindP.plain rfl fun vs e => by
    match vs, e with
    | [v], _ => exact h v
theorem BindP.two {fd : FuncData} {x y : PV} {nm nm' : Str} (h : ∀ v v', bindArgs fd ⟨[v, v'], []⟩ = pure [(nm, v), (nm', v')]) : BindP fd [x, y] [nm, nm'] [x, y] :=
  BindP.plain rfl fun vs e => by
    match vs, e with
    | [v, v'], _ => exact h v v'
theorem BindP.three {fd : FuncData} {x y z : PV} {nm nm' nm'' : Str} (h : ∀ v v' v'', bindArgs fd ⟨[v, v', v''], []⟩ = pure [(nm, v), (nm', v'), (nm'', v'')]) : BindP fd [x, y, z] [nm, nm', nm''] [x, y, z] :=
  BindP.plain rfl fun vs e => by
    match vs, e with
    | [v, v', v''], _ => exact h v v' v''
/-- one parameter and a star's -/
theorem BindP.star {fd : FuncData} {x : PV} {xs : List PV} {nm nm' : Str} (h : ∀ v vs, bindArgs fd ⟨v :: vs, []⟩ = (do let t ← newTuple vs; pure [(nm, v), (nm', t)])) (hz : xs.length ≤ sizeLine) : BindP fd (x :: xs) [nm, nm'] [x, .tuple xs] := by
  refine ⟨fun M A E O s vs L r => ?_⟩
  obtain ⟨v, vs', rfl, r₁, r₂⟩ := r.cons_inv
  rw [h v vs']
  refine wpAny_bind (wpAny_newTuple (wpAny_pure ⟨_, s.toks, rfl, Ext.push _ _, rfl, ?_⟩) (by rw [r₂.1]; exact hz))
  exact .cons (r₁.ext (Ext.push _ _)) (.cons (Rep.newTuple L r₂) .nil)
end Mine
namespace Mine
/-- data that need no object -/
def IsImm : PV → Prop
  | .none | .bool _ | .int _ | .str _ | .bytes _ => True
  | _ => False
theorem Rep.imm {O O' : Addr → Prop} {h h' : Heap} {v : Value} {y : PV} (hi : IsImm y) (r : Rep O h v y) : Rep O' h' v y := by
  cases r with
  | none => exact .none
  | bool b => exact .bool b
  | int i t => exact .int i t
  | str s t => exact .str s t
  | bytes b t => exact .bytes b t
  | list _ _ _ _ => exact hi.elim
  | tuple _ _ _ _ => exact hi.elim
  | range _ _ => exact hi.elim
def dec : Value → PV
  | .bool b => .bool b
  | .int i _ => .int i
  | .str s _ => .str s
  | .bytes b _ => .bytes b
  | _ => .none
theorem dec_rep {O : Addr → Prop} {h : Heap} {v : Value} {y : PV} (hi : IsImm y) (r : Rep O h v y) : dec v = y := by
  cases r with
  | none => rfl
  | bool b => rfl
  | int i t => rfl
  | str s t => rfl
  | bytes b t => rfl
  | list _ _ _ _ => exact hi.elim
  | tuple _ _ _ _ => exact hi.elim
  | range _ _ => exact hi.elim

/-- a comprehension's own frame -/
def compFC (c : FC) (scope : Scope) (cl : List (Str × Addr)) (C : Addr) : FC := { c with env := compEnvC scope cl C c.env }

structure CompOk (c : FC) (ρ : PEnv) (scope : Scope) (cl : List (Str × Addr)) (x : Str) (ρ' : PEnv) : Prop where
  clos : closureFor scope c.env = pure cl
  cell : ∀ y ∈ scope.names, y.2 ≠ .cell
  kind : scope.kind = .function
  names : ∀ y ∈ scope.names, y.2 = .local → scope.names.lookup y.1 = some .local
  x : scope.names.lookup x = some .local
  sub : ∀ n a, cl.lookup n = some a → c.env.cells.lookup n = some a
  cap : ∀ y e, ρ'.lookup y = some e → (∃ pv, e = .val pv) ∧ ρ.lookup y = some e ∧ c.env.kindOf y = some .cell ∧ (relabel scope c.env).names.lookup y = some .cell ∧ (cl.lookup y).isSome = true

theorem CompOk.inv {c : FC} {ρ ρ' : PEnv} {scope : Scope} {cl : List (Str × Addr)} {x : Str} (K : CompOk c ρ scope cl x ρ') {O : Addr → Prop} {m cm m' : Str → Option Value} {h h' : Heap} {C : Addr} {v : Value} {y : PV} (V : Inv c ρ O m cm h) (hk : Ext h h') (hn : h'.Ns C m') (hv : m' x = some v) (r : Rep O h' v y) :
    Inv (compFC c scope cl C) ((x, .val y) :: ρ') O m' cm h' := by
  refine ⟨⟨?_, V.good.glob, V.good.blt, V.good.room, V.good.top⟩, hn, fun n a e => (V.cell n a (K.sub n a e)).keeps hk, V.keep.trans hk, fun z pv e => ?_, fun z zs e => ?_, fun z z' zs zs' a e => ?_, V.sub, fun a q => ?_⟩
  · show (relabel scope c.env).kind = .function
    exact K.kind
  · rw [List.lookup_cons] at e
    cases hb : z == x with
    | true =>
      rw [hb] at e; cases e
      rw [beq_iff_eq.mp hb]
      refine ⟨v, .inl ⟨?_, hv⟩, r⟩
      show (relabel scope c.env).names.lookup x = some .local
      exact lookup_relabel_local K.x
    | false =>
      rw [hb] at e
      obtain ⟨_, hρ, hk1, hk2, hk3⟩ := K.cap z _ e
      obtain ⟨w, sl, rw'⟩ := V.val z pv hρ
      refine ⟨w, .inr ⟨hk2, hk3, ?_⟩, rw'.ext hk⟩
      rcases sl with ⟨q, _⟩ | ⟨_, _, q⟩
      · rw [hk1] at q; cases q
      · exact q
  · rw [List.lookup_cons] at e
    cases hb : z == x with
    | true => rw [hb] at e; cases e
    | false => rw [hb] at e; obtain ⟨⟨_, q⟩, _⟩ := K.cap z _ e; cases q
  · rw [List.lookup_cons] at e
    cases hb : z == x with
    | true => rw [hb] at e; cases e
    | false => rw [hb] at e; obtain ⟨⟨_, q⟩, _⟩ := K.cap z _ e; cases q
  · obtain ⟨o, e⟩ := V.live a q; exact ⟨o, hk _ _ e⟩

/-- the tests of a comprehension -/
structure IfsP (c : FC) (ρ : PEnv) (ifs : List Expr) (b : Bool) : Prop where
  run : ∀ (O : Addr → Prop) (m cm : Str → Option Value) (s : Shared) (E : Value → Shared → Prop), Inv c ρ O m cm s.heap →
    wpAny (model c.prog c.w) c.A (forIn ifs true fun t r => if r = true then do let ok ← isTrue t c.env (eval t c.env); pure (ForInStep.yield ok) else pure (ForInStep.yield r)) (Seen s b) E s
theorem IfsP.nil {c : FC} {ρ : PEnv} : IfsP c ρ [] true := by
  refine ⟨fun O m cm s E V => ?_⟩
  rw [List.forIn_nil]; exact wpAny_pure (Seen.same _ _)
theorem IfsP.one {c : FC} {ρ : PEnv} {t : Expr} {b : Bool} (h : TrP c ρ t b) : IfsP c ρ [t] b := by
  refine ⟨fun O m cm s E V => ?_⟩
  rw [List.forIn_cons]
  simp only [if_true]
  refine wpAny_bind (wpAny_bind (wpAny_mono (h.run O m cm s E V) (fun b' s₁ h₁ => wpAny_pure ?_) fun _ _ x => x))
  dsimp only
  rw [List.forIn_nil]
  exact wpAny_pure h₁

section
variable {c : FC} {ρ : PEnv}
theorem paired_map {xs : List PV} {ys : List Value} {F : Value → Value → Prop} : ∀ {vs : List Value}, Paired F vs ys → vs.length = ys.length ∧ ∀ (i : Nat) (v w : Value), vs[i]? = some v → ys[i]? = some w → F v w := by
  intro vs h
  induction h with
  | nil => exact ⟨rfl, fun i v w e => by simp at e⟩
  | cons a b ih =>
    refine ⟨by simp [ih.1], fun i v w e e' => ?_⟩
    cases i with
    | zero => simp at e e'; subst e; subst e'; exact a
    | succ i => simp at e e'; exact ih.2 i v w e e'

theorem filter_dec (q : PV → Bool) : ∀ {vs : List Value} {xs : List PV}, vs.length = xs.length → (∀ (i : Nat) (v : Value) (y : PV), vs[i]? = some v → xs[i]? = some y → dec v = y) → (vs.filter fun v => q (dec v)).map dec = xs.filter q := by
  intro vs
  induction vs with
  | nil => intro xs hl _; have : xs = [] := List.eq_nil_of_length_eq_zero hl.symm; subst this; rfl
  | cons v vs ih =>
    intro xs hl h
    cases xs with
    | nil => simp at hl
    | cons y ys =>
      have e0 := h 0 v y rfl rfl
      have ih' := ih (xs := ys) (by simpa using hl) fun i v y e e' => h (i + 1) v y (by simpa using e) (by simpa using e')
      simp only [List.filter_cons, e0]
      cases q y
      · simpa using ih'
      · simp only [if_true, List.map_cons, e0, ih']

theorem EvP.comp {x : Str} {px pos : Pos} {iter elt : Expr} {ifs : List Expr} {scope : Scope} {cl : List (Str × Addr)} {xv : PV} {xs : List PV} {ρ' : PEnv} (q : PV → Bool) (f : PV → PV)
    (hi : EvP c ρ iter xv) (hx : IterP c.prog c.w xv xs) (hz : xs.length ≤ sizeLine) (himm : ∀ y ∈ xs, IsImm y) (hfi : ∀ y ∈ xs, IsImm (f y)) (K : CompOk c ρ scope cl x ρ')
    (ht : ∀ C y, y ∈ xs → IfsP (compFC c scope cl C) ((x, .val y) :: ρ') ifs (q y))
    (he : ∀ C y, y ∈ xs → q y = true → EvP (compFC c scope cl C) ((x, .val y) :: ρ') elt (f y))
    (hs : ∀ x, foldedSetIterable iter c.env x = pure x := by intro _; rfl) :
    EvP c ρ (.ListComp elt [⟨.Name x px, iter, ifs, 0⟩] scope pos) (.list ((xs.filter q).map f)) := by
  refine ⟨fun O m cm s E V => ?_⟩
  refine wpAny_ListComp_free (fun v => q (dec v)) (fun v w => ∀ O h, Rep O h w (f (dec v))) K.clos K.cell K.kind K.names K.x (wpAny_mono (hi.run O m cm s E V) (fun v s₁ h₁ => ?_) fun _ _ x => x) hs
  have V₁ := V.ext h₁.ext
  refine hx.run c.A O s₁ v E _ V.good.room.hd h₁.rep fun ob fp P St W st hfr hfp hio hP => ?_
  have hp := Ext.push s₁.heap ob
  refine ⟨s₁.heap.objs.size, fp, _, xs.length, fun i v => i < xs.length ∧ P i v, St, rfl, W.bound, hz, st, ?_, ?_, ?_⟩
  · intro b hb
    show b < (s₁.heap.push ob).objs.size
    rw [Heap.size_push]
    rcases hfp b hb with rfl | ⟨_, o, e, _⟩
    · exact Nat.lt_succ_self _
    · exact Nat.lt_succ_of_lt (Heap.lt_size e)
  · have hfrom : ∀ (s₃ : Shared), (∀ b o, b ∉ [s₁.heap.objs.size] → (s₁.heap.push ob).get? b = some o → s₃.heap.get? b = some o) → Ext s₁.heap s₃.heap := fun s₃ hk b o e =>
      hk b o (by simpa using Nat.ne_of_lt (Heap.lt_size e)) (hp b o e)
    constructor
    · intro C i v s₃ m₃ E' hC hv hn hm hk htk
      have hy : xs[i]? = some xs[i] := List.getElem?_eq_getElem hv.1
      have r := hP i v _ hv.2 hy
      have V₃ := K.inv V₁ (hfrom s₃ hk) hn hm (r.ext (hfrom s₃ hk))
      have hmem : xs[i] ∈ xs := List.getElem_mem hv.1
      have := (ht C xs[i] hmem).run O m₃ cm s₃ E' V₃
      refine wpAny_mono this (fun b s₄ h₄ => ?_) fun _ _ x => x
      obtain ⟨rfl, h', tk, rfl, k⟩ := h₄
      exact ⟨congrArg q (dec_rep (himm _ hmem) r).symm, h', tk, rfl, k⟩
    · intro C i v s₃ m₃ E' hC hv hpv hn hm hk htk
      have hy : xs[i]? = some xs[i] := List.getElem?_eq_getElem hv.1
      have r := hP i v _ hv.2 hy
      have hmem : xs[i] ∈ xs := List.getElem_mem hv.1
      have ed := dec_rep (himm _ hmem) r
      have V₃ := K.inv V₁ (hfrom s₃ hk) hn hm (r.ext (hfrom s₃ hk))
      refine wpAny_mono ((he C xs[i] hmem (by rw [ed] at hpv; exact hpv)).run O m₃ cm s₃ E' V₃) (fun w s₄ h₄ => ?_) fun _ _ x => x
      obtain ⟨h', tk, rfl, k, rw'⟩ := h₄
      refine ⟨fun O h => ?_, h', tk, rfl, k⟩
      rw [ed]; exact rw'.imm (hfi _ hmem)
  · intro D h' tk ys vs hD hl hpl hlen hPs hF hk
    have ext : Ext s₁.heap h' := fun b o e => hk b o (by simpa using Nat.ne_of_lt (Heap.lt_size e)) (hp b o e)
    have hDs : s₁.heap.get? D = none := by
      cases e : s₁.heap.get? D with
      | none => rfl
      | some o => have := hp _ _ e; rw [hD] at this; cases this
    have hdec : ∀ (i : Nat) (v : Value) (y : PV), vs[i]? = some v → xs[i]? = some y → dec v = y := fun i v y e e' =>
      dec_rep (himm _ (List.mem_of_getElem? e')) (hP i v y (hPs i v e).2 e')
    have hmap := filter_dec q hlen hdec
    obtain ⟨hl1, hl2⟩ := paired_map (xs := xs) hF
    refine h₁.trans (⟨h', tk, rfl, ext, .list' (vs := ys.toList) (fresh_not V₁.live hDs) (by simpa using hpl) ?_⟩ : Got s₁ O (.list ((xs.filter q).map f)) (.ref D) { s₁ with heap := h', toks := tk })
    rw [← hmap]
    refine ⟨by simp [← hl1], fun i w z ew ez => ?_⟩
    have hvi : i < (vs.filter fun v => q (dec v)).length := by
      rw [hl1]; exact (List.getElem?_eq_some_iff.mp ew).1
    have hv : (vs.filter fun v => q (dec v))[i]? = some (vs.filter fun v => q (dec v))[i] := List.getElem?_eq_getElem hvi
    have hFw := hl2 i _ w hv ew
    rw [List.getElem?_map, List.getElem?_map, hv] at ez
    simp only [Option.map_some, Option.some.injEq] at ez
    rw [← ez]
    exact hFw O h'
/-- without a test -/
theorem EvP.comp0 {x : Str} {px pos : Pos} {iter elt : Expr} {scope : Scope} {cl : List (Str × Addr)} {xv : PV} {xs : List PV} {ρ' : PEnv} (f : PV → PV)
    (hi : EvP c ρ iter xv) (hx : IterP c.prog c.w xv xs) (hz : xs.length ≤ sizeLine) (himm : ∀ y ∈ xs, IsImm y) (hfi : ∀ y ∈ xs, IsImm (f y)) (K : CompOk c ρ scope cl x ρ')
    (he : ∀ C y, y ∈ xs → EvP (compFC c scope cl C) ((x, .val y) :: ρ') elt (f y))
    (hs : ∀ x, foldedSetIterable iter c.env x = pure x := by intro _; rfl) :
    EvP c ρ (.ListComp elt [⟨.Name x px, iter, [], 0⟩] scope pos) (.list (xs.map f)) := by
  have := EvP.comp (c := c) (ρ := ρ) (px := px) (pos := pos) (fun _ => true) f hi hx hz himm hfi K (fun C y _ => IfsP.nil) (fun C y hy _ => he C y hy) hs
  have e : xs.filter (fun _ => true) = xs := by simp
  rw [e] at this
  exact this
end
end Mine
namespace Mine
section
variable {c : FC} {ρ : PEnv}
theorem Op2.addL {xs ys : List PV} (h : xs.length + ys.length ≤ sizeLine) : Op2 c (binaryOp .Add) (.list xs) (.list ys) (.list (xs ++ ys)) := by
  refine ⟨fun O s v w E G r q => ?_⟩
  obtain ⟨l, vs, rfl, ho, hl, rl⟩ := r.list_inv; obtain ⟨b, ws, rfl, hob, hb, rb⟩ := q.list_inv
  obtain ⟨⟨cls, dd, data, sl⟩, ho, hc, n, hd⟩ := id hl
  obtain ⟨⟨cls2, dd2, data2, sl2⟩, ho2, hc2, n2, hd2⟩ := id hb
  simp only at hc hd hc2 hd2
  subst hc hd hc2 hd2
  have e : vs.toArray ++ ws.toArray = (vs ++ ws).toArray := by simp
  refine concat_meets ⟨_, ho, rfl⟩ ⟨_, ho2, rfl⟩ noFill_list_add seq_list_add PySem.F.slot_list_add PySem.F.entry_list_add (PySem.F.args_list_add_2 _ _) (list_addW l b vs.toArray ws.toArray n n2 dd dd2 sl sl2 (by simp [rl.1, rb.1]; exact h)) ⟨ho, ho2, ?_⟩
  rw [e]
  exact Got.new (tk := s.toks) (Rep.newList G.live (rl.append rb))
theorem Op2.mulSI {x : Str} {n : Int} (h : MulOk x n) : Op2 c (binaryOp .Mult) (.str x) (.int n) (.str (Txt.mul x n)) := by
  refine ⟨fun O s v w E G r q => ?_⟩
  obtain ⟨t, rfl⟩ := r.str_inv; obtain ⟨u, rfl⟩ := q.int_inv
  exact SB.mul h fun t' k => Got.toks (.str _ _)
theorem Op2.addB {a b : Array UInt8} (h : a.size + b.size ≤ 16777216) : Op2 c (binaryOp .Add) (.bytes a) (.bytes b) (.bytes (a ++ b)) := by
  refine ⟨fun O s v w E G r q => ?_⟩
  obtain ⟨t, rfl⟩ := r.bytes_inv; obtain ⟨u, rfl⟩ := q.bytes_inv
  exact KBy.add_bytes h fun t' k => Got.toks (.bytes _ _)
theorem Truth.tuple {xs : List PV} (h : xs.length ≤ sizeLine) : Truth c (.tuple xs) (!xs.isEmpty) := by
  refine ⟨fun O s v E G r => ?_⟩
  obtain ⟨a, vs, n, rfl, ho, hg, rl⟩ := r.tuple_inv'
  have e : (!vs.toArray.isEmpty) = !xs.isEmpty := by
    have := rl.1
    cases vs <;> cases xs <;> simp_all
  rw [← e]
  exact ktl_truthy hg (by rw [sizeLine_eq] at h; simp [rl.1]; omega) ⟨rfl, s.heap, _, rfl, Ext.refl _⟩
theorem Truth.list {xs : List PV} (h : xs.length ≤ sizeLine) : Truth c (.list xs) (!xs.isEmpty) := by
  refine ⟨fun O s v E G r => ?_⟩
  obtain ⟨a, vs, rfl, ho, hg, rl⟩ := r.list_inv
  have e : (!vs.toArray.isEmpty) = !xs.isEmpty := by
    have := rl.1
    cases vs <;> cases xs <;> simp_all
  rw [← e]
  exact wpAny_truthy_list hg (by rw [sizeLine_eq] at h; simp [rl.1]; omega) ⟨rfl, s.heap, _, rfl, Ext.refl _⟩

/-! slices -/
theorem pick_upto (vs : List Value) (b : Nat) : (slicePick vs.toArray none (some (b : Int)) none).toList = vs.take b := by rw [slicePick_upto']
theorem pick_from (vs : List Value) (b : Nat) : (slicePick vs.toArray (some (b : Int)) none none).toList = vs.drop b := by rw [slicePick_from']
theorem EvP.takeL {e u : Expr} {p pos : Pos} {xs : List PV} {k : Int} (he : EvP c ρ e (.list xs)) (hu : EvP c ρ u (.int k)) (h0 : 0 ≤ k) (hsz : xs.length ≤ sizeLine) : EvP c ρ (.Subscript e (.Slice none (some u) none p) pos) (.list (xs.take k.toNat)) :=
  EvP.sliceL he PartP.none (PartP.some hu) PartP.none (by simp) hsz fun O h vs r => by
    have : k = ((k.toNat : Nat) : Int) := by omega
    rw [this, pick_upto]
    exact r.take _
theorem EvP.dropL {e u : Expr} {p pos : Pos} {xs : List PV} {k : Int} (he : EvP c ρ e (.list xs)) (hu : EvP c ρ u (.int k)) (h0 : 0 ≤ k) (hsz : xs.length ≤ sizeLine) : EvP c ρ (.Subscript e (.Slice (some u) none none p) pos) (.list (xs.drop k.toNat)) :=
  EvP.sliceL he (PartP.some hu) PartP.none PartP.none (by simp) hsz fun O h vs r => by
    have : k = ((k.toNat : Nat) : Int) := by omega
    rw [this, pick_from]
    exact r.drop _
theorem EvP.revL {e u : Expr} {p pos : Pos} {xs : List PV} (he : EvP c ρ e (.list xs)) (hu : EvP c ρ u (.int (-1))) (hsz : xs.length ≤ sizeLine) : EvP c ρ (.Subscript e (.Slice none none (some u) p) pos) (.list xs.reverse) :=
  EvP.sliceL he PartP.none PartP.none (PartP.some hu) (by decide) hsz fun O h vs r => by
    rw [krv_pick]
    exact r.reverse
theorem EvP.dropT {e : Expr} {k : Nat} {p pos kp : Pos} {xs : List PV} (he : EvP c ρ e (.tuple xs)) (h1 : 1 ≤ k) (ha : k ≤ xs.length) (hsz : xs.length ≤ sizeLine) : EvP c ρ (.Subscript e (.Slice (some (.Constant (.int k) 0 kp)) none none p) pos) (.tuple (xs.drop k)) := by
  refine EvP.sliceOf (T := "tuple") he (PartP.some (EvP.int _ _ _)) PartP.none PartP.none (fun O h v r s' e' => ?_) slot_tuple_getitem.lookup fun O s v vl vu vs sl E G r hs p1 p2 p3 => ?_
  · obtain ⟨a, vs, rfl, _, hl', _⟩ := r.tuple_inv
    subst e'
    exact hl'.typeIs
  · obtain ⟨a, ws, rfl, ho, hl', rl⟩ := r.tuple_inv
    cases p1; cases p2; cases p3
    refine getItem_tuple_from hl' hs h1 (by simp [rl.1]; exact ha) ?_ (by simp [rl.1]; exact hsz)
    exact Got.new (tk := s.toks) (Rep.newTuple G.live (rl.drop k))
theorem EvP.cutB {e l u : Expr} {p pos : Pos} {b : Array UInt8} {i j : Int} (he : EvP c ρ e (.bytes b)) (hl : EvP c ρ l (.int i)) (hu : EvP c ρ u (.int j)) (hsz : b.size ≤ sizeLine) : EvP c ρ (.Subscript e (.Slice (some l) (some u) none p) pos) (.bytes (KBy.picked b (some i) (some j))) := by
  refine EvP.sliceOf (T := "bytes") he (PartP.some hl) (PartP.some hu) PartP.none (fun O h v r s' e' => ?_) FB.slot_bytes_getitem.lookup fun O s v vl vu vs sl E G r hs p1 p2 p3 => ?_
  · obtain ⟨t, rfl⟩ := r.bytes_inv
    exact typeIs_bytes _ _ _
  · obtain ⟨t, rfl⟩ := r.bytes_inv
    cases p3
    exact getItem_meets (typeIs_bytes _ _ _) (by decide) FB.slot_bytes_getitem FB.entry_bytes_getitem (FB.args_bytes_getitem_2 _ _) (KBc.meets_slice2 b t _ p1 p2)
      ⟨hs, Nat.le_trans (KBc.size_picked_le b _ _) hsz, fun t' k => Got.toks (.bytes _ _)⟩

/-! a text's place -/
theorem CallP.indexS {g : GC} {n : Nat} {x y : Str} {i : Nat} {rest : List Nat} (h : Builtin.Str.occurrences x y 0 x.length 1 = i :: rest) : CallP g n (.builtin "str.index") [.str x, .str y] (.int i) := by
  refine ⟨fun A O s vs E R X L r => ?_⟩
  obtain ⟨v, vs', rfl, r₁, r₂⟩ := r.cons_inv; obtain ⟨v', vs'', rfl, r₃, r₄⟩ := r₂.cons_inv; obtain rfl := r₄.nil_inv; obtain ⟨t, rfl⟩ := r₁.str_inv; obtain ⟨u, rfl⟩ := r₃.str_inv
  exact SC.index h (Got.toks (.int _ _))
theorem EvP.indexS {o a : Expr} {ap cp : Pos} {x y : Str} {i : Nat} {rest : List Nat} (ho : EvP c ρ o (.str x)) (ha : EvP c ρ a (.str y)) (h : Builtin.Str.occurrences x y 0 x.length 1 = i :: rest) (he : starEach [a] c.env = [(false, eval a c.env)] := by rfl)
    (hev : MethForm c o (Str.ofString "index") ap [a] cp := by exact ⟨_, rfl⟩) : EvP c ρ (.Call (.Attribute o (Str.ofString "index") ap) [a] [] cp) (.int i) :=
  EvP.methS ho (ArgsP.cons ha ArgsP.nil he) F.slot_str_index F.type_str_index (fun n => CallP.indexS h) he hev

theorem EvP.to {e : Expr} {x y : PV} (h : EvP c ρ e x) (q : x = y) : EvP c ρ e y := q ▸ h
theorem TrP.to {e : Expr} {x y : Bool} (h : TrP c ρ e x) (q : x = y) : TrP c ρ e y := q ▸ h
theorem Op2.to {t : Value → Value → Sem Value} {x y z z' : PV} (h : Op2 c t x y z) (q : z = z') : Op2 c t x y z' := q ▸ h
theorem CallP.to {g : GC} {n : Nat} {f : Value} {xs : List PV} {z z' : PV} (h : CallP g n f xs z) (q : z = z') : CallP g n f xs z' := q ▸ h
theorem ExP.to {st : List Stmt} {o o' : Out} (h : ExP c ρ st o) (q : o = o') : ExP c ρ st o' := q ▸ h
theorem StP.whileEx {test : Expr} {body : List Stmt} {pos : Pos} {out : Out} (hr : ∃ n, WhileR c test body n ρ out) : StP c ρ (.While test body [] pos) out := let ⟨_, h⟩ := hr; StP.whileDo h
theorem Sub.nil {ρ : PEnv} : Sub [] ρ := fun x e h => by simp at h
theorem Sub.cons {ρ' ρ : PEnv} {x : Str} {e : Ent} (h : ρ.lookup x = some e) (s : Sub ρ' ρ) : Sub ((x, e) :: ρ') ρ := fun y d hy => by
  rw [List.lookup_cons] at hy
  cases hb : y == x with
  | true => rw [hb] at hy; cases hy; rw [beq_iff_eq.mp hb]; exact h
  | false => rw [hb] at hy; exact s y d hy
/-! targets of two names -/
theorem TgtP.pair {x y : Str} {px py tp : Pos} {k : Nat} {a b : PV} (hx : CanStore c x) (hy : CanStore c y) : TgtP c (.Tuple [.Name x px, .Name y py] k tp) (.tuple [a, b]) ρ ((y, .val b) :: (x, .val a) :: ρ) := by
  refine ⟨fun hF O m cm s E v I r => ?_⟩
  obtain ⟨t, vs, rfl, ho, ht, rl⟩ := r.tuple_inv
  obtain ⟨v1, vs1, rfl, r1, rl1⟩ := rl.cons_inv
  obtain ⟨v2, vs2, rfl, r2, rl2⟩ := rl1.cons_inv
  obtain rfl := rl2.nil_inv
  refine wpAny_assign_Tuple I.good.room.hd ht rfl rfl fun h' he => ?_
  have hext : Ext s.heap h' := fun b o e => he b o (Nat.ne_of_lt (Heap.lt_size e)) e
  have I₁ := I.ext hext
  show wpAny _ _ (assignInOrder [assign (.Name x px) c.env, assign (.Name y py) c.env] [v1, v2]) _ _ _
  unfold assignInOrder
  refine wpAny_bind (wpAny_holding ?_)
  refine wpAny_mono ((TgtP.name (px := px) a hx).run hF O m cm { s with heap := h' } E v1 I₁ (r1.ext hext)) (fun _ s₂ h₂ => ?_) fun _ _ x => x
  obtain ⟨h₂, tk₂, m₂, cm₂, rfl, K₂, I₂⟩ := h₂
  unfold assignInOrder
  have r2' : Rep O h₂ v2 b := (r2.ext hext).mono (fun _ _ q _ => q) fun b' o no so e => K₂ b' o e (fun q => by
    rcases q with rfl | ⟨n, en⟩
    · exact solid_ne I₁.ns e so rfl
    · exact solid_ne_cell (I₁.cell n b' en) e so rfl) no
  refine wpAny_bind (wpAny_holding ?_)
  refine wpAny_mono ((TgtP.name (px := py) b hy).run hF O m₂ cm₂ { s with heap := h₂, toks := tk₂ } E v2 I₂ r2') (fun _ s₃ h₃ => ?_) fun _ _ x => x
  obtain ⟨h₃, tk₃, m₃, cm₃, rfl, K₃, I₃⟩ := h₃
  unfold assignInOrder
  exact wpAny_pure ⟨h₃, tk₃, m₃, cm₃, rfl, fun b' o e nm no => K₃ b' o (K₂ b' o (hext _ _ e) nm no) nm no, I₃⟩
theorem StP.assignPair {x y : Str} {px py tp pos : Pos} {k : Nat} {e : Expr} {a b : PV} (h : EvP c ρ e (.tuple [a, b])) (hx : CanStore c x) (hy : CanStore c y)
    (hs : swapsWithSole [.Tuple [.Name x px, .Name y py] k tp] e pos.line c.env = pure false := by rfl) (hw : swappedStores [.Tuple [.Name x px, .Name y py] k tp] e c.env = pure none := by rfl) :
    StP c ρ (.Assign [.Tuple [.Name x px, .Name y py] k tp] e pos) (.next ((y, .val b) :: (x, .val a) :: ρ)) := by
  refine ⟨fun hF O m cm s E I => ?_⟩
  refine Assign_Tuple (wpAny_mono (h.run O m cm s E I) (fun v s₁ h₁ => ?_) fun _ _ x => x) hs hw
  have I₁ := I.ext h₁.ext
  refine wpAny_mono ((TgtP.pair hx hy).run hF O m cm s₁ E v I₁ h₁.rep) (fun _ s₂ h₂ => ?_) fun _ _ x => x
  obtain ⟨h', tk, m', cm', rfl, K, I'⟩ := h₂
  exact h₁.went I ⟨h', tk, rfl, K, rfl, GoesOn.same I'⟩
end
end Mine
namespace Mine
open PySem.Builtin PySem.Builtin.Str PySem.StrLaws
/-- replacing, sign by sign: how many signs are still to be skipped -/
def rp (y z : List Nat) : Nat → List Nat → List Nat
  | _, [] => []
  | 0, c :: l => if y.isPrefixOf (c :: l) then z ++ rp y z (y.length - 1) l else c :: rp y z 0 l
  | k + 1, _ :: l => rp y z k l
theorem rp_skip (y z : List Nat) : ∀ (k : Nat) (l : List Nat), rp y z k l = rp y z 0 (l.drop k)
  | 0, l => rfl
  | k + 1, [] => by simp [rp]
  | k + 1, c :: l => by rw [rp, rp_skip y z k l, List.drop_succ_cons]
theorem prefix_iff (x y : Str) (k : Nat) (hy : 1 ≤ y.length) : At x y x.length k ↔ y.cps.toList.isPrefixOf (x.cps.toList.drop k) = true := by
  have hyl : y.cps.toList.length = y.length := by simp [Str.length]
  have hxl : x.cps.toList.length = x.length := by simp [Str.length]
  unfold At
  rw [subAt_eq, beq_iff_eq, List.isPrefixOf_iff_prefix, List.prefix_iff_eq_take, hyl]
  constructor
  · rintro ⟨_, h⟩; exact h.symm
  · intro h
    refine ⟨?_, h.symm⟩
    have := congrArg List.length h
    rw [List.length_take, List.length_drop, hxl, hyl] at this
    omega
theorem rp_gap (x y : Str) (z : List Nat) (hy : 1 ≤ y.length) : ∀ (n a c : Nat), c = a + n → c ≤ x.length → (∀ k, a ≤ k → k < c → ¬ At x y x.length k) → rp y.cps.toList z 0 (x.cps.toList.drop a) = (x.cps.toList.drop a).take (c - a) ++ rp y.cps.toList z 0 (x.cps.toList.drop c)
  | 0, a, c, e, hc, hn => by subst e; simp
  | n + 1, a, c, e, hc, hn => by
    have hlt : a < x.cps.toList.length := by simp [Str.length] at hc ⊢; omega
    have ih := rp_gap x y z hy n (a + 1) c (by omega) hc fun k h1 h2 => hn k (by omega) h2
    have h0 : ¬ (y.cps.toList.isPrefixOf (x.cps.toList.drop a) = true) := fun h => hn a (Nat.le_refl _) (by omega) ((prefix_iff x y a hy).mpr h)
    rw [List.drop_eq_getElem_cons hlt] at h0 ⊢
    rw [rp, if_neg h0, ih]
    have : c - a = (c - (a + 1)) + 1 := by omega
    rw [this, List.take_succ_cons]
    simp
theorem rp_end (x y : Str) (z : List Nat) (hy : 1 ≤ y.length) (a : Nat) (hn : ∀ k, a ≤ k → ¬ At x y x.length k) : rp y.cps.toList z 0 (x.cps.toList.drop a) = x.cps.toList.drop a := by
  by_cases ha : a ≤ x.length
  · have := rp_gap x y z hy (x.length - a) a x.length (by omega) (Nat.le_refl _) fun k h1 _ => hn k h1
    rw [this]
    have hxl : x.cps.toList.length = x.length := by simp [Str.length]
    have e1 : x.cps.toList.drop x.length = [] := List.drop_eq_nil_of_le (by omega)
    rw [e1, List.take_of_length_le (by simp [hxl])]
    simp [rp]
  · have hxl : x.cps.toList.length = x.length := by simp [Str.length]
    have e1 : x.cps.toList.drop a = [] := List.drop_eq_nil_of_le (by omega)
    rw [e1]; simp [rp]
theorem rp_parts (x y z : Str) (hy : 1 ≤ y.length) : ∀ (cuts : List Nat) (a f : Nat), a ≤ x.length → ChainG x y x.length a cuts f → (∀ k, f ≤ k → ¬ At x y x.length k) →
    (Str.join z (partsFrom x y.length a cuts)).cps.toList = rp y.cps.toList z.cps.toList 0 (x.cps.toList.drop a)
  | [], a, f, ha, h, hn => by
    have e : f = a := h
    subst e
    rw [rp_end x y _ hy f hn]
    show (strSub x f x.length).cps.toList = _
    rw [strSub_toList]
    exact List.take_of_length_le (by simp [Str.length])
  | c :: r, a, f, ha, h, hn => by
    obtain ⟨h1, h2, h3, h4⟩ := h
    have hcl : c + y.length ≤ x.length := h2.1
    have ih := rp_parts x y z hy r (c + y.length) f hcl h4 hn
    obtain ⟨p, q, e⟩ := partsFrom_ne x y.length (c + y.length) r
    show (Str.join z (strSub x a c :: partsFrom x y.length (c + y.length) r)).cps.toList = _
    rw [e] at ih ⊢
    show (strSub x a c ++ z ++ Str.join z (p :: q)).cps.toList = _
    rw [Str.cps_append, Str.cps_append, Array.toList_append, Array.toList_append, ih, strSub_toList]
    rw [rp_gap x y _ hy (c - a) a c (by omega) (by omega) h3]
    have hlt : c < x.cps.toList.length := by simp [Str.length] at hcl ⊢; simp [Str.length] at hy; omega
    have hp := (prefix_iff x y c hy).mp h2
    have e2 : rp y.cps.toList z.cps.toList 0 (x.cps.toList.drop c) = z.cps.toList ++ rp y.cps.toList z.cps.toList 0 (x.cps.toList.drop (c + y.length)) := by
      rw [List.drop_eq_getElem_cons hlt] at hp ⊢
      rw [rp, if_pos hp, rp_skip, List.drop_drop]
      have : y.cps.toList.length = y.length := by simp [Str.length]
      rw [this]
      congr 3
      omega
    rw [e2]
    simp
theorem kind_one (y : Str) (h : ∀ n ∈ y.cps.toList, n < 256) : strKind y = 1 := by
  unfold PySem.Builtin.Str.strKind
  rw [if_pos]
  rw [← Array.all_toList, List.all_eq_true]
  intro n hn
  exact decide_eq_true (h n hn)
theorem kind_pos (x : Str) : 1 ≤ strKind x := by
  unfold PySem.Builtin.Str.strKind; split
  · exact Nat.le_refl _
  · split <;> omega
/-- cut and joined anew is replaced sign by sign -/
theorem join_split_rp (x y z : Str) (hy : 1 ≤ y.length) (hk : ∀ n ∈ y.cps.toList, n < 256) : (Txt.join z (Txt.split x y)).cps.toList = rp y.cps.toList z.cps.toList 0 x.cps.toList := by
  show (glued z (Txt.split x y)).cps.toList = _
  rw [glued_eq_join]
  obtain ⟨f, hG, hn⟩ := occ_tight x y hy
  have hkk : decide (strKind x < strKind y) = false := by
    rw [kind_one y hk]; have := kind_pos x; exact decide_eq_false (by omega)
  have whole : (∀ k, ¬ At x y x.length k) → (Str.join z [x]).cps.toList = rp y.cps.toList z.cps.toList 0 x.cps.toList := fun h => by
    have := rp_end x y z.cps.toList hy 0 fun k _ => h k
    simp only [List.drop_zero] at this
    rw [this]; rfl
  unfold Txt.split
  rw [hkk, Bool.or_false]
  split
  · rename_i hc
    refine whole fun k hA => ?_
    have := hA.1
    have := of_decide_eq_true hc
    omega
  · split
    · rename_i he
      refine whole fun k hA => ?_
      have e0 : occurrences x y 0 x.length (x.length + 1) = [] := List.isEmpty_iff.mp he
      rw [e0] at hG
      have ef : f = 0 := hG
      subst ef
      exact hn k (Nat.zero_le _) hA
    · rw [partsBetween_eq]
      have := rp_parts x y z hy _ 0 f (Nat.zero_le _) hG hn
      simpa using this

/-- a text by its signs -/
def S (l : List Nat) : Str := ⟨l.toArray⟩
theorem S_toList (l : List Nat) : (S l).cps.toList = l := rfl
theorem S_length (l : List Nat) : (S l).length = l.length := by simp [S, Str.length]
theorem S_app (a b : List Nat) : S a ++ S b = S (a ++ b) := Str.ext' (by simp [S, Str.cps_append])
theorem S_inj {a b : List Nat} (h : S a = S b) : a = b := by
  have := congrArg (fun s => s.cps.toList) h
  exact this
theorem S_of (x : Str) : S x.cps.toList = x := by cases x; simp [S]
theorem S_beq (a b : List Nat) : (S a == S b) = (a == b) := by
  rw [Bool.eq_iff_iff, beq_iff_eq, beq_iff_eq]
  exact ⟨S_inj, congrArg S⟩
theorem S_bne (a b : List Nat) : (S a != S b) = (a != b) := by
  show (!(S a == S b)) = !(a == b)
  rw [S_beq]

def repl1 (x y z : Str) : Str := Txt.join z (Txt.split x y)
theorem repl1_S (x y z : List Nat) (hy : y ≠ []) (hk : ∀ n ∈ y, n < 256) : repl1 (S x) (S y) (S z) = S (rp y z 0 x) := by
  have := join_split_rp (S x) (S y) (S z) (by rw [S_length]; exact List.length_pos_iff.mpr hy) hk
  rw [← S_of (repl1 (S x) (S y) (S z))]
  exact congrArg S this
def rpAll : List Nat → List (List Nat × List Nat) → List Nat
  | t, [] => t
  | t, p :: r => rpAll (rp p.1 p.2 0 t) r
/-- pairs for replace, and no text on the way too long -/
def FitsL : List Nat → List (List Nat × List Nat) → Prop
  | _, [] => True
  | t, p :: r => t.length ≤ 4000 ∧ p.1 ≠ [] ∧ (∀ n ∈ p.1, n < 256) ∧ p.2.length ≤ 4000 ∧ FitsL (rp p.1 p.2 0 t) r
def flatL : List (List Nat × List Nat) → List (List Nat)
  | [] => []
  | p :: r => p.1 :: p.2 :: flatL r
def codesPV (ls : List (List Nat)) : List PV := ls.map fun l => .str (S l)

/-- texts glued with nothing between -/
theorem join_nil : ∀ ls : List (List Nat), Txt.join (S []) (ls.map S) = S ls.flatten := by
  intro ls
  show glued (S []) (ls.map S) = _
  rw [glued_eq_join]
  induction ls with
  | nil => rfl
  | cons a r ih =>
    cases r with
    | nil => simp [Str.join]
    | cons b r =>
      show S a ++ S [] ++ Str.join (S []) ((b :: r).map S) = _
      rw [ih, S_app, S_app]
      simp
theorem join_signs (l : List Nat) : Txt.join (S []) (l.map fun c => S [c]) = S l := by
  have := join_nil (l.map fun c => [c])
  rw [List.map_map] at this
  rw [show (l.map fun c => S [c]) = l.map (S ∘ fun c => [c]) from rfl, this]
  congr 1
  clear this
  induction l with
  | nil => rfl
  | cons a r ih => simp [ih]
theorem sum_signs (l : List Nat) : ((l.map fun c => S [c]).map (·.length)).sum = l.length := by
  induction l with
  | nil => rfl
  | cons a r ih =>
    simp only [List.map_cons, List.sum_cons, List.length_cons, S_length, List.length_nil]
    rw [ih]; omega

theorem mul_sign (c : Nat) (n : Int) : Txt.mul (S [c]) n = S (List.replicate n.toNat c) := by
  unfold Txt.mul
  split
  · have : n.toNat = 0 := by omega
    rw [this]; rfl
  · split
    · rename_i h1 h2
      have : n = 1 := by simpa [S_length] using h2
      subst this; rfl
    · have key : ∀ (k : Nat) (acc : Array Nat), (List.replicate k (S [c]).cps).foldl (· ++ ·) acc = acc ++ (List.replicate k c).toArray := by
        intro k
        induction k with
        | zero => intro acc; simp
        | succ k ih =>
          intro acc
          rw [List.replicate_succ, List.foldl_cons, ih, List.replicate_succ]
          apply Array.toList_inj.mp
          simp [S]
      rw [key]
      exact Str.ext' (by simp [S])

def apB (l : List Nat) : Array UInt8 := (l.map UInt8.ofNat).toArray
theorem bytesPV_apB (l : List Nat) (h : ∀ n ∈ l, n < 256) : bytesPV (apB l) = l.map fun (n : Nat) => PV.int (n : Int) := by
  unfold bytesPV apB
  rw [List.map_map]
  refine List.map_congr_left fun n hn => ?_
  have : (UInt8.ofNat n).toNat = n := by
    rw [UInt8.toNat_ofNat']; exact Nat.mod_eq_of_lt (h n hn)
  simp only [Function.comp, this]
def chrPV : PV → PV
  | .int i => .str (S [i.toNat])
  | _ => .none

section
variable {c : FC} {ρ : PEnv}
theorem CompOk.bare {scope : Scope} {x : Str} (h1 : closureFor scope c.env = pure [] := by rfl) (h2 : ∀ y ∈ scope.names, y.2 ≠ .cell := by decide) (h3 : scope.kind = .function := by rfl)
    (h4 : ∀ y ∈ scope.names, y.2 = .local → scope.names.lookup y.1 = some .local := by decide) (h5 : scope.names.lookup x = some .local := by rfl) : CompOk c ρ scope [] x [] :=
  ⟨h1, h2, h3, h4, h5, fun n a e => by simp at e, fun y e h => by simp at h⟩
theorem CompOk.caps {scope : Scope} {x : Str} {cl : List (Str × Addr)} {ρ' : PEnv} (sub : ∀ p ∈ cl, c.env.cells.lookup p.1 = some p.2)
    (cap : ∀ p ∈ ρ', (∃ pv, p.2 = .val pv) ∧ ρ.lookup p.1 = some p.2 ∧ c.env.kindOf p.1 = some .cell ∧ (relabel scope c.env).names.lookup p.1 = some .cell ∧ (cl.lookup p.1).isSome = true)
    (h1 : closureFor scope c.env = pure cl := by rfl) (h2 : ∀ y ∈ scope.names, y.2 ≠ .cell := by decide) (h3 : scope.kind = .function := by rfl)
    (h4 : ∀ y ∈ scope.names, y.2 = .local → scope.names.lookup y.1 = some .local := by decide) (h5 : scope.names.lookup x = some .local := by rfl) : CompOk c ρ scope cl x ρ' :=
  ⟨h1, h2, h3, h4, h5, fun n a e => sub (n, a) (mem_of_lookup e), fun y e h => cap (y, e) (mem_of_lookup h)⟩
theorem all_cons {α : Type} {P : α → Prop} {a : α} {l : List α} (h : P a) (t : ∀ x ∈ l, P x) : ∀ x ∈ a :: l, P x := List.forall_mem_cons.mpr ⟨h, t⟩
theorem all_nil {α : Type} {P : α → Prop} : ∀ x ∈ ([] : List α), P x := fun _ h => nomatch h
/-- the word that the bytes of Int2AP make -/
theorem EvP.wordOf {x : Str} {iter : Expr} {scope : Scope} {k : Nat} {p1 p2 p3 p4 p5 p6 p7 p8 : Pos} {l : List Nat} (h : EvP c ρ iter (.bytes (apB l))) (hl : ∀ n ∈ l, n < 256) (hz : l.length ≤ 4000) (K : CompOk c ρ scope [] x [])
    (hc : ∀ C, HeadP (compFC c scope [] C) (Str.ofString "chr") (.builtin "chr")) (hd : (x == ("__debug__" : Str)) = false := by decide)
    (hs : ∀ x, foldedSetIterable iter c.env x = pure x := by intro _; rfl)
    (hev : MethForm c (.Constant (.str (Str.ofString "")) k p1) (Str.ofString "join") p2 [.ListComp (.Call (.Name (Str.ofString "chr") p3) [.Name x p4] [] p5) [⟨.Name x p6, iter, [], 0⟩] scope p7] p8 := by exact ⟨_, rfl⟩) :
    EvP c ρ (.Call (.Attribute (.Constant (.str (Str.ofString "")) k p1) (Str.ofString "join") p2) [.ListComp (.Call (.Name (Str.ofString "chr") p3) [.Name x p4] [] p5) [⟨.Name x p6, iter, [], 0⟩] scope p7] [] p8) (.str (S l)) := by
  have hb := bytesPV_apB l hl
  have hmem : ∀ y ∈ bytesPV (apB l), ∃ n : Nat, n < 256 ∧ y = .int (n : Int) := fun y hy => by
    rw [hb] at hy
    obtain ⟨n, hn, rfl⟩ := List.mem_map.mp hy
    exact ⟨n, hl n hn, rfl⟩
  have hcomp : EvP c ρ (.ListComp (.Call (.Name (Str.ofString "chr") p3) [.Name x p4] [] p5) [⟨.Name x p6, iter, [], 0⟩] scope p7) (.list ((bytesPV (apB l)).map chrPV)) := by
    refine EvP.comp0 chrPV h (IterP.bytes _) ?_ ?_ ?_ K (fun C y hy => ?_) hs
    · rw [hb, sizeLine_eq]; simp; omega
    · intro y hy; obtain ⟨n, _, rfl⟩ := hmem y hy; trivial
    · intro y hy; obtain ⟨n, _, rfl⟩ := hmem y hy; trivial
    · obtain ⟨n, hn, rfl⟩ := hmem y hy
      exact EvP.call (n := 0) (hc C) (Calle.builtin _) (ArgsP.cons (EvP.name (by simp) hd) ArgsP.nil) (CallP.chr (a := (n : Int)) (by omega) (by omega)) (Nat.zero_le _)
  have e : (bytesPV (apB l)).map chrPV = strsPV (l.map fun c => S [c]) := by
    rw [hb, strsPV, List.map_map, List.map_map]
    refine List.map_congr_left fun n hn => ?_
    simp [chrPV]
  rw [e] at hcomp
  refine EvP.join (EvP.str _ _ _) hcomp ?_ ?_ rfl hev
  · rw [sum_signs]
    have : (Str.ofString "").length = 0 := by decide
    rw [this, Nat.mul_zero]; omega
  · have : Str.ofString "" = S [] := by decide
    rw [this]
    exact join_signs l
end

theorem boot_abs : bootBuiltins (Str.ofString "abs") = some (.builtin "abs") := by decide +kernel
theorem boot_int : bootBuiltins (Str.ofString "int") = some (.type "int") := by decide +kernel
theorem boot_chr : bootBuiltins (Str.ofString "chr") = some (.builtin "chr") := by decide +kernel
theorem boot_len : bootBuiltins (Str.ofString "len") = some (.builtin "len") := by decide +kernel
theorem boot_divmod : bootBuiltins (Str.ofString "divmod") = some (.builtin "divmod") := by decide +kernel
theorem boot_range : bootBuiltins (Str.ofString "range") = some (.type "range") := by decide +kernel
theorem boot_list : bootBuiltins (Str.ofString "list") = some (.type "list") := by decide +kernel

theorem fdiv_nat (a b : Nat) : (a : Int).fdiv (b : Int) = ((a / b : Nat) : Int) := by
  rw [Int.fdiv_eq_ediv_of_nonneg _ (by omega)]; rfl
theorem fmod_nat (a b : Nat) : (a : Int).fmod (b : Int) = ((a % b : Nat) : Int) := by
  rw [Int.fmod_eq_emod_of_nonneg _ (by omega)]; rfl
theorem pow_nat (a b : Nat) : ((a : Int) ^ b) = ((a ^ b : Nat) : Int) := by simp
theorem noPylong_pow {x : Int} {b j m : Nat} (hb : b ≤ 2 ^ m) (hj : m * j < 9000) : Builtin.divisionGoesByPylong x ((b ^ j : Nat) : Int) = false := by
  refine PyProof.noPylong_of_log2 ?_
  rw [Int.natAbs_natCast]
  by_cases h0 : b ^ j = 0
  · rw [h0]; decide
  · rw [Nat.log2_lt h0]
    have h1 : b ^ j ≤ (2 ^ m) ^ j := Nat.pow_le_pow_left hb j
    rw [← Nat.pow_mul] at h1
    exact Nat.lt_of_le_of_lt h1 (Nat.pow_lt_pow_right (by decide) hj)
/-- the letters of a number, to the base 16, A to P -/
def apF : Nat → Nat → List Nat → List Nat
  | 0, _, acc => acc
  | f + 1, n, acc => if n = 0 then acc else apF f (n / 16) ((65 + n % 16) :: acc)
def apW (f n : Nat) : Str := ⟨(apF f n []).toArray⟩
theorem apF_app : ∀ (f n : Nat) (acc : List Nat), apF f n acc = apF f n [] ++ acc
  | 0, _, _ => rfl
  | f + 1, n, acc => by
    unfold apF
    split
    · simp
    · rw [apF_app f (n / 16) ((65 + n % 16) :: acc), apF_app f (n / 16) [65 + n % 16]]; simp
theorem apF_length : ∀ (f n : Nat) (acc : List Nat), (apF f n acc).length ≤ f + acc.length
  | 0, _, _ => by simp [apF]
  | f + 1, n, acc => by
    unfold apF
    split
    · omega
    · have := apF_length f (n / 16) ((65 + n % 16) :: acc); simp at this; omega
theorem apF_mem : ∀ (f n : Nat) (acc : List Nat), (∀ m ∈ acc, 65 ≤ m ∧ m ≤ 80) → ∀ m ∈ apF f n acc, 65 ≤ m ∧ m ≤ 80
  | 0, _, _, h => h
  | f + 1, n, acc, h => by
    unfold apF
    split
    · exact h
    · refine apF_mem f (n / 16) _ fun m hm => ?_
      rcases List.mem_cons.mp hm with rfl | hm
      · omega
      · exact h m hm
theorem apF_lt (f n : Nat) : ∀ m ∈ apF f n [], m < 256 := fun m hm => by
  have := apF_mem f n [] (fun _ h => nomatch h) m hm
  omega
def APb : Array UInt8 := [65, 66, 67, 68, 69, 70, 71, 72, 73, 74, 75, 76, 77, 78, 79, 80].toArray
theorem picked_AP : ∀ k : Fin 16, KBy.picked APb (some ((k.val : Nat) : Int)) (some (((k.val : Nat) : Int) + 1)) = apB [65 + k.val] := by decide +kernel



end Mine
namespace Mine
/-! replacing a pair that ends in a mark: plain -/
theorem rp_none (y z : List Nat) {b : Nat} (hb : b ∈ y) : ∀ t : List Nat, b ∉ t → rp y z 0 t = t
  | [], _ => rfl
  | c :: t, h => by
    have hn : y.isPrefixOf (c :: t) = false := by
      cases e : y.isPrefixOf (c :: t) with
      | false => rfl
      | true => exact absurd ((List.isPrefixOf_iff_prefix.mp e).subset hb) h
    rw [rp, if_neg (by rw [hn]; decide), rp_none y z hb t fun q => h (List.mem_cons_of_mem _ q)]
theorem mark_inj {b : Nat} : ∀ {u y : List Nat} {v x : List Nat}, b ∉ u → b ∉ y → y ++ b :: x = u ++ b :: v → y = u ∧ x = v
  | [], [], _, _, _, _, e => by simp at e; exact ⟨rfl, e⟩
  | [], c :: y, _, _, _, hy, e => by simp at e; exact absurd (e.1 ▸ List.mem_cons_self ..) hy
  | c :: u, [], _, _, hu, _, e => by simp at e; exact absurd (e.1 ▸ List.mem_cons_self ..) hu
  | c :: u, d :: y, v, x, hu, hy, e => by
    simp at e
    obtain ⟨h1, h2⟩ := mark_inj (fun q => hu (List.mem_cons_of_mem _ q)) (fun q => hy (List.mem_cons_of_mem _ q)) e.2
    exact ⟨by rw [e.1, h1], h2⟩
theorem rp_once (y z v : List Nat) {b : Nat} (hv : b ∉ v) (hy : b ∉ y) : ∀ u : List Nat, b ∉ u → rp (y ++ [b]) z 0 (u ++ y ++ b :: v) = u ++ z ++ v
  | [], _ => by
    have hp : (y ++ [b]).isPrefixOf (y ++ b :: v) = true := List.isPrefixOf_iff_prefix.mpr ⟨v, by simp⟩
    have hd : (y ++ b :: v).drop (y ++ [b]).length = v := by
      have : y ++ b :: v = (y ++ [b]) ++ v := by simp
      rw [this, List.drop_left]
    rw [List.nil_append, List.nil_append]
    have hne : ∃ c l, y ++ b :: v = c :: l := by
      cases y with
      | nil => exact ⟨_, _, rfl⟩
      | cons c y => exact ⟨_, _, rfl⟩
    obtain ⟨c, l, hcl⟩ := hne
    rw [hcl] at hp hd ⊢
    have h1 : (y ++ [b]).length = ((y ++ [b]).length - 1) + 1 := by simp
    rw [h1] at hd
    rw [rp, if_pos hp, rp_skip]
    simp only [List.drop_succ_cons] at hd
    rw [hd, rp_none (y ++ [b]) z (by simp) v hv]
  | c :: u, hu => by
    have hn : (y ++ [b]).isPrefixOf (c :: (u ++ y ++ b :: v)) = false := by
      cases e : (y ++ [b]).isPrefixOf (c :: (u ++ y ++ b :: v)) with
      | false => rfl
      | true =>
        obtain ⟨x, hx⟩ := List.isPrefixOf_iff_prefix.mp e
        have hx' : y ++ b :: x = (c :: (u ++ y)) ++ b :: v := by simpa using hx
        have h2 := (mark_inj (by
          intro q
          rcases List.mem_cons.mp q with q | q
          · exact hu (q ▸ List.mem_cons_self ..)
          · rcases List.mem_append.mp q with q | q
            · exact hu (List.mem_cons_of_mem _ q)
            · exact hy q) hy hx').1
        have := congrArg List.length h2
        simp at this; omega
    rw [List.cons_append, List.cons_append, rp, if_neg (by rw [hn]; decide), rp_once y z v hv hy u fun q => hu (List.mem_cons_of_mem _ q)]
    simp
theorem rp_other (y z v : List Nat) {b : Nat} (hv : b ∉ v) (hy : b ∉ y) : ∀ u : List Nat, b ∉ u → ¬ y <:+ u → rp (y ++ [b]) z 0 (u ++ b :: v) = u ++ b :: v
  | [], _, hs => by
    have hn : (y ++ [b]).isPrefixOf (b :: v) = false := by
      cases e : (y ++ [b]).isPrefixOf (b :: v) with
      | false => rfl
      | true =>
        obtain ⟨x, hx⟩ := List.isPrefixOf_iff_prefix.mp e
        have hx' : y ++ b :: x = [] ++ b :: v := by simpa using hx
        exact absurd ((mark_inj (by simp) hy hx').1 ▸ List.suffix_refl _) hs
    rw [List.nil_append, rp, if_neg (by rw [hn]; decide), rp_none (y ++ [b]) z (by simp) v hv]
  | c :: u, hu, hs => by
    have hn : (y ++ [b]).isPrefixOf (c :: (u ++ b :: v)) = false := by
      cases e : (y ++ [b]).isPrefixOf (c :: (u ++ b :: v)) with
      | false => rfl
      | true =>
        obtain ⟨x, hx⟩ := List.isPrefixOf_iff_prefix.mp e
        have hx' : y ++ b :: x = (c :: u) ++ b :: v := by simpa using hx
        exact absurd ((mark_inj hu hy hx').1 ▸ List.suffix_refl _) hs
    rw [List.cons_append, rp, if_neg (by rw [hn]; decide), rp_other y z v hv hy u (fun q => hu (List.mem_cons_of_mem _ q)) fun q => hs (q.trans (List.suffix_cons ..))]
/-- what a text stands for is kept, if each pair keeps it -/
theorem rp_keep {α : Type} (f : α → Nat → α) (y z : List Nat) (hy : y ≠ []) (h : ∀ v, z.foldl f v = y.foldl f v) : ∀ (n : Nat) (t : List Nat), t.length ≤ n → ∀ v, (rp y z 0 t).foldl f v = t.foldl f v
  | _, [], _, _ => rfl
  | 0, _ :: _, hn, _ => by simp at hn
  | n + 1, c :: t, hn, v => by
    simp only [List.length_cons] at hn
    rw [rp]
    split
    · rename_i e
      obtain ⟨x, hx⟩ := List.isPrefixOf_iff_prefix.mp e
      have h1 : y.length = (y.length - 1) + 1 := by have := List.length_pos_iff.mpr hy; omega
      have hd : t.drop (y.length - 1) = x := by
        have : (c :: t).drop y.length = x := by rw [← hx, List.drop_left]
        rw [h1] at this; simpa using this
      rw [rp_skip, hd, List.foldl_append, h, rp_keep f y z hy h n x (by rw [← hd]; simp; omega), ← List.foldl_append, hx]
    · rw [List.foldl_cons, List.foldl_cons, rp_keep f y z hy h n t (by omega)]
theorem rpAll_keep {α : Type} (f : α → Nat → α) : ∀ (ps : List (List Nat × List Nat)) (t : List Nat), (∀ p ∈ ps, p.1 ≠ [] ∧ ∀ v, p.2.foldl f v = p.1.foldl f v) → ∀ v, (rpAll t ps).foldl f v = t.foldl f v
  | [], _, _, _ => rfl
  | p :: ps, t, h, v => by
    rw [rpAll, rpAll_keep f ps _ (fun q hq => h q (List.mem_cons_of_mem _ hq)), rp_keep f p.1 p.2 (h p (List.mem_cons_self ..)).1 (h p (List.mem_cons_self ..)).2 _ t (Nat.le_refl _)]
/-- lengths -/
theorem rp_short (y z : List Nat) (k : Nat) (hk : 1 ≤ k) (hz : z.length ≤ k) : ∀ (n : Nat) (t : List Nat), (rp y z n t).length ≤ k * t.length
  | n, [] => by cases n <;> simp [rp]
  | 0, c :: t => by
    rw [rp]
    split
    · have := rp_short y z k hk hz (y.length - 1) t
      simp only [List.length_append, List.length_cons, Nat.mul_succ]; omega
    · have := rp_short y z k hk hz 0 t
      simp only [List.length_cons, Nat.mul_succ]; omega
  | n + 1, c :: t => by
    rw [rp]
    have := rp_short y z k hk hz n t
    simp only [List.length_cons, Nat.mul_succ]; omega
theorem rp_same (y z : List Nat) (hy : y ≠ []) (hz : z.length ≤ y.length) : ∀ (n : Nat) (t : List Nat), t.length ≤ n → (rp y z 0 t).length ≤ t.length
  | _, [], _ => by simp [rp]
  | 0, _ :: _, hn => by simp at hn
  | n + 1, c :: t, hn => by
    simp only [List.length_cons] at hn
    rw [rp]
    split
    · rename_i e
      have h2 := (List.isPrefixOf_iff_prefix.mp e).length_le
      have h3 := List.length_pos_iff.mpr hy
      simp only [List.length_cons] at h2
      have := rp_same y z hy hz n (t.drop (y.length - 1)) (by simp; omega)
      rw [rp_skip]
      simp only [List.length_append, List.length_cons, List.length_drop] at this ⊢
      omega
    · have := rp_same y z hy hz n t (by omega)
      simp only [List.length_cons]; omega
/-- pairs of which none lengthens a text -/
theorem fits_same : ∀ (ps : List (List Nat × List Nat)) (t : List Nat), (∀ p ∈ ps, p.1 ≠ [] ∧ (∀ n ∈ p.1, n < 256) ∧ p.2.length ≤ p.1.length ∧ p.2.length ≤ 4000) → t.length ≤ 4000 → FitsL t ps ∧ (rpAll t ps).length ≤ t.length
  | [], _, _, _ => ⟨trivial, Nat.le_refl _⟩
  | p :: ps, t, h, ht => by
    obtain ⟨h1, h2, h3, h4⟩ := h p (List.mem_cons_self ..)
    have h5 := rp_same p.1 p.2 h1 h3 _ t (Nat.le_refl _)
    obtain ⟨h6, h7⟩ := fits_same ps (rp p.1 p.2 0 t) (fun q hq => h q (List.mem_cons_of_mem _ hq)) (by omega)
    exact ⟨⟨ht, h1, h2, h4, h6⟩, by rw [rpAll]; omega⟩
/-- a run with all its bounds, to be computed -/
def run : List Nat → List (List Nat × List Nat) → Option (List Nat)
  | t, [] => some t
  | t, p :: r => if t.length.ble 4000 && (!p.1.isEmpty) && p.1.all (fun n => n.blt 256) && p.2.length.ble 4000 then run (rp p.1 p.2 0 t) r else none
theorem run_ok : ∀ {ps : List (List Nat × List Nat)} {t u : List Nat}, run t ps = some u → FitsL t ps ∧ rpAll t ps = u
  | [], _, _, h => by cases h; exact ⟨trivial, rfl⟩
  | p :: ps, t, u, h => by
    rw [run] at h
    split at h
    · rename_i e
      simp only [Bool.and_eq_true] at e
      obtain ⟨⟨⟨e1, e2⟩, e3⟩, e4⟩ := e
      obtain ⟨h1, h2⟩ := run_ok h
      refine ⟨⟨Nat.le_of_ble_eq_true e1, fun q => ?_, fun n hn => ?_, Nat.le_of_ble_eq_true e4, h1⟩, h2⟩
      · rw [q] at e2; simp at e2
      · have := List.all_eq_true.mp e3 n hn
        exact Nat.le_of_ble_eq_true this
    · cases h
/-- digits, from the right -/
def leV (B : Nat) : List Nat → Nat
  | [] => 0
  | d :: r => d + B * leV B r
theorem leV_pos {B : Nat} (hB : 1 ≤ B) : ∀ {r : List Nat}, r ≠ [] → (∀ d, r.getLast? = some d → d ≠ 0) → leV B r ≠ 0
  | [], h, _ => absurd rfl h
  | [d], _, h => by have := h d rfl; simp [leV]; exact this
  | d :: e :: r, _, h => by
    have := leV_pos hB (r := e :: r) (by simp) (fun x hx => h x (by rw [List.getLast?_cons_cons]; exact hx))
    rw [leV]
    have h2 : 1 ≤ leV B (e :: r) := by omega
    have h3 : 1 * 1 ≤ B * leV B (e :: r) := Nat.mul_le_mul hB h2
    omega
theorem digits {B : Nat} (hB : 2 ≤ B) (F : Nat → Nat → List Nat → List Nat) (enc : Nat → Nat) (h0 : ∀ n acc, F 0 n acc = acc) (hF : ∀ f n acc, F (f + 1) n acc = if n = 0 then acc else F f (n / B) (enc (n % B) :: acc)) :
    ∀ (r : List Nat) (f : Nat) (acc : List Nat), r.length ≤ f → (∀ d ∈ r, d < B) → (∀ d, r.getLast? = some d → d ≠ 0) → F f (leV B r) acc = (r.map enc).reverse ++ acc
  | [], 0, acc, _, _, _ => by rw [h0]; rfl
  | [], f + 1, acc, _, _, _ => by rw [hF, if_pos (show leV B [] = 0 from rfl)]; rfl
  | d :: r, 0, _, h, _, _ => by simp at h
  | d :: r, f + 1, acc, h, hd, hl => by
    have hp := leV_pos (B := B) (by omega) (r := d :: r) (by simp) hl
    have hdB := hd d (List.mem_cons_self ..)
    have e1 : leV B (d :: r) / B = leV B r := by
      rw [leV, Nat.add_mul_div_left _ _ (by omega), Nat.div_eq_of_lt hdB]; omega
    have e2 : leV B (d :: r) % B = d := by
      rw [leV, Nat.add_mul_mod_self_left, Nat.mod_eq_of_lt hdB]
    rw [hF, if_neg hp, e1, e2, digits hB F enc h0 hF r f (enc d :: acc) (by simp at h; omega) (fun x hx => hd x (List.mem_cons_of_mem _ hx)) ?_]
    · simp
    · intro x hx
      refine hl x ?_
      cases r with
      | nil => simp at hx
      | cons e r => rw [List.getLast?_cons_cons]; exact hx
end Mine
namespace Mine
def intsPV (ns : List Int) : List PV := ns.map .int
theorem flatL_app : ∀ (a b : List (List Nat × List Nat)), flatL (a ++ b) = flatL a ++ flatL b
  | [], _ => rfl
  | p :: a, b => by simp [flatL, flatL_app a b]
theorem flatL_length : ∀ a : List (List Nat × List Nat), (flatL a).length = 2 * a.length
  | [] => rfl
  | p :: a => by simp [flatL, flatL_length a]; omega
theorem range_one (a b : Int) (h : a ≤ b) : Builtin.Range.rangeSize a b 1 = ((b - a).toNat : Int) := by
  unfold Builtin.Range.rangeSize
  rw [if_pos (by decide), Int.ediv_one]
  split <;> omega
theorem two_fit (a b : Nat) : (⟨#[a]⟩ : Str).length + (⟨#[b]⟩ : Str).length ≤ sizeLine := by
  show 1 + 1 ≤ sizeLine
  rw [sizeLine_eq]; decide
def forBody : Option Stmt → List Stmt
  | some (Stmt.For _ _ b _ _) => b
  | _ => []
theorem let_at : ∀ k : Fin 16, (Str.ofString "ABCDEFGHIJKLMNOP").cps[k.val]? = some (65 + k.val) := by decide +kernel
theorem intsRep {O : Addr → Prop} {h : Heap} : ∀ {vs : List Value} {ns : List Int}, IntsAre vs ns → RepL O h vs (intsPV ns)
  | _, _, .nil => .nil
  | _, _, .cons n t r => .cons (.int n t) (intsRep r)
theorem scriptRep {h : Heap} {P : Params} {a : Addr} {vs : List Value} {ns : List Int} (hW : Well P h (.ref a) (ofPy (PyData.list (ns.map PyData.int)))) (hL : h.IsList a vs.toArray) (hI : IntsAre vs ns) : Rep (fun _ => False) h (.ref a) (.list (intsPV ns)) := by
  obtain ⟨o, ho, hc, n, hd⟩ := hL
  have : ∃ us : List Value, h.get? a = some { cls := .type "list", data := .seq us.toArray } := by
    cases hW with
    | list hg _ => exact ⟨_, hg⟩
  obtain ⟨us, hg⟩ := this
  rw [hg] at ho
  cases ho
  have hd' : Data.seq us.toArray 0 = Data.seq vs.toArray n := hd
  injection hd' with h1 h2
  have h3 : us = vs := by simpa using h1
  subst h3
  exact .list' (fun q => q) ⟨_, hg⟩ (intsRep hI)
theorem startInv {c : FC} {m cm : Str → Option Value} {h : Heap} {a : Addr} {x : PV} (G : c.Good) (hB : ∀ a, ¬ c.B a) (hc : ∀ n b, c.env.cells.lookup n = some b → h.IsCell b (cm n)) (F : Fr c.h₀ c.env.locals h m) (hm : m (Str.ofString "script") = some (.ref a)) (hk : c.env.kindOf (Str.ofString "script") = some .local) (r : Rep (fun _ => False) c.h₀ (.ref a) x) :
    Inv c [(Str.ofString "script", .val x)] (fun _ => False) m cm h := by
  refine ⟨G, F.ns, hc, F.keep, fun y pv e => ?_, fun y ys e => ?_, fun y z ys zs b e => ?_, fun b q => hB b q, fun b q => q.elim⟩
  · rw [List.lookup_cons] at e
    cases hb : y == Str.ofString "script" with
    | true =>
      rw [hb] at e; cases e
      rw [beq_iff_eq.mp hb]
      exact ⟨.ref a, .inl ⟨hk, hm⟩, r.ext F.keep⟩
    | false => rw [hb] at e; simp at e
  · rw [List.lookup_cons] at e
    cases hb : y == Str.ofString "script" with
    | true => rw [hb] at e; cases e
    | false => rw [hb] at e; simp at e
  · rw [List.lookup_cons] at e
    cases hb : y == Str.ofString "script" with
    | true => rw [hb] at e; cases e
    | false => rw [hb] at e; simp at e
theorem finishLaw {c : FC} {ρ : PEnv} {body : List Stmt} (hex : ExP c ρ body (.ret (.bool true))) (hfresh : c.Fresh) {O : Addr → Prop} {s : Shared} {m cm : Str → Option Value} (hinv : Inv c ρ O m cm s.heap) {Q : Flow → Shared → Prop} {E : Value → Shared → Prop}
    (hQ : ∀ h' tk, Ext c.h₀ h' → Q (.ret (.bool true)) { s with heap := h', toks := tk }) : wpAny (model c.prog c.w) c.A (execs body c.env) Q E s := by
  refine wpAny_mono (hex.run hfresh O m cm s E hinv) (fun f s' w => ?_) fun _ _ x => x
  obtain ⟨h', tk, rfl, _, ⟨v, rfl, r⟩, k⟩ := w
  have := r.bool_inv
  subst this
  exact hQ h' tk k
end Mine
namespace Mine
theorem RepL.ints {O : Addr → Prop} {h : Heap} : ∀ {ns : List Int} {vs : List Value}, RepL O h vs (intsPV ns) → IntsAre vs ns
  | [], vs, r => by
    have := r.nil_inv
    subst this; exact .nil
  | n :: ns, vs, r => by
    obtain ⟨v, vs', rfl, r₁, r₂⟩ := r.cons_inv
    obtain ⟨t, rfl⟩ := r₁.int_inv
    exact .cons n t (RepL.ints r₂)
section
variable {c : FC} {ρ : PEnv}
theorem Op2.neIs (ns ms : List Int) : Op2 c (compareOp .NotEq) (.list (intsPV ns)) (.list (intsPV ms)) (.bool (!decide (ns = ms))) := by
  refine ⟨fun O s v w E G r q => ?_⟩
  obtain ⟨a, vs, rfl, _, hl, rl⟩ := r.list_inv; obtain ⟨b, us, rfl, _, hl', rl'⟩ := q.list_inv
  exact ne_intsK hl rl.ints hl' rl'.ints (by have := G.good.room.un; show c.A.units + 64 < 9900; omega) (Got.same (.bool _))
theorem CallP.indexL {g : GC} {n : Nat} {ns : List Int} {k : Int} (hlay : PyData.layable0 (.list (ns.map .int)) = true) (hk : k ∈ ns) : CallP g n (.builtin "list.index") [.list (intsPV ns), .int k] (.int (ns.idxOf k : Nat)) := by
  refine ⟨fun A O s vs E R X L r => ?_⟩
  obtain ⟨v, vs', rfl, r₁, r₂⟩ := r.cons_inv; obtain ⟨v', vs'', rfl, r₃, r₄⟩ := r₂.cons_inv; obtain rfl := r₄.nil_inv; obtain ⟨a, us, rfl, _, hl, rl⟩ := r₁.list_inv; obtain ⟨u, rfl⟩ := r₃.int_inv
  exact index_list_ints hl rl.ints hlay hk (Got.toks (.int _ _))
theorem EvP.indexL {o a : Expr} {ap cp : Pos} {ns : List Int} {k : Int} (ho : EvP c ρ o (.list (intsPV ns))) (ha : EvP c ρ a (.int k)) (hlay : PyData.layable0 (.list (ns.map .int)) = true) (hk : k ∈ ns) (he : starEach [a] c.env = [(false, eval a c.env)] := by rfl)
    (hev : MethForm c o (Str.ofString "index") ap [a] cp := by exact ⟨_, rfl⟩) : EvP c ρ (.Call (.Attribute o (Str.ofString "index") ap) [a] [] cp) (.int (ns.idxOf k : Nat)) :=
  EvP.methL ho (ArgsP.cons ha ArgsP.nil he) F.slot_list_index F.type_list_index (fun n => CallP.indexL hlay hk) he hev
end
end Mine
namespace Mine
section
variable {c : FC} {ρ : PEnv}
/-- one local name turned to a datum, and the heap grown -/
theorem Inv.grow {O : Addr → Prop} {m cm m' : Str → Option Value} {h h' : Heap} {x : Str} {v : Value} {pv : PV} (hF : c.Fresh) (I : Inv c ρ O m cm h) (hs : ∀ b o, b ≠ c.env.locals → h.get? b = some o → h'.get? b = some o)
    (hns : h'.Ns c.env.locals m') (hx : Slot c.env m' cm x v) (hy : ∀ y w, y ≠ x → (Slot c.env m' cm y w ↔ Slot c.env m cm y w))
    (hval : Rep O h' v pv) : Inv c ((x, .val pv) :: ρ) O m' cm h' := by
  have hk : ∀ b' o, Solid o → h.get? b' = some o → h'.get? b' = some o := fun b' o so e' => hs b' o (solid_ne I.ns e' so) e'
  refine ⟨I.good, hns, fun n a e => ?_, fun b' o e' => ?_, ?_, ?_, ?_, I.sub, ?_⟩
  · have hc := I.cell n a e
    obtain ⟨o, ho, hd⟩ := id hc
    exact ⟨o, hs a o (cell_ne I.ns hc) ho, hd⟩
  · refine hs b' o (fun q => ?_) (I.keep b' o e')
    subst q; rw [hF.loc] at e'; cases e'
  · intro y p ey
    rw [List.lookup_cons] at ey
    cases hb : y == x with
    | true =>
      rw [hb] at ey; cases ey
      rw [beq_iff_eq.mp hb]
      exact ⟨v, hx, hval⟩
    | false =>
      rw [hb] at ey
      obtain ⟨w, s, r⟩ := I.val y p ey
      exact ⟨w, (hy y w (fun q => by rw [q, beq_self_eq_true] at hb; cases hb)).mpr s, r.mono (fun _ _ q _ => q) fun b' o _ so e' => hk b' o so e'⟩
  · intro y ys ey
    rw [List.lookup_cons] at ey
    cases hb : y == x with
    | true => rw [hb] at ey; cases ey
    | false =>
      rw [hb] at ey
      obtain ⟨a, vs, n, s, oa, nb, hz, hg, rl⟩ := I.own y ys ey
      exact ⟨a, vs, n, (hy y _ (fun q => by rw [q, beq_self_eq_true] at hb; cases hb)).mpr s, oa, nb, hz, hk a _ (solid_list rfl) hg, rl.mono (fun _ _ q _ => q) fun b' o _ so e' => hk b' o so e'⟩
  · intro y z ys zs a ey ez sy sz
    rw [List.lookup_cons] at ey ez
    cases hby : y == x with
    | true => rw [hby] at ey; cases ey
    | false =>
      rw [hby] at ey
      cases hbz : z == x with
      | true => rw [hbz] at ez; cases ez
      | false =>
        rw [hbz] at ez
        have hyx : y ≠ x := fun q => by rw [q, beq_self_eq_true] at hby; cases hby
        have hzx : z ≠ x := fun q => by rw [q, beq_self_eq_true] at hbz; cases hbz
        exact I.inj y z ys zs a ey ez ((hy y _ hyx).mp sy) ((hy z _ hzx).mp sz)
  · intro a q
    obtain ⟨o, eo⟩ := I.live a q
    by_cases hab : a = c.env.locals
    · subst hab
      obtain ⟨o', _, _, e', _⟩ := hns; exact ⟨o', e'⟩
    · exact ⟨o, hs a o hab eo⟩
/-- a list comprehension assigned straight -/
theorem StP.assignComp {y x : Str} {px py pos spos : Pos} {iter elt : Expr} {ifs : List Expr} {scope : Scope} {cl : List (Str × Addr)} {xv : PV} {xs : List PV} {ρ' : PEnv} (q : PV → Bool) (f : PV → PV)
    (hi : EvP c ρ iter xv) (hx : IterP c.prog c.w xv xs) (hz : xs.length ≤ sizeLine) (himm : ∀ y ∈ xs, IsImm y) (hfi : ∀ y ∈ xs, IsImm (f y)) (K : CompOk c ρ scope cl x ρ')
    (ht : ∀ C y, y ∈ xs → IfsP (compFC c scope cl C) ((x, .val y) :: ρ') ifs (q y))
    (he : ∀ C y, y ∈ xs → q y = true → EvP (compFC c scope cl C) ((x, .val y) :: ρ') elt (f y))
    (hsw : swapsWith (.ListComp elt [⟨.Name x px, iter, ifs, 0⟩] scope pos) (some (.Name y py)) spos.line c.env = pure true := by rfl) (hy : c.env.kindOf y = some .local := by rfl)
    (hs : ∀ x, foldedSetIterable iter c.env x = pure x := by intro _; rfl) :
    StP c ρ (.Assign [.Name y py] (.ListComp elt [⟨.Name x px, iter, ifs, 0⟩] scope pos) spos) (.next ((y, .val (.list ((xs.filter q).map f))) :: ρ)) := by
  refine ⟨fun hF O m cm s E V => ?_⟩
  refine wpAny_Assign_ListComp_free (fun v => q (dec v)) (fun v w => ∀ O h, Rep O h w (f (dec v))) hsw K.clos K.cell K.kind K.names K.x hy (by rw [V.good.kind]; rfl) (wpAny_mono (hi.run O m cm s E V) (fun v s₁ h₁ => ?_) fun _ _ x => x) hs
  have V₁ := V.ext h₁.ext
  refine hx.run c.A O s₁ v E _ V.good.room.hd h₁.rep fun ob fp P St W st hfr hfp hio hP => ?_
  have hp := Ext.push s₁.heap ob
  have V₂ := V₁.ext hp
  have hloc : c.env.locals ≠ s₁.heap.objs.size := by
    obtain ⟨o, _, _, e, _⟩ := V₁.ns
    exact Nat.ne_of_lt (Heap.lt_size e)
  refine ⟨s₁.heap.objs.size, fp, _, xs.length, fun i v => i < xs.length ∧ P i v, St, m, rfl, W.bound, hz, st, ?_, by simpa using hloc, V₂.ns, ?_, ?_⟩
  · intro b hb
    show b < (s₁.heap.push ob).objs.size
    rw [Heap.size_push]
    rcases hfp b hb with rfl | ⟨_, o, e, _⟩
    · exact Nat.lt_succ_self _
    · exact Nat.lt_succ_of_lt (Heap.lt_size e)
  · have hfrom : ∀ (s₃ : Shared), (∀ b o, b ∉ [s₁.heap.objs.size] → (s₁.heap.push ob).get? b = some o → s₃.heap.get? b = some o) → Ext s₁.heap s₃.heap := fun s₃ hk b o e =>
      hk b o (by simpa using Nat.ne_of_lt (Heap.lt_size e)) (hp b o e)
    constructor
    · intro C i v s₃ m₃ E' hC hv hn hm hk htk
      have hy : xs[i]? = some xs[i] := List.getElem?_eq_getElem hv.1
      have r := hP i v _ hv.2 hy
      have V₃ := K.inv V₁ (hfrom s₃ hk) hn hm (r.ext (hfrom s₃ hk))
      have hmem : xs[i] ∈ xs := List.getElem_mem hv.1
      have := (ht C xs[i] hmem).run O m₃ cm s₃ E' V₃
      refine wpAny_mono this (fun b s₄ h₄ => ?_) fun _ _ x => x
      obtain ⟨rfl, h', tk, rfl, k⟩ := h₄
      exact ⟨congrArg q (dec_rep (himm _ hmem) r).symm, h', tk, rfl, k⟩
    · intro C i v s₃ m₃ E' hC hv hpv hn hm hk htk
      have hy : xs[i]? = some xs[i] := List.getElem?_eq_getElem hv.1
      have r := hP i v _ hv.2 hy
      have hmem : xs[i] ∈ xs := List.getElem_mem hv.1
      have ed := dec_rep (himm _ hmem) r
      have V₃ := K.inv V₁ (hfrom s₃ hk) hn hm (r.ext (hfrom s₃ hk))
      refine wpAny_mono ((he C xs[i] hmem (by rw [ed] at hpv; exact hpv)).run O m₃ cm s₃ E' V₃) (fun w s₄ h₄ => ?_) fun _ _ x => x
      obtain ⟨h', tk, rfl, k, rw'⟩ := h₄
      refine ⟨fun O h => ?_, h', tk, rfl, k⟩
      rw [ed]; exact rw'.imm (hfi _ hmem)
  · intro D h' tk ys vs hD hl hpl hlen hPs hF' hns' hk
    have ext : ∀ b o, b ≠ c.env.locals → s₁.heap.get? b = some o → h'.get? b = some o := fun b o nb e => hk b o nb (by simpa using Nat.ne_of_lt (Heap.lt_size e)) (hp b o e)
    have hDs : s₁.heap.get? D = none := by
      cases e : s₁.heap.get? D with
      | none => rfl
      | some o => have := hp _ _ e; rw [hD] at this; cases this
    have hdec : ∀ (i : Nat) (v : Value) (y : PV), vs[i]? = some v → xs[i]? = some y → dec v = y := fun i v y e e' =>
      dec_rep (himm _ (List.mem_of_getElem? e')) (hP i v y (hPs i v e).2 e')
    have hmap := filter_dec q hlen hdec
    obtain ⟨hl1, hl2⟩ := paired_map (xs := xs) hF'
    have hrep : Rep O h' (.ref D) (.list ((xs.filter q).map f)) := by
      refine .list' (vs := ys.toList) (fresh_not V₁.live hDs) (by simpa using hpl) ?_
      rw [← hmap]
      refine ⟨by simp [← hl1], fun i w z ew ez => ?_⟩
      have hvi : i < (vs.filter fun v => q (dec v)).length := by
        rw [hl1]; exact (List.getElem?_eq_some_iff.mp ew).1
      have hv : (vs.filter fun v => q (dec v))[i]? = some (vs.filter fun v => q (dec v))[i] := List.getElem?_eq_getElem hvi
      have hFw := hl2 i _ w hv ew
      rw [List.getElem?_map, List.getElem?_map, hv] at ez
      simp only [Option.map_some, Option.some.injEq] at ez
      rw [← ez]
      exact hFw O h'
    have I' := V₁.grow (pv := .list ((xs.filter q).map f)) (v := .ref D) (x := y) hF ext hns' (.inl ⟨hy, by simp⟩) (fun z w hz => by unfold Slot; dsimp only; rw [if_neg hz]) hrep
    exact h₁.went V ⟨h', tk, rfl, fun b o e nm no => ext b o (fun q => nm (.inl q)) e, rfl, GoesOn.same I'⟩
/-- lists of texts told apart -/
theorem RepL.reads {O : Addr → Prop} {h : Heap} : ∀ {ls : List (List Nat)} {vs : List Value}, RepL O h vs (codesPV ls) → ReadsAll h vs (ls.map fun l => PyData.str (S l)) []
  | [], vs, r => by
    have := r.nil_inv
    subst this; exact .nil
  | l :: ls, vs, r => by
    obtain ⟨v, vs', rfl, r₁, r₂⟩ := r.cons_inv
    obtain ⟨t, rfl⟩ := r₁.str_inv
    have := ReadsAll.cons (Reads.str (h := h) (S l) t) (RepL.reads r₂)
    simpa using this
theorem canLay_strs : ∀ ls : List (List Nat), (∀ l ∈ ls, ∀ n ∈ l, n < 1114112) → PyData.canLayAll0 (ls.map fun l => PyData.str (S l)) = true
  | [], _ => by simp [PyData.canLayAll0]
  | l :: ls, h => by
    have h1 := canLay_strs ls fun x hx => h x (List.mem_cons_of_mem _ hx)
    have h2 : PyData.strOk (S l) = true := by
      unfold PyData.strOk S
      rw [Array.all_eq_true]
      intro i hi
      exact decide_eq_true (h l (List.mem_cons_self ..) _ (by simp))
    simp [PyData.canLayAll0, PyData.canLay0, h1, h2]
theorem depth_strs : ∀ ls : List (List Nat), PyData.depthAll (ls.map fun l => PyData.str (S l)) ≤ 1
  | [] => by simp [PyData.depthAll]
  | l :: ls => by
    have := depth_strs ls
    simp only [List.map_cons, PyData.depthAll, PyData.depth]
    omega
open PySem.SeqAt PyProof.V PySem.Spec in
theorem noMix_strs : ∀ ns ms : List (List Nat), noMixAll (ns.map fun l => PyData.str (S l)) (ms.map fun l => PyData.str (S l)) = true
  | [], [] => by simp [noMixAll]
  | [], _ :: _ => by simp [noMixAll]
  | _ :: _, [] => by simp [noMixAll]
  | _ :: r, _ :: q => by simp [noMixAll, noMix, noMix_strs r q]
theorem same_strs : ∀ ns ms : List (List Nat), PySem.Spec.sameAll (ns.map fun l => PyData.str (S l)) (ms.map fun l => PyData.str (S l)) = decide (ns = ms)
  | [], [] => by simp [PySem.Spec.sameAll]
  | [], _ :: _ => by simp [PySem.Spec.sameAll]
  | _ :: _, [] => by simp [PySem.Spec.sameAll]
  | n :: r, k :: q => by
    simp only [List.map_cons, PySem.Spec.sameAll, PySem.Spec.same, same_strs r q]
    by_cases h : n = k
    · simp [h]
    · have : ¬ S n = S k := fun e => h (S_inj e)
      simp [h, this]
open PySem.SeqAt PyProof.V PySem.Spec in
theorem Op2.neSs (ns ms : List (List Nat)) (h1 : ∀ l ∈ ns, ∀ n ∈ l, n < 1114112) (h2 : ∀ l ∈ ms, ∀ n ∈ l, n < 1114112) : Op2 c (compareOp .NotEq) (.list (codesPV ns)) (.list (codesPV ms)) (.bool (!decide (ns = ms))) := by
  have shp : ∀ ls : List (List Nat), (∀ l ∈ ls, ∀ n ∈ l, n < 1114112) → shaped (.list (ls.map fun l => PyData.str (S l))) = true := fun ls hl => by
    have h3 := depth_strs ls
    have h4 : PyData.depth (.list (ls.map fun l => PyData.str (S l))) ≤ 64 := by simp only [PyData.depth]; omega
    show (PyData.canLay0 (.list (ls.map fun l => PyData.str (S l))) && decide (PyData.depth (.list (ls.map fun l => PyData.str (S l))) ≤ 64)) = true
    rw [Bool.and_eq_true]
    exact ⟨by simp only [PyData.canLay0]; exact canLay_strs ls hl, decide_eq_true h4⟩
  refine ⟨fun O s v w E G r q => ?_⟩
  obtain ⟨a, vs, rfl, _, hl, rl⟩ := r.list_inv; obtain ⟨b, us, rfl, _, hl', rl'⟩ := q.list_inv
  obtain ⟨o, ho, hc, n, hd⟩ := hl
  obtain ⟨o', ho', hc', n', hd'⟩ := hl'
  have ra : Reads s.heap (.ref a) (.list (ns.map fun l => PyData.str (S l))) [a] := Reads.list ho hc hd (by simpa using rl.reads)
  have rb : Reads s.heap (.ref b) (.list (ms.map fun l => PyData.str (S l))) [b] := Reads.list ho' hc' hd' (by simpa using rl'.reads)
  exact ne_dataH_same ra rb (shp ns h1) (shp ms h2) (by have := G.good.room.un; show c.A.units + 64 < 9900; omega) (by simp only [noMix]; exact noMix_strs ns ms) (by simp only [PySem.Spec.same]; rw [same_strs]; exact Got.same (.bool _))
end
end Mine
namespace Mine
/-! LAW 4, plain -/
abbrev PairL := List Nat × List Nat
structure St4 where
  a : Nat
  b : Nat
  c : Nat
  d : Nat
  on : List PairL
  back : List PairL
def pB : PairL := ([66], [66, 67])
def pC : PairL := ([67], [66, 67])
def stp (s : St4) (k : Nat) : St4 :=
  if k = 1 then ⟨s.a + s.c, s.b + s.d, s.c, s.d, s.on ++ [pB], pB :: s.back⟩ else ⟨s.a, s.b, s.a + s.c, s.b + s.d, s.on ++ [pC], pC :: s.back⟩
def st0 : St4 := ⟨1, 0, 0, 1, [], []⟩
def endS (ks : List Nat) : St4 := ks.foldl stp st0
def figs4 (many size : Nat) : List Nat := (List.range size).map fun k => 1 + ((k + 1) * many / size - k * many / size)
def ev4 (many size : Nat) : List Nat := (figs4 many size).map (65 + ·)
def inv4 (n t : Nat) : List Nat := (List.range t).filter fun k => n * k % t == 1
def check4 (ks : List Nat) : Bool :=
  let s := endS (ks ++ [1, 0, 0])
  let n := s.b + s.d
  let t := s.a + s.c + n
  run [66] s.back == some (ev4 s.b (s.a + s.b)) && (run [67] s.back == some (ev4 s.d (s.c + s.d)) && (run [66, 67] s.back == some (ev4 n t) &&
  ((inv4 n t).take 1 != [] && ((inv4 n t).take 1).all (fun k => run [66, 67] s.on == some (ev4 k t)) && (t.ble 200 && Nat.ble 1 t))))
def rows4 : Nat → List (List Nat)
  | 0 => [[]]
  | n + 1 => [] :: (rows4 n).flatMap fun r => [0 :: r, 1 :: r]
theorem rows4_mem : ∀ (n : Nat) (ks : List Nat), ks.length ≤ n → (∀ k ∈ ks, k = 0 ∨ k = 1) → ks ∈ rows4 n
  | 0, ks, h, _ => by
    have : ks = [] := List.length_eq_zero_iff.mp (by omega)
    subst this; exact List.mem_cons_self ..
  | n + 1, [], _, _ => List.mem_cons_self ..
  | n + 1, k :: ks, h, hk => by
    have ih := rows4_mem n ks (by simpa using h) fun x hx => hk x (List.mem_cons_of_mem _ hx)
    refine List.mem_cons_of_mem _ (List.mem_flatMap.mpr ⟨ks, ih, ?_⟩)
    rcases hk k (List.mem_cons_self ..) with rfl | rfl <;> simp
theorem rows4_ok : (rows4 5).all check4 = true := by decide +kernel
structure Good4 (s : St4) : Prop where
  lo : FitsL [66] s.back ∧ rpAll [66] s.back = ev4 s.b (s.a + s.b)
  hi : FitsL [67] s.back ∧ rpAll [67] s.back = ev4 s.d (s.c + s.d)
  mid : FitsL [66, 67] s.back ∧ rpAll [66, 67] s.back = ev4 (s.b + s.d) (s.a + s.c + (s.b + s.d))
  inv : ∃ k r, inv4 (s.b + s.d) (s.a + s.c + (s.b + s.d)) = k :: r ∧ k < s.a + s.c + (s.b + s.d) ∧ FitsL [66, 67] s.on ∧ rpAll [66, 67] s.on = ev4 k (s.a + s.c + (s.b + s.d))
  size : s.a + s.c + (s.b + s.d) ≤ 200
  pos : 1 ≤ s.a + s.c + (s.b + s.d)
theorem good4 {ks : List Nat} (hl : ks.length ≤ 5) (hk : ∀ k ∈ ks, k = 0 ∨ k = 1) : Good4 (endS (ks ++ [1, 0, 0])) := by
  have h := List.all_eq_true.mp rows4_ok ks (rows4_mem 5 ks hl hk)
  unfold check4 at h
  dsimp only at h
  generalize endS (ks ++ [1, 0, 0]) = s at h ⊢
  simp only [Bool.and_eq_true, beq_iff_eq] at h
  obtain ⟨h1, h2, h3, ⟨h4, h5⟩, h6, h7⟩ := h
  refine ⟨run_ok h1, run_ok h2, run_ok h3, ?_, Nat.le_of_ble_eq_true h6, Nat.le_of_ble_eq_true h7⟩
  have hm : ∀ k ∈ inv4 (s.b + s.d) (s.a + s.c + (s.b + s.d)), k < s.a + s.c + (s.b + s.d) := fun k hk => List.mem_range.mp (List.mem_filter.mp hk).1
  generalize inv4 (s.b + s.d) (s.a + s.c + (s.b + s.d)) = l at *
  cases l with
  | nil => simp at h4
  | cons k r =>
    refine ⟨k, r, rfl, hm k (List.mem_cons_self ..), ?_⟩
    simp only [List.take_succ_cons, List.take_zero, List.all_cons, List.all_nil, Bool.and_true, beq_iff_eq] at h5
    exact run_ok h5
/-- one letter for a text: letter by letter -/
theorem rp_letters (y : Nat) (z : List Nat) : ∀ a b : List Nat, rp [y] z 0 (a ++ b) = rp [y] z 0 a ++ rp [y] z 0 b
  | [], b => by simp [rp]
  | c :: a, b => by
    have ih := rp_letters y z a b
    simp only [List.cons_append, rp, List.isPrefixOf, List.length_cons, List.length_nil, Nat.zero_add, Nat.sub_self, Bool.and_true]
    split
    · rw [ih, List.append_assoc]
    · rw [ih, List.cons_append]
def Letters (ps : List PairL) : Prop := ∀ p ∈ ps, ∃ y z, p = ([y], z) ∧ y < 256 ∧ z.length ≤ 2 ∧ ∀ c ∈ z, c < 256
theorem rpAll_letters : ∀ (ps : List PairL) (a b : List Nat), Letters ps → rpAll (a ++ b) ps = rpAll a ps ++ rpAll b ps
  | [], _, _, _ => rfl
  | p :: ps, a, b, h => by
    obtain ⟨y, z, rfl, _⟩ := h p (List.mem_cons_self ..)
    rw [rpAll, rpAll, rpAll, rp_letters, rpAll_letters ps _ _ fun q hq => h q (List.mem_cons_of_mem _ hq)]
theorem rpAll_empty : ∀ ps : List PairL, rpAll [] ps = []
  | [] => rfl
  | p :: ps => by
    have : rp p.1 p.2 0 [] = [] := by simp [rp]
    rw [rpAll, this, rpAll_empty ps]
theorem rpAll_flat (ps : List PairL) (h : Letters ps) : ∀ t : List Nat, rpAll t ps = t.flatMap fun c => rpAll [c] ps
  | [] => by rw [rpAll_empty]; rfl
  | c :: t => by
    rw [List.flatMap_cons, ← rpAll_flat ps h t, ← rpAll_letters ps [c] t h]
    rfl
theorem fits_letters : ∀ (ps : List PairL) (t : List Nat), Letters ps → t.length * 2 ^ ps.length ≤ 4000 → FitsL t ps
  | [], _, _, _ => trivial
  | p :: ps, t, h, ht => by
    obtain ⟨y, z, rfl, hy, hz, _⟩ := h p (List.mem_cons_self ..)
    have hr := rp_short [y] z 2 (by decide) hz 0 t
    have h2 : 1 ≤ 2 ^ ps.length := Nat.one_le_two_pow
    rw [List.length_cons, Nat.pow_succ] at ht
    have h3 : t.length * 1 ≤ t.length * (2 ^ ps.length * 2) := Nat.mul_le_mul_left _ (by omega)
    refine ⟨by omega, by simp, fun n hn => by simp at hn; omega, by show z.length ≤ 4000; omega, fits_letters ps _ (fun q hq => h q (List.mem_cons_of_mem _ hq)) ?_⟩
    have h4 : (rp [y] z 0 t).length * 2 ^ ps.length ≤ 2 * t.length * 2 ^ ps.length := Nat.mul_le_mul_right _ hr
    have h5 : 2 * t.length * 2 ^ ps.length = t.length * (2 ^ ps.length * 2) := by
      rw [Nat.mul_comm 2 t.length, Nat.mul_assoc, Nat.mul_comm 2]
    show (rp [y] z 0 t).length * 2 ^ ps.length ≤ 4000
    omega
theorem letters_st : ∀ (ks : List Nat) (s : St4), Letters s.on → Letters s.back → Letters (ks.foldl stp s).on ∧ Letters (ks.foldl stp s).back ∧ (ks.foldl stp s).back.length = s.back.length + ks.length ∧ (ks.foldl stp s).on.length = s.on.length + ks.length
  | [], s, h1, h2 => ⟨h1, h2, rfl, rfl⟩
  | k :: ks, s, h1, h2 => by
    have hB : ∃ y z, pB = ([y], z) ∧ y < 256 ∧ z.length ≤ 2 ∧ ∀ c ∈ z, c < 256 := ⟨66, [66, 67], rfl, by decide, by decide, by decide⟩
    have hC : ∃ y z, pC = ([y], z) ∧ y < 256 ∧ z.length ≤ 2 ∧ ∀ c ∈ z, c < 256 := ⟨67, [66, 67], rfl, by decide, by decide, by decide⟩
    have hs : Letters (stp s k).on ∧ Letters (stp s k).back ∧ (stp s k).back.length = s.back.length + 1 ∧ (stp s k).on.length = s.on.length + 1 := by
      unfold stp
      split
      · refine ⟨fun p hp => ?_, fun p hp => ?_, by simp, by simp⟩
        · rcases List.mem_append.mp hp with hp | hp
          · exact h1 p hp
          · simp at hp; subst hp; exact hB
        · rcases List.mem_cons.mp hp with rfl | hp
          · exact hB
          · exact h2 p hp
      · refine ⟨fun p hp => ?_, fun p hp => ?_, by simp, by simp⟩
        · rcases List.mem_append.mp hp with hp | hp
          · exact h1 p hp
          · simp at hp; subst hp; exact hC
        · rcases List.mem_cons.mp hp with rfl | hp
          · exact hC
          · exact h2 p hp
    obtain ⟨h3, h4, h5, h6⟩ := letters_st ks (stp s k) hs.1 hs.2.1
    rw [List.foldl_cons]
    refine ⟨h3, h4, ?_, ?_⟩
    · rw [h5, hs.2.2.1, List.length_cons]; omega
    · rw [h6, hs.2.2.2, List.length_cons]; omega
/-- the figures -/
theorem figs4_ok {many size : Nat} (h : many ≤ size) : ∀ f ∈ figs4 many size, 1 ≤ f ∧ f ≤ 2 := by
  intro f hf
  obtain ⟨k, hk, rfl⟩ := List.mem_map.mp hf
  have hk' := List.mem_range.mp hk
  have h0 : 0 < size := by omega
  have h1 : (k + 1) * many ≤ k * many + size := by rw [Nat.add_mul]; omega
  have h2 : (k + 1) * many / size ≤ (k * many + size) / size := Nat.div_le_div_right h1
  rw [Nat.add_div_right _ h0] at h2
  omega
theorem figs4_len (many size : Nat) : (figs4 many size).length = size := by simp [figs4]
end Mine
open_top hd04 for PySem.Challenge.rw_ph0004_04
namespace Mine
def fdAt (K : Frag) (a : Addr) : FuncData := match K.lookup a with
  | some ⟨_, _, .func fd, _⟩ => fd
  | _ => default
def bodyOf (fd : FuncData) : List Stmt := match fd.body with
  | .stmts b => b
  | _ => []

noncomputable abbrev KK (w : World) : Frag := hd04.heap_39 w.params
noncomputable abbrev GG (w : World) (mg mb : Str → Option Value) : GC := { prog := PySem.Challenge.rw_ph0004_04.row.prog, w := w, K := KK w, p := hd04.view_39, loose := looseW hd04.view_39 [], mg := mg, mb := mb }

def replAll : Str → List (Str × Str) → Str
  | t, [] => t
  | t, p :: r => replAll (repl1 t p.1 p.2) r
def FitsR : Str → List (Str × Str) → Prop
  | _, [] => True
  | t, p :: r => t.length ≤ 4000 ∧ 1 ≤ p.1.length ∧ p.2.length ≤ 4000 ∧ FitsR (repl1 t p.1 p.2) r
def flat : List (Str × Str) → List Str
  | [] => []
  | p :: r => p.1 :: p.2 :: flat r
theorem flat_length (ps : List (Str × Str)) : (flat ps).length = 2 * ps.length := by
  induction ps with
  | nil => rfl
  | cons p r ih => simp [flat, ih]; omega
theorem split_fits {x y z : Str} (hx : x.length ≤ 4000) (hy : 1 ≤ y.length) (hz : z.length ≤ 4000) : ((Txt.split x y).map (·.length)).sum + (Txt.split x y).length * z.length ≤ 16777216 := by
  have h := split_weight x y hy
  generalize hA : ((Txt.split x y).map (·.length)).sum = a at *
  generalize hB : (Txt.split x y).length = b at *
  have hb : b ≤ 4001 := by omega
  have h2 : b * z.length ≤ 4001 * 4000 := Nat.mul_le_mul hb hz
  omega
def SS (ps : List (List Nat × List Nat)) : List (Str × Str) := ps.map fun p => (S p.1, S p.2)
theorem fitsR_of : ∀ {ps : List (List Nat × List Nat)} {t : List Nat}, FitsL t ps → FitsR (S t) (SS ps)
  | [], _, _ => trivial
  | p :: r, t, h => by
    obtain ⟨h1, h2, h3, h4, h5⟩ := h
    refine ⟨by rw [S_length]; exact h1, by rw [S_length]; exact List.length_pos_iff.mpr h2, by rw [S_length]; exact h4, ?_⟩
    show FitsR (repl1 (S t) (S p.1) (S p.2)) (SS r)
    rw [repl1_S _ _ _ h2 h3]
    exact fitsR_of h5
theorem replAll_S : ∀ {ps : List (List Nat × List Nat)} {t : List Nat}, FitsL t ps → replAll (S t) (SS ps) = S (rpAll t ps)
  | [], _, _ => rfl
  | p :: r, t, h => by
    obtain ⟨h1, h2, h3, h4, h5⟩ := h
    show replAll (repl1 (S t) (S p.1) (S p.2)) (SS r) = _
    rw [repl1_S _ _ _ h2 h3, replAll_S h5]
    rfl
theorem flat_SS : ∀ ps : List (List Nat × List Nat), strsPV (flat (SS ps)) = codesPV (flatL ps)
  | [] => rfl
  | p :: r => by
    show .str (S p.1) :: .str (S p.2) :: strsPV (flat (SS r)) = _
    rw [flat_SS r]; rfl

section
variable {w : World} {mg mb : Str → Option Value}
noncomputable abbrev FF (w : World) (mg mb : Str → Option Value) (f : Addr) (A : Around) (L : Addr) (h₀ : Heap) (B : Addr → Prop) (n : Nat) : FC := frameOf (GG w mg mb) (fdAt (KK w) f) f A L h₀ B n
theorem def21 : DefAt (GG w mg mb) 21 (fdAt (KK w) 21) (bodyOf (fdAt (KK w) 21)) :=
  ⟨⟨_, rfl, rfl⟩, ⟨_, _, _, _, rfl, rfl, rfl, rfl⟩, rfl, rfl, rfl, rfl, rfl, rfl, rfl⟩

theorem replace_body {A : Around} {L : Addr} {h₀ : Heap} {B : Addr → Prop} {t : Str} {ps : List (Str × Str)} (hf : FitsR t ps) (hn : ps.length ≤ 4000) :
    ExP (FF w mg mb 21 A L h₀ B 0) [(Str.ofString "text", .val (.str t)), (Str.ofString "pairs", .val (.tuple (strsPV (flat ps))))] (bodyOf (fdAt (KK w) 21)) (.ret (.str (replAll t ps))) := by
  refine ExP.cons (ρ' := [(Str.ofString "text", .val (.str (replAll t ps))), (Str.ofString "pairs", .val (.tuple []))]) (StP.whileDo (n := ps.length) ?_) (ExP.ret (StP.ret (EvP.name rfl)))
  induction ps generalizing t with
  | nil => exact .done (TrP.plain (EvP.name rfl) (Truth.tuple (by simp [strsPV, flat])))
  | cons p r ih =>
    have hl : (strsPV (flat (p :: r))).length ≤ sizeLine := by
      rw [sizeLine_eq]; simp only [strsPV, List.length_map, flat_length]; simp only [List.length_cons] at hn ⊢; omega
    obtain ⟨h1, h2, h3, h4⟩ := hf
    refine .step (TrP.plain (EvP.name rfl) (Truth.tuple hl)) ?_ (ih h4 (by simp at hn; omega))
    refine ExP.forget ?_ (ExP.cons (StP.assign (EvP.joinSplit (z := p.2) (x := t) (y := p.1) (r := repl1 t p.1 p.2) (EvP.itemT (EvP.name rfl) (EvP.int _ _ _) (by decide) (by decide) rfl) (EvP.name rfl) (EvP.itemT (EvP.name rfl) (EvP.int _ _ _) (by decide) (by decide) rfl) ?_ ?_ ?_ rfl) (.inl rfl))
      (ExP.one (StP.assign (EvP.dropT (k := 2) (EvP.name rfl) (by decide) ?_ hl) (.inl rfl))))
    · exact Sub.cons rfl (Sub.cons rfl Sub.nil)
    · simp; omega
    · rw [sizeLine_eq]; omega
    · exact split_fits h1 h2 h3
    · simp [strsPV, flat]

theorem call_replace {n : Nat} {t : Str} {ps : List (Str × Str)} (hf : FitsR t ps) (hn : ps.length ≤ 4000) : CallP (GG w mg mb) (n + 1) (.ref 21) (.str t :: strsPV (flat ps)) (.str (replAll t ps)) := by
  have h0 : CallP (GG w mg mb) (0 + 1) (.ref 21) (.str t :: strsPV (flat ps)) (.str (replAll t ps)) :=
    CallP.def (ys := [.str t, .tuple (strsPV (flat ps))]) (names := [Str.ofString "text", Str.ofString "pairs"]) def21 (BindP.star (fun v vs => ?_) ?_) rfl (by decide) ?_ fun A L h₀ B => replace_body hf hn
  · exact h0.more (by omega)
  · cases vs <;> rfl
  · rw [sizeLine_eq]; simp only [strsPV, List.length_map, flat_length]; omega
  · intro L x hx
    left
    simp only [List.mem_cons, List.not_mem_nil, or_false] at hx
    rcases hx with rfl | rfl <;> rfl

theorem call_rep {n : Nat} {t : List Nat} {ps : List (List Nat × List Nat)} (hf : FitsL t ps) (hn : ps.length ≤ 4000) : CallP (GG w mg mb) (n + 1) (.ref 21) (.str (S t) :: codesPV (flatL ps)) (.str (S (rpAll t ps))) := by
  have := call_replace (w := w) (mg := mg) (mb := mb) (n := n) (fitsR_of hf) (by simpa [SS] using hn)
  rw [flat_SS, replAll_S hf] at this
  exact this

theorem def28 : DefAt (GG w mg mb) 28 (fdAt (KK w) 28) (bodyOf (fdAt (KK w) 28)) :=
  ⟨⟨_, rfl, rfl⟩, ⟨_, _, _, _, rfl, rfl, rfl, rfl⟩, rfl, rfl, rfl, rfl, rfl, rfl, rfl⟩

theorem int2ap_body {A : Around} {L : Addr} {h₀ : Heap} {B : Addr → Prop} {i : Int} {f : Nat} (hf : f ≤ 4000) (hi : i.natAbs < 16 ^ f) :
    ExP (FF w mg mb 28 A L h₀ B 0) [(Str.ofString "num", .val (.int i))] (bodyOf (fdAt (KK w) 28)) (.ret (.bytes (apB (apF f i.natAbs [])))) := by
  have habs : (if i < 0 then -i else i) = (i.natAbs : Int) := by omega
  refine ExP.cons (StP.assign (EvP.bytes _ _ _) (.inl rfl)) ?_
  refine ExP.cons (StP.assign (EvP.bytes _ _ _) (.inl rfl)) ?_
  refine ExP.cons (StP.assign (EvP.call (n := 0) (HeadP.boot rfl rfl boot_int) (Calle.type _) (ArgsP.cons (EvP.call (n := 0) (HeadP.boot rfl rfl boot_abs) (Calle.builtin _) (ArgsP.cons (EvP.name rfl) ArgsP.nil) (CallP.abs i) (Nat.le_refl _)) ArgsP.nil) (CallP.int _) (Nat.le_refl _)) (.inl rfl)) ?_
  rw [habs]
  refine ExP.weak (ρ' := [(Str.ofString "num", .val (.int (i.natAbs : Int))), (Str.ofString "val", .val (.bytes (apB []))), (Str.ofString "AP", .val (.bytes APb))]) (Sub.cons rfl (Sub.cons rfl (Sub.cons rfl Sub.nil))) ?_
  generalize i.natAbs = n at hi
  refine ExP.cons (ρ' := [(Str.ofString "num", .val (.int 0)), (Str.ofString "val", .val (.bytes (apB (apF f n [])))), (Str.ofString "AP", .val (.bytes APb))]) (StP.whileEx ?_) (ExP.ret (StP.ret (EvP.name rfl)))
  have hacc : f + ([] : List Nat).length ≤ 4000 := by simpa using hf
  clear hf habs
  generalize ([] : List Nat) = acc at hacc ⊢
  induction f generalizing n acc with
  | zero =>
    have : n = 0 := by simp at hi; omega
    subst this
    exact ⟨0, .done (TrP.plain (EvP.name rfl) (Truth.int _))⟩
  | succ f ih =>
    by_cases h0 : n = 0
    · subst h0
      refine ⟨0, ?_⟩
      have : apF (f + 1) 0 acc = acc := by simp [apF]
      rw [this]
      exact .done (TrP.plain (EvP.name rfl) (Truth.int _))
    · obtain ⟨k, hk⟩ := ih (n := n / 16) (by rw [Nat.pow_succ] at hi; omega) ((65 + n % 16) :: acc) (by simp at hacc ⊢; omega)
      refine ⟨k + 1, ?_⟩
      have e1 : apF (f + 1) n acc = apF f (n / 16) ((65 + n % 16) :: acc) := by simp [apF, h0]
      rw [e1]
      refine .step ((TrP.plain (EvP.name rfl) (Truth.int _)).to (by simp; omega)) ?_ hk
      have d1 : (n : Int).fdiv 16 = ((n / 16 : Nat) : Int) := by
        rw [Int.fdiv_eq_ediv_of_nonneg _ (by decide)]; rfl
      have d2 : (n : Int).fmod 16 = ((n % 16 : Nat) : Int) := by
        rw [Int.fmod_eq_emod_of_nonneg _ (by decide)]; rfl
      have hp := picked_AP ⟨n % 16, Nat.mod_lt _ (by decide)⟩
      refine ExP.forget ?_ (ExP.cons (StP.assignPair (a := .int ((n / 16 : Nat) : Int)) (b := .int ((n % 16 : Nat) : Int))
        ((EvP.call (n := 0) (HeadP.boot rfl rfl boot_divmod) (Calle.builtin _) (ArgsP.cons (EvP.name rfl) (ArgsP.cons (EvP.int _ _ _) ArgsP.nil)) (CallP.divmod (by decide) (PyProof.noPylong_small (by decide))) (Nat.le_refl _)).to (by rw [d1, d2])) (.inl rfl) (.inl rfl))
        (ExP.one (StP.assign (v := .bytes (apB ((65 + n % 16) :: acc))) ((EvP.binop (EvP.cutB (EvP.name rfl) (EvP.name rfl) (EvP.binop (EvP.name rfl) (EvP.int _ _ _) (Op2.addI _ _)) (by decide)) (EvP.name rfl) (Op2.addB ?_)).to ?_) (.inl rfl))))
      · exact Sub.cons rfl (Sub.cons rfl (Sub.cons rfl Sub.nil))
      · rw [hp]; simp [apB]; omega
      · rw [hp]; simp [apB]

theorem call_int2ap {n : Nat} {i : Int} {f : Nat} (hf : f ≤ 4000) (hi : i.natAbs < 16 ^ f) : CallP (GG w mg mb) (n + 1) (.ref 28) [.int i] (.bytes (apB (apF f i.natAbs []))) := by
  have h0 : CallP (GG w mg mb) (0 + 1) (.ref 28) [.int i] (.bytes (apB (apF f i.natAbs []))) :=
    CallP.def (ys := [.int i]) (names := [Str.ofString "num"]) def28 (BindP.one fun v => rfl) rfl (by decide) (fun L x hx => .inl (by
      simp only [List.mem_cons, List.not_mem_nil, or_false] at hx
      subst hx; rfl)) fun A L h₀ B => int2ap_body hf hi
  exact h0.more (by omega)
end
end Mine
namespace Mine
def natsPV (fs : List Nat) : List PV := fs.map fun (n : Nat) => .int (n : Int)
theorem nats_app (a b : List Nat) : natsPV (a ++ b) = natsPV a ++ natsPV b := by simp [natsPV]
def valF (v : Nat) (fs : List Nat) : Nat := fs.foldl (fun v f => 16 * v + f) v
theorem range_any (a b : Int) : Builtin.Range.rangeSize a b 1 = ((b - a).toNat : Int) := by
  unfold Builtin.Range.rangeSize
  rw [if_pos (by decide), Int.ediv_one]
  split <;> omega
theorem range_nats (n : Nat) : rangePV 0 1 n = natsPV (List.range n) := by
  unfold rangePV natsPV
  refine List.map_congr_left fun i _ => ?_
  congr 1; omega
/-- the figures of a row, as a word -/
theorem row_word {fs : List Nat} (h : ∀ f ∈ fs, 1 ≤ f ∧ f ≤ 4) {n : Nat} (hn : fs.length ≤ n) : apF n (valF 0 fs) [] = fs.map (65 + ·) ∧ valF 0 fs < 16 ^ n := by
  have hv : ∀ r : List Nat, valF 0 r.reverse = leV 16 r := by
    intro r
    induction r with
    | nil => rfl
    | cons c r ih =>
      rw [List.reverse_cons, valF, List.foldl_append]
      show 16 * valF 0 r.reverse + c = _
      rw [ih, leV]; omega
  have hlt : ∀ r : List Nat, (∀ f ∈ r, f ≤ 4) → leV 16 r < 16 ^ r.length := by
    intro r
    induction r with
    | nil => intro _; simp [leV]
    | cons c r ih =>
      intro h
      have := ih fun f hf => h f (List.mem_cons_of_mem _ hf)
      have := h c (List.mem_cons_self ..)
      rw [leV, List.length_cons, Nat.pow_succ]; omega
  have e := hv fs.reverse
  rw [List.reverse_reverse] at e
  rw [e]
  constructor
  · rw [digits (B := 16) (by decide) apF (fun d => 65 + d) (fun _ _ => rfl) (fun _ _ _ => rfl) fs.reverse n [] (by simpa using hn) (fun d hd => ?_) (fun d hd => ?_)]
    · rw [List.append_nil, List.map_reverse, List.reverse_reverse]
    · have := h d (List.mem_reverse.mp hd); omega
    · have := h d (List.mem_reverse.mp (List.mem_of_getLast? hd)); omega
  · have h1 := hlt fs.reverse fun f hf => (h f (List.mem_reverse.mp hf)).2
    rw [List.length_reverse] at h1
    exact Nat.lt_of_lt_of_le h1 (Nat.pow_le_pow_right (by decide) hn)
section
variable {w : World} {mg mb : Str → Option Value}
theorem def33 : DefAt (GG w mg mb) 33 (fdAt (KK w) 33) (bodyOf (fdAt (KK w) 33)) := ⟨⟨_, rfl, rfl⟩, ⟨_, _, _, _, rfl, rfl, rfl, rfl⟩, rfl, rfl, rfl, rfl, rfl, rfl, rfl⟩
theorem word_body {A : Around} {L : Addr} {h₀ : Heap} {B : Addr → Prop} {many size : Nat} (hm : many ≤ size) (hf : size ≤ 4000) :
    ExP (FF w mg mb 33 A L h₀ B 1) [(Str.ofString "many", .val (.int (many : Int))), (Str.ofString "size", .val (.int (size : Int)))] (bodyOf (fdAt (KK w) 33)) (.ret (.str (S (ev4 many size)))) := by
  obtain ⟨hw1, hw2⟩ := row_word (fs := figs4 many size) (fun f h => by have := figs4_ok hm f h; omega) (n := size) (by rw [figs4_len]; exact Nat.le_refl _)
  refine ExP.cons (StP.assign (EvP.int _ _ _) (.inl rfl)) ?_
  refine ExP.cons (ρ' := [(Str.ofString "number", .val (.int (valF 0 (figs4 many size) : Nat))), (Str.ofString "many", .val (.int (many : Int))), (Str.ofString "size", .val (.int (size : Int)))]) ?_ ?_
  · obtain ⟨v, hv⟩ : ∃ v : Nat, v = 0 := ⟨0, rfl⟩
    have e : valF 0 (figs4 many size) = valF v (figs4 many size) := by rw [hv]
    rw [e]
    refine StP.forIn [(Str.ofString "number", .val (.int (v : Int))), (Str.ofString "many", .val (.int (many : Int))), (Str.ofString "size", .val (.int (size : Int)))] (Sub.cons (by rw [hv]; rfl) (Sub.cons rfl (Sub.cons rfl Sub.nil)))
      (EvP.call (n := 0) (HeadP.boot rfl rfl boot_range) (Calle.type _) (ArgsP.cons (EvP.name rfl) ArgsP.nil) (CallP.range1 _) (Nat.zero_le _))
      (IterP.range (k := size) (small_one (by decide) (by decide) (by omega) (by omega)) (by rw [range_any]; omega)) ?_
    rw [range_nats]
    unfold figs4
    have hlt : ∀ k ∈ List.range size, k < size := fun k h => List.mem_range.mp h
    clear hv e hw1 hw2
    generalize List.range size = ys at *
    induction ys generalizing v with
    | nil => exact ForR.nil
    | cons k ys ih =>
      have hk := hlt k (List.mem_cons_self ..)
      have hmono : k * many / size ≤ (k + 1) * many / size := Nat.div_le_div_right (Nat.mul_le_mul_right _ (Nat.le_succ _))
      have e1 : ((k : Int) + 1) * (many : Int) = (((k + 1) * many : Nat) : Int) := by simp
      have e2 : (k : Int) * (many : Int) = ((k * many : Nat) : Int) := by simp
      refine ForR.step (TgtP.name _ (.inl rfl)) (ρ' := [(Str.ofString "number", .val (.int ((16 * v + (1 + ((k + 1) * many / size - k * many / size)) : Nat) : Int))), (Str.ofString "many", .val (.int (many : Int))), (Str.ofString "size", .val (.int (size : Int)))]) ?_ (ih (16 * v + (1 + ((k + 1) * many / size - k * many / size))) (fun x hx => hlt x (List.mem_cons_of_mem _ hx)))
      have hbit : ∀ x : Nat, x ≤ 5000 → Builtin.Int.intBits (x : Int) ≤ 64 := fun x hx => PySem.intBits_cast_le (by rw [sizeLine_eq]; omega)
      have hk1 : Builtin.Int.intBits ((k : Int) + 1) ≤ 64 := by
        have := hbit (k + 1) (by omega)
        simpa using this
      refine ExP.forget (Sub.cons rfl (Sub.cons rfl (Sub.cons rfl Sub.nil))) (ExP.one (StP.assign ((EvP.binop (EvP.binop (EvP.binop (EvP.binop (EvP.int _ _ _) (EvP.name rfl) (Op2.mulI (IntMulOk.of_left (by decide)))) (EvP.int _ _ _) (Op2.addI _ _))
        (EvP.binop (EvP.binop (EvP.binop (EvP.name rfl) (EvP.int _ _ _) (Op2.addI _ _)) (EvP.name rfl) (Op2.mulI (IntMulOk.of_left hk1))) (EvP.name rfl) (Op2.divI (by omega) (PyProof.noPylong_small (by omega)))) (Op2.addI _ _))
        (EvP.binop (EvP.binop (EvP.name rfl) (EvP.name rfl) (Op2.mulI (IntMulOk.of_left (hbit k (by omega))))) (EvP.name rfl) (Op2.divI (by omega) (PyProof.noPylong_small (by omega)))) (Op2.subI _ _)).to ?_) (.inl rfl)))
      rw [e1, e2, fdiv_nat, fdiv_nat]
      congr 1
      generalize (k + 1) * many / size = p at *
      generalize k * many / size = q at *
      omega
  · have hlen := figs4_len many size
    have habs : (-((valF 0 (figs4 many size) : Nat) : Int)).natAbs = valF 0 (figs4 many size) := by omega
    have hc := call_int2ap (w := w) (mg := mg) (mb := mb) (n := 0) (i := -((valF 0 (figs4 many size) : Nat) : Int)) hf (by rw [habs]; exact hw2)
    rw [habs, hw1] at hc
    exact ExP.ret (StP.ret (EvP.wordOf (EvP.call (n := 1) (HeadP.own rfl rfl) (Calle.own rfl) (ArgsP.cons (EvP.unop (EvP.name rfl) (Op1.negI _)) ArgsP.nil) hc (Nat.le_refl _)) (fun n hn => by
      obtain ⟨f, hf', rfl⟩ := List.mem_map.mp hn
      have := figs4_ok hm f hf'
      show 65 + f < 256
      omega) (by rw [ev4, List.length_map]; omega) CompOk.bare (fun C => HeadP.boot rfl rfl boot_chr)))
theorem call_word {n many size : Nat} (hm : many ≤ size) (hf : size ≤ 4000) : CallP (GG w mg mb) (n + 2) (.ref 33) [.int (many : Int), .int (size : Int)] (.str (S (ev4 many size))) := by
  have h0 : CallP (GG w mg mb) (1 + 1) (.ref 33) [.int (many : Int), .int (size : Int)] (.str (S (ev4 many size))) :=
    CallP.def (ys := [.int (many : Int), .int (size : Int)]) (names := [Str.ofString "many", Str.ofString "size"]) def33 (BindP.two fun v v' => rfl) rfl (by decide) (fun L x hx => .inl (by
      simp only [List.mem_cons, List.not_mem_nil, or_false] at hx
      rcases hx with rfl | rfl <;> rfl)) fun A L h₀ B => word_body hm hf
  exact h0.more (by omega)
end
end Mine
namespace Mine
def stepsL (ns : List Int) : List Nat := (ns.take 5).map (fun x => (x.fmod 2).toNat)
def textL (ns : List Int) : List Nat := (ns.take 5).map (fun x => 66 + ((x.fdiv 2).fmod 2).toNat) ++ [67, 67, 66]
def oddPV : PV → PV
  | .int x => .int (x.fmod 2)
  | _ => .none
def letPV : PV → PV
  | .int x => .str (S [66 + ((x.fdiv 2).fmod 2).toNat])
  | _ => .none
theorem mod2 (x : Int) : 0 ≤ x.fmod 2 ∧ x.fmod 2 < 2 := ⟨Int.fmod_nonneg_of_pos x (by decide), Int.fmod_lt_of_pos x (by decide)⟩
theorem bc_at : ∀ k : Fin 2, (Str.ofString "BC").cps[k.val]? = some (66 + k.val) := by decide +kernel
theorem sB : Str.ofString "B" = S [66] := by decide
theorem sC : Str.ofString "C" = S [67] := by decide
theorem sBC : Str.ofString "BC" = S [66, 67] := by decide
theorem sCCB : Str.ofString "CCB" = S [67, 67, 66] := by decide
theorem sNil : Str.ofString "" = S [] := by decide
section
variable {w : World} {mg mb : Str → Option Value}
noncomputable abbrev LF (w : World) (mg mb : Str → Option Value) (A : Around) (L fa : Addr) (cd : Value) (h₀ : Heap) (B : Addr → Prop) (n : Nat) : FC :=
  { toGC := GG w mg mb, A := A, env := envOfC (Str.ofString "law") (fdAt (KK w) 38).scope L fa cd, h₀ := h₀, B := B, n := n }
noncomputable def stepB (w : World) : List Stmt := forBody ((bodyOf (fdAt (KK w) 38))[4]?)
abbrev Env4 (s : St4) (sc : PV) : PEnv := [(Str.ofString "low", .val (.list (natsPV [s.a, s.b]))), (Str.ofString "high", .val (.list (natsPV [s.c, s.d]))), (Str.ofString "onward", .val (.list (codesPV (flatL s.on)))), (Str.ofString "backward", .val (.list (codesPV (flatL s.back)))), (Str.ofString "script", .val sc)]
theorem codes_app (a b : List (List Nat)) : codesPV (a ++ b) = codesPV a ++ codesPV b := by simp [codesPV]
theorem codes_len (a : List (List Nat)) : (codesPV a).length = a.length := by simp [codesPV]
theorem two_le (a b : PV) : [a, b].length ≤ sizeLine := by rw [sizeLine_eq]; simp
theorem one_step {A : Around} {L fa : Addr} {cd : Value} {h₀ : Heap} {B : Addr → Prop} {sc : PV} {s : St4} {k : Nat} (hk : k = 0 ∨ k = 1) (h1 : s.on.length ≤ 1000) (h2 : s.back.length ≤ 1000) :
    ExP (LF w mg mb A L fa cd h₀ B 3) ((Str.ofString "step", .val (.int (k : Int))) :: Env4 s sc) (stepB w) (.next (Env4 (stp s k) sc)) := by
  have hz : ∀ p : PairL, (codesPV (flatL s.on)).length + (codesPV [p.1, p.2]).length ≤ sizeLine ∧ (codesPV [p.1, p.2]).length + (codesPV (flatL s.back)).length ≤ sizeLine := fun p => by
    rw [sizeLine_eq, codes_len, codes_len, codes_len, flatL_length, flatL_length]
    simp only [List.length_cons, List.length_nil]; omega
  refine ExP.cons (StP.assign (v := .list (natsPV [s.a + s.c, s.b + s.d])) ((EvP.list (ArgsP.cons (EvP.binop (EvP.itemL (EvP.name rfl) (EvP.int _ _ _) (by decide) (by decide) rfl) (EvP.itemL (EvP.name rfl) (EvP.int _ _ _) (by decide) (by decide) rfl) (Op2.addI _ _)) (ArgsP.cons (EvP.binop (EvP.itemL (EvP.name rfl) (EvP.int _ _ _) (by decide) (by decide) rfl) (EvP.itemL (EvP.name rfl) (EvP.int _ _ _) (by decide) (by decide) rfl) (Op2.addI _ _)) ArgsP.nil)) (by rw [sizeLine_eq]; simp)).to rfl) (.inl rfl)) ?_
  have ep : ∀ p : PairL, codesPV (flatL s.on) ++ codesPV [p.1, p.2] = codesPV (flatL (s.on ++ [p])) ∧ codesPV [p.1, p.2] ++ codesPV (flatL s.back) = codesPV (flatL (p :: s.back)) := fun p => by
    rw [flatL_app, codes_app]; exact ⟨rfl, rfl⟩
  rcases hk with rfl | rfl
  · refine ExP.cons (ρ' := (Str.ofString "pair", .val (.list (codesPV [pC.1, pC.2]))) :: Env4 ⟨s.a, s.b, s.a + s.c, s.b + s.d, s.on, s.back⟩ sc) (StP.ite (b := false) (TrP.cmp (EvP.name rfl) (EvP.int _ _ _) (Op2.eqI _ _)) (fun h => nomatch h) fun _ => ?_) ?_
    · refine ExP.forget (Sub.cons rfl (Sub.cons rfl (Sub.cons rfl (Sub.cons rfl (Sub.cons rfl (Sub.cons rfl Sub.nil)))))) (ExP.cons (StP.assign (EvP.name rfl) (.inl rfl)) (ExP.one (StP.assign (v := .list (codesPV [pC.1, pC.2])) (EvP.list (ArgsP.cons ((EvP.str _ _ _).to (congrArg PV.str sC)) (ArgsP.cons ((EvP.str _ _ _).to (congrArg PV.str sBC)) ArgsP.nil)) (two_le _ _)) (.inl rfl))))
    · exact ExP.forget (Sub.cons rfl (Sub.cons rfl (Sub.cons rfl (Sub.cons rfl (Sub.cons rfl Sub.nil))))) (ExP.cons (StP.assign (v := .list (codesPV (flatL (stp s 0).on))) ((EvP.binop (EvP.name rfl) (EvP.name rfl) (Op2.addL (hz pC).1)).to (congrArg PV.list (ep pC).1)) (.inl rfl)) (ExP.one (StP.assign (v := .list (codesPV (flatL (stp s 0).back))) ((EvP.binop (EvP.name rfl) (EvP.name rfl) (Op2.addL (hz pC).2)).to (congrArg PV.list (ep pC).2)) (.inr ⟨rfl, rfl⟩))))
  · refine ExP.cons (ρ' := (Str.ofString "pair", .val (.list (codesPV [pB.1, pB.2]))) :: Env4 ⟨s.a + s.c, s.b + s.d, s.c, s.d, s.on, s.back⟩ sc) (StP.ite (b := true) (TrP.cmp (EvP.name rfl) (EvP.int _ _ _) (Op2.eqI _ _)) (fun _ => ?_) fun h => nomatch h) ?_
    · refine ExP.forget (Sub.cons rfl (Sub.cons rfl (Sub.cons rfl (Sub.cons rfl (Sub.cons rfl (Sub.cons rfl Sub.nil)))))) (ExP.cons (StP.assign (EvP.name rfl) (.inl rfl)) (ExP.one (StP.assign (v := .list (codesPV [pB.1, pB.2])) (EvP.list (ArgsP.cons ((EvP.str _ _ _).to (congrArg PV.str sB)) (ArgsP.cons ((EvP.str _ _ _).to (congrArg PV.str sBC)) ArgsP.nil)) (two_le _ _)) (.inl rfl))))
    · exact ExP.forget (Sub.cons rfl (Sub.cons rfl (Sub.cons rfl (Sub.cons rfl (Sub.cons rfl Sub.nil))))) (ExP.cons (StP.assign (v := .list (codesPV (flatL (stp s 1).on))) ((EvP.binop (EvP.name rfl) (EvP.name rfl) (Op2.addL (hz pB).1)).to (congrArg PV.list (ep pB).1)) (.inl rfl)) (ExP.one (StP.assign (v := .list (codesPV (flatL (stp s 1).back))) ((EvP.binop (EvP.name rfl) (EvP.name rfl) (Op2.addL (hz pB).2)).to (congrArg PV.list (ep pB).2)) (.inr ⟨rfl, rfl⟩))))
/-- the search -/
theorem law_search {A : Around} {L fa : Addr} {cd : Value} {h₀ : Heap} {B : Addr → Prop} {ns : List Int} {out : Out} (hn : ns.length ≤ 63)
    (hr : ExP (LF w mg mb A L fa cd h₀ B 3) (Env4 (endS (stepsL ns ++ [1, 0, 0])) (.list (intsPV ns))) ((bodyOf (fdAt (KK w) 38)).drop 5) out) :
    ExP (LF w mg mb A L fa cd h₀ B 3) [(Str.ofString "script", .val (.list (intsPV ns)))] (bodyOf (fdAt (KK w) 38)) out := by
  have hz : (intsPV ns).length ≤ sizeLine := by rw [sizeLine_eq]; simp [intsPV]; omega
  refine ExP.cons (StP.assign (EvP.list (ArgsP.cons (EvP.int _ _ _) (ArgsP.cons (EvP.int _ _ _) ArgsP.nil)) (by rw [sizeLine_eq]; simp)) (.inl rfl)) ?_
  refine ExP.cons (StP.assign (EvP.list (ArgsP.cons (EvP.int _ _ _) (ArgsP.cons (EvP.int _ _ _) ArgsP.nil)) (by rw [sizeLine_eq]; simp)) (.inl rfl)) ?_
  refine ExP.cons (StP.assign (EvP.list ArgsP.nil (by rw [sizeLine_eq]; simp)) (.inl rfl)) ?_
  refine ExP.cons (StP.assign (EvP.list ArgsP.nil (by rw [sizeLine_eq]; simp)) (.inr ⟨rfl, rfl⟩)) ?_
  have et : (intsPV ns).take ((5 : Int).toNat) = intsPV (ns.take 5) := by simp [intsPV, List.map_take]
  have hm : ∀ y ∈ intsPV (ns.take 5), ∃ x : Int, y = .int x := fun y hy => by
    obtain ⟨x, _, rfl⟩ := List.mem_map.mp hy; exact ⟨x, rfl⟩
  have hl5 : (intsPV (ns.take 5)).length ≤ 5 := by simp [intsPV]; omega
  have ef : (intsPV (ns.take 5)).map oddPV ++ [.int 1, .int 0, .int 0] = natsPV (stepsL ns ++ [1, 0, 0]) := by
    rw [nats_app]
    congr 1
    unfold intsPV natsPV stepsL
    rw [List.map_map, List.map_map]
    refine List.map_congr_left fun x _ => ?_
    have h2 := mod2 x
    simp only [Function.comp, oddPV]
    congr 1; omega
  have hk : ∀ k ∈ stepsL ns ++ [1, 0, 0], k = 0 ∨ k = 1 := fun k h => by
    rcases List.mem_append.mp h with h | h
    · obtain ⟨x, _, rfl⟩ := List.mem_map.mp h
      have h2 := mod2 x
      omega
    · simp at h; omega
  have hkl : (stepsL ns ++ [1, 0, 0]).length ≤ 8 := by simp [stepsL]; omega
  obtain ⟨s, hs⟩ : ∃ s : St4, s = st0 := ⟨st0, rfl⟩
  have e0 : endS (stepsL ns ++ [1, 0, 0]) = (stepsL ns ++ [1, 0, 0]).foldl stp s := by rw [hs]; rfl
  rw [e0] at hr
  refine ExP.cons (StP.forIn (Env4 s (.list (intsPV ns))) (Sub.cons (by rw [hs]; rfl) (Sub.cons (by rw [hs]; rfl) (Sub.cons (by rw [hs]; rfl) (Sub.cons (by rw [hs]; rfl) (Sub.cons rfl Sub.nil)))))
    ((EvP.binop (EvP.comp0 oddPV ((EvP.takeL (EvP.name rfl) (EvP.int _ _ _) (by decide) hz).to (congrArg PV.list et)) (IterP.list _) (by rw [sizeLine_eq]; omega) (fun y hy => ?_) (fun y hy => ?_) CompOk.bare (fun C y hy => ?_)) (EvP.list (ArgsP.cons (EvP.int _ _ _) (ArgsP.cons (EvP.int _ _ _) (ArgsP.cons (EvP.int _ _ _) ArgsP.nil))) (by rw [sizeLine_eq]; simp)) (Op2.addL (by rw [sizeLine_eq, List.length_map]; simp only [List.length_cons, List.length_nil]; omega))).to (congrArg PV.list ef)) (IterP.list _) ?_) hr
  · obtain ⟨x, rfl⟩ := hm y hy; trivial
  · obtain ⟨x, rfl⟩ := hm y hy; trivial
  · obtain ⟨x, rfl⟩ := hm y hy
    exact EvP.binop (EvP.name rfl) (EvP.int _ _ _) (Op2.modI (by decide))
  have h1 : s.on.length + (stepsL ns ++ [1, 0, 0]).length ≤ 1000 := by rw [hs]; show 0 + _ ≤ 1000; omega
  have h2 : s.back.length + (stepsL ns ++ [1, 0, 0]).length ≤ 1000 := by rw [hs]; show 0 + _ ≤ 1000; omega
  clear hr ef hs e0 hkl
  generalize stepsL ns ++ [1, 0, 0] = ks at *
  induction ks generalizing s with
  | nil => exact ForR.nil
  | cons k ks ih =>
    simp only [List.length_cons] at h1 h2
    have hl : (stp s k).on.length = s.on.length + 1 ∧ (stp s k).back.length = s.back.length + 1 := by unfold stp; split <;> simp
    exact ForR.step (TgtP.name _ (.inl rfl)) (one_step (hk k (List.mem_cons_self ..)) (by omega) (by omega)) (ih (stp s k) (fun x hx => hk x (List.mem_cons_of_mem _ hx)) (by omega) (by omega))
end
end Mine
namespace Mine
theorem text_ok (ns : List Int) : ∀ c ∈ textL ns, c = 66 ∨ c = 67 := fun c h => by
  rcases List.mem_append.mp h with h | h
  · obtain ⟨x, _, rfl⟩ := List.mem_map.mp h
    have h2 := mod2 (x.fdiv 2)
    omega
  · simp at h; omega
theorem text_len (ns : List Int) : (textL ns).length ≤ 8 := by simp [textL]; omega
def replPV (ps : List PairL) : PV → PV
  | .str x => .str (S (rpAll x.cps.toList ps))
  | _ => .none
def pickPV (lo hi : List Nat) : PV → PV
  | .str x => .str (S (if x == S [66] then lo else hi))
  | _ => .none
def onePV (n t : Nat) : PV → Bool
  | .int k => ((n : Int) * k).fmod (t : Int) == 1
  | _ => false
theorem one_filter (n t : Nat) : ∀ l : List Nat, ((natsPV l).filter (onePV n t)).map id = natsPV (l.filter fun k => n * k % t == 1)
  | [] => rfl
  | a :: l => by
    have ih := one_filter n t l
    have e : onePV n t (.int (a : Int)) = (n * a % t == 1) := by
      have e1 : (n : Int) * (a : Int) = ((n * a : Nat) : Int) := by simp
      show (((n : Int) * (a : Int)).fmod (t : Int) == 1) = _
      rw [e1, fmod_nat]
      by_cases h : n * a % t = 1
      · rw [h]; rfl
      · have h' : ¬ ((n * a % t : Nat) : Int) = 1 := by omega
        rw [beq_eq_false_iff_ne.mpr h, beq_eq_false_iff_ne.mpr h']
    show (((PV.int (a : Int)) :: natsPV l).filter (onePV n t)).map id = _
    rw [List.filter_cons, List.filter_cons, e]
    split
    · rw [List.map_cons, ih]; rfl
    · exact ih
theorem flat_pick {lo hi : List Nat} {ps : List PairL} (hl : rpAll [66] ps = lo) (hh : rpAll [67] ps = hi) : ∀ t : List Nat, (∀ c ∈ t, c = 66 ∨ c = 67) → t.flatMap (fun c => rpAll [c] ps) = (t.map fun c => if S [c] == S [66] then lo else hi).flatten
  | [], _ => rfl
  | c :: t, h => by
    rw [List.flatMap_cons, List.map_cons, List.flatten_cons, flat_pick hl hh t fun x hx => h x (List.mem_cons_of_mem _ hx)]
    congr 1
    rcases h c (List.mem_cons_self ..) with rfl | rfl
    · rw [hl, if_pos (by decide)]
    · rw [hh, if_neg (by decide)]
theorem ev4_lt {many size : Nat} (h : many ≤ size) : ∀ n ∈ ev4 many size, n < 1114112 := fun n hn => by
  obtain ⟨f, hf, rfl⟩ := List.mem_map.mp hn
  have := figs4_ok h f hf
  show 65 + f < _
  omega
theorem sum_le (m : Nat) : ∀ l : List Nat, (∀ x ∈ l, x ≤ m) → l.sum ≤ m * l.length
  | [], _ => by simp
  | a :: l, h => by
    have := sum_le m l fun x hx => h x (List.mem_cons_of_mem _ hx)
    have := h a (List.mem_cons_self ..)
    rw [List.sum_cons, List.length_cons, Nat.mul_succ]; omega
section
variable {w : World} {mg mb : Str → Option Value}
theorem law_rest {A : Around} {L fa : Addr} {cd : Value} {h₀ : Heap} {B : Addr → Prop} {ns : List Int} (hn : ns.length ≤ 63) {s : St4} (g : Good4 s) (lo : Letters s.on) (lb : Letters s.back) (hol : s.on.length ≤ 8) (hbl : s.back.length ≤ 8) :
    ExP (LF w mg mb A L fa cd h₀ B 3) (Env4 s (.list (intsPV ns))) ((bodyOf (fdAt (KK w) 38)).drop 5) (.ret (.bool true)) := by
  have hz : (intsPV ns).length ≤ sizeLine := by rw [sizeLine_eq]; simp [intsPV]; omega
  have hsz := g.size
  have hbz : (codesPV (flatL s.back)).length ≤ sizeLine := by rw [sizeLine_eq, codes_len, flatL_length]; omega
  have hoz : (codesPV (flatL s.on)).length ≤ sizeLine := by rw [sizeLine_eq, codes_len, flatL_length]; omega
  refine ExP.cons (StP.assign (v := .str (S (ev4 s.b (s.a + s.b)))) (EvP.call (n := 2) (xs := [.int (s.b : Int), .int ((s.a + s.b : Nat) : Int)]) (HeadP.own rfl rfl) (Calle.own rfl) (ArgsP.cons (EvP.itemL (EvP.name rfl) (EvP.int _ _ _) (by decide) (by decide) rfl) (ArgsP.cons ((EvP.binop (EvP.itemL (EvP.name rfl) (EvP.int _ _ _) (by decide) (by decide) rfl) (EvP.itemL (EvP.name rfl) (EvP.int _ _ _) (by decide) (by decide) rfl) (Op2.addI _ _)).to rfl) ArgsP.nil)) (call_word (by omega) (by omega)) (Nat.le_of_ble_eq_true rfl)) (.inr ⟨rfl, rfl⟩)) ?_
  refine ExP.cons (StP.assign (v := .str (S (ev4 s.d (s.c + s.d)))) (EvP.call (n := 2) (xs := [.int (s.d : Int), .int ((s.c + s.d : Nat) : Int)]) (HeadP.own rfl rfl) (Calle.own rfl) (ArgsP.cons (EvP.itemL (EvP.name rfl) (EvP.int _ _ _) (by decide) (by decide) rfl) (ArgsP.cons ((EvP.binop (EvP.itemL (EvP.name rfl) (EvP.int _ _ _) (by decide) (by decide) rfl) (EvP.itemL (EvP.name rfl) (EvP.int _ _ _) (by decide) (by decide) rfl) (Op2.addI _ _)).to rfl) ArgsP.nil)) (call_word (by omega) (by omega)) (Nat.le_of_ble_eq_true rfl)) (.inr ⟨rfl, rfl⟩)) ?_
  -- the text
  have et : (intsPV ns).take ((5 : Int).toNat) = intsPV (ns.take 5) := by simp [intsPV, List.map_take]
  have hm : ∀ y ∈ intsPV (ns.take 5), ∃ x : Int, y = .int x := fun y hy => by
    obtain ⟨x, _, rfl⟩ := List.mem_map.mp hy; exact ⟨x, rfl⟩
  have hl5 : (intsPV (ns.take 5)).length ≤ 5 := by simp [intsPV]; omega
  refine ExP.cons (StP.assign (v := .str (S (textL ns))) ((EvP.binop (EvP.join (z := S ((ns.take 5).map fun x => 66 + ((x.fdiv 2).fmod 2).toNat)) (ys := ((ns.take 5).map fun x => 66 + ((x.fdiv 2).fmod 2).toNat).map fun c => S [c]) (EvP.str _ _ _) ((EvP.comp0 letPV ((EvP.takeL (EvP.name rfl) (EvP.int _ _ _) (by decide) hz).to (congrArg PV.list et)) (IterP.list _) (by rw [sizeLine_eq]; omega) (fun y hy => ?_) (fun y hy => ?_) CompOk.bare (fun C y hy => ?_)).to ?_) ?_ ?_) ((EvP.str _ _ _).to (congrArg PV.str sCCB)) (Op2.addS ?_)).to (congrArg PV.str (S_app _ _))) (.inl rfl)) ?_
  · obtain ⟨x, rfl⟩ := hm y hy; trivial
  · obtain ⟨x, rfl⟩ := hm y hy; trivial
  · obtain ⟨x, rfl⟩ := hm y hy
    have h2 := mod2 (x.fdiv 2)
    exact EvP.itemS (n := 66 + ((x.fdiv 2).fmod 2).toNat) (EvP.str _ _ _) (EvP.binop (EvP.binop (EvP.name rfl) (EvP.int _ _ _) (Op2.divI (by decide) (PyProof.noPylong_small (by decide)))) (EvP.int _ _ _) (Op2.modI (by decide))) h2.1 (by omega) (bc_at ⟨((x.fdiv 2).fmod 2).toNat, by omega⟩)
  · unfold intsPV strsPV
    rw [List.map_map, List.map_map, List.map_map]
    rfl
  · rw [sum_signs, List.length_map, List.length_map, sNil, S_length]; simp; omega
  · rw [sNil]; exact join_signs _
  · rw [S_length, S_length, sizeLine_eq, List.length_map]; simp; omega
  have htok := text_ok ns
  have htl := text_len ns
  generalize textL ns = text at *
  -- the parts
  have hfit : FitsL text s.back := fits_letters s.back text lb (by
    have h1 : 2 ^ s.back.length ≤ 2 ^ 8 := Nat.pow_le_pow_right (by decide) hbl
    have h2 : text.length * 2 ^ s.back.length ≤ 8 * 2 ^ 8 := Nat.mul_le_mul htl h1
    omega)
  have eparts : (codesPV [[66], [67], text]).map (replPV s.back) = codesPV [ev4 s.b (s.a + s.b), ev4 s.d (s.c + s.d), rpAll text s.back] := by
    simp only [codesPV, List.map_cons, List.map_nil, replPV, S_toList, g.lo.2, g.hi.2]
  have himm : ∀ y ∈ codesPV [[66], [67], text], ∃ l : List Nat, FitsL l s.back ∧ y = .str (S l) := fun y hy => by
    obtain ⟨l, hl, rfl⟩ := List.mem_map.mp hy
    refine ⟨l, ?_, rfl⟩
    simp only [List.mem_cons, List.not_mem_nil, or_false] at hl
    rcases hl with rfl | rfl | rfl
    · exact g.lo.1
    · exact g.hi.1
    · exact hfit
  have eparts' : ((codesPV [[66], [67], text]).filter fun _ => true).map (replPV s.back) = codesPV [ev4 s.b (s.a + s.b), ev4 s.d (s.c + s.d), rpAll text s.back] := by
    rw [List.filter_eq_self.mpr (fun _ _ => rfl)]; exact eparts
  refine ExP.cons (ρ' := (Str.ofString "parts", .val (.list (codesPV [ev4 s.b (s.a + s.b), ev4 s.d (s.c + s.d), rpAll text s.back]))) :: (Str.ofString "text", .val (.str (S text))) :: (Str.ofString "lower", .val (.str (S (ev4 s.b (s.a + s.b))))) :: (Str.ofString "upper", .val (.str (S (ev4 s.d (s.c + s.d))))) :: Env4 s (.list (intsPV ns))) (StP.forget ?_ (StP.assignComp (cl := [(Str.ofString "backward", L + 1)]) (ρ' := [(Str.ofString "backward", .val (.list (codesPV (flatL s.back))))]) (fun _ => true) (replPV s.back) ((EvP.list (ArgsP.cons ((EvP.str _ _ _).to (congrArg PV.str sB)) (ArgsP.cons ((EvP.str _ _ _).to (congrArg PV.str sC)) (ArgsP.cons (EvP.name rfl) ArgsP.nil))) (by rw [sizeLine_eq]; simp)).to (y := .list (codesPV [[66], [67], text])) rfl) (IterP.list _) ?_ ?_ ?_ ?_ (fun C y hy => IfsP.nil) (fun C y hy _ => ?_))) ?_
  · refine Sub.cons ?_ (Sub.cons rfl (Sub.cons rfl (Sub.cons rfl (Sub.cons rfl (Sub.cons rfl (Sub.cons rfl (Sub.cons rfl (Sub.cons rfl Sub.nil))))))))
    rw [eparts']; rfl
  · rw [sizeLine_eq, codes_len]; simp
  · intro y hy; obtain ⟨l, _, rfl⟩ := himm y hy; trivial
  · intro y hy; obtain ⟨l, _, rfl⟩ := himm y hy; trivial
  · exact CompOk.caps (all_cons rfl all_nil) (all_cons ⟨⟨_, rfl⟩, rfl, rfl, rfl, rfl⟩ all_nil)
  · obtain ⟨l, hl, rfl⟩ := himm y hy
    exact EvP.call (n := 1) (HeadP.own rfl rfl) (Calle.own rfl) (ArgsP.cons (EvP.name rfl) (ArgsP.star (EvP.name rfl) ArgsP.nil hbz)) (by rw [List.append_nil]; exact call_rep hl (by omega)) (Nat.le_of_ble_eq_true rfl)
  -- the parts told apart
  have hjoin : rpAll text s.back = (text.map fun c => if S [c] == S [66] then ev4 s.b (s.a + s.b) else ev4 s.d (s.c + s.d)).flatten := by
    rw [rpAll_flat s.back lb text]
    exact flat_pick g.lo.2 g.hi.2 text htok
  have hlt : ∀ l ∈ [ev4 s.b (s.a + s.b), ev4 s.d (s.c + s.d), rpAll text s.back], ∀ n ∈ l, n < 1114112 := fun l hl n hnl => by
    simp only [List.mem_cons, List.not_mem_nil, or_false] at hl
    rcases hl with rfl | rfl | rfl
    · exact ev4_lt (by omega) n hnl
    · exact ev4_lt (by omega) n hnl
    · rw [hjoin] at hnl
      obtain ⟨l, hl, hnl⟩ := List.mem_flatten.mp hnl
      obtain ⟨c, _, rfl⟩ := List.mem_map.mp hl
      split at hnl
      · exact ev4_lt (by omega) n hnl
      · exact ev4_lt (by omega) n hnl
  have hsig : ∀ y ∈ signsPV (S text), ∃ c : Nat, c ∈ text ∧ y = .str (S [c]) := fun y hy => by
    obtain ⟨c, hc, rfl⟩ := List.mem_map.mp hy
    exact ⟨c, hc, rfl⟩
  have esig : (signsPV (S text)).map (pickPV (ev4 s.b (s.a + s.b)) (ev4 s.d (s.c + s.d))) = strsPV ((text.map fun c => if S [c] == S [66] then ev4 s.b (s.a + s.b) else ev4 s.d (s.c + s.d)).map S) := by
    unfold signsPV strsPV
    rw [S_toList, List.map_map, List.map_map, List.map_map]
    rfl
  refine ExP.cons (StP.ite (b := false) (TrP.cmp (EvP.name rfl) ((EvP.list (ArgsP.cons (EvP.name rfl) (ArgsP.cons (EvP.name rfl) (ArgsP.cons (EvP.join (z := S (rpAll text s.back)) (ys := (text.map fun c => if S [c] == S [66] then ev4 s.b (s.a + s.b) else ev4 s.d (s.c + s.d)).map S) (EvP.str _ _ _) ((EvP.comp0 (cl := [(Str.ofString "upper", L + 3), (Str.ofString "lower", L + 2)]) (ρ' := [(Str.ofString "lower", .val (.str (S (ev4 s.b (s.a + s.b))))), (Str.ofString "upper", .val (.str (S (ev4 s.d (s.c + s.d)))))]) (pickPV (ev4 s.b (s.a + s.b)) (ev4 s.d (s.c + s.d))) (EvP.name rfl) (IterP.str _) ?_ ?_ ?_ ?_ (fun C y hy => ?_)).to (congrArg PV.list esig)) ?_ ?_) ArgsP.nil))) (by rw [sizeLine_eq]; simp)).to (y := .list (codesPV [ev4 s.b (s.a + s.b), ev4 s.d (s.c + s.d), rpAll text s.back])) rfl) ((Op2.neSs _ _ hlt hlt).to (by simp))) (fun h => nomatch h) fun _ => ExP.nil) ?_
  · rw [sizeLine_eq]; simp [signsPV, S]; omega
  · intro y hy; obtain ⟨c, _, rfl⟩ := hsig y hy; trivial
  · intro y hy; obtain ⟨c, _, rfl⟩ := hsig y hy; trivial
  · exact CompOk.caps (all_cons rfl (all_cons rfl all_nil)) (all_cons ⟨⟨_, rfl⟩, rfl, rfl, rfl, rfl⟩ (all_cons ⟨⟨_, rfl⟩, rfl, rfl, rfl, rfl⟩ all_nil))
  · obtain ⟨c, hc, rfl⟩ := hsig y hy
    refine EvP.ifexp (b := S [c] == S [66]) (TrP.cmp (EvP.name rfl) ((EvP.str _ _ _).to (congrArg PV.str sB)) (Op2.eqS _ _)) (fun h => ?_) (fun h => ?_)
    · exact (EvP.name rfl).to (by simp only [pickPV]; rw [if_pos h])
    · exact (EvP.name rfl).to (by simp only [pickPV]; rw [if_neg (by rw [h]; simp)])
  · rw [sNil, S_length, List.map_map]
    have := sum_le 200 (List.map ((fun x => x.length) ∘ S) (text.map fun c => if S [c] == S [66] then ev4 s.b (s.a + s.b) else ev4 s.d (s.c + s.d))) (fun x hx => by
      obtain ⟨l, hl, rfl⟩ := List.mem_map.mp hx
      obtain ⟨c, _, rfl⟩ := List.mem_map.mp hl
      show (S _).length ≤ 200
      rw [S_length]
      split
      · rw [ev4, List.length_map, figs4_len]; omega
      · rw [ev4, List.length_map, figs4_len]; omega)
    rw [List.length_map, List.length_map] at this
    simp only [List.length_nil, Nat.mul_zero, Nat.add_zero]
    omega
  · rw [sNil, join_nil, hjoin]
  -- the middle
  refine ExP.cons (StP.assign (v := .int ((s.b + s.d : Nat) : Int)) ((EvP.binop (EvP.itemL (EvP.name rfl) (EvP.int _ _ _) (by decide) (by decide) rfl) (EvP.itemL (EvP.name rfl) (EvP.int _ _ _) (by decide) (by decide) rfl) (Op2.addI _ _)).to rfl) (.inr ⟨rfl, rfl⟩)) ?_
  refine ExP.cons (StP.assign (v := .int ((s.a + s.c + (s.b + s.d) : Nat) : Int)) ((EvP.binop (EvP.binop (EvP.itemL (EvP.name rfl) (EvP.int _ _ _) (by decide) (by decide) rfl) (EvP.itemL (EvP.name rfl) (EvP.int _ _ _) (by decide) (by decide) rfl) (Op2.addI _ _)) (EvP.name rfl) (Op2.addI _ _)).to rfl) (.inr ⟨rfl, rfl⟩)) ?_
  obtain ⟨k, r, hk1, hk2, hk3, hk4⟩ := g.inv
  have hmid := g.mid
  have hpos := g.pos
  have hct : s.b + s.d ≤ s.a + s.c + (s.b + s.d) := by omega
  generalize s.a + s.c + (s.b + s.d) = t at *
  generalize s.b + s.d = n at *
  refine ExP.cons (StP.ite (b := false) (TrP.cmp (EvP.call (n := 1) (HeadP.own rfl rfl) (Calle.own rfl) (ArgsP.cons ((EvP.str _ _ _).to (congrArg PV.str sBC)) (ArgsP.star (EvP.name rfl) ArgsP.nil hbz)) (by rw [List.append_nil]; exact call_rep hmid.1 (by omega)) (Nat.le_of_ble_eq_true rfl)) (EvP.call (n := 2) (HeadP.own rfl rfl) (Calle.own rfl) (ArgsP.cons (EvP.name rfl) (ArgsP.cons (EvP.name rfl) ArgsP.nil)) (call_word hct (by omega)) (Nat.le_of_ble_eq_true rfl)) ((Op2.neS _ _).to (by rw [hmid.2]; simp))) (fun h => nomatch h) fun _ => ExP.nil) ?_
  have hnm : ∀ y ∈ natsPV (List.range t), ∃ a : Nat, a < t ∧ y = .int (a : Int) := fun y hy => by
    obtain ⟨a, ha, rfl⟩ := List.mem_map.mp hy; exact ⟨a, List.mem_range.mp ha, rfl⟩
  have hbit : ∀ x : Nat, x ≤ 5000 → Builtin.Int.intBits (x : Int) ≤ 64 := fun x hx => PySem.intBits_cast_le (by rw [sizeLine_eq]; omega)
  have einv : ((rangePV 0 1 t).filter (onePV n t)).map id = natsPV (k :: r) := by
    rw [range_nats, one_filter, ← hk1]; rfl
  refine ExP.cons (StP.assign (v := .int (k : Int)) (EvP.itemL (xs := natsPV (k :: r)) ((EvP.comp (cl := [(Str.ofString "total", L + 5), (Str.ofString "count", L + 4)]) (ρ' := [(Str.ofString "count", .val (.int (n : Int))), (Str.ofString "total", .val (.int (t : Int)))]) (onePV n t) id (EvP.call (n := 0) (HeadP.boot rfl rfl boot_range) (Calle.type _) (ArgsP.cons (EvP.name rfl) ArgsP.nil) (CallP.range1 _) (Nat.zero_le _)) (IterP.range (k := t) (small_one (by decide) (by decide) (by omega) (by omega)) (by rw [range_any]; omega)) ?_ ?_ ?_ ?_ (fun C y hy => ?_) (fun C y hy hq => EvP.name rfl)).to (congrArg PV.list einv)) (EvP.int _ _ _) (by decide) (by decide) rfl) (.inl rfl)) ?_
  · rw [sizeLine_eq, rangePV_length]; omega
  · intro y hy; rw [range_nats] at hy; obtain ⟨a, _, rfl⟩ := hnm y hy; trivial
  · intro y hy; rw [range_nats] at hy; obtain ⟨a, _, rfl⟩ := hnm y hy; trivial
  · exact CompOk.caps (all_cons rfl (all_cons rfl all_nil)) (all_cons ⟨⟨_, rfl⟩, rfl, rfl, rfl, rfl⟩ (all_cons ⟨⟨_, rfl⟩, rfl, rfl, rfl, rfl⟩ all_nil))
  · rw [range_nats] at hy
    obtain ⟨a, ha, rfl⟩ := hnm y hy
    exact IfsP.one (TrP.cmp (EvP.binop (EvP.binop (EvP.name rfl) (EvP.name rfl) (Op2.mulI (IntMulOk.of_left (hbit n (by omega))))) (EvP.name rfl) (Op2.modI (by omega))) (EvP.int _ _ _) (Op2.eqI _ _))
  exact ExP.ret (StP.ret ((EvP.cmp (EvP.call (n := 1) (HeadP.own rfl rfl) (Calle.own rfl) (ArgsP.cons ((EvP.str _ _ _).to (congrArg PV.str sBC)) (ArgsP.star (EvP.name rfl) ArgsP.nil hoz)) (by rw [List.append_nil]; exact call_rep hk3 (by omega)) (Nat.le_of_ble_eq_true rfl)) (EvP.call (n := 2) (HeadP.own rfl rfl) (Calle.own rfl) (ArgsP.cons (EvP.name rfl) (ArgsP.cons (EvP.name rfl) ArgsP.nil)) (call_word (Nat.le_of_lt hk2) (by omega)) (Nat.le_of_ble_eq_true rfl)) (Op2.eqS _ _)).to (by rw [hk4]; simp)))
end
end Mine
namespace Mine
theorem law_whole {w : World} {mg mb : Str → Option Value} {A : Around} {L fa : Addr} {cd : Value} {h₀ : Heap} {B : Addr → Prop} {ns : List Int} (hn : ns.length ≤ 63) :
    ExP (LF w mg mb A L fa cd h₀ B 3) [(Str.ofString "script", .val (.list (intsPV ns)))] (bodyOf (fdAt (KK w) 38)) (.ret (.bool true)) := by
  refine law_search hn ?_
  have hkl : (stepsL ns).length ≤ 5 := by simp [stepsL]; omega
  have hk : ∀ k ∈ stepsL ns, k = 0 ∨ k = 1 := fun k h => by
    obtain ⟨x, _, rfl⟩ := List.mem_map.mp h
    have h2 := mod2 x
    omega
  obtain ⟨h1, h2, h3, h4⟩ := letters_st (stepsL ns ++ [1, 0, 0]) st0 (fun _ h => nomatch h) (fun _ h => nomatch h)
  have hl : (stepsL ns ++ [1, 0, 0]).length ≤ 8 := by rw [List.length_append]; simp only [List.length_cons, List.length_nil]; omega
  have e1 : st0.back.length = 0 := rfl
  have e2 : st0.on.length = 0 := rfl
  exact law_rest hn (good4 hkl hk) h1 h2 (by unfold endS; omega) (by unfold endS; omega)
theorem cellsOf {h₀ h : Heap} {L : Addr} {cm : Str → Option Value} : ∀ {cs : List (Str × Addr)} {cells : List (Addr × Obj)}, CellsAre cm cs cells → (∀ p ∈ cells, h.get? p.1 = some p.2) → ∀ n b, cs.lookup n = some b → h.IsCell b (cm n)
  | _, _, .nil, _, n, b, e => nomatch e
  | _, _, .cons (n := n') hd X, hg, n, b, e => by
    rw [List.lookup_cons] at e
    cases hb : n == n' with
    | true => rw [hb] at e; cases e; rw [eq_of_beq hb]; exact ⟨_, hg _ (List.mem_cons_self ..), hd⟩
    | false => rw [hb] at e; exact cellsOf (h₀ := h₀) (L := L) X (fun p hp => hg p (List.mem_cons_of_mem _ hp)) n b e
theorem lawStart {w : World} {mg mb : Str → Option Value} {s₁ : Shared} {mean : ExcName → Option Value} {h₁ : Heap} {a fa : Addr} {cd : Value} {P : Params} {vs : List Value} {ns : List Int} {tk : Nat} {m cm : Str → Option Value} {cells : List (Addr × Obj)} {Q : Flow → Shared → Prop} {E : Value → Shared → Prop} (KX : (KK w).In s₁.heap) (T : Top hd04.view_39 (looseW hd04.view_39 []) mean mg mb s₁.heap)
    (F : Fr s₁.heap s₁.heap.objs.size h₁ m) (N : News s₁.heap s₁.heap.objs.size h₁ cells) (X : CellsAre cm (cellsFrom (s₁.heap.objs.size + 1) (fdAt (KK w) 38).scope.names []) cells) (hm : m (Str.ofString "script") = some (.ref a)) (hI : IntsAre vs ns) (hW : Well P s₁.heap (.ref a) (ofPy (PyData.list (ns.map PyData.int)))) (hL : s₁.heap.IsList a vs.toArray) (hn : ns.length ≤ 63)
    (hQ : ∀ h' tk, Ext s₁.heap h' → Q (.ret (.bool true)) { s₁ with heap := h', toks := tk }) :
    wpAny (model PySem.Challenge.rw_ph0004_04.row.prog w) (callerA.deeper (envOfC (Str.ofString "law") (fdAt (KK w) 38).scope s₁.heap.objs.size fa cd)) (execs (bodyOf (fdAt (KK w) 38)) (envOfC (Str.ofString "law") (fdAt (KK w) 38).scope s₁.heap.objs.size fa cd)) Q E { s₁ with heap := h₁, toks := tk } := by
  have hroom : ∀ env, Room (callerA.deeper env) 3 := fun env => ⟨rfl, by show 1 + claimMargin + 1 + 3 < 900; decide, by show 4 + 3 + 10 * 3 < 9000; decide⟩
  have hcs : (cellsFrom (s₁.heap.objs.size + 1) (fdAt (KK w) 38).scope.names []) = [(Str.ofString "total", s₁.heap.objs.size + 5), (Str.ofString "count", s₁.heap.objs.size + 4), (Str.ofString "upper", s₁.heap.objs.size + 3), (Str.ofString "lower", s₁.heap.objs.size + 2), (Str.ofString "backward", s₁.heap.objs.size + 1)] := rfl
  have hone : ∀ n b, (cellsFrom (s₁.heap.objs.size + 1) (fdAt (KK w) 38).scope.names []).lookup n = some b → (n = Str.ofString "total" ∧ b = s₁.heap.objs.size + 5) ∨ (n = Str.ofString "count" ∧ b = s₁.heap.objs.size + 4) ∨ (n = Str.ofString "upper" ∧ b = s₁.heap.objs.size + 3) ∨ (n = Str.ofString "lower" ∧ b = s₁.heap.objs.size + 2) ∨ (n = Str.ofString "backward" ∧ b = s₁.heap.objs.size + 1) := fun n b e => by
    rw [hcs] at e
    have := mem_of_lookup e
    simp only [List.mem_cons, List.not_mem_nil, or_false, Prod.mk.injEq] at this
    exact this
  have hfresh : (LF w mg mb (callerA.deeper (envOfC (Str.ofString "law") (fdAt (KK w) 38).scope s₁.heap.objs.size fa cd)) s₁.heap.objs.size fa cd s₁.heap (fun _ => False) 3).Fresh :=
    ⟨get_size _, fun n a e => by
      have hle : s₁.heap.objs.size ≤ a := by
        rcases hone n a e with ⟨_, rfl⟩ | ⟨_, rfl⟩ | ⟨_, rfl⟩ | ⟨_, rfl⟩ | ⟨_, rfl⟩ <;> omega
      exact Heap.get?_none_of_le hle, fun n n' a e e' => by
      rcases hone n a e with ⟨rfl, h1⟩ | ⟨rfl, h1⟩ | ⟨rfl, h1⟩ | ⟨rfl, h1⟩ | ⟨rfl, h1⟩ <;>
      rcases hone n' a e' with ⟨rfl, h2⟩ | ⟨rfl, h2⟩ | ⟨rfl, h2⟩ | ⟨rfl, h2⟩ | ⟨rfl, h2⟩ <;>
      first | rfl | exact absurd (Nat.add_left_cancel (h1.symm.trans h2)) (by decide)⟩
  have hinv := startInv (c := LF w mg mb (callerA.deeper (envOfC (Str.ofString "law") (fdAt (KK w) 38).scope s₁.heap.objs.size fa cd)) s₁.heap.objs.size fa cd s₁.heap (fun _ => False) 3) ⟨rfl, rfl, rfl, hroom _, ⟨KX, topRead_of T⟩⟩ (fun _ q => q) (cellsOf (h₀ := s₁.heap) (L := 0) X fun p hp => (N p hp).1) F hm rfl (scriptRep hW hL hI)
  exact finishLaw (s := { s₁ with heap := h₁, toks := tk }) (law_whole hn) hfresh hinv fun h' tk' hk => hQ h' tk' hk
end Mine
theorem PySem.Challenge.cw_ph0004_04_holds : PySem.Challenge.rw_ph0004_04.Holds :=
  hd04 (by
  k_go0
  (all_goals try k_fold)
  rename Frag.In _ _ => KX
  rename Top _ _ _ _ _ _ => T
  rename Fr _ _ _ _ => F
  rename News _ _ _ _ => N
  rename CellsAre _ _ _ => X
  rename IntsAre _ _ => hI
  rename Well _ _ _ _ => hW
  rename Heap.IsList _ _ _ => hL
  rename _ = #[] => hg
  rename ¬ _ => hn
  refine Mine.lawStart KX T F N X rfl hI hW hL (by omega) fun h' tk hk => ?_
  exact ⟨.inl ⟨.bool true, .bool true, [], rfl, fun cls => rfl, .bool true, postW_of rfl (w_eq_bool (w_res rfl) w_lit) rfl, fun _ => ⟨List.nodup_nil, fun a h => nomatch h⟩⟩, hk, rfl, hg⟩)
