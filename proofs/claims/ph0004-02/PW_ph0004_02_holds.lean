import PyProof.Rows.All
import Wide.All
import OpenK.AllK
import Wide.FinOn
import PySem.Challenge.RW_ph0004_02
open PySem PySem.W PySem.Calls PyProof.Rows
set_option Elab.async false
set_option linter.unusedVariables false
set_option autoImplicit false
set_option maxRecDepth 100000
set_option maxHeartbeats 8000000
namespace Mine

/-- pure data -/
inductive PV where
  | none
  | bool (b : Bool)
  | int (i : Int)
  | str (s : Str)
  | bytes (b : Array UInt8)
  | list (xs : List PV)
  | tuple (xs : List PV)
  | range (a b c : Int)
deriving Inhabited

def Ext (h h' : Heap) : Prop := ∀ b o, h.get? b = some o → h'.get? b = some o
theorem Ext.refl (h : Heap) : Ext h h := fun _ _ e => e
theorem Ext.trans {h h' h'' : Heap} (x : Ext h h') (y : Ext h' h'') : Ext h h'' := fun b o e => y b o (x b o e)
theorem Ext.push (h : Heap) (o : Obj) : Ext h (h.push o) := fun _ _ e => Heap.get?_push_of_some o e
theorem get_lt {h : Heap} {a : Addr} {o : Obj} (e : h.get? a = some o) : a < h.objs.size := Heap.lt_size e

def Solid (o : Obj) : Prop := (∃ xs n, o.data = .seq xs n) ∨ (o.cls = .type "range" ∧ ∃ vs, o.data = .fields vs)
theorem Solid.no_dict {o : Obj} (s : Solid o) {es : Array DictEntry} {ep : Nat} : o.data ≠ .dict es ep := fun e => by
  rcases s with ⟨_, _, q⟩ | ⟨_, _, q⟩ <;> (rw [e] at q; cases q)
theorem Solid.no_cell {o : Obj} (s : Solid o) {v : Option Value} : o.data ≠ .cell v := fun e => by
  rcases s with ⟨_, _, q⟩ | ⟨_, _, q⟩ <;> (rw [e] at q; cases q)
theorem Solid.no_iter {o : Obj} (s : Solid o) {vs : Array Value} (hd : o.data = .fields vs) (hc : o.cls ≠ .type "range") : False := by
  rcases s with ⟨_, _, q⟩ | ⟨q, _⟩
  · rw [hd] at q; cases q
  · exact hc q

def PlainTup (h : Heap) (a : Addr) (items : Array Value) : Prop := ∃ n, h.get? a = some { cls := .type "tuple", data := .seq items n }
/-- a value that stands for a datum; its objects are none of O -/
inductive Rep (O : Addr → Prop) (h : Heap) : Value → PV → Prop where
  | none : Rep O h .none .none
  | bool (b : Bool) : Rep O h (.bool b) (.bool b)
  | int (i : Int) (t : Tok) : Rep O h (.int i t) (.int i)
  | str (s : Str) (t : Tok) : Rep O h (.str s t) (.str s)
  | bytes (b : Array UInt8) (t : Tok) : Rep O h (.bytes b t) (.bytes b)
  | list {a : Addr} {vs : List Value} {xs : List PV} : ¬ O a → h.PlainList a vs.toArray → vs.length = xs.length →
      (∀ (i : Nat) (v : Value) (x : PV), vs[i]? = some v → xs[i]? = some x → Rep O h v x) → Rep O h (.ref a) (.list xs)
  | tuple {a : Addr} {vs : List Value} {xs : List PV} : ¬ O a → PlainTup h a vs.toArray → vs.length = xs.length →
      (∀ (i : Nat) (v : Value) (x : PV), vs[i]? = some v → xs[i]? = some x → Rep O h v x) → Rep O h (.ref a) (.tuple xs)
  | range {r : Addr} {a b c : Int} {t u v : Tok} : ¬ O r → IsRange h r a b c t u v → Rep O h (.ref r) (.range a b c)

def RepL (O : Addr → Prop) (h : Heap) (vs : List Value) (xs : List PV) : Prop :=
  vs.length = xs.length ∧ ∀ (i : Nat) (v : Value) (x : PV), vs[i]? = some v → xs[i]? = some x → Rep O h v x

theorem RepL.nil {O : Addr → Prop} {h : Heap} : RepL O h [] [] := ⟨rfl, fun _ _ _ e => by simp at e⟩
theorem RepL.cons {O : Addr → Prop} {h : Heap} {v : Value} {vs : List Value} {x : PV} {xs : List PV} (a : Rep O h v x) (b : RepL O h vs xs) : RepL O h (v :: vs) (x :: xs) := by
  refine ⟨by simp [b.1], fun i w y e e' => ?_⟩
  cases i with
  | zero => simp at e e'; subst e; subst e'; exact a
  | succ i => simp at e e'; exact b.2 i w y e e'
theorem RepL.cons_inv {O : Addr → Prop} {h : Heap} {vs : List Value} {x : PV} {xs : List PV} (a : RepL O h vs (x :: xs)) : ∃ v vs', vs = v :: vs' ∧ Rep O h v x ∧ RepL O h vs' xs := by
  cases vs with
  | nil => have := a.1; simp at this
  | cons v vs => exact ⟨v, vs, rfl, a.2 0 v x rfl rfl, by have := a.1; simpa using this, fun i w y e e' => a.2 (i + 1) w y (by simpa using e) (by simpa using e')⟩
theorem RepL.nil_inv {O : Addr → Prop} {h : Heap} {vs : List Value} (a : RepL O h vs []) : vs = [] := List.eq_nil_of_length_eq_zero a.1
theorem RepL.append {O : Addr → Prop} {h : Heap} {vs ws : List Value} {xs ys : List PV} (a : RepL O h vs xs) (b : RepL O h ws ys) : RepL O h (vs ++ ws) (xs ++ ys) := by
  induction vs generalizing xs with
  | nil => cases xs with
    | nil => exact b
    | cons x xs => have := a.1; simp at this
  | cons v vs ih => cases xs with
    | nil => have := a.1; simp at this
    | cons x xs =>
      obtain ⟨v', vs', e, r, q⟩ := a.cons_inv
      cases e
      exact RepL.cons r (ih q)
theorem RepL.drop {O : Addr → Prop} {h : Heap} {vs : List Value} {xs : List PV} (a : RepL O h vs xs) (n : Nat) : RepL O h (vs.drop n) (xs.drop n) :=
  ⟨by simp [a.1], fun i v x e e' => a.2 (n + i) v x (by simpa using e) (by simpa using e')⟩
theorem RepL.take {O : Addr → Prop} {h : Heap} {vs : List Value} {xs : List PV} (a : RepL O h vs xs) (n : Nat) : RepL O h (vs.take n) (xs.take n) :=
  ⟨by simp [a.1], fun i v x e e' => by
    rw [List.getElem?_take] at e e'
    split at e
    · rename_i q; rw [if_pos q] at e'; exact a.2 i v x e e'
    · cases e⟩
theorem RepL.reverse {O : Addr → Prop} {h : Heap} {vs : List Value} {xs : List PV} (a : RepL O h vs xs) : RepL O h vs.reverse xs.reverse := by
  induction vs generalizing xs with
  | nil => cases xs with
    | nil => exact .nil
    | cons x xs => have := a.1; simp at this
  | cons v vs ih => cases xs with
    | nil => have := a.1; simp at this
    | cons x xs =>
      obtain ⟨v', vs', e, r, q⟩ := a.cons_inv
      cases e
      simp only [List.reverse_cons]
      exact (ih q).append (.cons r .nil)

theorem solid_list {o : Obj} {xs : Array Value} {n : Nat} (hd : o.data = .seq xs n) : Solid o := .inl ⟨_, _, hd⟩
theorem Rep.mono {O O' : Addr → Prop} {h h' : Heap} {v : Value} {x : PV} (r : Rep O h v x) (hO : ∀ b o, ¬ O b → h.get? b = some o → ¬ O' b)
    (hk : ∀ b o, ¬ O b → Solid o → h.get? b = some o → h'.get? b = some o) : Rep O' h' v x := by
  induction r with
  | none => exact .none
  | bool b => exact .bool b
  | int i t => exact .int i t
  | str s t => exact .str s t
  | bytes b t => exact .bytes b t
  | list ho hl hn _ ih =>
    obtain ⟨n, e⟩ := hl
    exact .list (hO _ _ ho e) ⟨n, hk _ _ ho (solid_list rfl) e⟩ hn ih
  | tuple ho hl hn _ ih =>
    obtain ⟨n, e⟩ := hl
    exact .tuple (hO _ _ ho e) ⟨n, hk _ _ ho (solid_list rfl) e⟩ hn ih
  | range ho hr =>
    exact .range (hO _ _ ho hr) (hk _ _ ho (.inr ⟨rfl, _, rfl⟩) hr)
theorem Rep.ext {O : Addr → Prop} {h h' : Heap} {v : Value} {x : PV} (r : Rep O h v x) (hk : Ext h h') : Rep O h' v x :=
  r.mono (fun _ _ a _ => a) fun b o _ _ e => hk b o e
theorem RepL.mono {O O' : Addr → Prop} {h h' : Heap} {vs : List Value} {xs : List PV} (r : RepL O h vs xs) (hO : ∀ b o, ¬ O b → h.get? b = some o → ¬ O' b)
    (hk : ∀ b o, ¬ O b → Solid o → h.get? b = some o → h'.get? b = some o) : RepL O' h' vs xs := ⟨r.1, fun i v x e e' => (r.2 i v x e e').mono hO hk⟩
theorem RepL.ext {O : Addr → Prop} {h h' : Heap} {vs : List Value} {xs : List PV} (r : RepL O h vs xs) (hk : Ext h h') : RepL O h' vs xs :=
  ⟨r.1, fun i v x e e' => (r.2 i v x e e').ext hk⟩
theorem Rep.list' {O : Addr → Prop} {h : Heap} {a : Addr} {vs : List Value} {xs : List PV} (ho : ¬ O a) (hl : h.PlainList a vs.toArray) (r : RepL O h vs xs) : Rep O h (.ref a) (.list xs) := .list ho hl r.1 r.2
theorem Rep.tuple' {O : Addr → Prop} {h : Heap} {a : Addr} {vs : List Value} {xs : List PV} (ho : ¬ O a) (hl : PlainTup h a vs.toArray) (r : RepL O h vs xs) : Rep O h (.ref a) (.tuple xs) := .tuple ho hl r.1 r.2
theorem Rep.list_inv' {O : Addr → Prop} {h : Heap} {v : Value} {xs : List PV} (r : Rep O h v (.list xs)) : ∃ a vs n, v = .ref a ∧ ¬ O a ∧ h.get? a = some { cls := .type "list", data := .seq (List.toArray vs) n } ∧ RepL O h vs xs := by
  cases r with
  | list ho hl hn ih => obtain ⟨n, e⟩ := hl; exact ⟨_, _, n, rfl, ho, e, hn, ih⟩
theorem Rep.list_inv {O : Addr → Prop} {h : Heap} {v : Value} {xs : List PV} (r : Rep O h v (.list xs)) : ∃ a vs, v = .ref a ∧ ¬ O a ∧ h.IsList a vs.toArray ∧ RepL O h vs xs := by
  obtain ⟨a, vs, n, e, ho, hg, rl⟩ := r.list_inv'
  exact ⟨a, vs, e, ho, ⟨_, hg, rfl, n, rfl⟩, rl⟩
theorem Rep.tuple_inv' {O : Addr → Prop} {h : Heap} {v : Value} {xs : List PV} (r : Rep O h v (.tuple xs)) : ∃ a vs n, v = .ref a ∧ ¬ O a ∧ h.get? a = some { cls := .type "tuple", data := .seq (List.toArray vs) n } ∧ RepL O h vs xs := by
  cases r with
  | tuple ho hl hn ih => obtain ⟨n, e⟩ := hl; exact ⟨_, _, n, rfl, ho, e, hn, ih⟩
theorem Rep.tuple_inv {O : Addr → Prop} {h : Heap} {v : Value} {xs : List PV} (r : Rep O h v (.tuple xs)) : ∃ a vs, v = .ref a ∧ ¬ O a ∧ h.IsTuple a vs.toArray ∧ RepL O h vs xs := by
  obtain ⟨a, vs, n, e, ho, hg, rl⟩ := r.tuple_inv'
  exact ⟨a, vs, e, ho, ⟨_, hg, rfl, n, rfl⟩, rl⟩
theorem Rep.int_inv {O : Addr → Prop} {h : Heap} {v : Value} {i : Int} (r : Rep O h v (.int i)) : ∃ t, v = .int i t := by cases r; exact ⟨_, rfl⟩
theorem Rep.str_inv {O : Addr → Prop} {h : Heap} {v : Value} {i : Str} (r : Rep O h v (.str i)) : ∃ t, v = .str i t := by cases r; exact ⟨_, rfl⟩
theorem Rep.bytes_inv {O : Addr → Prop} {h : Heap} {v : Value} {i : Array UInt8} (r : Rep O h v (.bytes i)) : ∃ t, v = .bytes i t := by cases r; exact ⟨_, rfl⟩
theorem Rep.bool_inv {O : Addr → Prop} {h : Heap} {v : Value} {i : Bool} (r : Rep O h v (.bool i)) : v = .bool i := by cases r; rfl
theorem Rep.range_inv {O : Addr → Prop} {h : Heap} {v : Value} {a b c : Int} (r : Rep O h v (.range a b c)) : ∃ r t u w, v = .ref r ∧ ¬ O r ∧ IsRange h r a b c t u w := by
  cases r with
  | range ho hr => exact ⟨_, _, _, _, rfl, ho, hr⟩

/-- what a name holds: a datum, or a list of the frame's own that nothing else holds -/
inductive Ent where
  | val (x : PV)
  | own (xs : List PV)
abbrev PEnv := List (Str × Ent)

/-- the text's ground: the written part, the top -/
structure GC where
  prog : Program
  w : World
  K : Frag
  p : Program
  loose : List Str
  mg : Str → Option Value
  mb : Str → Option Value
structure GC.At (g : GC) (h : Heap) : Prop where
  k : g.K.In h
  t : TopRead g.p g.loose g.mg g.mb h
theorem GC.At.ext {g : GC} {h h' : Heap} (x : g.At h) (hk : Ext h h') : g.At h' := ⟨x.k.keeps hk, x.t.keeps hk⟩

structure Room (A : Around) (n : Nat) : Prop where
  hd : A.handled = none
  dp : A.depth + n < 900
  un : A.units + 10 * n < 9000
theorem Room.mono {A : Around} {n m : Nat} (x : Room A n) (h : m ≤ n) : Room A m := ⟨x.hd, by have := x.dp; omega, by have := x.un; omega⟩
theorem Room.deeper {A : Around} {n : Nat} (x : Room A (n + 1)) (env : Env) : Room (A.deeper env) n :=
  ⟨x.hd, by have := x.dp; show A.depth + 1 + n < 900; omega, by have := x.un; show A.units + 3 + 10 * n < 9000; omega⟩

structure FC extends GC where
  A : Around
  env : Env
  h₀ : Heap
  B : Addr → Prop
  n : Nat

structure FC.Good (c : FC) : Prop where
  kind : c.env.scope.kind = .function
  glob : c.env.globals = mainGlobals
  blt : c.env.builtins = builtinsNs
  room : Room c.A c.n
  top : c.toGC.At c.h₀

def Slot (env : Env) (m cm : Str → Option Value) (x : Str) (v : Value) : Prop :=
  (env.kindOf x = some .local ∧ m x = some v) ∨ ((env.kindOf x = some .cell) ∧ (env.cells.lookup x).isSome = true ∧ cm x = some v)

structure Inv (c : FC) (ρ : PEnv) (O : Addr → Prop) (m cm : Str → Option Value) (h : Heap) : Prop where
  good : c.Good
  ns : h.Ns c.env.locals m
  cell : ∀ n a, c.env.cells.lookup n = some a → h.IsCell a (cm n)
  keep : Ext c.h₀ h
  val : ∀ x pv, ρ.lookup x = some (.val pv) → ∃ v, Slot c.env m cm x v ∧ Rep O h v pv
  own : ∀ x xs, ρ.lookup x = some (.own xs) → ∃ a vs n, Slot c.env m cm x (.ref a) ∧ O a ∧ ¬ c.B a ∧ c.h₀.get? a = none ∧ h.get? a = some { cls := .type "list", data := .seq (List.toArray vs) n } ∧ RepL O h vs xs
  inj : ∀ x y xs ys a, ρ.lookup x = some (.own xs) → ρ.lookup y = some (.own ys) → Slot c.env m cm x (.ref a) → Slot c.env m cm y (.ref a) → x = y
  sub : ∀ a, c.B a → O a
  live : ∀ a, O a → ∃ o, h.get? a = some o

end Mine
namespace Mine

/-- an expression's end: the old heap kept, the value a datum's -/
def Got (s : Shared) (O : Addr → Prop) (x : PV) (v : Value) (s' : Shared) : Prop :=
  ∃ h' tk', s' = { s with heap := h', toks := tk' } ∧ Ext s.heap h' ∧ Rep O h' v x
def Seen (s : Shared) (b b' : Bool) (s' : Shared) : Prop :=
  b' = b ∧ ∃ h' tk', s' = { s with heap := h', toks := tk' } ∧ Ext s.heap h'

theorem Got.same {s : Shared} {O : Addr → Prop} {x : PV} {v : Value} (r : Rep O s.heap v x) : Got s O x v s := ⟨s.heap, s.toks, rfl, Ext.refl _, r⟩
theorem Got.toks {s : Shared} {O : Addr → Prop} {x : PV} {v : Value} {tk : Nat} (r : Rep O s.heap v x) : Got s O x v { s with toks := tk } := ⟨s.heap, tk, rfl, Ext.refl _, r⟩
theorem Got.trans {s s₁ s₂ : Shared} {O O' : Addr → Prop} {x y : PV} {v w : Value} (a : Got s O x v s₁) (b : Got s₁ O' y w s₂) : Got s O' y w s₂ := by
  obtain ⟨h, tk, rfl, e, r⟩ := a
  obtain ⟨h', tk', rfl, e', r'⟩ := b
  exact ⟨h', tk', rfl, e.trans e', r'⟩
theorem Got.ext {s s₁ : Shared} {O : Addr → Prop} {x : PV} {v : Value} (a : Got s O x v s₁) : Ext s.heap s₁.heap := by
  obtain ⟨h, tk, rfl, e, r⟩ := a; exact e
theorem Got.rep {s s₁ : Shared} {O : Addr → Prop} {x : PV} {v : Value} (a : Got s O x v s₁) : Rep O s₁.heap v x := by
  obtain ⟨h, tk, rfl, e, r⟩ := a; exact r
theorem Got.seen {s s₁ s₂ : Shared} {O : Addr → Prop} {x : PV} {v : Value} {b b' : Bool} (a : Got s O x v s₁) (q : Seen s₁ b b' s₂) : Seen s b b' s₂ := by
  obtain ⟨h, tk, rfl, e, r⟩ := a
  obtain ⟨rfl, h', tk', rfl, e'⟩ := q
  exact ⟨rfl, h', tk', rfl, e.trans e'⟩
theorem Seen.got {s s₁ s₂ : Shared} {O : Addr → Prop} {x : PV} {v : Value} {b b' : Bool} (a : Seen s b b' s₁) (q : Got s₁ O x v s₂) : Got s O x v s₂ := by
  obtain ⟨rfl, h, tk, rfl, e⟩ := a
  obtain ⟨h', tk', rfl, e', r⟩ := q
  exact ⟨h', tk', rfl, e.trans e', r⟩
theorem Seen.seen {s s₁ s₂ : Shared} {b b' d d' : Bool} (a : Seen s b b' s₁) (q : Seen s₁ d d' s₂) : Seen s d d' s₂ := by
  obtain ⟨rfl, h, tk, rfl, e⟩ := a
  obtain ⟨rfl, h', tk', rfl, e'⟩ := q
  exact ⟨rfl, h', tk', rfl, e.trans e'⟩
theorem Seen.ext {s s₁ : Shared} {b b' : Bool} (a : Seen s b b' s₁) : Ext s.heap s₁.heap := by
  obtain ⟨_, h, tk, rfl, e⟩ := a; exact e
theorem Seen.same (s : Shared) (b : Bool) : Seen s b b s := ⟨rfl, s.heap, s.toks, rfl, Ext.refl _⟩

theorem Inv.ext {c : FC} {ρ : PEnv} {O : Addr → Prop} {m cm : Str → Option Value} {h h' : Heap} (I : Inv c ρ O m cm h) (hk : Ext h h') : Inv c ρ O m cm h' where
  good := I.good
  ns := I.ns.keeps hk
  cell := fun n a e => (I.cell n a e).keeps hk
  keep := I.keep.trans hk
  val := fun x pv e => let ⟨v, s, r⟩ := I.val x pv e; ⟨v, s, r.ext hk⟩
  own := fun x xs e => let ⟨a, vs, n, s, o, b, z, g, r⟩ := I.own x xs e; ⟨a, vs, n, s, o, b, z, hk _ _ g, r.ext hk⟩
  inj := I.inj
  sub := I.sub
  live := fun a q => let ⟨o, e⟩ := I.live a q; ⟨o, hk _ _ e⟩

theorem fresh_not {O : Addr → Prop} {h : Heap} {a : Addr} (hl : ∀ a, O a → ∃ o, h.get? a = some o) (hn : h.get? a = none) : ¬ O a := fun q => by
  obtain ⟨o, e⟩ := hl a q
  rw [hn] at e; cases e
theorem get_size (h : Heap) : h.get? h.objs.size = none := by
  cases e : h.get? h.objs.size with
  | none => rfl
  | some o => exact absurd (Heap.lt_size e) (Nat.lt_irrefl _)

/-- an expression gives a datum -/
structure EvP (c : FC) (ρ : PEnv) (e : Expr) (x : PV) : Prop where
  run : ∀ (O : Addr → Prop) (m cm : Str → Option Value) (s : Shared) (E : Value → Shared → Prop), Inv c ρ O m cm s.heap → wpAny (model c.prog c.w) c.A (eval e c.env) (Got s O x) E s
/-- a test gives a truth -/
structure TrP (c : FC) (ρ : PEnv) (e : Expr) (b : Bool) : Prop where
  run : ∀ (O : Addr → Prop) (m cm : Str → Option Value) (s : Shared) (E : Value → Shared → Prop), Inv c ρ O m cm s.heap → wpAny (model c.prog c.w) c.A (isTrue e c.env (eval e c.env)) (Seen s b) E s

/-- what a step may lean on, beside its own operands -/
structure Gnd (c : FC) (O : Addr → Prop) (h : Heap) : Prop where
  good : c.Good
  at_ : c.toGC.At h
  live : ∀ a, O a → ∃ o, h.get? a = some o
theorem Inv.gnd {c : FC} {ρ : PEnv} {O : Addr → Prop} {m cm : Str → Option Value} {h : Heap} (I : Inv c ρ O m cm h) : Gnd c O h := ⟨I.good, I.good.top.ext I.keep, I.live⟩
theorem Gnd.ext {c : FC} {O : Addr → Prop} {h h' : Heap} (G : Gnd c O h) (hk : Ext h h') : Gnd c O h' := ⟨G.good, G.at_.ext hk, fun a q => let ⟨o, e⟩ := G.live a q; ⟨o, hk _ _ e⟩⟩

/-- a step upon two operands -/
structure Op2 (c : FC) (t : Value → Value → Sem Value) (x y z : PV) : Prop where
  run : ∀ (O : Addr → Prop) (s : Shared) (v w : Value) (E : Value → Shared → Prop), Gnd c O s.heap → Rep O s.heap v x → Rep O s.heap w y → wpAny (model c.prog c.w) c.A (t v w) (Got s O z) E s
structure Op1 (c : FC) (t : Value → Sem Value) (x z : PV) : Prop where
  run : ∀ (O : Addr → Prop) (s : Shared) (v : Value) (E : Value → Shared → Prop), Gnd c O s.heap → Rep O s.heap v x → wpAny (model c.prog c.w) c.A (t v) (Got s O z) E s
structure Truth (c : FC) (x : PV) (b : Bool) : Prop where
  run : ∀ (O : Addr → Prop) (s : Shared) (v : Value) (E : Value → Shared → Prop), Gnd c O s.heap → Rep O s.heap v x → wpAny (model c.prog c.w) c.A (truthy v) (Seen s b) E s

section
variable {c : FC} {ρ : PEnv}
/-- two expressions one behind the other -/
theorem EvP.two {l r : Expr} {x y : PV} (hl : EvP c ρ l x) (hr : EvP c ρ r y) {O : Addr → Prop} {m cm : Str → Option Value} {s : Shared} {E : Value → Shared → Prop} (I : Inv c ρ O m cm s.heap)
    {Q : Value → Value → Shared → Prop} (h : ∀ v w s', Gnd c O s'.heap → Rep O s'.heap v x → Got s O y w s' → Q v w s') :
    wpAny (model c.prog c.w) c.A (eval l c.env) (fun v s₁ => wpAny (model c.prog c.w) c.A (eval r c.env) (fun w s₂ => Q v w s₂) E s₁) E s := by
  refine wpAny_mono (hl.run O m cm s E I) (fun v s₁ h₁ => ?_) fun _ _ x => x
  have I₁ := I.ext h₁.ext
  refine wpAny_mono (hr.run O m cm s₁ E I₁) (fun w s₂ h₂ => ?_) fun _ _ x => x
  exact h v w s₂ (I₁.gnd.ext h₂.ext) (h₁.rep.ext h₂.ext) (h₁.trans h₂)

theorem EvP.binop {l r : Expr} {op : Operator} {pos : Pos} {x y z : PV} (hl : EvP c ρ l x) (hr : EvP c ρ r y) (ho : Op2 c (binaryOp op) x y z) : EvP c ρ (.BinOp l op r pos) z := by
  refine ⟨fun O m cm s E I => ?_⟩
  refine wpAny_BinOp (hl.two hr I fun v w s' G r₁ g => ?_)
  exact wpAny_mono (ho.run O s' v w E G r₁ g.rep) (fun _ _ q => g.trans q) fun _ _ x => x
theorem EvP.cmp {l r : Expr} {op : CmpOp} {pos : Pos} {x y z : PV} (hl : EvP c ρ l x) (hr : EvP c ρ r y) (ho : Op2 c (compareOp op) x y z) (hm : behindInMarks op r = false := by with_unfolding_all rfl) : EvP c ρ (.Compare l [op] [r] pos) z := by
  refine ⟨fun O m cm s E I => ?_⟩
  refine wpAny_Compare1 (hl.two hr I fun v w s' G r₁ g => ?_) hm
  exact wpAny_mono (ho.run O s' v w E G r₁ g.rep) (fun _ _ q => g.trans q) fun _ _ x => x
theorem TrP.cmp {l r : Expr} {op : CmpOp} {pos : Pos} {x y : PV} {b : Bool} (hl : EvP c ρ l x) (hr : EvP c ρ r y) (ho : Op2 c (compareOp op) x y (.bool b)) (hm : behindInMarks op r = false := by with_unfolding_all rfl) : TrP c ρ (.Compare l [op] [r] pos) b := by
  refine ⟨fun O m cm s E I => ?_⟩
  refine wpAny_isTrue_Compare1 (hl.two hr I fun v w s' G r₁ g => ?_) hm
  refine wpAny_mono (ho.run O s' v w E G r₁ g.rep) (fun d s₂ q => ?_) fun _ _ x => x
  have := q.rep.bool_inv
  subst this
  exact wpAny_truthy_bool ((g.trans q).seen (Seen.same _ _))
theorem TrP.plain {e : Expr} {x : PV} {b : Bool} (h : EvP c ρ e x) (ht : Truth c x b) (he : ∀ whole, isTrue e c.env whole = (do let v ← whole; standAt e.pos; holding [v] (truthy v)) := by intro _; rfl) : TrP c ρ e b := by
  refine ⟨fun O m cm s E I => ?_⟩
  refine isTrue_plain (wpAny_mono (h.run O m cm s E I) (fun v s₁ h₁ => ?_) fun _ _ x => x) (he _)
  exact wpAny_mono (ht.run O s₁ v E (I.gnd.ext h₁.ext) h₁.rep) (fun _ _ q => h₁.seen q) fun _ _ x => x
theorem EvP.ifexp {test body orelse : Expr} {pos : Pos} {b : Bool} {x : PV} (ht : TrP c ρ test b) (h1 : b = true → EvP c ρ body x) (h2 : b = false → EvP c ρ orelse x) : EvP c ρ (.IfExp test body orelse pos) x := by
  refine ⟨fun O m cm s E I => ?_⟩
  refine IfExp_ (wpAny_mono (ht.run O m cm s E I) (fun b' s₁ h₁ => ?_) fun _ _ x => x)
  have I₁ := I.ext h₁.ext
  obtain ⟨e, _⟩ := id h₁
  subst e
  cases b' with
  | true => simp only [if_true]; exact wpAny_mono ((h1 rfl).run O m cm s₁ E I₁) (fun _ _ q => h₁.got q) fun _ _ x => x
  | false => simp only [Bool.false_eq_true, if_false]; exact wpAny_mono ((h2 rfl).run O m cm s₁ E I₁) (fun _ _ q => h₁.got q) fun _ _ x => x

theorem EvP.int (i : Int) (k : Nat) (pos : Pos) : EvP c ρ (.Constant (.int i) k pos) (.int i) := ⟨fun O m cm s E I => wpAny_Constant_int (Got.toks (.int _ _))⟩
theorem EvP.str (x : Str) (k : Nat) (pos : Pos) : EvP c ρ (.Constant (.str x) k pos) (.str x) := ⟨fun O m cm s E I => wpAny_Constant_str (Got.toks (.str _ _))⟩
theorem EvP.bool (b : Bool) (k : Nat) (pos : Pos) : EvP c ρ (.Constant (.bool b) k pos) (.bool b) := ⟨fun O m cm s E I => wpAny_Constant_bool (Got.same (.bool _))⟩
theorem EvP.bytes (b : List UInt8) (k : Nat) (pos : Pos) : EvP c ρ (.Constant (.bytes b) k pos) (.bytes b.toArray) := by
  refine ⟨fun O m cm s E I => ?_⟩
  intro Γ p hΓ
  exact ⟨s.heap, s.toks + 1, rfl, Ext.refl _, .bytes _ _⟩
/-- a name of the frame's -/
theorem EvP.name {x : Str} {pos : Pos} {v : PV} (hx : ρ.lookup x = some (.val v)) (hd : (x == ("__debug__" : Str)) = false := by decide) : EvP c ρ (.Name x pos) v := by
  refine ⟨fun O m cm s E I => ?_⟩
  obtain ⟨w, hs, r⟩ := I.val x v hx
  refine wpAny_Name ?_ hd
  rcases hs with ⟨hk, hm⟩ | ⟨hk, hc, hm⟩
  · exact wpAny_loadName_local I.good.kind hk I.ns hm (Got.same r)
  · obtain ⟨a, ha⟩ := Option.isSome_iff_exists.mp hc
    exact wpAny_loadName_cell I.good.kind hk ha (hm ▸ I.cell x a ha) (Got.same r)
end
end Mine
namespace Mine
section
variable {c : FC} {ρ : PEnv}

/-! operators -/
theorem Op2.addI (a b : Int) : Op2 c (binaryOp .Add) (.int a) (.int b) (.int (a + b)) := by
  refine ⟨fun O s v w E G r q => ?_⟩
  obtain ⟨t, rfl⟩ := r.int_inv; obtain ⟨u, rfl⟩ := q.int_inv
  exact add_int (Got.toks (.int _ _))
theorem Op2.subI (a b : Int) : Op2 c (binaryOp .Sub) (.int a) (.int b) (.int (a - b)) := by
  refine ⟨fun O s v w E G r q => ?_⟩
  obtain ⟨t, rfl⟩ := r.int_inv; obtain ⟨u, rfl⟩ := q.int_inv
  exact sub_int (Got.toks (.int _ _))
theorem Op2.mulI {a b : Int} (h : IntMulOk a b) : Op2 c (binaryOp .Mult) (.int a) (.int b) (.int (a * b)) := by
  refine ⟨fun O s v w E G r q => ?_⟩
  obtain ⟨t, rfl⟩ := r.int_inv; obtain ⟨u, rfl⟩ := q.int_inv
  exact mul_int (Got.toks (.int _ _)) h
theorem Op2.modI {a b : Int} (h : b ≠ 0) : Op2 c (binaryOp .Mod) (.int a) (.int b) (.int (a.fmod b)) := by
  refine ⟨fun O s v w E G r q => ?_⟩
  obtain ⟨t, rfl⟩ := r.int_inv; obtain ⟨u, rfl⟩ := q.int_inv
  exact mod_int' h (Got.toks (.int _ _))
theorem Op2.divI {a b : Int} (h : b ≠ 0) (hp : Builtin.divisionGoesByPylong a b = false) : Op2 c (binaryOp .FloorDiv) (.int a) (.int b) (.int (a.fdiv b)) := by
  refine ⟨fun O s v w E G r q => ?_⟩
  obtain ⟨t, rfl⟩ := r.int_inv; obtain ⟨u, rfl⟩ := q.int_inv
  exact floordiv_int h (Got.toks (.int _ _)) (.inl hp)
theorem Op2.powI {a b : Int} (h : 0 ≤ b) (hs : (Builtin.Int.intBits a : Int) * b ≤ 2 ^ 27) : Op2 c (binaryOp .Pow) (.int a) (.int b) (.int (a ^ b.toNat)) := by
  refine ⟨fun O s v w E G r q => ?_⟩
  obtain ⟨t, rfl⟩ := r.int_inv; obtain ⟨u, rfl⟩ := q.int_inv
  exact pow_int h hs (Got.toks (.int _ _))
theorem Op2.addS {a b : Str} (h : a.length + b.length ≤ sizeLine) : Op2 c (binaryOp .Add) (.str a) (.str b) (.str (a ++ b)) := by
  refine ⟨fun O s v w E G r q => ?_⟩
  obtain ⟨t, rfl⟩ := r.str_inv; obtain ⟨u, rfl⟩ := q.str_inv
  exact add_str (fun t' tk => Got.toks (.str _ _)) h
theorem Op2.iaddI (a b : Int) : Op2 c (inplaceOp .Add) (.int a) (.int b) (.int (a + b)) := by
  refine ⟨fun O s v w E G r q => ?_⟩
  obtain ⟨t, rfl⟩ := r.int_inv; obtain ⟨u, rfl⟩ := q.int_inv
  exact iadd_int (Got.toks (.int _ _))
theorem Op2.iaddS {a b : Str} (h : a.length + b.length ≤ sizeLine) : Op2 c (inplaceOp .Add) (.str a) (.str b) (.str (a ++ b)) := by
  refine ⟨fun O s v w E G r q => ?_⟩
  obtain ⟨t, rfl⟩ := r.str_inv; obtain ⟨u, rfl⟩ := q.str_inv
  exact iadd_str (fun t' tk => Got.toks (.str _ _)) h
theorem Op2.eqI (a b : Int) : Op2 c (compareOp .Eq) (.int a) (.int b) (.bool (a == b)) := by
  refine ⟨fun O s v w E G r q => ?_⟩
  obtain ⟨t, rfl⟩ := r.int_inv; obtain ⟨u, rfl⟩ := q.int_inv
  exact eq_int (Got.same (.bool _))
theorem Op2.neI (a b : Int) : Op2 c (compareOp .NotEq) (.int a) (.int b) (.bool (a != b)) := by
  refine ⟨fun O s v w E G r q => ?_⟩
  obtain ⟨t, rfl⟩ := r.int_inv; obtain ⟨u, rfl⟩ := q.int_inv
  exact ne_int (Got.same (.bool _))
theorem Op2.ltI (a b : Int) : Op2 c (compareOp .Lt) (.int a) (.int b) (.bool (decide (a < b))) := by
  refine ⟨fun O s v w E G r q => ?_⟩
  obtain ⟨t, rfl⟩ := r.int_inv; obtain ⟨u, rfl⟩ := q.int_inv
  exact lt_int (Got.same (.bool _))
theorem Op2.gtI (a b : Int) : Op2 c (compareOp .Gt) (.int a) (.int b) (.bool (decide (b < a))) := by
  refine ⟨fun O s v w E G r q => ?_⟩
  obtain ⟨t, rfl⟩ := r.int_inv; obtain ⟨u, rfl⟩ := q.int_inv
  exact gt_int (Got.same (.bool _))
theorem Op2.eqS (a b : Str) : Op2 c (compareOp .Eq) (.str a) (.str b) (.bool (a == b)) := by
  refine ⟨fun O s v w E G r q => ?_⟩
  obtain ⟨t, rfl⟩ := r.str_inv; obtain ⟨u, rfl⟩ := q.str_inv
  exact eq_str (Got.same (.bool _))
theorem Op2.neS (a b : Str) : Op2 c (compareOp .NotEq) (.str a) (.str b) (.bool (a != b)) := by
  refine ⟨fun O s v w E G r q => ?_⟩
  obtain ⟨t, rfl⟩ := r.str_inv; obtain ⟨u, rfl⟩ := q.str_inv
  exact ne_str (Got.same (.bool _))
theorem Op2.inS (a b : Str) : Op2 c (compareOp .In) (.str a) (.str b) (.bool (!(Builtin.Str.occurrences b a 0 b.length 1).isEmpty)) := by
  refine ⟨fun O s v w E G r q => ?_⟩
  obtain ⟨t, rfl⟩ := r.str_inv; obtain ⟨u, rfl⟩ := q.str_inv
  exact P.in_str (Got.same (.bool _))
theorem Op1.negI (a : Int) : Op1 c (unaryOp .USub) (.int a) (.int (-a)) := by
  refine ⟨fun O s v E G r => ?_⟩
  obtain ⟨t, rfl⟩ := r.int_inv
  exact neg_int (Got.toks (.int _ _))
theorem Truth.bool (b : Bool) : Truth c (.bool b) b := by
  refine ⟨fun O s v E G r => ?_⟩
  have := r.bool_inv; subst this
  exact wpAny_truthy_bool (Seen.same _ _)
theorem Truth.int (a : Int) : Truth c (.int a) (a != 0) := by
  refine ⟨fun O s v E G r => ?_⟩
  obtain ⟨t, rfl⟩ := r.int_inv
  exact P.truthy_int (Seen.same _ _)

theorem EvP.unop {e : Expr} {op : UnaryOp} {pos : Pos} {x z : PV} (h : EvP c ρ e x) (ho : Op1 c (unaryOp op) x z) : EvP c ρ (.UnaryOp op e pos) z := by
  refine ⟨fun O m cm s E I => ?_⟩
  refine PyProof.Rows.UnaryOp_ (wpAny_mono (h.run O m cm s E I) (fun v s₁ h₁ => ?_) fun _ _ x => x)
  exact wpAny_mono (ho.run O s₁ v E (I.gnd.ext h₁.ext) h₁.rep) (fun _ _ q => h₁.trans q) fun _ _ x => x

/-! items -/
theorem EvP.itemS {e i : Expr} {pos : Pos} {x : Str} {k : Int} {n : Nat} (he : EvP c ρ e (.str x)) (hi : EvP c ρ i (.int k)) (h0 : 0 ≤ k) (hk : k < 2 ^ 63) (hn : x.cps[k.toNat]? = some n)
    (hs : ∀ o v, subscripted i false o v = operate [o, v] (getItem o v) := by intro _ _; rfl) : EvP c ρ (.Subscript e i pos) (.str ⟨#[n]⟩) := by
  refine ⟨fun O m cm s E I => ?_⟩
  refine Subscript_ (he.two hi I fun v w s' G r g => ?_)
  obtain ⟨t, rfl⟩ := r.str_inv; obtain ⟨u, rfl⟩ := g.rep.int_inv
  refine tail_any (typeIs_str _ _ _) F.slot_str_getitem.lookup ?_ (hs _ _)
  have hlt : k.toNat < x.cps.size := (Array.getElem?_eq_some_iff.mp hn).1
  refine getItem_str (c := n) ?_ ?_ ?_
  · simp; omega
  · have e1 : seqIndex? k x.length = some k.toNat := by
      have h2 : ¬ k < 0 := by omega
      have h3 : k < (x.length : Int) := by simp only [Str.length]; omega
      simp [seqIndex?, h2, h0, h3]
    rw [e1]; exact hn
  · exact g.trans (Got.toks (.str _ _))
theorem EvP.itemL {e i : Expr} {pos : Pos} {xs : List PV} {k : Int} {x : PV} (he : EvP c ρ e (.list xs)) (hi : EvP c ρ i (.int k)) (h0 : 0 ≤ k) (hk : k < 2 ^ 63) (hn : xs[k.toNat]? = some x)
    (hs : ∀ o v, subscripted i false o v = operate [o, v] (getItem o v) := by intro _ _; rfl) : EvP c ρ (.Subscript e i pos) x := by
  refine ⟨fun O m cm s E I => ?_⟩
  refine Subscript_ (he.two hi I fun v w s' G r g => ?_)
  obtain ⟨a, vs, rfl, ho, hl, rl⟩ := r.list_inv; obtain ⟨u, rfl⟩ := g.rep.int_inv
  refine tail_any hl.typeIs slot_list_getitem.lookup ?_ (hs _ _)
  have hlt : k.toNat < xs.length := (List.getElem?_eq_some_iff.mp hn).1
  have hv : vs[k.toNat]? = some (vs[k.toNat]'(by rw [rl.1]; exact hlt)) := List.getElem?_eq_getElem _
  exact wpAny_getItem_list hl h0 hk (by simpa using hv) (g.trans (Got.same (rl.2 _ _ _ hv hn)))
theorem EvP.itemT {e i : Expr} {pos : Pos} {xs : List PV} {k : Int} {x : PV} (he : EvP c ρ e (.tuple xs)) (hi : EvP c ρ i (.int k)) (h0 : 0 ≤ k) (hk : k < 2 ^ 63) (hn : xs[k.toNat]? = some x)
    (hs : ∀ o v, subscripted i false o v = operate [o, v] (getItem o v) := by intro _ _; rfl) : EvP c ρ (.Subscript e i pos) x := by
  refine ⟨fun O m cm s E I => ?_⟩
  refine Subscript_ (he.two hi I fun v w s' G r g => ?_)
  obtain ⟨a, vs, rfl, ho, hl, rl⟩ := r.tuple_inv; obtain ⟨u, rfl⟩ := g.rep.int_inv
  refine tail_any hl.typeIs slot_tuple_getitem.lookup ?_ (hs _ _)
  have hlt : k.toNat < xs.length := (List.getElem?_eq_some_iff.mp hn).1
  have hv : vs[k.toNat]? = some (vs[k.toNat]'(by rw [rl.1]; exact hlt)) := List.getElem?_eq_getElem _
  refine PyProof.Rows.getItem_tuple (items := vs.toArray) hl (by omega) hk (j := k.toNat) ?_ (by simpa using hv) (g.trans (Got.same (rl.2 _ _ _ hv hn)))
  have h2 : ¬ k < 0 := by omega
  have h3 : k < (vs.length : Int) := by rw [rl.1]; omega
  simp [seqIndex?, h2, h0, h3]

/-! slices -/
structure PartP (c : FC) (ρ : PEnv) (e : Option Expr) (k : Option Int) : Prop where
  run : ∀ (O : Addr → Prop) (m cm : Str → Option Value) (s : Shared) (E : Value → Shared → Prop), Inv c ρ O m cm s.heap →
    wpAny (model c.prog c.w) c.A (evalPart e c.env) (fun v s' => IsPart v k ∧ Got s O .none .none s') E s
theorem PartP.none : PartP c ρ none none := ⟨fun O m cm s E I => wpAny_pure ⟨.none, Got.same .none⟩⟩
theorem PartP.some {e : Expr} {k : Int} (h : EvP c ρ e (.int k)) : PartP c ρ (some e) (some k) := by
  refine ⟨fun O m cm s E I => ?_⟩
  refine wpAny_mono (h.run O m cm s E I) (fun v s₁ h₁ => ?_) fun _ _ x => x
  obtain ⟨t, e⟩ := h₁.rep.int_inv
  subst e
  exact ⟨.int _ _, h₁.trans (Got.same .none)⟩
theorem EvP.sliceOf {e : Expr} {lower upper step : Option Expr} {p pos : Pos} {x z : PV} {lo hi st : Option Int} {T id : String} (he : EvP c ρ e x) (hl : PartP c ρ lower lo) (hu : PartP c ρ upper hi) (hst : PartP c ρ step st)
    (hT : ∀ O h v, Rep O h v x → ∀ s : Shared, s.heap = h → s.TypeIs v T) (hlook : typeLookup (.type T) "__getitem__" = pure (some (.builtin id)))
    (hg : ∀ (O : Addr → Prop) (s : Shared) (v vl vu vs : Value) (sl : Addr) (E : Value → Shared → Prop), Gnd c O s.heap → Rep O s.heap v x → s.heap.IsSliceOf sl vl vu vs → IsPart vl lo → IsPart vu hi → IsPart vs st → wpAny (model c.prog c.w) c.A (getItem v (.ref sl)) (Got s O z) E s) :
    EvP c ρ (.Subscript e (.Slice lower upper step p) pos) z := by
  refine ⟨fun O m cm s E I => ?_⟩
  refine Subscript_ (wpAny_mono (he.run O m cm s E I) (fun v s₁ h₁ => ?_) fun _ _ x => x)
  have I₁ := I.ext h₁.ext
  refine wpAny_Slice (wpAny_mono (hl.run O m cm s₁ E I₁) (fun vl s₂ h₂ => ?_) fun _ _ x => x)
  have I₂ := I₁.ext h₂.2.ext
  refine wpAny_mono (hu.run O m cm s₂ E I₂) (fun vu s₃ h₃ => ?_) fun _ _ x => x
  have I₃ := I₂.ext h₃.2.ext
  refine wpAny_mono (hst.run O m cm s₃ E I₃) (fun vs s₄ h₄ => ?_) fun _ _ x => x
  have I₄ := I₃.ext h₄.2.ext
  have e₄ : Ext s₁.heap s₄.heap := (h₂.2.ext.trans h₃.2.ext).trans h₄.2.ext
  have hp := Ext.push s₄.heap { cls := .type "slice", data := .fields #[vl, vu, vs] }
  have r₄ := (h₁.rep.ext e₄).ext hp
  have g₄ : Got s O Mine.PV.none .none s₄ := ((h₁.trans h₂.2).trans h₃.2).trans h₄.2
  have hgot : wpAny (model c.prog c.w) c.A (getItem v (.ref s₄.heap.objs.size)) (Got s O z) E { s₄ with heap := s₄.heap.push { cls := .type "slice", data := .fields #[vl, vu, vs] } } := by
    refine wpAny_mono (hg O _ v vl vu vs s₄.heap.objs.size E (I₄.gnd.ext hp) r₄ (Heap.IsSliceOf.new _ _ _ _) h₂.1 h₃.1 h₄.1) (fun d s₅ q => ?_) fun _ _ x => x
    exact g₄.trans (Got.trans (⟨_, _, rfl, hp, .none⟩ : Got s₄ O Mine.PV.none .none { s₄ with heap := s₄.heap.push { cls := .type "slice", data := .fields #[vl, vu, vs] } }) q)
  cases step with
  | none => exact tail_any (hT O _ v r₄ _ rfl) hlook hgot rfl
  | some st' => exact tail_any (hT O _ v r₄ _ rfl) hlook hgot rfl

theorem EvP.sliceL {e : Expr} {lower upper step : Option Expr} {p pos : Pos} {xs : List PV} {lo hi st : Option Int} {ys : List PV} (he : EvP c ρ e (.list xs)) (hl : PartP c ρ lower lo) (hu : PartP c ρ upper hi) (hst : PartP c ρ step st)
    (h0 : st ≠ some 0) (hsz : xs.length ≤ sizeLine) (hy : ∀ O h vs, RepL O h vs xs → RepL O h (slicePick vs.toArray lo hi st).toList ys) :
    EvP c ρ (.Subscript e (.Slice lower upper step p) pos) (.list ys) := by
  refine EvP.sliceOf (T := "list") he hl hu hst (fun O h v r s' e' => ?_) slot_list_getitem.lookup fun O s v vl vu vs sl E G r hs p1 p2 p3 => ?_
  · obtain ⟨a, vs, rfl, _, hl', _⟩ := r.list_inv
    subst e'
    exact hl'.typeIs
  · obtain ⟨a, ws, rfl, ho, hl', rl⟩ := r.list_inv
    refine wpAny_getItem_list_slice hl' hs p1 p2 p3 h0 ?_ (by simp [rl.1]; exact hsz)
    have hp := Ext.push s.heap { cls := .type "list", data := .seq (slicePick ws.toArray lo hi st) }
    refine ⟨_, _, rfl, hp, .list' (vs := (slicePick ws.toArray lo hi st).toList) (fresh_not G.live (get_size _)) ⟨0, (Heap.get?_push_size _ rfl).trans (by simp)⟩ ((hy O _ ws rl).ext hp)⟩
end
end Mine
namespace Mine

/-- several values at an end -/
def GotL (s : Shared) (O : Addr → Prop) (xs : List PV) (vs : List Value) (s' : Shared) : Prop :=
  ∃ h' tk', s' = { s with heap := h', toks := tk' } ∧ Ext s.heap h' ∧ RepL O h' vs xs
theorem GotL.ext {s s₁ : Shared} {O : Addr → Prop} {x : List PV} {v : List Value} (a : GotL s O x v s₁) : Ext s.heap s₁.heap := by
  obtain ⟨h, tk, rfl, e, r⟩ := a; exact e
theorem GotL.rep {s s₁ : Shared} {O : Addr → Prop} {x : List PV} {v : List Value} (a : GotL s O x v s₁) : RepL O s₁.heap v x := by
  obtain ⟨h, tk, rfl, e, r⟩ := a; exact r
theorem GotL.got {s s₁ s₂ : Shared} {O O' : Addr → Prop} {x : List PV} {v : List Value} {y : PV} {w : Value} (a : GotL s O x v s₁) (b : Got s₁ O' y w s₂) : Got s O' y w s₂ := by
  obtain ⟨h, tk, rfl, e, r⟩ := a
  obtain ⟨h', tk', rfl, e', r'⟩ := b
  exact ⟨h', tk', rfl, e.trans e', r'⟩
theorem Got.gotL {s s₁ s₂ : Shared} {O O' : Addr → Prop} {x : PV} {v : Value} {y : List PV} {w : List Value} (a : Got s O x v s₁) (b : GotL s₁ O' y w s₂) : GotL s O' y w s₂ := by
  obtain ⟨h, tk, rfl, e, r⟩ := a
  obtain ⟨h', tk', rfl, e', r'⟩ := b
  exact ⟨h', tk', rfl, e.trans e', r'⟩
/-- a new object on top of what was got -/
theorem Got.new {s : Shared} {O : Addr → Prop} {x : PV} {o : Obj} {tk : Nat} (r : Rep O (s.heap.push o) (.ref s.heap.objs.size) x) : Got s O x (.ref s.heap.objs.size) { s with heap := s.heap.push o, toks := tk } :=
  ⟨_, _, rfl, Ext.push _ _, r⟩
theorem Rep.newList {O : Addr → Prop} {h : Heap} {vs : List Value} {xs : List PV} (hl : ∀ a, O a → ∃ o, h.get? a = some o) (r : RepL O h vs xs) : Rep O (h.push { cls := .type "list", data := .seq vs.toArray }) (.ref h.objs.size) (.list xs) :=
  .list' (fresh_not hl (get_size _)) ⟨0, Heap.get?_push_size _ rfl⟩ (r.ext (Ext.push _ _))
theorem Rep.newTuple {O : Addr → Prop} {h : Heap} {vs : List Value} {xs : List PV} (hl : ∀ a, O a → ∃ o, h.get? a = some o) (r : RepL O h vs xs) : Rep O (h.push { cls := .type "tuple", data := .seq vs.toArray }) (.ref h.objs.size) (.tuple xs) :=
  .tuple' (fresh_not hl (get_size _)) ⟨0, Heap.get?_push_size _ rfl⟩ (r.ext (Ext.push _ _))

structure ArgsP (c : FC) (ρ : PEnv) (es : List Expr) (xs : List PV) : Prop where
  run : ∀ (pos : Pos) (O : Addr → Prop) (m cm : Str → Option Value) (s : Shared) (E : Value → Shared → Prop), Inv c ρ O m cm s.heap →
    wpAny (model c.prog c.w) c.A (spliced (backTo pos (starEach es c.env))) (GotL s O xs) E s

/-- a call's contract: the callee n frames deep at most -/
structure CallP (g : GC) (n : Nat) (f : Value) (xs : List PV) (z : PV) : Prop where
  run : ∀ (A : Around) (O : Addr → Prop) (s : Shared) (vs : List Value) (E : Value → Shared → Prop), Room A n → g.At s.heap → (∀ a, O a → ∃ o, s.heap.get? a = some o) → RepL O s.heap vs xs →
    wpAny (model g.prog g.w) A (call f vs) (Got s O z) E s

theorem CallP.more {g : GC} {n n' : Nat} {f : Value} {xs : List PV} {z : PV} (h : CallP g n f xs z) (hn : n ≤ n') : CallP g n' f xs z := ⟨fun A O s vs E R X => h.run A O s vs E (R.mono hn) X⟩
/-- a callee's name -/
structure HeadP (c : FC) (x : Str) (f : Value) : Prop where
  run : ∀ (pos : Pos) (O : Addr → Prop) (s : Shared) (E : Value → Shared → Prop), Gnd c O s.heap → wpAny (model c.prog c.w) c.A (eval (.Name x pos) c.env) (fun v s' => v = f ∧ s' = s) E s

section
variable {c : FC} {ρ : PEnv}
theorem ArgsP.nil : ArgsP c ρ [] [] := ⟨fun pos O m cm s E I => wpAny_items_nil ⟨s.heap, s.toks, rfl, Ext.refl _, .nil⟩⟩
theorem ArgsP.cons {e : Expr} {rest : List Expr} {x : PV} {xs : List PV} (he : EvP c ρ e x) (hr : ArgsP c ρ rest xs) (hs : starEach (e :: rest) c.env = (false, eval e c.env) :: starEach rest c.env := by rfl) : ArgsP c ρ (e :: rest) (x :: xs) := by
  refine ⟨fun pos O m cm s E I => ?_⟩
  refine wpAny_items_cons (wpAny_mono (he.run O m cm s E I) (fun v s₁ h₁ => ?_) fun _ _ x => x) hs
  refine wpAny_mono (hr.run pos O m cm s₁ E (I.ext h₁.ext)) (fun vs s₂ h₂ => ?_) fun _ _ x => x
  obtain ⟨h', tk, e', k, r⟩ := h₁.gotL h₂
  subst e'
  exact ⟨h', tk, rfl, k, .cons (h₁.rep.ext h₂.ext) r⟩
theorem ArgsP.star {e : Expr} {p : Pos} {rest : List Expr} {xs ys : List PV} (he : EvP c ρ e (.list xs)) (hr : ArgsP c ρ rest ys) (hz : xs.length ≤ sizeLine) : ArgsP c ρ (.Starred e p :: rest) (xs ++ ys) := by
  refine ⟨fun pos O m cm s E I => ?_⟩
  refine items_star (wpAny_mono (he.run O m cm s E I) (fun v s₁ h₁ => ?_) fun _ _ x => x)
  obtain ⟨a, vs, rfl, ho, hl, rl⟩ := h₁.rep.list_inv
  obtain ⟨ob, D, hc, n, hd⟩ := id hl
  unfold StarOf notIterableAtAll
  refine wpAny_bind (wpAny_specialOf hl.typeIs PySem.F.slot_list_iter.lookup (wpAny_pure ⟨rfl, ?_⟩))
  refine wpAny_collect_seq a (.inl rfl) D hc hd (fun h' hk => ?_) (by simp [rl.1]; exact hz)
  refine wpAny_mono (hr.run pos O m cm { s₁ with heap := h' } E ((I.ext h₁.ext).ext hk)) (fun ws s₂ h₂ => ?_) fun _ _ x => x
  have g : Got s O Mine.PV.none .none { s₁ with heap := h' } := h₁.trans ⟨h', s₁.toks, rfl, hk, .none⟩
  obtain ⟨h'', tk, e', k, r⟩ := g.gotL h₂
  subst e'
  exact ⟨h'', tk, rfl, k, ((rl.ext hk).ext h₂.ext).append r⟩

theorem EvP.list {es : List Expr} {pos : Pos} {xs : List PV} (h : ArgsP c ρ es xs) (hz : xs.length ≤ sizeLine) : EvP c ρ (.List es pos) (.list xs) := by
  refine ⟨fun O m cm s E I => ?_⟩
  refine wpAny_List (wpAny_mono (h.run pos O m cm s E I) (fun vs s₁ h₁ => ⟨by rw [h₁.rep.1]; exact hz, ?_⟩) fun _ _ x => x)
  exact h₁.got (Got.new (tk := s₁.toks) (Rep.newList (I.gnd.ext h₁.ext).live h₁.rep))
theorem EvP.tuple {es : List Expr} {k : Nat} {pos : Pos} {xs : List PV} (h : ArgsP c ρ es xs) (hz : xs.length ≤ sizeLine) : EvP c ρ (.Tuple es k pos) (.tuple xs) := by
  refine ⟨fun O m cm s E I => ?_⟩
  refine wpAny_Tuple (wpAny_mono (h.run pos O m cm s E I) (fun vs s₁ h₁ => ⟨by rw [h₁.rep.1]; exact hz, ?_⟩) fun _ _ x => x)
  exact h₁.got (Got.new (tk := s₁.toks) (Rep.newTuple (I.gnd.ext h₁.ext).live h₁.rep))

theorem HeadP.own {x : Str} {v : Value} (e : nsIn c.K mainGlobals x = some (some v)) (hx : c.env.kindOf x = some .globalImplicit) (hd : (x == ("__debug__" : Str)) = false := by decide) : HeadP c x v := by
  refine ⟨fun pos O s E G => ?_⟩
  refine Name_function_global G.good.kind hx (loadGlobal_global (mg := c.mg) ?_ (mg_of G.at_.k G.at_.t.g e) ⟨rfl, rfl⟩) hd
  rw [G.good.glob]; exact G.at_.t.g
theorem HeadP.boot {x : Str} {v : Value} (e : nsIn c.K mainGlobals x = some none) (hx : c.env.kindOf x = some .globalImplicit) (hv : bootBuiltins x = some v) (hn : x ≠ "__name__" := by decide) (hd : (x == ("__debug__" : Str)) = false := by decide) : HeadP c x v := by
  refine ⟨fun pos O s E G => ?_⟩
  refine Name_function_global G.good.kind hx (loadGlobal_builtin (mg := c.mg) (mb := c.mb) ?_ (mg_none_of G.at_.k G.at_.t.g e) ?_ ((G.at_.t.builtins x hn).trans hv) ⟨rfl, rfl⟩) hd
  · rw [G.good.glob]; exact G.at_.t.g
  · rw [G.good.blt]; exact G.at_.t.b

/-- the callee may be called -/
structure Calle (c : FC) (f : Value) : Prop where
  run : ∀ h, c.K.In h → ∃ k, (k = Keeper.frame ∨ k = Keeper.machine ∨ k = Keeper.boundFrame) ∧ Looks (model c.prog c.w) h (keeperOf f) k
theorem Calle.own {f : Addr} (hk : keepIn c.K (.ref f) = true) : Calle c (.ref f) := ⟨fun h X => keeps_K hk h X⟩
theorem Calle.builtin (id : String) : Calle c (.builtin id) := ⟨fun h X => ⟨.machine, .inr (.inl rfl), Looks.of_pure rfl⟩⟩
theorem Calle.type (id : String) : Calle c (.type id) := ⟨fun h X => ⟨.machine, .inr (.inl rfl), Looks.of_pure rfl⟩⟩

theorem callWith_any {M : Model} {A : Around} {E : Value → Shared → Prop} {s : Shared} {pos : Pos} {f : Value} {first : List Value} {Q : Value → Shared → Prop} {P : Heap → Prop} {args : List (Bool × Sem Value)}
    (hk : ∀ h, P h → ∃ k, (k = Keeper.frame ∨ k = Keeper.machine ∨ k = Keeper.boundFrame) ∧ Looks M h (keeperOf f) k)
    (h : wpAny M A (evalArgs f true args []) (fun a s₁ => P s₁.heap ∧ wpAny M A (call f (first ++ a.pos) a.kw) Q E s₁) E s) : wpAny M A (callWith pos f first args []) Q E s := by
  cases hst : args.any (·.1) with
  | true => exact ks_call hst hk h
  | false => exact callWith_of (by rw [hst]; rfl) hk h

theorem callArgs {a : Expr} {args : List Expr} {f : Value} {first : List Value} {xs : List PV} {pos : Pos} (hk : Calle c f) (ha : ArgsP c ρ (a :: args) xs) {O : Addr → Prop} {m cm : Str → Option Value} {s : Shared} {E : Value → Shared → Prop} (I : Inv c ρ O m cm s.heap) {Q : Value → Shared → Prop}
    (h : ∀ vs s₁, GotL s O xs vs s₁ → wpAny (model c.prog c.w) c.A (call f (first ++ vs)) Q E s₁) (he : starEach (a :: args) c.env = (false, eval a c.env) :: starEach args c.env := by rfl) :
    wpAny (model c.prog c.w) c.A (callWith pos f first (backTo pos (starEach (a :: args) c.env)) []) Q E s := by
  have h0 := ha.run pos O m cm s E I
  rw [he] at h0 ⊢
  refine callWith_any (P := c.K.In) hk.run (evalArgs_plain (wpAny_mono h0 (fun vs s₁ h₁ => ⟨?_, h vs s₁ h₁⟩) fun _ _ x => x))
  exact (I.gnd.ext h₁.ext).at_.k

theorem Good.roomN {c : FC} (G : c.Good) {n : Nat} (hn : n ≤ c.n) : Room c.A n := G.room.mono hn

/-- a call by a name -/
theorem EvP.call {x : Str} {p pos : Pos} {a : Expr} {args : List Expr} {f : Value} {xs : List PV} {z : PV} {n : Nat} (hf : HeadP c x f) (hk : Calle c f) (ha : ArgsP c ρ (a :: args) xs) (hc : CallP c.toGC n f xs z) (hn : n ≤ c.n)
    (he : starEach (a :: args) c.env = (false, eval a c.env) :: starEach args c.env := by rfl) : EvP c ρ (.Call (.Name x p) (a :: args) [] pos) z := by
  refine ⟨fun O m cm s E I => ?_⟩
  refine Call_Name rfl (wpAny_mono (hf.run p O s E I.gnd) (fun v s₁ h₁ => ?_) fun _ _ x => x)
  obtain ⟨rfl, rfl⟩ := h₁
  refine callArgs hk ha I (fun vs s₂ h₂ => ?_) he
  have G := I.gnd.ext h₂.ext
  exact wpAny_mono (hc.run c.A O s₂ vs E (I.good.room.mono hn) G.at_ G.live h₂.rep) (fun _ _ q => h₂.got q) fun _ _ x => x

/-! built-in callees -/
theorem CallP.abs {g : GC} {n : Nat} (a : Int) : CallP g n (.builtin "abs") [.int a] (.int (if a < 0 then -a else a)) := by
  refine ⟨fun A O s vs E R X L r => ?_⟩
  obtain ⟨v, vs', rfl, r₁, r₂⟩ := r.cons_inv; obtain rfl := r₂.nil_inv; obtain ⟨t, rfl⟩ := r₁.int_inv
  exact call_abs_int fun u tk => Got.toks (.int _ _)
theorem CallP.int {g : GC} {n : Nat} (a : Int) : CallP g n (.type "int") [.int a] (.int a) := by
  refine ⟨fun A O s vs E R X L r => ?_⟩
  obtain ⟨v, vs', rfl, r₁, r₂⟩ := r.cons_inv; obtain rfl := r₂.nil_inv; obtain ⟨t, rfl⟩ := r₁.int_inv
  exact call_int_int (Got.same (.int _ _))
theorem CallP.chr {g : GC} {n : Nat} {a : Int} (h0 : 0 ≤ a) (h1 : a ≤ 1114111) : CallP g n (.builtin "chr") [.int a] (.str ⟨#[a.toNat]⟩) := by
  refine ⟨fun A O s vs E R X L r => ?_⟩
  obtain ⟨v, vs', rfl, r₁, r₂⟩ := r.cons_inv; obtain rfl := r₂.nil_inv; obtain ⟨t, rfl⟩ := r₁.int_inv
  exact chr_of_range h0 h1 (Got.toks (.str _ _))
theorem CallP.lenS {g : GC} {n : Nat} {x : Str} (h : x.length ≤ sizeLine) : CallP g n (.builtin "len") [.str x] (.int x.length) := by
  refine ⟨fun A O s vs E R X L r => ?_⟩
  obtain ⟨v, vs', rfl, r₁, r₂⟩ := r.cons_inv; obtain rfl := r₂.nil_inv; obtain ⟨t, rfl⟩ := r₁.str_inv
  exact P.len_str (by rw [sizeLine_eq] at h; omega) (Got.toks (.int _ _))
theorem CallP.lenL {g : GC} {n : Nat} {xs : List PV} (h : xs.length ≤ sizeLine) : CallP g n (.builtin "len") [.list xs] (.int xs.length) := by
  refine ⟨fun A O s vs E R X L r => ?_⟩
  obtain ⟨v, vs', rfl, r₁, r₂⟩ := r.cons_inv; obtain rfl := r₂.nil_inv; obtain ⟨a, ws, rfl, ho, hl, rl⟩ := r₁.list_inv
  have e : ((ws.toArray.size : Nat) : Int) = (xs.length : Int) := by simp [rl.1]
  refine len_list hl (by rw [sizeLine_eq] at h; rw [e]; omega) ?_
  rw [e]; exact Got.toks (.int _ _)
theorem CallP.divmod {g : GC} {n : Nat} {a b : Int} (h : b ≠ 0) (hp : Builtin.divisionGoesByPylong a b = false) : CallP g n (.builtin "divmod") [.int a, .int b] (.tuple [.int (a.fdiv b), .int (a.fmod b)]) := by
  refine ⟨fun A O s vs E R X L r => ?_⟩
  obtain ⟨v, vs', rfl, r₁, r₂⟩ := r.cons_inv; obtain ⟨v', vs'', rfl, r₃, r₄⟩ := r₂.cons_inv; obtain rfl := r₄.nil_inv; obtain ⟨t, rfl⟩ := r₁.int_inv; obtain ⟨u, rfl⟩ := r₃.int_inv
  exact divmod_int h (Got.new (Rep.newTuple L (.cons (.int _ _) (.cons (.int _ _) .nil)))) (.inl hp)
theorem Rep.newRange {O : Addr → Prop} {h : Heap} {a b c : Int} {t u v : Tok} (hl : ∀ a, O a → ∃ o, h.get? a = some o) : Rep O (h.push { cls := .type "range", data := .fields #[.int a t, .int b u, .int c v] }) (.ref h.objs.size) (.range a b c) :=
  .range (fresh_not hl (get_size _)) (IsRange.new _ _ _ _ _ _ _)
theorem CallP.range1 {g : GC} {n : Nat} (a : Int) : CallP g n (.type "range") [.int a] (.range 0 a 1) := by
  refine ⟨fun A O s vs E R X L r => ?_⟩
  obtain ⟨v, vs', rfl, r₁, r₂⟩ := r.cons_inv; obtain rfl := r₂.nil_inv; obtain ⟨t, rfl⟩ := r₁.int_inv
  exact call_range_1 (Got.new (Rep.newRange L))
theorem CallP.range2 {g : GC} {n : Nat} (a b : Int) : CallP g n (.type "range") [.int a, .int b] (.range a b 1) := by
  refine ⟨fun A O s vs E R X L r => ?_⟩
  obtain ⟨v, vs', rfl, r₁, r₂⟩ := r.cons_inv; obtain ⟨v', vs'', rfl, r₃, r₄⟩ := r₂.cons_inv; obtain rfl := r₄.nil_inv; obtain ⟨t, rfl⟩ := r₁.int_inv; obtain ⟨u, rfl⟩ := r₃.int_inv
  exact call_range_2 (Got.new (Rep.newRange L))
theorem CallP.range3 {g : GC} {n : Nat} {a b c : Int} (h : c ≠ 0) (hp : Builtin.divisionGoesByPylong (b - a) c = false) : CallP g n (.type "range") [.int a, .int b, .int c] (.range a b c) := by
  refine ⟨fun A O s vs E R X L r => ?_⟩
  obtain ⟨v, vs', rfl, r₁, r₂⟩ := r.cons_inv; obtain ⟨v', vs'', rfl, r₃, r₄⟩ := r₂.cons_inv; obtain ⟨v'', vs3, rfl, r₅, r₆⟩ := r₄.cons_inv; obtain rfl := r₆.nil_inv; obtain ⟨t, rfl⟩ := r₁.int_inv; obtain ⟨u, rfl⟩ := r₃.int_inv; obtain ⟨u', rfl⟩ := r₅.int_inv
  exact call_range_3 h (Got.new (Rep.newRange L)) (.inl hp)

/-- the ints of a range -/
def rangePV (a c : Int) (n : Nat) : List PV := (List.range n).map fun (i : Nat) => PV.int (a + (i : Int) * c)
theorem rangePV_length (a c : Int) (n : Nat) : (rangePV a c n).length = n := by simp [rangePV]
theorem rangePV_get {a c : Int} {n i : Nat} (h : i < n) : (rangePV a c n)[i]? = some (.int (a + i * c)) := by simp [rangePV, h]
theorem CallP.listRange {g : GC} {n : Nat} {a b c : Int} {k : Nat} (hs : Builtin.Range.small a b c = true) (hn : Builtin.Range.rangeSize a b c = k) (hk : k ≤ 2 ^ 24) : CallP g n (.type "list") [.range a b c] (.list (rangePV a c k)) := by
  refine ⟨fun A O s vs E R X L r => ?_⟩
  obtain ⟨v, vs', rfl, r₁, r₂⟩ := r.cons_inv; obtain rfl := r₂.nil_inv; obtain ⟨q, t, u, w, rfl, ho, hr⟩ := r₁.range_inv
  refine call_list_range R.hd hr hs hn hk fun h' tk acc' c' hke hS hacc => ⟨h', tk, rfl, hke, ?_⟩
  refine .list' (vs := acc'.toList) (fresh_not L (get_size _)) ⟨c', by simpa using hS⟩ ⟨by simp [rangePV_length, hacc.1], fun i v x e e' => ?_⟩
  have e1 : acc'[i]? = some v := by simpa using e
  obtain ⟨t', rfl⟩ := hacc.2 i v e1
  have hi : i < k := by have := (Array.getElem?_eq_some_iff.mp e1).1; rw [hacc.1] at this; exact this
  rw [rangePV_get hi] at e'
  cases e'
  exact .int _ _
end
end Mine
namespace Mine

/-- how a run of statements ends -/
inductive Out where
  | next (ρ : PEnv)
  | brk (ρ : PEnv)
  | cont (ρ : PEnv)
  | ret (x : PV)

def Mut (c : FC) (b : Addr) : Prop := b = c.env.locals ∨ ∃ n, c.env.cells.lookup n = some b
def Kept (c : FC) (O : Addr → Prop) (h h' : Heap) : Prop := ∀ b o, h.get? b = some o → ¬ Mut c b → ¬ O b → h'.get? b = some o
structure FC.Fresh (c : FC) : Prop where
  loc : c.h₀.get? c.env.locals = none
  cel : ∀ n a, c.env.cells.lookup n = some a → c.h₀.get? a = none
  apart : ∀ n n' a, c.env.cells.lookup n = some a → c.env.cells.lookup n' = some a → n = n'

def GoesOn (c : FC) (h : Heap) (O : Addr → Prop) (ρ : PEnv) (h' : Heap) : Prop := ∃ O' m' cm', Inv c ρ O' m' cm' h' ∧ ∀ a, O' a → O a ∨ h.get? a = none
def Went (c : FC) (s : Shared) (O : Addr → Prop) (out : Out) (f : Flow) (s' : Shared) : Prop :=
  ∃ h' tk', s' = { s with heap := h', toks := tk' } ∧ Kept c O s.heap h' ∧
    match out with
    | .next ρ => f = .next ∧ GoesOn c s.heap O ρ h'
    | .brk ρ => f = .brk ∧ GoesOn c s.heap O ρ h'
    | .cont ρ => f = .cont ∧ GoesOn c s.heap O ρ h'
    | .ret x => (∃ v, f = .ret v ∧ Rep c.B h' v x) ∧ Ext c.h₀ h'

/-- statements lead from an environment to an end -/
structure ExP (c : FC) (ρ : PEnv) (st : List Stmt) (out : Out) : Prop where
  run : c.Fresh → ∀ (O : Addr → Prop) (m cm : Str → Option Value) (s : Shared) (E : Value → Shared → Prop), Inv c ρ O m cm s.heap →
    wpAny (model c.prog c.w) c.A (execs st c.env) (Went c s O out) E s
/-- one statement -/
structure StP (c : FC) (ρ : PEnv) (st : Stmt) (out : Out) : Prop where
  run : c.Fresh → ∀ (O : Addr → Prop) (m cm : Str → Option Value) (s : Shared) (E : Value → Shared → Prop), Inv c ρ O m cm s.heap →
    wpAny (model c.prog c.w) c.A (exec st c.env) (Went c s O out) E s

theorem Kept.refl {c : FC} {O : Addr → Prop} {h : Heap} : Kept c O h h := fun _ _ e _ _ => e
theorem Kept.ext {c : FC} {O : Addr → Prop} {h h' : Heap} (x : Ext h h') : Kept c O h h' := fun b o e _ _ => x b o e
theorem Kept.trans {c : FC} {O O' : Addr → Prop} {h h' h'' : Heap} (x : Kept c O h h') (y : Kept c O' h' h'') (ho : ∀ a, O' a → O a ∨ h.get? a = none) : Kept c O h h'' := fun b o e m n =>
  y b o (x b o e m n) m fun q => by
    rcases ho b q with a | a
    · exact n a
    · rw [e] at a; cases a
theorem GoesOn.refl {c : FC} {h : Heap} {O : Addr → Prop} {ρ : PEnv} {m cm : Str → Option Value} (I : Inv c ρ O m cm h) : GoesOn c h O ρ h := ⟨O, m, cm, I, fun _ q => .inl q⟩
theorem GoesOn.same {c : FC} {h h' : Heap} {O : Addr → Prop} {ρ : PEnv} {m cm : Str → Option Value} (I : Inv c ρ O m cm h') : GoesOn c h O ρ h' := ⟨O, m, cm, I, fun _ q => .inl q⟩

theorem none_of_kept {c : FC} {O O' : Addr → Prop} {h h' : Heap} (K : Kept c O h h') (a : Addr) (hn : h'.get? a = none) (hm : ¬ Mut c a) (ho : ¬ O a) : h.get? a = none := by
  cases e : h.get? a with
  | none => rfl
  | some o => rw [K a o e hm ho] at hn; cases hn

section
variable {c : FC} {ρ : PEnv}
theorem Inv.mut_live {O : Addr → Prop} {m cm : Str → Option Value} {h : Heap} (I : Inv c ρ O m cm h) {b : Addr} (q : Mut c b) : ∃ o, h.get? b = some o := by
  rcases q with rfl | ⟨n, e⟩
  · obtain ⟨o, _, _, e, _⟩ := I.ns; exact ⟨o, e⟩
  · obtain ⟨o, e, _⟩ := I.cell n b e; exact ⟨o, e⟩

/-- one behind the other -/
theorem Went.andThen {s s₁ s₂ : Shared} {O : Addr → Prop} {f : Flow} {out : Out} {h₁ : Heap} {tk : Nat} (e : s₁ = { s with heap := h₁, toks := tk }) (K : Kept c O s.heap h₁) {O' : Addr → Prop} {m cm : Str → Option Value} (I : Inv c ρ O' m cm h₁)
    (ho : ∀ a, O' a → O a ∨ s.heap.get? a = none) (w : Went c s₁ O' out f s₂) : Went c s O out f s₂ := by
  subst e
  obtain ⟨h₂, tk₂, rfl, K₂, r⟩ := w
  refine ⟨h₂, tk₂, rfl, K.trans K₂ ho, ?_⟩
  have tr : ∀ ρ', GoesOn c h₁ O' ρ' h₂ → GoesOn c s.heap O ρ' h₂ := fun ρ' ⟨O₂, m₂, cm₂, I₂, q⟩ => ⟨O₂, m₂, cm₂, I₂, fun a x => by
    rcases q a x with y | y
    · exact ho a y
    · by_cases oa : O a
      · exact .inl oa
      · by_cases ma : Mut c a
        · obtain ⟨o, eo⟩ := I.mut_live ma
          rw [y] at eo; cases eo
        · exact .inr (none_of_kept (O' := O') K a y ma oa)⟩
  cases out with
  | next ρ' => exact ⟨r.1, tr _ r.2⟩
  | brk ρ' => exact ⟨r.1, tr _ r.2⟩
  | cont ρ' => exact ⟨r.1, tr _ r.2⟩
  | ret x => exact r
theorem Got.went {s s₁ s₂ : Shared} {O : Addr → Prop} {x : PV} {v : Value} {f : Flow} {out : Out} {m cm : Str → Option Value} (I : Inv c ρ O m cm s.heap) (g : Got s O x v s₁) (w : Went c s₁ O out f s₂) : Went c s O out f s₂ := by
  have I₁ := I.ext g.ext
  obtain ⟨h, tk, rfl, e, r⟩ := g
  exact w.andThen rfl (Kept.ext e) I₁ fun _ q => .inl q
theorem Seen.went {s s₁ s₂ : Shared} {O : Addr → Prop} {b b' : Bool} {f : Flow} {out : Out} {m cm : Str → Option Value} (I : Inv c ρ O m cm s.heap) (g : Seen s b b' s₁) (w : Went c s₁ O out f s₂) : Went c s O out f s₂ := by
  have I₁ := I.ext g.ext
  obtain ⟨_, h, tk, rfl, e⟩ := g
  exact w.andThen rfl (Kept.ext e) I₁ fun _ q => .inl q

theorem ExP.nil : ExP c ρ [] (.next ρ) := ⟨fun _ O m cm s E I => wpAny_execs_nil ⟨s.heap, s.toks, rfl, Kept.refl, rfl, GoesOn.refl I⟩⟩
theorem ExP.cons {st : Stmt} {rest : List Stmt} {ρ' : PEnv} {out : Out} (h1 : StP c ρ st (.next ρ')) (h2 : ExP c ρ' rest out) : ExP c ρ (st :: rest) out := by
  refine ⟨fun hF O m cm s E I => ?_⟩
  refine wpAny_execs_cons (wpAny_mono (h1.run hF O m cm s E I) (fun f s₁ h₁ => ?_) fun _ _ x => x)
  obtain ⟨h', tk, rfl, K, rfl, O', m', cm', I', ho⟩ := h₁
  exact wpAny_mono (h2.run hF O' m' cm' _ E I') (fun _ _ w => w.andThen rfl K I' ho) fun _ _ x => x
theorem ExP.ret {st : Stmt} {rest : List Stmt} {x : PV} (h1 : StP c ρ st (.ret x)) : ExP c ρ (st :: rest) (.ret x) := by
  refine ⟨fun hF O m cm s E I => ?_⟩
  refine wpAny_execs_cons (wpAny_mono (h1.run hF O m cm s E I) (fun f s₁ h₁ => ?_) fun _ _ x => x)
  obtain ⟨h', tk, rfl, K, ⟨v, rfl, r⟩, k⟩ := h₁
  exact ⟨h', tk, rfl, K, ⟨v, rfl, r⟩, k⟩
theorem ExP.brk {st : Stmt} {rest : List Stmt} {ρ' : PEnv} (h1 : StP c ρ st (.brk ρ')) : ExP c ρ (st :: rest) (.brk ρ') := by
  refine ⟨fun hF O m cm s E I => ?_⟩
  refine wpAny_execs_cons (wpAny_mono (h1.run hF O m cm s E I) (fun f s₁ h₁ => ?_) fun _ _ x => x)
  obtain ⟨h', tk, rfl, K, rfl, g⟩ := h₁
  exact ⟨h', tk, rfl, K, rfl, g⟩
theorem ExP.one {st : Stmt} {out : Out} (h1 : StP c ρ st out) : ExP c ρ [st] out := by
  cases out with
  | next ρ' => exact ExP.cons h1 ExP.nil
  | ret x => exact ExP.ret h1
  | brk ρ' => exact ExP.brk h1
  | cont ρ' =>
    refine ⟨fun hF O m cm s E I => ?_⟩
    refine wpAny_execs_cons (wpAny_mono (h1.run hF O m cm s E I) (fun f s₁ h₁ => ?_) fun _ _ x => x)
    obtain ⟨h', tk, rfl, K, rfl, g⟩ := h₁
    exact ⟨h', tk, rfl, K, rfl, g⟩

/-! weakening -/
def Sub (ρ' ρ : PEnv) : Prop := ∀ x e, ρ'.lookup x = some e → ρ.lookup x = some e
theorem Inv.sub_env {ρ' : PEnv} {O : Addr → Prop} {m cm : Str → Option Value} {h : Heap} (I : Inv c ρ O m cm h) (S : Sub ρ' ρ) : Inv c ρ' O m cm h :=
  ⟨I.good, I.ns, I.cell, I.keep, fun x pv e => I.val x pv (S _ _ e), fun x xs e => I.own x xs (S _ _ e), fun x y xs ys a e e' => I.inj x y xs ys a (S _ _ e) (S _ _ e'), I.sub, I.live⟩
theorem ExP.weak {ρ' : PEnv} {st : List Stmt} {out : Out} (S : Sub ρ' ρ) (h : ExP c ρ' st out) : ExP c ρ st out := ⟨fun hF O m cm s E I => h.run hF O m cm s E (I.sub_env S)⟩
theorem StP.weak {ρ' : PEnv} {st : Stmt} {out : Out} (S : Sub ρ' ρ) (h : StP c ρ' st out) : StP c ρ st out := ⟨fun hF O m cm s E I => h.run hF O m cm s E (I.sub_env S)⟩
theorem EvP.weak {ρ' : PEnv} {e : Expr} {x : PV} (S : Sub ρ' ρ) (h : EvP c ρ' e x) : EvP c ρ e x := ⟨fun O m cm s E I => h.run O m cm s E (I.sub_env S)⟩
theorem Went.weak {ρ' ρ'' : PEnv} {s s' : Shared} {O : Addr → Prop} {f : Flow} (S : Sub ρ'' ρ') (w : Went c s O (.next ρ') f s') : Went c s O (.next ρ'') f s' := by
  obtain ⟨h', tk, e, K, e', O', m', cm', I', ho⟩ := w
  exact ⟨h', tk, e, K, e', O', m', cm', I'.sub_env S, ho⟩
theorem ExP.forget {ρ' ρ'' : PEnv} {st : List Stmt} (S : Sub ρ'' ρ') (h : ExP c ρ st (.next ρ')) : ExP c ρ st (.next ρ'') := ⟨fun hF O m cm s E I => wpAny_mono (h.run hF O m cm s E I) (fun _ _ w => w.weak S) fun _ _ x => x⟩
theorem StP.forget {ρ' ρ'' : PEnv} {st : Stmt} (S : Sub ρ'' ρ') (h : StP c ρ st (.next ρ')) : StP c ρ st (.next ρ'') := ⟨fun hF O m cm s E I => wpAny_mono (h.run hF O m cm s E I) (fun _ _ w => w.weak S) fun _ _ x => x⟩
theorem Sub.of_all {ρ' ρ : PEnv} (h : ∀ p ∈ ρ', ρ.lookup p.1 = some p.2) : Sub ρ' ρ := fun x e hx => h (x, e) (mem_of_lookup hx)

/-- freezing: an own list becomes a datum -/
theorem Inv.freeze {O : Addr → Prop} {m cm : Str → Option Value} {h : Heap} {x : Str} {xs : List PV} (I : Inv c ρ O m cm h) (hx : ρ.lookup x = some (.own xs)) :
    ∃ O', Inv c ((x, .val (.list xs)) :: ρ) O' m cm h ∧ ∀ a, O' a → O a := by
  obtain ⟨a, vs, n, sl, oa, nb, hz, hg, rl⟩ := I.own x xs hx
  refine ⟨fun b => O b ∧ b ≠ a, ⟨I.good, I.ns, I.cell, I.keep, ?_, ?_, ?_, ?_, ?_⟩, fun b q => q.1⟩
  · intro y pv e
    rw [List.lookup_cons] at e
    cases hb : y == x with
    | true =>
      rw [hb] at e; cases e
      rw [beq_iff_eq.mp hb]
      exact ⟨_, sl, .list' (fun q => q.2 rfl) ⟨n, hg⟩ (rl.mono (fun b o q _ q' => q q'.1) fun b o _ _ e => e)⟩
    | false =>
      rw [hb] at e
      obtain ⟨v, s, r⟩ := I.val y pv e
      exact ⟨v, s, r.mono (fun b o q _ q' => q q'.1) fun b o _ _ e => e⟩
  · intro y ys e
    rw [List.lookup_cons] at e
    cases hb : y == x with
    | true => rw [hb] at e; cases e
    | false =>
      rw [hb] at e
      obtain ⟨a', vs', n', sl', oa', nb', hz', hg', rl'⟩ := I.own y ys e
      refine ⟨a', vs', n', sl', ⟨oa', fun q => ?_⟩, nb', hz', hg', rl'.mono (fun b o q _ q' => q q'.1) fun b o _ _ e => e⟩
      subst q
      have := I.inj y x ys xs a' e hx sl' sl
      rw [this, beq_self_eq_true] at hb; cases hb
  · intro y z ys zs b e e' s s'
    rw [List.lookup_cons] at e e'
    cases hb : y == x with
    | true => rw [hb] at e; cases e
    | false =>
      cases hb' : z == x with
      | true => rw [hb'] at e'; cases e'
      | false => rw [hb] at e; rw [hb'] at e'; exact I.inj y z ys zs b e e' s s'
  · exact fun b q => ⟨I.sub b q, fun e => nb (e ▸ q)⟩
  · exact fun b q => I.live b q.1
theorem Went.frozen {s s' : Shared} {O O' : Addr → Prop} {f : Flow} {out : Out} (ho : ∀ a, O' a → O a) (w : Went c s O' out f s') : Went c s O out f s' := by
  obtain ⟨h', tk, e, K, r⟩ := w
  refine ⟨h', tk, e, fun b o eb m n => K b o eb m fun q => n (ho b q), ?_⟩
  have tr : ∀ ρ', GoesOn c s.heap O' ρ' h' → GoesOn c s.heap O ρ' h' := fun ρ' ⟨O₂, m₂, cm₂, I₂, q⟩ => ⟨O₂, m₂, cm₂, I₂, fun a x => (q a x).imp (ho a) id⟩
  cases out with
  | next ρ' => exact ⟨r.1, tr _ r.2⟩
  | brk ρ' => exact ⟨r.1, tr _ r.2⟩
  | cont ρ' => exact ⟨r.1, tr _ r.2⟩
  | ret x => exact r
theorem ExP.freeze {x : Str} {xs : List PV} {st : List Stmt} {out : Out} (hx : ρ.lookup x = some (.own xs)) (h : ExP c ((x, .val (.list xs)) :: ρ) st out) : ExP c ρ st out := by
  refine ⟨fun hF O m cm s E I => ?_⟩
  obtain ⟨O', I', ho⟩ := I.freeze hx
  exact wpAny_mono (h.run hF O' m cm s E I') (fun _ _ w => w.frozen ho) fun _ _ x => x
theorem StP.freeze {x : Str} {xs : List PV} {st : Stmt} {out : Out} (hx : ρ.lookup x = some (.own xs)) (h : StP c ((x, .val (.list xs)) :: ρ) st out) : StP c ρ st out := by
  refine ⟨fun hF O m cm s E I => ?_⟩
  obtain ⟨O', I', ho⟩ := I.freeze hx
  exact wpAny_mono (h.run hF O' m cm s E I') (fun _ _ w => w.frozen ho) fun _ _ x => x

/-! storing -/
theorem solid_ne {h : Heap} {L : Addr} {m : Str → Option Value} (hn : h.Ns L m) {b : Addr} {o : Obj} (e : h.get? b = some o) (hs : Solid o) : b ≠ L := by
  rintro rfl
  obtain ⟨o', es, ep, e', hd, _⟩ := hn
  rw [e] at e'; cases e'
  exact hs.no_dict hd
theorem solid_ne_cell {h : Heap} {a : Addr} {v : Option Value} (hn : h.IsCell a v) {b : Addr} {o : Obj} (e : h.get? b = some o) (hs : Solid o) : b ≠ a := by
  rintro rfl
  obtain ⟨o', e', hd⟩ := hn
  rw [e] at e'; cases e'
  exact hs.no_cell hd
theorem cell_ne {h : Heap} {L a : Addr} {m : Str → Option Value} {v : Option Value} (hn : h.Ns L m) (hc : h.IsCell a v) : a ≠ L := by
  rintro rfl
  obtain ⟨o', es, ep, e', hd, _⟩ := hn
  obtain ⟨o, e, hd'⟩ := hc
  rw [e] at e'; cases e'
  rw [hd] at hd'; cases hd'

def CanStore (c : FC) (x : Str) : Prop := c.env.kindOf x = some .local ∨ (c.env.kindOf x = some .cell ∧ (c.env.cells.lookup x).isSome = true)

/-- the frame with one name turned -/
theorem Inv.set {O : Addr → Prop} {m cm m' cm' : Str → Option Value} {h h' : Heap} {x : Str} {v : Value} {e : Ent} {b : Addr} (hF : c.Fresh) (I : Inv c ρ O m cm h) (hb : Mut c b) (hs : Heap.SameBut b h h')
    (hns : h'.Ns c.env.locals m') (hcl : ∀ n a, c.env.cells.lookup n = some a → h'.IsCell a (cm' n)) (hx : Slot c.env m' cm' x v) (hy : ∀ y w, y ≠ x → (Slot c.env m' cm' y w ↔ Slot c.env m cm y w))
    (hval : ∀ pv, e = .val pv → Rep O h v pv)
    (hown : ∀ xs, e = .own xs → ∃ a vs n, v = .ref a ∧ O a ∧ ¬ c.B a ∧ c.h₀.get? a = none ∧ h.get? a = some { cls := .type "list", data := .seq (List.toArray vs) n } ∧ RepL O h vs xs ∧ ∀ y ys, ρ.lookup y = some (.own ys) → ¬ Slot c.env m cm y (.ref a)) :
    Inv c ((x, e) :: ρ) O m' cm' h' := by
  have hk : ∀ b' o, Solid o → h.get? b' = some o → h'.get? b' = some o := fun b' o so e' => by
    have : b' ≠ b := by
      rcases hb with rfl | ⟨n, en⟩
      · exact solid_ne I.ns e' so
      · exact solid_ne_cell (I.cell n b en) e' so
    exact (hs.2 b' this).trans e'
  have hk0 : ∀ b' o, b' ≠ b → h.get? b' = some o → h'.get? b' = some o := fun b' o n e' => (hs.2 b' n).trans e'
  have h0b : c.h₀.get? b = none := by
    rcases hb with rfl | ⟨n, en⟩
    · exact hF.loc
    · exact hF.cel n b en
  refine ⟨I.good, hns, hcl, fun b' o e' => ?_, ?_, ?_, ?_, I.sub, ?_⟩
  · refine hk0 b' o (fun q => ?_) (I.keep b' o e')
    subst q; rw [h0b] at e'; cases e'
  · intro y pv ey
    rw [List.lookup_cons] at ey
    cases hb : y == x with
    | true =>
      rw [hb] at ey; cases ey
      rw [beq_iff_eq.mp hb]
      exact ⟨v, hx, (hval pv rfl).mono (fun _ _ q _ => q) fun b' o _ so e' => hk b' o so e'⟩
    | false =>
      rw [hb] at ey
      obtain ⟨w, s, r⟩ := I.val y pv ey
      exact ⟨w, (hy y w (fun q => by rw [q, beq_self_eq_true] at hb; cases hb)).mpr s, r.mono (fun _ _ q _ => q) fun b' o _ so e' => hk b' o so e'⟩
  · intro y ys ey
    rw [List.lookup_cons] at ey
    cases hb : y == x with
    | true =>
      rw [hb] at ey; cases ey
      rw [beq_iff_eq.mp hb]
      obtain ⟨a, vs, n, rfl, oa, nb, hz, hg, rl, _⟩ := hown ys rfl
      exact ⟨a, vs, n, hx, oa, nb, hz, hk a _ (solid_list rfl) hg, rl.mono (fun _ _ q _ => q) fun b' o _ so e' => hk b' o so e'⟩
    | false =>
      rw [hb] at ey
      obtain ⟨a, vs, n, s, oa, nb, hz, hg, rl⟩ := I.own y ys ey
      exact ⟨a, vs, n, (hy y _ (fun q => by rw [q, beq_self_eq_true] at hb; cases hb)).mpr s, oa, nb, hz, hk a _ (solid_list rfl) hg, rl.mono (fun _ _ q _ => q) fun b' o _ so e' => hk b' o so e'⟩
  · intro y z ys zs a ey ez sy sz
    rw [List.lookup_cons] at ey ez
    cases hby : y == x with
    | true =>
      rw [hby] at ey; cases ey
      have hyx := beq_iff_eq.mp hby
      cases hbz : z == x with
      | true => rw [hyx, beq_iff_eq.mp hbz]
      | false =>
        rw [hbz] at ez
        have hzx : z ≠ x := fun q => by rw [q, beq_self_eq_true] at hbz; cases hbz
        obtain ⟨a', vs, n, ev, oa, nb, hz, hg, rl, ap⟩ := hown ys rfl
        subst hyx ev
        have : a = a' := by
          rcases sy with ⟨k1, k2⟩ | ⟨k1, k1', k2⟩ <;> rcases hx with ⟨k3, k4⟩ | ⟨k3, k3', k4⟩
          · rw [k2] at k4; cases k4; rfl
          · rw [k1] at k3; cases k3
          · rw [k1] at k3; cases k3
          · rw [k2] at k4; cases k4; rfl
        subst this
        exact absurd ((hy z _ hzx).mp sz) (ap z zs ez)
    | false =>
      rw [hby] at ey
      have hyx : y ≠ x := fun q => by rw [q, beq_self_eq_true] at hby; cases hby
      cases hbz : z == x with
      | true =>
        rw [hbz] at ez; cases ez
        have hzx := beq_iff_eq.mp hbz
        obtain ⟨a', vs, n, ev, oa, nb, hz, hg, rl, ap⟩ := hown zs rfl
        subst hzx ev
        have : a = a' := by
          rcases sz with ⟨k1, k2⟩ | ⟨k1, k1', k2⟩ <;> rcases hx with ⟨k3, k4⟩ | ⟨k3, k3', k4⟩
          · rw [k2] at k4; cases k4; rfl
          · rw [k1] at k3; cases k3
          · rw [k1] at k3; cases k3
          · rw [k2] at k4; cases k4; rfl
        subst this
        exact absurd ((hy y _ hyx).mp sy) (ap y ys ey)
      | false =>
        rw [hbz] at ez
        have hzx : z ≠ x := fun q => by rw [q, beq_self_eq_true] at hbz; cases hbz
        exact I.inj y z ys zs a ey ez ((hy y _ hyx).mp sy) ((hy z _ hzx).mp sz)
  · intro a q
    obtain ⟨o, eo⟩ := I.live a q
    by_cases hab : a = b
    · subst hab
      rcases hb with rfl | ⟨n, en⟩
      · obtain ⟨o', _, _, e', _⟩ := hns; exact ⟨o', e'⟩
      · obtain ⟨o', e', _⟩ := hcl n a en; exact ⟨o', e'⟩
    · exact ⟨o, hk0 a o hab eo⟩

/-- a store of a name -/
theorem wp_store {O : Addr → Prop} {m cm : Str → Option Value} {s : Shared} {E : Value → Shared → Prop} {x : Str} {v : Value} {e : Ent} (hF : c.Fresh) (I : Inv c ρ O m cm s.heap) (hx : CanStore c x)
    (hval : ∀ pv, e = .val pv → Rep O s.heap v pv)
    (hown : ∀ xs, e = .own xs → ∃ a vs n, v = .ref a ∧ O a ∧ ¬ c.B a ∧ c.h₀.get? a = none ∧ s.heap.get? a = some { cls := .type "list", data := .seq (List.toArray vs) n } ∧ RepL O s.heap vs xs ∧ ∀ y ys, ρ.lookup y = some (.own ys) → ¬ Slot c.env m cm y (.ref a)) :
    wpAny (model c.prog c.w) c.A (storeName c.env x v) (fun _ s' => ∃ h' tk' m' cm', s' = { s with heap := h', toks := tk' } ∧ Kept c O s.heap h' ∧ Inv c ((x, e) :: ρ) O m' cm' h') E s := by
  rcases hx with hl | ⟨hl, hc⟩
  · refine wpAny_storeName_local hl I.ns (fun h' hn hs => ?_) (by rw [I.good.kind]; rfl)
    refine ⟨h', _, _, cm, rfl, fun b o e' nm no => (hs.2 b fun q => nm (.inl q)).trans e', I.set hF (.inl rfl) hs hn (fun n a en => (I.cell n a en).sameBut hs (cell_ne I.ns (I.cell n a en))) (.inl ⟨hl, by simp⟩) (fun y w hy => ?_) hval hown⟩
    unfold Slot
    dsimp only
    rw [if_neg hy]
  · obtain ⟨a, ha⟩ := Option.isSome_iff_exists.mp hc
    refine wpAny_storeName_cell I.good.kind hl ha (I.cell x a ha) fun h' hv hs => ?_
    refine ⟨h', _, m, fun y => if y = x then some v else cm y, rfl, fun b o e' nm no => (hs.2 b fun q => nm (.inr ⟨x, q ▸ ha⟩)).trans e',
      I.set hF (.inr ⟨x, ha⟩) hs (I.ns.sameBut hs (Ne.symm (cell_ne I.ns (I.cell x a ha)))) (fun n b en => ?_) (.inr ⟨hl, hc, by simp⟩) (fun y w hy => ?_) hval hown⟩
    · by_cases hn : n = x
      · subst hn; rw [ha] at en; cases en; simpa using hv
      · rw [if_neg hn]
        exact (I.cell n b en).sameBut hs fun q => hn (hF.apart n x b en (q ▸ ha))
    · unfold Slot
      dsimp only
      rw [if_neg hy]
end
end Mine
namespace Mine
/-- a method's call in its common form -/
abbrev MethForm (c : FC) (o : Expr) (name : Str) (ap : Pos) (args : List Expr) (cp : Pos) : Prop := ∃ pl : Sem Bool,
  eval (.Call (.Attribute o name ap) args [] cp) c.env = (do
    let ov ← eval o c.env
    standAt ap.atName
    let (f, first) ← holding [ov] (getMethod ov name pl)
    callWith cp f first (backTo cp (starEach args c.env)) [])
section
variable {c : FC} {ρ : PEnv}

theorem StP.assign {x : Str} {px pos : Pos} {e : Expr} {v : PV} (h : EvP c ρ e v) (hx : CanStore c x) (hs : swapsWith e (some (.Name x px)) pos.line c.env = pure false := by rfl) : StP c ρ (.Assign [.Name x px] e pos) (.next ((x, .val v) :: ρ)) := by
  refine ⟨fun hF O m cm s E I => ?_⟩
  refine wpAny_Assign_Name (wpAny_mono (h.run O m cm s E I) (fun w s₁ h₁ => ?_) fun _ _ x => x) hs
  have I₁ := I.ext h₁.ext
  refine wpAny_mono (wp_store (e := .val v) hF I₁ hx (fun pv e => by cases e; exact h₁.rep) (fun xs e => nomatch e)) (fun _ s₂ h₂ => ?_) fun _ _ x => x
  obtain ⟨h', tk, m', cm', rfl, K, I'⟩ := h₂
  exact h₁.went I ⟨h', tk, rfl, K, rfl, GoesOn.same I'⟩

theorem StP.aug {x : Str} {px pos : Pos} {op : Operator} {e : Expr} {a v z : PV} (ha : ρ.lookup x = some (.val a)) (h : EvP c ρ e v) (ho : Op2 c (inplaceOp op) a v z) (hx : CanStore c x) : StP c ρ (.AugAssign (.Name x px) op e pos) (.next ((x, .val z) :: ρ)) := by
  refine ⟨fun hF O m cm s E I => ?_⟩
  obtain ⟨w, hs, r⟩ := I.val x a ha
  refine wpAny_AugAssign_Name ?_
  have go : wpAny (model c.prog c.w) c.A (eval e c.env) (fun v' s₂ => wpAny (model c.prog c.w) c.A (inplaceOp op w v') (fun r s₃ => wpAny (model c.prog c.w) c.A (storeName c.env x r) (fun _ => Went c s O (.next ((x, .val z) :: ρ)) .next) E s₃) E s₂) E s := by
    refine wpAny_mono (h.run O m cm s E I) (fun v' s₁ h₁ => ?_) fun _ _ x => x
    have I₁ := I.ext h₁.ext
    refine wpAny_mono (ho.run O s₁ w v' E I₁.gnd (r.ext h₁.ext) h₁.rep) (fun r s₂ h₂ => ?_) fun _ _ x => x
    have I₂ := I₁.ext h₂.ext
    refine wpAny_mono (wp_store (e := .val z) hF I₂ hx (fun pv e => by cases e; exact h₂.rep) (fun xs e => nomatch e)) (fun _ s₃ h₃ => ?_) fun _ _ x => x
    obtain ⟨h', tk, m', cm', rfl, K, I'⟩ := h₃
    exact (h₁.trans h₂).went I ⟨h', tk, rfl, K, rfl, GoesOn.same I'⟩
  rcases hs with ⟨hk, hm⟩ | ⟨hk, hc, hm⟩
  · exact wpAny_loadName_local I.good.kind hk I.ns hm go
  · obtain ⟨a', ha'⟩ := Option.isSome_iff_exists.mp hc
    exact wpAny_loadName_cell I.good.kind hk ha' (hm ▸ I.cell x a' ha') go

theorem StP.ret {e : Expr} {pos : Pos} {v : PV} (h : EvP c ρ e v) : StP c ρ (.Return (some e) pos) (.ret v) := by
  refine ⟨fun hF O m cm s E I => ?_⟩
  refine wpAny_Return_some (wpAny_mono (h.run O m cm s E I) (fun w s₁ h₁ => ?_) fun _ _ x => x)
  have I₁ := I.ext h₁.ext
  obtain ⟨h', tk, rfl, k, r⟩ := h₁
  exact ⟨h', tk, rfl, Kept.ext k, ⟨w, rfl, r.mono (fun b o q _ q' => q (I.sub b q')) fun b o _ _ e => e⟩, I₁.keep⟩
theorem StP.brk {pos : Pos} : StP c ρ (.Break pos) (.brk ρ) := ⟨fun hF O m cm s E I => wpAny_Break ⟨s.heap, s.toks, rfl, Kept.refl, rfl, GoesOn.refl I⟩⟩

theorem StP.ite {test : Expr} {body orelse : List Stmt} {pos : Pos} {b : Bool} {out : Out} (ht : TrP c ρ test b) (h1 : b = true → ExP c ρ body out) (h2 : b = false → ExP c ρ orelse out) : StP c ρ (.If test body orelse pos) out := by
  refine ⟨fun hF O m cm s E I => ?_⟩
  refine wpAny_If (wpAny_mono (ht.run O m cm s E I) (fun b' s₁ h₁ => ?_) fun _ _ x => x)
  have I₁ := I.ext h₁.ext
  obtain ⟨e, _⟩ := id h₁
  subst e
  cases b' with
  | true => simp only [if_true]; exact wpAny_mono ((h1 rfl).run hF O m cm s₁ E I₁) (fun _ _ q => h₁.went I q) fun _ _ x => x
  | false => simp only [Bool.false_eq_true, if_false]; exact wpAny_mono ((h2 rfl).run hF O m cm s₁ E I₁) (fun _ _ q => h₁.went I q) fun _ _ x => x

/-- a new list of the frame's own -/
theorem StP.assignOwn {x : Str} {px pos lp : Pos} (hx : CanStore c x) (hs : swapsWith (.List [] lp) (some (.Name x px)) pos.line c.env = pure false := by rfl) : StP c ρ (.Assign [.Name x px] (.List [] lp) pos) (.next ((x, .own []) :: ρ)) := by
  refine ⟨fun hF O m cm s E I => ?_⟩
  refine wpAny_Assign_Name (wpAny_List (wpAny_items_nil ⟨by simp, ?_⟩)) hs
  have hp := Ext.push s.heap { cls := .type "list", data := .seq ([] : List Value).toArray }
  have I₁ := I.ext hp
  have hz : s.heap.get? s.heap.objs.size = none := get_size _
  have ho : ¬ O s.heap.objs.size := fresh_not I.live hz
  have hO : ∀ b o, ¬ O b → s.heap.get? b = some o → ¬ (O b ∨ b = s.heap.objs.size) := fun b o n e q => by
    rcases q with q | q
    · exact n q
    · subst q; rw [hz] at e; cases e
  have h0 : c.h₀.get? s.heap.objs.size = none := by
    cases e : c.h₀.get? s.heap.objs.size with
    | none => rfl
    | some o => have := I.keep _ _ e; rw [hz] at this; cases this
  have hB : ¬ c.B s.heap.objs.size := fun q => ho (I.sub _ q)
  have I₂ : Inv c ρ (fun b => O b ∨ b = s.heap.objs.size) m cm (s.heap.push { cls := .type "list", data := .seq ([] : List Value).toArray }) :=
    { good := I.good, ns := I₁.ns, cell := I₁.cell, keep := I₁.keep, inj := I.inj,
      val := fun y pv e => let ⟨v, sl, r⟩ := I.val y pv e; ⟨v, sl, r.mono hO fun b o _ _ e => hp b o e⟩
      own := fun y ys e => let ⟨a, vs, n, sl, oa, nb, z, g, r⟩ := I.own y ys e; ⟨a, vs, n, sl, .inl oa, nb, z, hp _ _ g, r.mono hO fun b o _ _ e => hp b o e⟩
      sub := fun a q => .inl (I.sub a q)
      live := fun a q => by
        rcases q with q | q
        · exact I₁.live a q
        · subst q; exact ⟨_, Heap.get?_push_size _ rfl⟩ }
  refine wpAny_mono (wp_store (s := { s with heap := s.heap.push { cls := .type "list", data := .seq ([] : List Value).toArray } }) (e := .own []) hF I₂ hx (fun pv e => nomatch e)
    (fun xs e => by
      cases e
      refine ⟨s.heap.objs.size, [], 0, rfl, .inr rfl, hB, h0, Heap.get?_push_size _ rfl, .nil, fun y ys ey sl => ?_⟩
      obtain ⟨a, vs, n, sl', oa, nb, z, g, r⟩ := I.own y ys ey
      have : a = s.heap.objs.size := by
        rcases sl with ⟨k1, k2⟩ | ⟨k1, k1', k2⟩ <;> rcases sl' with ⟨k3, k4⟩ | ⟨k3, k3', k4⟩
        · rw [k2] at k4; cases k4; rfl
        · rw [k1] at k3; cases k3
        · rw [k1] at k3; cases k3
        · rw [k2] at k4; cases k4; rfl
      subst this
      exact ho oa)) (fun _ s₂ h₂ => ?_) fun _ _ x => x
  obtain ⟨h', tk, m', cm', rfl, K, I'⟩ := h₂
  refine ⟨h', tk, rfl, fun b o e nm no => K b o (hp b o e) nm (hO b o no e), rfl, _, m', cm', I', fun a q => ?_⟩
  rcases q with q | q
  · exact .inl q
  · subst q; exact .inr hz

/-- an own list turned -/
theorem Inv.mutate {O : Addr → Prop} {m cm : Str → Option Value} {h h' : Heap} {x : Str} {xs ys : List PV} {a : Addr} {ws : List Value} {n : Nat} (hF : c.Fresh) (I : Inv c ρ O m cm h) (hx : ρ.lookup x = some (.own xs)) (sl : Slot c.env m cm x (.ref a)) (oa : O a) (hB : ¬ c.B a) (hz : c.h₀.get? a = none)
    {oo : Obj} (hg0 : h.get? a = some oo) (hso : Solid oo) (hs : Heap.SameBut a h h') (hg : h'.get? a = some { cls := .type "list", data := .seq (List.toArray ws) n }) (r : RepL O h ws ys) : Inv c ((x, .own ys) :: ρ) O m cm h' := by
  have hL : c.env.locals ≠ a := fun q => solid_ne (q ▸ I.ns) hg0 hso rfl
  have hC : ∀ n b, c.env.cells.lookup n = some b → b ≠ a := fun n b e q => solid_ne_cell (I.cell n b e) (q ▸ hg0) hso q.symm
  have hk : ∀ b o, b ≠ a → h.get? b = some o → h'.get? b = some o := fun b o q e => (hs.2 b q).trans e
  have hkO : ∀ b o, ¬ O b → Solid o → h.get? b = some o → h'.get? b = some o := fun b o q _ e => hk b o (fun q' => q (q' ▸ oa)) e
  refine ⟨I.good, I.ns.sameBut hs hL, fun n b e => (I.cell n b e).sameBut hs (hC n b e), fun b o e => hk b o (fun q => ?_) (I.keep b o e), ?_, ?_, ?_, I.sub, fun b q => ?_⟩
  · subst q; rw [hz] at e; cases e
  · intro y pv ey
    rw [List.lookup_cons] at ey
    cases hb : y == x with
    | true => rw [hb] at ey; cases ey
    | false =>
      rw [hb] at ey
      obtain ⟨v, s, r⟩ := I.val y pv ey
      exact ⟨v, s, r.mono (fun _ _ q _ => q) hkO⟩
  · intro y zs ey
    rw [List.lookup_cons] at ey
    cases hb : y == x with
    | true =>
      rw [hb] at ey; cases ey
      rw [beq_iff_eq.mp hb]
      exact ⟨a, ws, n, sl, oa, hB, hz, hg, r.mono (fun _ _ q _ => q) hkO⟩
    | false =>
      rw [hb] at ey
      obtain ⟨a', vs', n', sl', oa', nb', hz', hg', rl'⟩ := I.own y zs ey
      refine ⟨a', vs', n', sl', oa', nb', hz', hk _ _ (fun q => ?_) hg', rl'.mono (fun _ _ q _ => q) hkO⟩
      subst q
      have := I.inj y x zs xs a' ey hx sl' sl
      rw [this, beq_self_eq_true] at hb; cases hb
  · intro y z ys' zs b ey ez sy sz
    rw [List.lookup_cons] at ey ez
    cases hby : y == x with
    | true =>
      have e1 := beq_iff_eq.mp hby
      cases hbz : z == x with
      | true => rw [e1, beq_iff_eq.mp hbz]
      | false => rw [hbz] at ez; subst e1; exact I.inj y z xs zs b hx ez sy sz
    | false =>
      rw [hby] at ey
      cases hbz : z == x with
      | true => have e1 := beq_iff_eq.mp hbz; subst e1; exact I.inj y z ys' xs b ey hx sy sz
      | false => rw [hbz] at ez; exact I.inj y z ys' zs b ey ez sy sz
  · obtain ⟨o, e⟩ := I.live b q
    by_cases hb : b = a
    · subst hb; exact ⟨_, hg⟩
    · exact ⟨o, hk b o hb e⟩

theorem wp_nameOwn {O : Addr → Prop} {m cm : Str → Option Value} {s : Shared} {E : Value → Shared → Prop} {x : Str} {pos : Pos} {v : Value} (I : Inv c ρ O m cm s.heap) (sl : Slot c.env m cm x v) {Q : Value → Shared → Prop} (h : Q v s) (hd : (x == ("__debug__" : Str)) = false := by decide) :
    wpAny (model c.prog c.w) c.A (eval (.Name x pos) c.env) Q E s := by
  refine wpAny_Name ?_ hd
  rcases sl with ⟨hk, hm⟩ | ⟨hk, hc, hm⟩
  · exact wpAny_loadName_local I.good.kind hk I.ns hm h
  · obtain ⟨a, ha⟩ := Option.isSome_iff_exists.mp hc
    exact wpAny_loadName_cell I.good.kind hk ha (hm ▸ I.cell x a ha) h

theorem StP.append {x : Str} {px ap cp pos : Pos} {e : Expr} {xs : List PV} {v : PV} (hx : ρ.lookup x = some (.own xs)) (h : EvP c ρ e v) (hz : xs.length ≤ sizeLine) (hd : (x == ("__debug__" : Str)) = false := by decide)
    (he : starEach [e] c.env = [(false, eval e c.env)] := by rfl) (hi : interactive c.env = false := by rfl)
    (hsw : swapsWith (.Call (.Attribute (.Name x px) (Str.ofString "append") ap) [e] [] cp) none pos.line c.env = pure false := by rfl)
    (hev : MethForm c (.Name x px) (Str.ofString "append") ap [e] cp := by exact ⟨_, rfl⟩) :
    StP c ρ (.Expr (.Call (.Attribute (.Name x px) (Str.ofString "append") ap) [e] [] cp) pos) (.next ((x, .own (xs ++ [v])) :: ρ)) := by
  refine ⟨fun hF O m cm s E I => ?_⟩
  obtain ⟨a, vs, n, sl, oa, nb, hz0, hg, rl⟩ := I.own x xs hx
  refine wpAny_Expr ?_ hi hsw
  obtain ⟨pl, hev⟩ := hev
  refine MethodCall_ (pl := pl) (wp_nameOwn I sl ?_ hd) hev
  refine Calls.getMethod_list_append hg rfl rfl ?_
  refine callArgs (first := [.ref a]) (Calle.builtin _) (ArgsP.cons h ArgsP.nil he) I (fun ws s₁ h₁ => ?_) he
  obtain ⟨w, ws', rfl, r₁, r₂⟩ := h₁.rep.cons_inv; obtain rfl := r₂.nil_inv
  have I₁ := I.ext h₁.ext
  have hg₁ := h₁.ext _ _ hg
  refine append_at hg₁ (fun h' hs hg' => ?_) (by simp [rl.1]; exact hz)
  have hg'' : h'.get? a = some { cls := .type "list", data := .seq (List.toArray (vs ++ [w])) (n + 1) } := by simpa using hg'
  have I₂ := I₁.mutate hF hx sl oa nb hz0 hg₁ (solid_list rfl) hs hg'' ((rl.ext h₁.ext).append (.cons r₁ .nil))
  have g : Got s O Mine.PV.none .none s₁ := by
    obtain ⟨hh, tk, rfl, k, _⟩ := h₁
    exact ⟨hh, tk, rfl, k, .none⟩
  exact g.went I ⟨h', s₁.toks, rfl, fun b o e' nm no => (hs.2 b fun q => no (q ▸ oa)).trans e', rfl, GoesOn.same I₂⟩

theorem StP.extend {x : Str} {px ap cp pos : Pos} {e : Expr} {xs ys : List PV} (hx : ρ.lookup x = some (.own xs)) (h : EvP c ρ e (.list ys)) (hz : xs.length + ys.length ≤ sizeLine) (hd : (x == ("__debug__" : Str)) = false := by decide)
    (he : starEach [e] c.env = [(false, eval e c.env)] := by rfl) (hi : interactive c.env = false := by rfl)
    (hsw : swapsWith (.Call (.Attribute (.Name x px) (Str.ofString "extend") ap) [e] [] cp) none pos.line c.env = pure false := by rfl)
    (hev : MethForm c (.Name x px) (Str.ofString "extend") ap [e] cp := by exact ⟨_, rfl⟩) :
    StP c ρ (.Expr (.Call (.Attribute (.Name x px) (Str.ofString "extend") ap) [e] [] cp) pos) (.next ((x, .own (xs ++ ys)) :: ρ)) := by
  refine ⟨fun hF O m cm s E I => ?_⟩
  obtain ⟨a, vs, n, sl, oa, nb, hz0, hg, rl⟩ := I.own x xs hx
  refine wpAny_Expr ?_ hi hsw
  obtain ⟨pl, hev⟩ := hev
  refine MethodCall_ (pl := pl) (wp_nameOwn I sl ?_ hd) hev
  have hIL : s.heap.IsList a vs.toArray := ⟨_, hg, rfl, n, rfl⟩
  refine getMethod_list_of PySem.F.slot_list_extend PySem.F.type_list_extend hIL ⟨_, hg, rfl⟩ ?_
  refine callArgs (first := [.ref a]) (Calle.builtin _) (ArgsP.cons h ArgsP.nil he) I (fun ws s₁ h₁ => ?_) he
  obtain ⟨w, ws', rfl, r₁, r₂⟩ := h₁.rep.cons_inv; obtain rfl := r₂.nil_inv
  obtain ⟨b, us, n2, rfl, ob, hgb, rb⟩ := r₁.list_inv'
  have I₁ := I.ext h₁.ext
  have hg₁ := h₁.ext _ _ hg
  have hsz' : vs.toArray.size + us.toArray.size ≤ sizeLine := by simp [rl.1, rb.1]; exact hz
  refine call_meets PySem.F.slot_list_extend ⟨_, hg₁, rfl⟩ PySem.F.entry_list_extend (PySem.F.args_list_extend_2 _ _) (AutoSeq1.list_extend_list_list_0 a vs.toArray n b us.toArray n2 (extend_door hsz') (Nat.le_trans (Nat.le_add_right _ _) hsz')) ⟨hg₁, hgb, ?_⟩
  have hs : Heap.SameBut a s₁.heap (s₁.heap.update a (Obj.mapSeq fun x => x ++ us.toArray)) := Heap.SameBut.update ..
  have hg'' : (s₁.heap.update a (Obj.mapSeq fun x => x ++ us.toArray)).get? a = some { cls := .type "list", data := .seq (List.toArray (vs ++ us)) (if (vs.toArray ++ us.toArray).size == vs.toArray.size then n else n + 1) } := by
    rw [Heap.get?_update_self _ hg₁ (by rw [mapSeq_app]; rfl), mapSeq_app]
    simp
  have I₂ := I₁.mutate hF hx sl oa nb hz0 hg₁ (solid_list rfl) hs hg'' ((rl.ext h₁.ext).append rb)
  have g : Got s O Mine.PV.none .none s₁ := by
    obtain ⟨hh, tk, rfl, k, _⟩ := h₁
    exact ⟨hh, tk, rfl, k, .none⟩
  exact g.went I ⟨_, s₁.toks, rfl, fun b o e' nm no => (hs.2 b fun q => no (q ▸ oa)).trans e', rfl, GoesOn.same I₂⟩

/-- a method of a text with arguments -/
theorem EvP.methS {o a : Expr} {name : Str} {id : String} {ap cp : Pos} {args : List Expr} {x : Str} {xs : List PV} {z : PV} (ho : EvP c ρ o (.str x)) (ha : ArgsP c ρ (a :: args) xs) (slot : PySem.Slot "str" name id) (ty : typeOf (.builtin id) = pure (.type "method_descriptor"))
    (hc : ∀ n, CallP c.toGC n (.builtin id) (.str x :: xs) z) (he : starEach (a :: args) c.env = (false, eval a c.env) :: starEach args c.env := by rfl)
    (hev : MethForm c o name ap (a :: args) cp := by exact ⟨_, rfl⟩) : EvP c ρ (.Call (.Attribute o name ap) (a :: args) [] cp) z := by
  refine ⟨fun O m cm s E I => ?_⟩
  obtain ⟨pl, hev⟩ := hev
  refine MethodCall_ (pl := pl) (wpAny_mono (ho.run O m cm s E I) (fun v s₁ h₁ => ?_) fun _ _ x => x) hev
  obtain ⟨t, rfl⟩ := h₁.rep.str_inv
  refine GM.of (.str x t) (typeIs_str _ _ _) slot ty GM.noRef ?_
  have I₁ := I.ext h₁.ext
  refine callArgs (first := [.str x t]) (Calle.builtin _) ha I₁ (fun vs s₂ h₂ => ?_) he
  have G := I₁.gnd.ext h₂.ext
  exact wpAny_mono ((hc 0).run c.A O s₂ (.str x t :: vs) E (I.good.room.mono (Nat.zero_le _)) G.at_ G.live (.cons (.str _ _) h₂.rep)) (fun _ _ q => h₁.trans (h₂.got q)) fun _ _ x => x
/-- a method of a list -/
theorem EvP.methL {o a : Expr} {name : Str} {id : String} {ap cp : Pos} {args : List Expr} {ys : List PV} {xs : List PV} {z : PV} (ho : EvP c ρ o (.list ys)) (ha : ArgsP c ρ (a :: args) xs) (slot : PySem.Slot "list" name id) (ty : typeOf (.builtin id) = pure (.type "method_descriptor"))
    (hc : ∀ n, CallP c.toGC n (.builtin id) (.list ys :: xs) z) (he : starEach (a :: args) c.env = (false, eval a c.env) :: starEach args c.env := by rfl)
    (hev : MethForm c o name ap (a :: args) cp := by exact ⟨_, rfl⟩) : EvP c ρ (.Call (.Attribute o name ap) (a :: args) [] cp) z := by
  refine ⟨fun O m cm s E I => ?_⟩
  obtain ⟨pl, hev⟩ := hev
  refine MethodCall_ (pl := pl) (wpAny_mono (ho.run O m cm s E I) (fun v s₁ h₁ => ?_) fun _ _ x => x) hev
  obtain ⟨l, vs, n, rfl, ho, hg, rl⟩ := h₁.rep.list_inv'
  have hIL : s₁.heap.IsList l vs.toArray := ⟨_, hg, rfl, n, rfl⟩
  refine getMethod_list_of slot ty hIL ⟨_, hg, rfl⟩ ?_
  have I₁ := I.ext h₁.ext
  refine callArgs (first := [.ref l]) (Calle.builtin _) ha I₁ (fun ws s₂ h₂ => ?_) he
  have G := I₁.gnd.ext h₂.ext
  exact wpAny_mono ((hc 0).run c.A O s₂ (.ref l :: ws) E (I.good.room.mono (Nat.zero_le _)) G.at_ G.live (.cons (h₁.rep.ext h₂.ext) h₂.rep)) (fun _ _ q => h₁.trans (h₂.got q)) fun _ _ x => x

/-- texts as data -/
def strsPV (ys : List Str) : List PV := ys.map .str
theorem strsAre_of {O : Addr → Prop} {h : Heap} : ∀ {ys : List Str} {vs : List Value}, RepL O h vs (strsPV ys) → StrsAre vs ys
  | [], vs, r => by obtain rfl := r.nil_inv; exact .nil
  | y :: ys, vs, r => by
    obtain ⟨v, vs', rfl, r₁, r₂⟩ := r.cons_inv
    obtain ⟨t, rfl⟩ := r₁.str_inv
    exact .cons _ _ (strsAre_of r₂)
theorem CallP.join {g : GC} {n : Nat} {sep : Str} {ys : List Str} (hz : (ys.map (·.length)).sum + ys.length * sep.length ≤ 16777216) : CallP g n (.builtin "str.join") [.str sep, .list (strsPV ys)] (.str (Txt.join sep ys)) := by
  refine ⟨fun A O s vs E R X L r => ?_⟩
  obtain ⟨v, vs', rfl, r₁, r₂⟩ := r.cons_inv; obtain ⟨v', vs'', rfl, r₃, r₄⟩ := r₂.cons_inv; obtain rfl := r₄.nil_inv; obtain ⟨t, rfl⟩ := r₁.str_inv
  obtain ⟨l, ws, rfl, ho, hl, rl⟩ := r₃.list_inv
  exact join_list hl (by simpa using strsAre_of rl) hz fun t' k => Got.toks (.str _ _)
theorem EvP.join {o a : Expr} {ap cp : Pos} {sep : Str} {ys : List Str} {z : Str} (ho : EvP c ρ o (.str sep)) (ha : EvP c ρ a (.list (strsPV ys))) (hz : (ys.map (·.length)).sum + ys.length * sep.length ≤ 16777216) (hj : Txt.join sep ys = z) (he : starEach [a] c.env = [(false, eval a c.env)] := by rfl)
    (hev : MethForm c o (Str.ofString "join") ap [a] cp := by exact ⟨_, rfl⟩) : EvP c ρ (.Call (.Attribute o (Str.ofString "join") ap) [a] [] cp) (.str z) := by
  subst hj
  exact EvP.methS ho (ArgsP.cons ha ArgsP.nil he) F.slot_str_join F.type_str_join (fun n => CallP.join hz) he hev
/-- a text cut and joined anew -/
theorem EvP.joinSplit {o b a : Expr} {ap cp ap' cp' : Pos} {x y z r : Str} (ho : EvP c ρ o (.str z)) (hb : EvP c ρ b (.str x)) (ha : EvP c ρ a (.str y)) (hy : (y.length == 0) = false) (hx : x.length + 2 ≤ sizeLine) (hz : ((Txt.split x y).map (·.length)).sum + (Txt.split x y).length * z.length ≤ 16777216) (hj : Txt.join z (Txt.split x y) = r)
    (he : starEach [.Call (.Attribute b (Str.ofString "split") ap') [a] [] cp'] c.env = [(false, eval (.Call (.Attribute b (Str.ofString "split") ap') [a] [] cp') c.env)] := by rfl) (he' : starEach [a] c.env = [(false, eval a c.env)] := by rfl)
    (hev : MethForm c o (Str.ofString "join") ap [.Call (.Attribute b (Str.ofString "split") ap') [a] [] cp'] cp := by exact ⟨_, rfl⟩) (hev' : MethForm c b (Str.ofString "split") ap' [a] cp' := by exact ⟨_, rfl⟩) :
    EvP c ρ (.Call (.Attribute o (Str.ofString "join") ap) [.Call (.Attribute b (Str.ofString "split") ap') [a] [] cp'] [] cp) (.str r) := by
  subst hj
  refine EvP.join ho (?_ : EvP c ρ _ (.list (strsPV (Txt.split x y)))) hz rfl he hev
  refine EvP.methS hb (ArgsP.cons ha ArgsP.nil he') F.slot_str_split F.type_str_split (fun n => ?_) he' hev'
  refine ⟨fun A O s vs E R X L r => ?_⟩
  obtain ⟨v, vs', rfl, r₁, r₂⟩ := r.cons_inv; obtain ⟨v', vs'', rfl, r₃, r₄⟩ := r₂.cons_inv; obtain rfl := r₄.nil_inv; obtain ⟨t, rfl⟩ := r₁.str_inv; obtain ⟨u, rfl⟩ := r₃.str_inv
  have fin : ∀ (l : List (Str × Tok)) (tk : Nat), l.map (·.1) = Txt.split x y → Got s O (.list (strsPV (Txt.split x y))) (.ref s.heap.objs.size) { s with heap := s.heap.push { cls := .type "list", data := .seq (strValues l).toArray }, toks := tk } := fun l tk e => by
    refine Got.new (Rep.newList L ?_)
    rw [← e]
    clear e
    induction l with
    | nil => exact .nil
    | cons p l ih => exact .cons (.str _ _) ih
  have hn : (Builtin.Str.partsBetween x (Builtin.Str.occurrences x y 0 x.length (x.length + 1)) y.length).length ≤ sizeLine := by
    have e1 := StrLaws.occ_length_le x y 0 x.length (x.length + 1)
    rw [length_partsBetween]; omega
  cases h1 : (decide (x.length < y.length) || decide (Builtin.Str.strKind x < Builtin.Str.strKind y))
  · cases hf : (Builtin.Str.occurrences x y 0 x.length (x.length + 1)).isEmpty
    · refine call_meets F.slot_str_split (typeIs_str _ _ _) F.entry_str_split (F.args_str_split_2 _ _) (meets_str_split_sep x y t u h1 hy hf (by omega) hn) ?_
      rw [strsFrom_eq]
      exact fin (numbered s.toks _) _ ((numbered_texts _ _).trans ((if_neg (ne_true_of_eq_false h1)).trans (if_neg (ne_true_of_eq_false hf))).symm)
    · exact call_meets F.slot_str_split (typeIs_str _ _ _) F.entry_str_split (F.args_str_split_2 _ _) (meets_str_split_not_found x y t u h1 hy hf)
        (fin [(x, t)] s.toks ((if_neg (ne_true_of_eq_false h1)).trans (if_pos hf)).symm)
  · exact call_meets F.slot_str_split (typeIs_str _ _ _) F.entry_str_split (F.args_str_split_2 _ _) (meets_str_split_cannot_occur x y t u h1)
      (fin [(x, t)] s.toks (if_pos h1).symm)
end
end Mine
namespace Mine

def notIters : List String := ["range", "enumerate", "zip", "dict_itemiterator", "dict_reverseitemiterator", "odict_iterator", "itertools.zip_longest", "itertools.pairwise"]
def IterObj (h : Heap) (I : Addr) : Prop := ∃ o vs n, h.get? I = some o ∧ o.data = .fields vs ∧ o.cls = .type n ∧ notIters.contains n = false
theorem IterObj.no_solid {h : Heap} {I : Addr} (x : IterObj h I) {b : Addr} {o : Obj} (e : h.get? b = some o) (s : Solid o) : b ≠ I := by
  rintro rfl
  obtain ⟨o', vs, n, e', hd, hc, hn⟩ := x
  rw [e] at e'; cases e'
  refine s.no_iter hd fun q => ?_
  rw [hc] at q
  cases q
  exact absurd hn (by decide)
theorem IterObj.no_ns {h : Heap} {I : Addr} (x : IterObj h I) {b : Addr} {m : Str → Option Value} (e : h.Ns b m) : b ≠ I := by
  rintro rfl
  obtain ⟨o', vs, n, e', hd, hc, hn⟩ := x
  obtain ⟨o, es, ep, e, hd', _⟩ := e
  rw [e] at e'; cases e'
  rw [hd] at hd'; cases hd'
theorem IterObj.no_cell {h : Heap} {I : Addr} (x : IterObj h I) {b : Addr} {v : Option Value} (e : h.IsCell b v) : b ≠ I := by
  rintro rfl
  obtain ⟨o', vs, n, e', hd, hc, hn⟩ := x
  obtain ⟨o, e, hd'⟩ := e
  rw [e] at e'; cases e'
  rw [hd] at hd'; cases hd'
theorem wp_letGo {M : Model} {A : Around} {s : Shared} {E : Value → Shared → Prop} {I : Addr} {v : Value} {target : Expr} {Q : Unit → Shared → Prop} (x : IterObj s.heap I) (h : Q () s) : wpAny M A (letOwnedTupleGo target (.ref I) v) Q E s := by
  obtain ⟨o, vs, n, e, hd, hc, hn⟩ := x
  unfold letOwnedTupleGo
  have go : wpAny M A (do
      let (.ref r, .ref a) := (Value.ref I, v) | return
      let o ← load r
      match o.cls, o.data with
      | .type n, .fields vs =>
        if ["enumerate", "zip", "dict_itemiterator", "dict_reverseitemiterator", "odict_iterator", "itertools.zip_longest", "itertools.pairwise"].contains n && vs[0]? == some (rawInt a) then
          rule "for.unpacks-the-owned-tuple"
          updateField r 0 .none
      | _, _ => pure () : Sem Unit) Q E s := by
    cases v with
    | ref a =>
      refine wpAny_bind (wpAny_load e ?_)
      rw [hd, hc]
      have hf : ["enumerate", "zip", "dict_itemiterator", "dict_reverseitemiterator", "odict_iterator", "itertools.zip_longest", "itertools.pairwise"].contains n = false := by
        have : notIters.contains n = (n == "range" || ["enumerate", "zip", "dict_itemiterator", "dict_reverseitemiterator", "odict_iterator", "itertools.zip_longest", "itertools.pairwise"].contains n) := rfl
        rw [this, Bool.or_eq_false_iff] at hn
        exact hn.2
      dsimp only
      rw [hf, Bool.false_and]
      exact wpAny_pure h
    | _ => exact wpAny_pure h
  split
  · exact go
  · exact go
  · exact wpAny_pure h

/-- what a datum gives when it is gone through -/
structure IterP (prog : Program) (w : World) (x : PV) (xs : List PV) : Prop where
  run : ∀ (A : Around) (O : Addr → Prop) (s : Shared) (v : Value) (E : Value → Shared → Prop) (Q : Value → Shared → Prop), A.handled = none → Rep O s.heap v x →
    (∀ (ob : Obj) (fp : List Addr) (P : Nat → Value → Prop) (St : Nat → Heap → Prop),
      Walks prog w A s.heap.objs.size fp [s.heap.objs.size] xs.length P St → St 0 (s.heap.push ob) → ob.isFreed = false →
      (∀ b ∈ fp, b = s.heap.objs.size ∨ (¬ O b ∧ ∃ o, s.heap.get? b = some o ∧ Solid o)) →
      (∀ i h, St i h → IterObj h s.heap.objs.size) →
      (∀ i v y, P i v → xs[i]? = some y → Rep O s.heap v y) →
      Q (.ref s.heap.objs.size) { s with heap := s.heap.push ob }) →
    wpAny (model prog w) A (pyIter v) Q E s

section
variable {prog : Program} {w : World}
theorem IterP.list (xs : List PV) : IterP prog w (.list xs) xs := by
  refine ⟨fun A O s v E Q hh r h => ?_⟩
  obtain ⟨a, vs, rfl, ho, hl, rl⟩ := r.list_inv
  obtain ⟨ol, hol, hcl, nl, hdl⟩ := id hl
  have hne : a ≠ s.heap.objs.size := Nat.ne_of_lt (Heap.lt_size hol)
  have e : vs.toArray.size = xs.length := by simp [rl.1]
  refine wpAny_pyIter_list hl (h _ [s.heap.objs.size, a] _ _ (e ▸ Walks.list hh s.heap.objs.size a hne vs.toArray) ⟨⟨_, Heap.get?_push_size _ rfl, rfl, rfl⟩, hl.push _⟩ rfl ?_ ?_ ?_)
  · intro b hb
    simp only [List.mem_cons, List.not_mem_nil, or_false] at hb
    rcases hb with rfl | rfl
    · exact .inl rfl
    · exact .inr ⟨ho, ol, hol, solid_list hdl⟩
  · rintro i h ⟨⟨o, e, hc, hd⟩, _⟩
    exact ⟨o, _, _, e, hd, hc, by decide⟩
  · intro i v y hv hy
    exact rl.2 i v y (by simpa using hv) hy
theorem IterP.tuple (xs : List PV) : IterP prog w (.tuple xs) xs := by
  refine ⟨fun A O s v E Q hh r h => ?_⟩
  obtain ⟨a, vs, rfl, ho, hl, rl⟩ := r.tuple_inv
  obtain ⟨ol, hol, hcl, nl, hdl⟩ := id hl
  have hne : a ≠ s.heap.objs.size := Nat.ne_of_lt (Heap.lt_size hol)
  have e : vs.toArray.size = xs.length := by simp [rl.1]
  refine wpAny_pyIter_tuple hl (h _ [s.heap.objs.size, a] _ _ (e ▸ Walks.tuple hh s.heap.objs.size a hne vs.toArray) ⟨⟨_, Heap.get?_push_size _ rfl, rfl, rfl⟩, hl.push _⟩ rfl ?_ ?_ ?_)
  · intro b hb
    simp only [List.mem_cons, List.not_mem_nil, or_false] at hb
    rcases hb with rfl | rfl
    · exact .inl rfl
    · exact .inr ⟨ho, ol, hol, solid_list hdl⟩
  · rintro i h ⟨⟨o, e, hc, hd⟩, _⟩
    exact ⟨o, _, _, e, hd, hc, by decide⟩
  · intro i v y hv hy
    exact rl.2 i v y (by simpa using hv) hy
theorem IterP.range {a b c : Int} {k : Nat} (hs : Builtin.Range.small a b c = true) (hn : Builtin.Range.rangeSize a b c = k) : IterP prog w (.range a b c) (rangePV a c k) := by
  refine ⟨fun A O s v E Q hh r h => ?_⟩
  obtain ⟨q, t, u, v', rfl, ho, hr⟩ := r.range_inv
  refine wpAny_pyIter_range hr hs (h _ [s.heap.objs.size] _ _ ((rangePV_length a c k).symm ▸ Walks.range hh s.heap.objs.size a c k) ?_ rfl ?_ ?_ ?_)
  · show IsRangeIter _ _ _ _ _
    rw [hn]
    have e1 : a + ((0 : Nat) : Int) * c = a := by simp
    have e2 : ((rangePV a c k).length : Int) - ((0 : Nat) : Int) = k := by simp [rangePV_length]
    rw [e1, e2]
    exact Heap.get?_push_size s.heap (o := { cls := .type "range_iterator", data := .fields #[rawInt a, rawInt (k : Int), rawInt c] }) rfl
  · intro b hb
    simp only [List.mem_cons, List.not_mem_nil, or_false] at hb
    exact .inl hb
  · intro i h st
    exact ⟨_, _, _, st, rfl, rfl, by decide⟩
  · rintro i v y ⟨t, rfl⟩ hy
    have hi : i < k := by have := (List.getElem?_eq_some_iff.mp hy).1; rw [rangePV_length] at this; exact this
    rw [rangePV_get hi] at hy
    cases hy
    exact .int _ _
/-- a text's signs -/
def signsPV (x : Str) : List PV := x.cps.toList.map fun c => .str ⟨#[c]⟩
theorem IterP.str (x : Str) : IterP prog w (.str x) (signsPV x) := by
  refine ⟨fun A O s v E Q hh r h => ?_⟩
  obtain ⟨t, rfl⟩ := r.str_inv
  have e : x.cps.size = (signsPV x).length := by simp [signsPV]
  have items : ∀ (i : Nat) (v : Value) (y : PV), SignAt x i v → (signsPV x)[i]? = some y → Rep O s.heap v y := by
    rintro i v y ⟨c, u, hc, rfl⟩ hy
    have : (signsPV x)[i]? = some (.str ⟨#[c]⟩) := by simp [signsPV, hc]
    rw [this] at hy; cases hy
    exact .str _ _
  have fps : ∀ b ∈ [s.heap.objs.size], b = s.heap.objs.size ∨ (¬ O b ∧ ∃ o, s.heap.get? b = some o ∧ Solid o) := fun b hb => by
    simp only [List.mem_cons, List.not_mem_nil, or_false] at hb
    exact .inl hb
  cases ha : x.cps.all (· < 128)
  · refine wpAny_pyIter_wide ha (h _ [s.heap.objs.size] _ _ (e ▸ Walks.strWide hh _ x t) ⟨_, Heap.get?_push_size _ rfl, rfl, rfl⟩ rfl fps ?_ items)
    rintro i h ⟨o, e, hc, hd⟩
    exact ⟨o, _, _, e, hd, hc, by decide⟩
  · refine wpAny_pyIter_ascii ha (h _ [s.heap.objs.size] _ _ (e ▸ Walks.strAscii hh _ x t) ⟨_, Heap.get?_push_size _ rfl, rfl, rfl⟩ rfl fps ?_ items)
    rintro i h ⟨o, e, hc, hd⟩
    exact ⟨o, _, _, e, hd, hc, by decide⟩
/-- the ints of bytes -/
def bytesPV (b : Array UInt8) : List PV := b.toList.map fun c => .int (c.toNat : Int)
theorem IterP.bytes (b : Array UInt8) : IterP prog w (.bytes b) (bytesPV b) := by
  refine ⟨fun A O s v E Q hh r h => ?_⟩
  obtain ⟨t, rfl⟩ := r.bytes_inv
  have e : b.size = (bytesPV b).length := by simp [bytesPV]
  refine KBw.pyIter_bytes (h _ [s.heap.objs.size] _ _ (e ▸ KBw.walks hh _ b t) ?_ rfl ?_ ?_ ?_)
  · exact ⟨_, Heap.get?_push_size s.heap (o := { cls := .type "bytes_iterator", data := .fields #[.bytes b t, .int 0 0] }) rfl, rfl, rfl⟩
  · intro b hb
    simp only [List.mem_cons, List.not_mem_nil, or_false] at hb
    exact .inl hb
  · rintro i h ⟨o, e, hc, hd⟩
    exact ⟨o, _, _, e, hd, hc, by decide⟩
  · rintro i v y ⟨c, u, hc, rfl⟩ hy
    have : (bytesPV b)[i]? = some (.int (c.toNat : Int)) := by simp [bytesPV, hc]
    rw [this] at hy; cases hy
    exact .int _ _
end

section
variable {c : FC} {ρ : PEnv}
/-- what a target takes -/
structure TgtP (c : FC) (target : Expr) (y : PV) (ρ ρ' : PEnv) : Prop where
  run : c.Fresh → ∀ (O : Addr → Prop) (m cm : Str → Option Value) (s : Shared) (E : Value → Shared → Prop) (v : Value), Inv c ρ O m cm s.heap → Rep O s.heap v y →
    wpAny (model c.prog c.w) c.A (assign target c.env v) (fun _ s' => ∃ h' tk' m' cm', s' = { s with heap := h', toks := tk' } ∧ Kept c O s.heap h' ∧ Inv c ρ' O m' cm' h') E s
theorem TgtP.name {x : Str} {px : Pos} (y : PV) (hx : CanStore c x) : TgtP c (.Name x px) y ρ ((x, .val y) :: ρ) := by
  refine ⟨fun hF O m cm s E v I r => ?_⟩
  exact wpAny_assign_Name (wp_store (e := .val y) hF I hx (fun pv e => by cases e; exact r) fun xs e => nomatch e)

/-- a loop's turns -/
def ForR (c : FC) (target : Expr) (body : List Stmt) : List PV → PEnv → Out → Prop
  | [], ρ, out => out = .next ρ
  | y :: ys, ρ, out => ∃ ρ₁ o₁, TgtP c target y ρ ρ₁ ∧ ExP c ρ₁ body o₁ ∧ (match o₁ with
      | .next ρ' => ForR c target body ys ρ' out
      | .cont ρ' => ForR c target body ys ρ' out
      | .brk ρ' => out = .next ρ'
      | .ret v => out = .ret v)

/-- a change at an iterator alone -/
theorem Inv.iterStep {O : Addr → Prop} {m cm : Str → Option Value} {h h' : Heap} {I : Addr} (V : Inv c ρ O m cm h) (hI : IterObj h I) (hO : ¬ O I) (h0 : c.h₀.get? I = none) (hk : ∀ b o, b ∉ [I] → h.get? b = some o → h'.get? b = some o) : Inv c ρ O m cm h' := by
  have hk' : ∀ b o, b ≠ I → h.get? b = some o → h'.get? b = some o := fun b o n e => hk b o (by simpa using n) e
  have hkS : ∀ b o, Solid o → h.get? b = some o → h'.get? b = some o := fun b o s e => hk' b o (hI.no_solid e s) e
  refine ⟨V.good, ?_, fun n a e => ?_, fun b o e => hk' b o (fun q => ?_) (V.keep b o e), fun x pv e => ?_, fun x xs e => ?_, V.inj, V.sub, fun a q => ?_⟩
  · have := hI.no_ns V.ns
    obtain ⟨o, es, ep, e, r⟩ := V.ns
    exact ⟨o, es, ep, hk' _ _ this e, r⟩
  · have := hI.no_cell (V.cell n a e)
    obtain ⟨o, e', r⟩ := V.cell n a e
    exact ⟨o, hk' _ _ this e', r⟩
  · subst q; rw [h0] at e; cases e
  · obtain ⟨v, s, r⟩ := V.val x pv e
    exact ⟨v, s, r.mono (fun _ _ q _ => q) fun b o _ so e => hkS b o so e⟩
  · obtain ⟨a, vs, n, s, oa, nb, hz, hg, rl⟩ := V.own x xs e
    exact ⟨a, vs, n, s, oa, nb, hz, hkS _ _ (solid_list rfl) hg, rl.mono (fun _ _ q _ => q) fun b o _ so e => hkS b o so e⟩
  · obtain ⟨o, e⟩ := V.live a q
    exact ⟨o, hk' a o (fun q' => hO (q' ▸ q)) e⟩

theorem codeFor {R : Result → Shared → Prop} {target : Expr} {I : Addr} {body orelse : List Stmt} {env : Env} {prog : Program} {w : World} {A : Around} {s : Shared} (J : Nat → Shared → Prop)
    (turn : ∀ n s, J n s → IterObj s.heap I ∧ wpAny (model prog w) A (pyNext (.ref I)) (fun r s₁ => match r with
      | none => wpAny (model prog w) A (execs orelse env) (fun f s₃ => R (.ok f) s₃) (notedBy (model prog w) A env fun e s' => R (.error e) s') s₁
      | some v => IterObj s₁.heap I ∧ wpAny (model prog w) A (assign target env v) (fun _ s₂ => wpAny (model prog w) A (execs body env) (fun f s₃ => match f with
          | .next | .cont => ∃ m, m < n ∧ J m s₃
          | .brk => R (.ok .next) s₃
          | .ret v => R (.ok (.ret v)) s₃) (notedBy (model prog w) A env fun e s' => R (.error e) s') s₂) (notedBy (model prog w) A env fun e s' => R (.error e) s') s₁) (notedBy (model prog w) A env fun e s' => R (.error e) s') s)
    (n : Nat) (h : J n s) : codeAny (model prog w) A (.forLoop target (.ref I) body orelse env) R s := by
  refine codeAny_loop' rfl J (fun n s hI => ?_) n h
  show wpAny _ _ ((forTurn target (.ref I) body orelse env).onRaise (fun x => do noteFrame x env; theTreesLotGoes x)) _ _ s
  refine wpAny_noted ?_
  simp only [forTurn]
  refine wpAny_bind (wpAny_standAt (wpAny_bind (wpAny_onRaise (wpAny_mono (turn n s hI).2 (fun r s₁ h₁ => ?_) fun _ _ h' => wpAny_standAt h'))))
  cases r with
  | none => exact wpAny_pure (.inr ⟨rfl, codeAny_block h₁⟩)
  | some v =>
    refine wpAny_bind (wp_letGo h₁.1 ?_)
    refine wpAny_bind (wpAny_mono h₁.2 (fun _ s₂ h₂ => wpAny_bind (wpAny_mono h₂ (fun f s₃ h₃ => ?_) fun _ _ h' => h')) fun _ _ h' => h')
    cases f with
    | next => exact wpAny_pure (.inl ⟨rfl, h₃⟩)
    | cont => exact wpAny_pure (.inl ⟨rfl, h₃⟩)
    | brk => exact wpAny_pure h₃
    | ret v => exact wpAny_pure h₃

theorem ForR.step {target : Expr} {body : List Stmt} {y : PV} {ys : List PV} {ρ₁ ρ' : PEnv} {out : Out} (ht : TgtP c target y ρ ρ₁) (hb : ExP c ρ₁ body (.next ρ')) (hr : ForR c target body ys ρ' out) : ForR c target body (y :: ys) ρ out := ⟨ρ₁, _, ht, hb, hr⟩
theorem ForR.quit {target : Expr} {body : List Stmt} {y : PV} {ys : List PV} {ρ₁ : PEnv} {v : PV} (ht : TgtP c target y ρ ρ₁) (hb : ExP c ρ₁ body (.ret v)) : ForR c target body (y :: ys) ρ (.ret v) := ⟨ρ₁, _, ht, hb, rfl⟩
theorem ForR.leave {target : Expr} {body : List Stmt} {y : PV} {ys : List PV} {ρ₁ ρ' : PEnv} (ht : TgtP c target y ρ ρ₁) (hb : ExP c ρ₁ body (.brk ρ')) : ForR c target body (y :: ys) ρ (.next ρ') := ⟨ρ₁, _, ht, hb, rfl⟩
theorem ForR.nil {target : Expr} {body : List Stmt} : ForR c target body [] ρ (.next ρ) := rfl
/-- from a smaller environment -/
theorem StP.forIn {target iter : Expr} {body : List Stmt} {pos : Pos} {x : PV} {xs : List PV} {out : Out} (ρ₀ : PEnv) (hS : Sub ρ₀ ρ) (hi : EvP c ρ iter x) (hx : IterP c.prog c.w x xs) (hr : ForR c target body xs ρ₀ out)
    (hs : ∀ x, foldedSetIterable iter c.env x = pure x := by intro _; rfl) : StP c ρ (.For target iter body [] pos) out := by
  refine ⟨fun hF O m cm s E V => ?_⟩
  refine wpAny_For (wpAny_mono (hi.run O m cm s E V) (fun v s₁ h₁ => ?_) fun _ _ x => x) hs
  have V₁ := V.ext h₁.ext
  refine hx.run c.A O s₁ v E _ V.good.room.hd h₁.rep fun ob fp P St W st hfr hfp hio hP => ?_
  -- the state behind the iterator's making
  have hp := Ext.push s₁.heap ob
  have V₂ := V₁.ext hp
  generalize hs2 : ({ s₁ with heap := s₁.heap.push ob } : Shared) = s₂
  have hs2h : s₂.heap = s₁.heap.push ob := by rw [← hs2]
  have hII : s₁.heap.get? s₁.heap.objs.size = none := get_size _
  have hIO : ¬ O s₁.heap.objs.size := fresh_not V₁.live hII
  have hI0 : c.h₀.get? s₁.heap.objs.size = none := by
    cases e : c.h₀.get? s₁.heap.objs.size with
    | none => rfl
    | some o => have := V₁.keep _ _ e; rw [hII] at this; cases this
  have hIs : s.heap.get? s₁.heap.objs.size = none := by
    cases e : s.heap.get? s₁.heap.objs.size with
    | none => rfl
    | some o => have := h₁.ext _ _ e; rw [hII] at this; cases this
  have hIM : ¬ Mut c s₁.heap.objs.size := fun q => by
    obtain ⟨o, e⟩ := V₁.mut_live q
    rw [hII] at e; cases e
  have hI2 : ∃ o, s₂.heap.get? s₁.heap.objs.size = some o := by rw [hs2h]; exact ⟨_, Heap.get?_push_size _ hfr⟩
  have hg12 : Got s O Mine.PV.none .none s₂ := by
    subst hs2
    exact h₁.trans ⟨_, s₁.toks, rfl, hp, .none⟩
  have V₂' : Inv c ρ O m cm s₂.heap := by rw [hs2h]; exact V₂
  have P' : ∀ i v y, P i v → xs[i]? = some y → Rep O s₂.heap v y := fun i v y p e => by rw [hs2h]; exact (hP i v y p e).ext hp
  have fp' : ∀ b ∈ fp, b = s₁.heap.objs.size ∨ (¬ O b ∧ ∃ o, s₂.heap.get? b = some o ∧ Solid o) := fun b hb => (hfp b hb).imp id fun ⟨q, o, e, so⟩ => ⟨q, o, by rw [hs2h]; exact hp _ _ e, so⟩
  have st' : St 0 s₂.heap := by rw [hs2h]; exact st
  generalize s₁.heap.objs.size = I at *
  clear hs2 hs2h st hfp hP V₂ hp hII
  have solidI : ∀ b o, s₂.heap.get? b = some o → Solid o → b ≠ I := fun b o e so => (hio 0 _ st').no_solid e so
  have solidM : ∀ b o, s₂.heap.get? b = some o → Solid o → ¬ Mut c b := fun b o e so q => by
    rcases q with rfl | ⟨n, en⟩
    · exact solid_ne V₂'.ns e so rfl
    · exact solid_ne_cell (V₂'.cell n b en) e so rfl
  -- the loop
  refine codeFor (R := fun r s' => match r with | .ok f => Went c s O out f s' | .error e => cameBackBy (model c.prog c.w) c.A c.env E e s')
    (fun n s' => ∃ i h' tk' O' m' cm' ρ', s' = { s₂ with heap := h', toks := tk' } ∧ n = xs.length + 1 - i ∧ i ≤ xs.length ∧ St i h' ∧ Inv c ρ' O' m' cm' h' ∧
      (∀ b o, s₂.heap.get? b = some o → b ≠ I → ¬ Mut c b → ¬ O b → h'.get? b = some o) ∧ (∀ a, O' a → O a ∨ s₂.heap.get? a = none) ∧ ForR c target body (xs.drop i) ρ' out) ?_ (xs.length + 1)
    ⟨0, s₂.heap, s₂.toks, O, m, cm, ρ₀, rfl, rfl, Nat.zero_le _, st', V₂'.sub_env hS, fun _ _ e _ _ _ => e, fun _ q => .inl q, hr⟩
  rintro n s' ⟨i, h', tk', O', m', cm', ρ', rfl, rfl, hile, sti, Vi, Ki, Oi, Ri⟩
  refine ⟨hio i h' sti, ?_⟩
  have noI : ∀ O₃ : Addr → Prop, (∀ a, O₃ a → O a ∨ s₂.heap.get? a = none) → ¬ O₃ I := fun O₃ O3 q => by
    rcases O3 I q with a | a
    · exact hIO a
    · obtain ⟨o, e⟩ := hI2; rw [a] at e; cases e
  have keptS : ∀ h₃ : Heap, (∀ b o, s₂.heap.get? b = some o → b ≠ I → ¬ Mut c b → ¬ O b → h₃.get? b = some o) → Kept c O s.heap h₃ := fun h₃ K3 b o e nm no =>
    K3 b o (hg12.ext _ _ e) (fun q => by subst q; rw [hIs] at e; cases e) nm no
  have ownS : ∀ O₃ : Addr → Prop, (∀ a, O₃ a → O a ∨ s₂.heap.get? a = none) → ∀ a, O₃ a → O a ∨ s.heap.get? a = none := fun O₃ O3 a q => (O3 a q).imp id fun e => by
    cases e' : s.heap.get? a with
    | none => rfl
    | some o => have := hg12.ext _ _ e'; rw [e] at this; cases this
  have shS : ∀ h₃ tk₃, ({ s₂ with heap := h₃, toks := tk₃ } : Shared) = { s with heap := h₃, toks := tk₃ } := fun h₃ tk₃ => by
    obtain ⟨_, _, rfl, _, _⟩ := hg12
    rfl
  by_cases hlt : i < xs.length
  · have hget : xs[i]? = some (xs[i]) := List.getElem?_eq_getElem hlt
    rw [List.drop_eq_getElem_cons hlt] at Ri
    obtain ⟨ρ₁, o₁, ht, hb, hm⟩ := Ri
    refine W.item i _ _ _ hlt sti fun v h₃ tk₃ hPv st₃ hk₃ => ⟨hio (i + 1) h₃ st₃, ?_⟩
    have V₃ := Vi.iterStep (hio i h' sti) (noI O' Oi) hI0 hk₃
    have K3 : ∀ b o, s₂.heap.get? b = some o → b ≠ I → ¬ Mut c b → ¬ O b → h₃.get? b = some o := fun b o e nI nm no => hk₃ b o (by simpa using nI) (Ki b o e nI nm no)
    have r₃ : Rep O' h₃ v xs[i] := (P' i v _ hPv hget).mono (fun b o no e q => by
        rcases Oi b q with a | a
        · exact no a
        · rw [e] at a; cases a) fun b o no so e => K3 b o e (solidI b o e so) (solidM b o e so) no
    refine wpAny_mono (ht.run hF O' m' cm' { s₂ with heap := h₃, toks := tk₃ } _ v V₃ r₃) (fun _ s₄ h₄ => ?_) fun _ _ x => x
    obtain ⟨h₄, tk₄, m₄, cm₄, rfl, K4, V₄⟩ := h₄
    refine wpAny_mono (hb.run hF O' m₄ cm₄ { s₂ with heap := h₄, toks := tk₄ } _ V₄) (fun f s₅ w₅ => ?_) fun _ _ x => x
    obtain ⟨h₅, tk₅, rfl, K5, w₅⟩ := w₅
    -- what stays over the turn
    have I3 : ∃ o, h₃.get? I = some o := let ⟨o, _, _, e, _⟩ := hio (i + 1) h₃ st₃; ⟨o, e⟩
    have K35 : Kept c O' h₃ h₅ := K4.trans K5 fun _ q => .inl q
    have K25 : ∀ b o, s₂.heap.get? b = some o → b ≠ I → ¬ Mut c b → ¬ O b → h₅.get? b = some o := fun b o e nI nm no => K35 b o (K3 b o e nI nm no) nm fun q => by
      rcases Oi b q with a | a
      · exact no a
      · rw [e] at a; cases a
    have st₅ : St (i + 1) h₅ := W.frame (i + 1) h₃ h₅ st₃ fun b hb o e => by
      rcases fp' b hb with rfl | ⟨no, o', e', so⟩
      · exact K35 _ o e hIM (noI O' Oi)
      · exact K35 b o e (solidM b o' e' so) fun q => by
          rcases Oi b q with a | a
          · exact no a
          · rw [e'] at a; cases a
    have O5 : ∀ ρ₅, GoesOn c h₄ O' ρ₅ h₅ → ∃ O₅ m₅ cm₅, Inv c ρ₅ O₅ m₅ cm₅ h₅ ∧ ∀ a, O₅ a → O a ∨ s₂.heap.get? a = none := fun ρ₅ ⟨O₅, m₅, cm₅, V₅, q₅⟩ => ⟨O₅, m₅, cm₅, V₅, fun a qa => by
      rcases q₅ a qa with y | y
      · exact Oi a y
      · by_cases oa : O a
        · exact .inl oa
        · refine .inr ?_
          cases e : s₂.heap.get? a with
          | none => rfl
          | some o =>
            exfalso
            by_cases aI : a = I
            · subst aI
              obtain ⟨o₃, e₃⟩ := I3
              have := K4 a o₃ e₃ hIM (noI O' Oi)
              rw [y] at this; cases this
            · by_cases am : Mut c a
              · obtain ⟨o₄, e₄⟩ := V₄.mut_live am
                rw [y] at e₄; cases e₄
              · have := K4 a o (K3 a o e aI am oa) am (fun q => by
                  rcases Oi a q with z | z
                  · exact oa z
                  · rw [e] at z; cases z)
                rw [y] at this; cases this⟩
    have again : ∀ ρ₅, GoesOn c h₄ O' ρ₅ h₅ → ForR c target body (xs.drop (i + 1)) ρ₅ out → ∃ m, m < xs.length + 1 - i ∧ ∃ i' h'' tk'' O'' m'' cm'' ρ'', ({ s₂ with heap := h₅, toks := tk₅ } : Shared) = { s₂ with heap := h'', toks := tk'' } ∧ m = xs.length + 1 - i' ∧ i' ≤ xs.length ∧ St i' h'' ∧ Inv c ρ'' O'' m'' cm'' h'' ∧
        (∀ b o, s₂.heap.get? b = some o → b ≠ I → ¬ Mut c b → ¬ O b → h''.get? b = some o) ∧ (∀ a, O'' a → O a ∨ s₂.heap.get? a = none) ∧ ForR c target body (xs.drop i') ρ'' out := fun ρ₅ g₅ R₅ => by
      obtain ⟨O₅, m₅, cm₅, V₅, q₅⟩ := O5 ρ₅ g₅
      exact ⟨xs.length + 1 - (i + 1), by omega, i + 1, h₅, tk₅, O₅, m₅, cm₅, ρ₅, rfl, rfl, hlt, st₅, V₅, K25, q₅, R₅⟩
    cases o₁ with
    | next ρ₅ => obtain ⟨rfl, g₅⟩ := w₅; exact again ρ₅ g₅ hm
    | cont ρ₅ => obtain ⟨rfl, g₅⟩ := w₅; exact again ρ₅ g₅ hm
    | brk ρ₅ =>
      obtain ⟨rfl, g₅⟩ := w₅
      obtain ⟨O₅, m₅, cm₅, V₅, q₅⟩ := O5 ρ₅ g₅
      have e5 : out = .next ρ₅ := hm
      subst e5
      exact ⟨h₅, tk₅, shS _ _, keptS h₅ K25, rfl, O₅, m₅, cm₅, V₅, ownS O₅ q₅⟩
    | ret x₅ =>
      obtain ⟨⟨v₅, rfl, r₅⟩, k₅⟩ := w₅
      have e5 : out = .ret x₅ := hm
      subst e5
      exact ⟨h₅, tk₅, shS _ _, keptS h₅ K25, ⟨v₅, rfl, r₅⟩, k₅⟩
  · have hi : i = xs.length := by omega
    subst hi
    refine W.done _ _ _ sti fun h₃ tk₃ hk₃ => wpAny_execs_nil ?_
    have V₃ := Vi.iterStep (hio _ h' sti) (noI O' Oi) hI0 hk₃
    rw [List.drop_length] at Ri
    have e5 : out = .next ρ' := Ri
    subst e5
    exact ⟨h₃, tk₃, shS _ _, keptS h₃ (fun b o e nI nm no => hk₃ b o (by simpa using nI) (Ki b o e nI nm no)), rfl, O', m', cm', V₃, ownS O' Oi⟩
end
end Mine
namespace Mine
section
variable {c : FC} {ρ : PEnv}
/-- the turns of a while -/
inductive WhileR (c : FC) (test : Expr) (body : List Stmt) : Nat → PEnv → Out → Prop where
  | done {ρ : PEnv} : TrP c ρ test false → WhileR c test body 0 ρ (.next ρ)
  | step {n : Nat} {ρ ρ' : PEnv} {out : Out} : TrP c ρ test true → ExP c ρ body (.next ρ') → WhileR c test body n ρ' out → WhileR c test body (n + 1) ρ out

theorem StP.whileDo {test : Expr} {body : List Stmt} {pos : Pos} {n : Nat} {out : Out} (hr : WhileR c test body n ρ out) : StP c ρ (.While test body [] pos) out := by
  refine ⟨fun hF O m cm s E V => ?_⟩
  refine wpAny_While ?_
  refine codeAny_whileLoop (fun k s' => ∃ h' tk' O' m' cm' ρ' n', s' = { s with heap := h', toks := tk' } ∧ k = n' ∧ Inv c ρ' O' m' cm' h' ∧ Kept c O s.heap h' ∧ (∀ a, O' a → O a ∨ s.heap.get? a = none) ∧ WhileR c test body n' ρ' out) ?_ n
    ⟨s.heap, s.toks, O, m, cm, ρ, n, rfl, rfl, V, Kept.refl, fun _ q => .inl q, hr⟩
  rintro k s' ⟨h', tk', O', m', cm', ρ', n', rfl, rfl, V', K, ho, R⟩
  cases R with
  | done ht =>
    refine wpAny_mono (ht.run O' m' cm' _ _ V') (fun b s₁ h₁ => ?_) fun _ _ x => x
    have V₁ := V'.ext h₁.ext
    obtain ⟨rfl, h₂, tk₂, rfl, e⟩ := h₁
    simp only [Bool.false_eq_true, if_false]
    exact wpAny_execs_nil ⟨h₂, tk₂, rfl, fun b o e' nm no => e _ _ (K b o e' nm no), rfl, O', m', cm', V₁, ho⟩
  | step ht hb hr' =>
    refine wpAny_mono (ht.run O' m' cm' _ _ V') (fun b s₁ h₁ => ?_) fun _ _ x => x
    have V₁ := V'.ext h₁.ext
    obtain ⟨rfl, h₂, tk₂, rfl, e⟩ := h₁
    simp only [if_true]
    refine wpAny_mono (hb.run hF O' m' cm' _ _ V₁) (fun f s₂ w₂ => ?_) fun _ _ x => x
    have w₃ := w₂.andThen (s := s) (O := O) rfl (fun b o e' nm no => e _ _ (K b o e' nm no)) V₁ ho
    obtain ⟨h₃, tk₃, rfl, K₃, rfl, O₃, m₃, cm₃, V₃, ho₃⟩ := w₃
    exact ⟨_, Nat.lt_succ_self _, h₃, tk₃, O₃, m₃, cm₃, _, _, rfl, rfl, V₃, K₃, ho₃, hr'⟩
end

/-! calls of the text's own defs -/
theorem bindL_get {kindOf : Str → Option NameKind} : ∀ {binds : List (Str × Value)} {m : Str → Option Value} {x : Str} {v : Value}, (binds.map (·.1)).Nodup → (x, v) ∈ binds → kindOf x = some .local → bindL kindOf binds m x = some v
  | [], _, _, _, _, hm, _ => nomatch hm
  | (n, w) :: r, m, x, v, hd, hm, hk => by
    rw [bindL]
    have hd' := List.nodup_cons.mp hd
    rcases List.mem_cons.mp hm with e | hm
    · cases e
      rw [if_pos hk]
      have : ∀ (r : List (Str × Value)) (m : Str → Option Value), n ∉ r.map (·.1) → m n = some w → bindL kindOf r m n = some w := by
        intro r
        induction r with
        | nil => intro m _ h; exact h
        | cons p r ih =>
          intro m hn h
          obtain ⟨y, u⟩ := p
          rw [bindL]
          simp only [List.map_cons, List.mem_cons, not_or] at hn
          refine ih _ hn.2 ?_
          split
          · simp [hn.1, h]
          · exact h
      exact this r _ hd'.1 (by simp)
    · exact bindL_get hd'.2 hm hk
theorem bindC_get {kindOf : Str → Option NameKind} : ∀ {binds : List (Str × Value)} {m : Str → Option Value} {x : Str} {v : Value}, (binds.map (·.1)).Nodup → (x, v) ∈ binds → kindOf x ≠ some .local → bindC kindOf binds m x = some v
  | [], _, _, _, _, hm, _ => nomatch hm
  | (n, w) :: r, m, x, v, hd, hm, hk => by
    rw [bindC]
    have hd' := List.nodup_cons.mp hd
    rcases List.mem_cons.mp hm with e | hm
    · cases e
      rw [if_neg hk]
      have : ∀ (r : List (Str × Value)) (m : Str → Option Value), n ∉ r.map (·.1) → m n = some w → bindC kindOf r m n = some w := by
        intro r
        induction r with
        | nil => intro m _ h; exact h
        | cons p r ih =>
          intro m hn h
          obtain ⟨y, u⟩ := p
          rw [bindC]
          simp only [List.map_cons, List.mem_cons, not_or] at hn
          refine ih _ hn.2 ?_
          split
          · exact h
          · simp [hn.1, h]
      exact this r _ hd'.1 (by simp)
    · exact bindC_get hd'.2 hm hk

/-- a def of the text's -/
structure DefAt (g : GC) (f : Addr) (fd : FuncData) (body : List Stmt) : Prop where
  at_ : ∃ o, g.K.lookup f = some o ∧ o.data = .func fd
  code : ∃ ca co vs t, fd.code = .ref ca ∧ g.K.lookup ca = some co ∧ co.data = .fields vs ∧ vs[1]? = some (.str fd.qualname t)
  body : fd.body = .stmts body
  glob : fd.globals = mainGlobals
  blt : fd.builtins = builtinsNs
  clo : fd.closure = []
  co : fd.scope.isCoroutine = false
  gen : fd.scope.isGenerator = false
  kind : fd.scope.kind = .function

/-- the frame of a def -/
def frameOf (g : GC) (fd : FuncData) (f : Addr) (A : Around) (L : Addr) (h₀ : Heap) (B : Addr → Prop) (n : Nat) : FC :=
  { toGC := g, A := A.deeper (callEnvC fd L f), env := callEnvC fd L f, h₀ := h₀, B := B, n := n }

/-- what a def's parameters take of the arguments -/
structure BindP (fd : FuncData) (xs : List PV) (names : List Str) (ys : List PV) : Prop where
  run : ∀ (M : Model) (A : Around) (E : Value → Shared → Prop) (O : Addr → Prop) (s : Shared) (vs : List Value), (∀ a, O a → ∃ o, s.heap.get? a = some o) → RepL O s.heap vs xs →
    wpAny M A (bindArgs fd ⟨vs, []⟩) (fun binds s' => ∃ h' tk', s' = { s with heap := h', toks := tk' } ∧ Ext s.heap h' ∧ binds.map (·.1) = names ∧ RepL O h' (binds.map (·.2)) ys) E s

theorem CallP.def {g : GC} {f : Addr} {fd : FuncData} {body : List Stmt} {n : Nat} {xs ys : List PV} {names : List Str} {z : PV} (D : DefAt g f fd body) (hb : BindP fd xs names ys) (hlen : names.length = ys.length) (hnd : names.Nodup)
    (hk : ∀ L, ∀ x ∈ names, fd.scope.names.lookup x = some .local ∨ (fd.scope.names.lookup x = some .cell ∧ ((cellsFrom L fd.scope.names []).lookup x).isSome = true))
    (h : ∀ A L h₀ B, ExP (frameOf g fd f A L h₀ B n) (names.zip (ys.map .val)) body (.ret z)) : CallP g (n + 1) (.ref f) xs z := by
  refine ⟨fun A O s vs E R X L r => ?_⟩
  obtain ⟨o, ho, hd⟩ := D.at_
  obtain ⟨ca, co, cvs, ct, hc1, hc2, hc3, hc4⟩ := D.code
  refine wpAny_call (codeAny_call_function (by have := R.dp; show A.depth < 1000; omega) (X.k _ _ ho) hd D.co D.gen D.body ⟨ca, co, cvs, ct, hc1, X.k _ _ hc2, hc3, hc4⟩ ?_)
  refine wpAny_mono (hb.run _ _ _ O s vs L r) (fun binds s₁ h₁ => ?_) fun _ _ x => x
  obtain ⟨h₁', tk₁, rfl, e₁, hn, rb⟩ := h₁
  rw [D.clo]
  refine wpAny_newFunctionEnv_cells D.kind (fun x hx => hk _ x.1 (hn ▸ List.mem_map_of_mem hx)) fun env he s₂ Y => ?_
  obtain ⟨h₂, tk₂, rfl, k₂⟩ := Y.done
  have X₂ : g.At h₂ := (X.ext e₁).ext k₂
  refine ⟨X₂.t.nolimit, codeAny_func ?_⟩
  have henv : env = callEnvC fd h₁'.objs.size f := he
  subst henv
  have hframe : (frameOf g fd f A h₁'.objs.size h₁' O n).Good := ⟨D.kind, D.glob, D.blt, R.deeper _, X.ext e₁⟩
  have hfresh : (frameOf g fd f A h₁'.objs.size h₁' O n).Fresh := by
    refine ⟨get_size _, fun m a e => ?_, fun m m' a e e' => name_of_addr Y.apart (mem_of_lookup e) (mem_of_lookup e')⟩
    have := Y.above m a (mem_of_lookup e)
    cases q : h₁'.get? a with
    | none => exact q
    | some o => exact absurd (Heap.lt_size q) (Nat.not_lt.mpr (Nat.le_of_lt this))
  have hkind : ∀ x, (callEnvC fd h₁'.objs.size f).kindOf x = fd.scope.names.lookup x := fun x => rfl
  have hndb : (binds.map (·.1)).Nodup := hn ▸ hnd
  have hinv : Inv (frameOf g fd f A h₁'.objs.size h₁' O n) (names.zip (ys.map .val)) O (bindL (callEnvC fd h₁'.objs.size f).kindOf binds fun _ => none) (bindC (callEnvC fd h₁'.objs.size f).kindOf binds fun _ => none) h₂ := by
    refine ⟨hframe, Y.toInCall.ns, Y.cell, k₂, fun x pv e => ?_, fun x xs' e => ?_, fun x y xs' ys' a e => ?_, fun a q => q, fun a q => ?_⟩
    · have hm := mem_of_lookup e
      obtain ⟨i, hi, hie⟩ := List.mem_iff_getElem.mp hm
      simp only [List.length_zip, List.length_map] at hi
      rw [List.getElem_zip] at hie
      have hxn : names[i]? = some x := by
        rw [List.getElem?_eq_getElem (by omega)]; exact congrArg some (Prod.mk.inj hie).1
      have hyn : ys[i]? = some pv := by
        have e2 := (Prod.mk.inj hie).2
        rw [List.getElem_map] at e2
        cases e2
        exact List.getElem?_eq_getElem (by omega)
      have hbl : i < binds.length := by
        have := congrArg List.length hn
        simp only [List.length_map] at this; omega
      have hb1 : (binds[i]).1 = x := by
        have := congrArg (fun l => l[i]?) hn
        simp only [List.getElem?_map, List.getElem?_eq_getElem hbl, Option.map_some, hxn] at this
        exact Option.some.inj this
      have hmem : (x, (binds[i]).2) ∈ binds := by rw [← hb1]; exact List.getElem_mem hbl
      have hr : Rep O h₁' (binds[i]).2 pv := rb.2 i _ _ (by simp [hbl]) hyn
      refine ⟨(binds[i]).2, ?_, hr.ext k₂⟩
      rcases hk (h₁'.objs.size + 1) x (List.mem_of_getElem? hxn) with hl | ⟨hl, hc⟩
      · exact .inl ⟨hl, bindL_get hndb hmem hl⟩
      · exact .inr ⟨hl, hc, bindC_get hndb hmem (by rw [hkind, hl]; decide)⟩
    · have hm := mem_of_lookup e
      have := List.of_mem_zip hm
      obtain ⟨y, _, q⟩ := List.mem_map.mp this.2
      cases q
    · have hm := mem_of_lookup e
      have := List.of_mem_zip hm
      obtain ⟨y, _, q⟩ := List.mem_map.mp this.2
      cases q
    · obtain ⟨o, e⟩ := L a q
      exact ⟨o, k₂ _ _ (e₁ _ _ e)⟩
  refine wpAny_mono ((h A h₁'.objs.size h₁' O).run hfresh O _ _ _ _ hinv) (fun fl s₃ w₃ => ?_) fun _ _ x => x
  obtain ⟨h₃, tk₃, rfl, _, ⟨v, rfl, rv⟩, k₃⟩ := w₃
  exact ⟨h₃, tk₃, rfl, e₁.trans k₃, rv⟩

theorem BindP.plain {fd : FuncData} {xs : List PV} {names : List Str} (hl : names.length = xs.length) (h : ∀ vs : List Value, vs.length = xs.length → bindArgs fd ⟨vs, []⟩ = pure (names.zip vs)) : BindP fd xs names xs := by
  refine ⟨fun M A E O s vs L r => ?_⟩
  rw [h vs r.1]
  refine wpAny_pure ⟨s.heap, s.toks, rfl, Ext.refl _, ?_, ?_⟩
  · rw [List.map_fst_zip]; simp [hl, r.1]
  · have : (names.zip vs).map (·.2) = vs := List.map_snd_zip (by simp [hl, r.1])
    rw [this]; exact r
theorem BindP.one {fd : FuncData} {x : PV} {nm : Str} (h : ∀ v, bindArgs fd ⟨[v], []⟩ = pure [(nm, v)]) : BindP fd [x] [nm] [x] :=
  BindP.plain rfl fun vs e => by
    match vs, e with
    | [v], _ => exact h v
theorem BindP.two {fd : FuncData} {x y : PV} {nm nm' : Str} (h : ∀ v v', bindArgs fd ⟨[v, v'], []⟩ = pure [(nm, v), (nm', v')]) : BindP fd [x, y] [nm, nm'] [x, y] :=
  BindP.plain rfl fun vs e => by
    match vs, e with
    | [v, v'], _ => exact h v v'
theorem BindP.three {fd : FuncData} {x y z : PV} {nm nm' nm'' : Str} (h : ∀ v v' v'', bindArgs fd ⟨[v, v', v''], []⟩ = pure [(nm, v), (nm', v'), (nm'', v'')]) : BindP fd [x, y, z] [nm, nm', nm''] [x, y, z] :=
  BindP.plain rfl fun vs e => by
    match vs, e with
    | [v, v', v''], _ => exact h v v' v''
/-- one parameter and a star's -/
theorem BindP.star {fd : FuncData} {x : PV} {xs : List PV} {nm nm' : Str} (h : ∀ v vs, bindArgs fd ⟨v :: vs, []⟩ = (do let t ← newTuple vs; pure [(nm, v), (nm', t)])) (hz : xs.length ≤ sizeLine) : BindP fd (x :: xs) [nm, nm'] [x, .tuple xs] := by
  refine ⟨fun M A E O s vs L r => ?_⟩
  obtain ⟨v, vs', rfl, r₁, r₂⟩ := r.cons_inv
  rw [h v vs']
  refine wpAny_bind (wpAny_newTuple (wpAny_pure ⟨_, s.toks, rfl, Ext.push _ _, rfl, ?_⟩) (by rw [r₂.1]; exact hz))
  exact .cons (r₁.ext (Ext.push _ _)) (.cons (Rep.newTuple L r₂) .nil)
end Mine
namespace Mine
/-- data that need no object -/
def IsImm : PV → Prop
  | .none | .bool _ | .int _ | .str _ | .bytes _ => True
  | _ => False
theorem Rep.imm {O O' : Addr → Prop} {h h' : Heap} {v : Value} {y : PV} (hi : IsImm y) (r : Rep O h v y) : Rep O' h' v y := by
  cases r with
  | none => exact .none
  | bool b => exact .bool b
  | int i t => exact .int i t
  | str s t => exact .str s t
  | bytes b t => exact .bytes b t
  | list _ _ _ _ => exact hi.elim
  | tuple _ _ _ _ => exact hi.elim
  | range _ _ => exact hi.elim
def dec : Value → PV
  | .bool b => .bool b
  | .int i _ => .int i
  | .str s _ => .str s
  | .bytes b _ => .bytes b
  | _ => .none
theorem dec_rep {O : Addr → Prop} {h : Heap} {v : Value} {y : PV} (hi : IsImm y) (r : Rep O h v y) : dec v = y := by
  cases r with
  | none => rfl
  | bool b => rfl
  | int i t => rfl
  | str s t => rfl
  | bytes b t => rfl
  | list _ _ _ _ => exact hi.elim
  | tuple _ _ _ _ => exact hi.elim
  | range _ _ => exact hi.elim

/-- a comprehension's own frame -/
def compFC (c : FC) (scope : Scope) (cl : List (Str × Addr)) (C : Addr) : FC := { c with env := compEnvC scope cl C c.env }

structure CompOk (c : FC) (ρ : PEnv) (scope : Scope) (cl : List (Str × Addr)) (x : Str) (ρ' : PEnv) : Prop where
  clos : closureFor scope c.env = pure cl
  cell : ∀ y ∈ scope.names, y.2 ≠ .cell
  kind : scope.kind = .function
  names : ∀ y ∈ scope.names, y.2 = .local → scope.names.lookup y.1 = some .local
  x : scope.names.lookup x = some .local
  sub : ∀ n a, cl.lookup n = some a → c.env.cells.lookup n = some a
  cap : ∀ y e, ρ'.lookup y = some e → (∃ pv, e = .val pv) ∧ ρ.lookup y = some e ∧ c.env.kindOf y = some .cell ∧ (relabel scope c.env).names.lookup y = some .cell ∧ (cl.lookup y).isSome = true

theorem CompOk.inv {c : FC} {ρ ρ' : PEnv} {scope : Scope} {cl : List (Str × Addr)} {x : Str} (K : CompOk c ρ scope cl x ρ') {O : Addr → Prop} {m cm m' : Str → Option Value} {h h' : Heap} {C : Addr} {v : Value} {y : PV} (V : Inv c ρ O m cm h) (hk : Ext h h') (hn : h'.Ns C m') (hv : m' x = some v) (r : Rep O h' v y) :
    Inv (compFC c scope cl C) ((x, .val y) :: ρ') O m' cm h' := by
  refine ⟨⟨?_, V.good.glob, V.good.blt, V.good.room, V.good.top⟩, hn, fun n a e => (V.cell n a (K.sub n a e)).keeps hk, V.keep.trans hk, fun z pv e => ?_, fun z zs e => ?_, fun z z' zs zs' a e => ?_, V.sub, fun a q => ?_⟩
  · show (relabel scope c.env).kind = .function
    exact K.kind
  · rw [List.lookup_cons] at e
    cases hb : z == x with
    | true =>
      rw [hb] at e; cases e
      rw [beq_iff_eq.mp hb]
      refine ⟨v, .inl ⟨?_, hv⟩, r⟩
      show (relabel scope c.env).names.lookup x = some .local
      exact lookup_relabel_local K.x
    | false =>
      rw [hb] at e
      obtain ⟨_, hρ, hk1, hk2, hk3⟩ := K.cap z _ e
      obtain ⟨w, sl, rw'⟩ := V.val z pv hρ
      refine ⟨w, .inr ⟨hk2, hk3, ?_⟩, rw'.ext hk⟩
      rcases sl with ⟨q, _⟩ | ⟨_, _, q⟩
      · rw [hk1] at q; cases q
      · exact q
  · rw [List.lookup_cons] at e
    cases hb : z == x with
    | true => rw [hb] at e; cases e
    | false => rw [hb] at e; obtain ⟨⟨_, q⟩, _⟩ := K.cap z _ e; cases q
  · rw [List.lookup_cons] at e
    cases hb : z == x with
    | true => rw [hb] at e; cases e
    | false => rw [hb] at e; obtain ⟨⟨_, q⟩, _⟩ := K.cap z _ e; cases q
  · obtain ⟨o, e⟩ := V.live a q; exact ⟨o, hk _ _ e⟩

/-- the tests of a comprehension -/
structure IfsP (c : FC) (ρ : PEnv) (ifs : List Expr) (b : Bool) : Prop where
  run : ∀ (O : Addr → Prop) (m cm : Str → Option Value) (s : Shared) (E : Value → Shared → Prop), Inv c ρ O m cm s.heap →
    wpAny (model c.prog c.w) c.A (forIn ifs true fun t r => if r = true then do let ok ← isTrue t c.env (eval t c.env); pure (ForInStep.yield ok) else pure (ForInStep.yield r)) (Seen s b) E s
theorem IfsP.nil {c : FC} {ρ : PEnv} : IfsP c ρ [] true := by
  refine ⟨fun O m cm s E V => ?_⟩
  rw [List.forIn_nil]; exact wpAny_pure (Seen.same _ _)
theorem IfsP.one {c : FC} {ρ : PEnv} {t : Expr} {b : Bool} (h : TrP c ρ t b) : IfsP c ρ [t] b := by
  refine ⟨fun O m cm s E V => ?_⟩
  rw [List.forIn_cons]
  simp only [if_true]
  refine wpAny_bind (wpAny_bind (wpAny_mono (h.run O m cm s E V) (fun b' s₁ h₁ => wpAny_pure ?_) fun _ _ x => x))
  dsimp only
  rw [List.forIn_nil]
  exact wpAny_pure h₁

section
variable {c : FC} {ρ : PEnv}
theorem paired_map {xs : List PV} {ys : List Value} {F : Value → Value → Prop} : ∀ {vs : List Value}, Paired F vs ys → vs.length = ys.length ∧ ∀ (i : Nat) (v w : Value), vs[i]? = some v → ys[i]? = some w → F v w := by
  intro vs h
  induction h with
  | nil => exact ⟨rfl, fun i v w e => by simp at e⟩
  | cons a b ih =>
    refine ⟨by simp [ih.1], fun i v w e e' => ?_⟩
    cases i with
    | zero => simp at e e'; subst e; subst e'; exact a
    | succ i => simp at e e'; exact ih.2 i v w e e'

theorem filter_dec (q : PV → Bool) : ∀ {vs : List Value} {xs : List PV}, vs.length = xs.length → (∀ (i : Nat) (v : Value) (y : PV), vs[i]? = some v → xs[i]? = some y → dec v = y) → (vs.filter fun v => q (dec v)).map dec = xs.filter q := by
  intro vs
  induction vs with
  | nil => intro xs hl _; have : xs = [] := List.eq_nil_of_length_eq_zero hl.symm; subst this; rfl
  | cons v vs ih =>
    intro xs hl h
    cases xs with
    | nil => simp at hl
    | cons y ys =>
      have e0 := h 0 v y rfl rfl
      have ih' := ih (xs := ys) (by simpa using hl) fun i v y e e' => h (i + 1) v y (by simpa using e) (by simpa using e')
      simp only [List.filter_cons, e0]
      cases q y
      · simpa using ih'
      · simp only [if_true, List.map_cons, e0, ih']

theorem EvP.comp {x : Str} {px pos : Pos} {iter elt : Expr} {ifs : List Expr} {scope : Scope} {cl : List (Str × Addr)} {xv : PV} {xs : List PV} {ρ' : PEnv} (q : PV → Bool) (f : PV → PV)
    (hi : EvP c ρ iter xv) (hx : IterP c.prog c.w xv xs) (hz : xs.length ≤ sizeLine) (himm : ∀ y ∈ xs, IsImm y) (hfi : ∀ y ∈ xs, IsImm (f y)) (K : CompOk c ρ scope cl x ρ')
    (ht : ∀ C y, y ∈ xs → IfsP (compFC c scope cl C) ((x, .val y) :: ρ') ifs (q y))
    (he : ∀ C y, y ∈ xs → q y = true → EvP (compFC c scope cl C) ((x, .val y) :: ρ') elt (f y))
    (hs : ∀ x, foldedSetIterable iter c.env x = pure x := by intro _; rfl) :
    EvP c ρ (.ListComp elt [⟨.Name x px, iter, ifs, 0⟩] scope pos) (.list ((xs.filter q).map f)) := by
  refine ⟨fun O m cm s E V => ?_⟩
  refine wpAny_ListComp_free (fun v => q (dec v)) (fun v w => ∀ O h, Rep O h w (f (dec v))) K.clos K.cell K.kind K.names K.x (wpAny_mono (hi.run O m cm s E V) (fun v s₁ h₁ => ?_) fun _ _ x => x) hs
  have V₁ := V.ext h₁.ext
  refine hx.run c.A O s₁ v E _ V.good.room.hd h₁.rep fun ob fp P St W st hfr hfp hio hP => ?_
  have hp := Ext.push s₁.heap ob
  refine ⟨s₁.heap.objs.size, fp, _, xs.length, fun i v => i < xs.length ∧ P i v, St, rfl, W.bound, hz, st, ?_, ?_, ?_⟩
  · intro b hb
    show b < (s₁.heap.push ob).objs.size
    rw [Heap.size_push]
    rcases hfp b hb with rfl | ⟨_, o, e, _⟩
    · exact Nat.lt_succ_self _
    · exact Nat.lt_succ_of_lt (Heap.lt_size e)
  · have hfrom : ∀ (s₃ : Shared), (∀ b o, b ∉ [s₁.heap.objs.size] → (s₁.heap.push ob).get? b = some o → s₃.heap.get? b = some o) → Ext s₁.heap s₃.heap := fun s₃ hk b o e =>
      hk b o (by simpa using Nat.ne_of_lt (Heap.lt_size e)) (hp b o e)
    constructor
    · intro C i v s₃ m₃ E' hC hv hn hm hk htk
      have hy : xs[i]? = some xs[i] := List.getElem?_eq_getElem hv.1
      have r := hP i v _ hv.2 hy
      have V₃ := K.inv V₁ (hfrom s₃ hk) hn hm (r.ext (hfrom s₃ hk))
      have hmem : xs[i] ∈ xs := List.getElem_mem hv.1
      have := (ht C xs[i] hmem).run O m₃ cm s₃ E' V₃
      refine wpAny_mono this (fun b s₄ h₄ => ?_) fun _ _ x => x
      obtain ⟨rfl, h', tk, rfl, k⟩ := h₄
      exact ⟨congrArg q (dec_rep (himm _ hmem) r).symm, h', tk, rfl, k⟩
    · intro C i v s₃ m₃ E' hC hv hpv hn hm hk htk
      have hy : xs[i]? = some xs[i] := List.getElem?_eq_getElem hv.1
      have r := hP i v _ hv.2 hy
      have hmem : xs[i] ∈ xs := List.getElem_mem hv.1
      have ed := dec_rep (himm _ hmem) r
      have V₃ := K.inv V₁ (hfrom s₃ hk) hn hm (r.ext (hfrom s₃ hk))
      refine wpAny_mono ((he C xs[i] hmem (by rw [ed] at hpv; exact hpv)).run O m₃ cm s₃ E' V₃) (fun w s₄ h₄ => ?_) fun _ _ x => x
      obtain ⟨h', tk, rfl, k, rw'⟩ := h₄
      refine ⟨fun O h => ?_, h', tk, rfl, k⟩
      rw [ed]; exact rw'.imm (hfi _ hmem)
  · intro D h' tk ys vs hD hl hpl hlen hPs hF hk
    have ext : Ext s₁.heap h' := fun b o e => hk b o (by simpa using Nat.ne_of_lt (Heap.lt_size e)) (hp b o e)
    have hDs : s₁.heap.get? D = none := by
      cases e : s₁.heap.get? D with
      | none => rfl
      | some o => have := hp _ _ e; rw [hD] at this; cases this
    have hdec : ∀ (i : Nat) (v : Value) (y : PV), vs[i]? = some v → xs[i]? = some y → dec v = y := fun i v y e e' =>
      dec_rep (himm _ (List.mem_of_getElem? e')) (hP i v y (hPs i v e).2 e')
    have hmap := filter_dec q hlen hdec
    obtain ⟨hl1, hl2⟩ := paired_map (xs := xs) hF
    refine h₁.trans (⟨h', tk, rfl, ext, .list' (vs := ys.toList) (fresh_not V₁.live hDs) (by simpa using hpl) ?_⟩ : Got s₁ O (.list ((xs.filter q).map f)) (.ref D) { s₁ with heap := h', toks := tk })
    rw [← hmap]
    refine ⟨by simp [← hl1], fun i w z ew ez => ?_⟩
    have hvi : i < (vs.filter fun v => q (dec v)).length := by
      rw [hl1]; exact (List.getElem?_eq_some_iff.mp ew).1
    have hv : (vs.filter fun v => q (dec v))[i]? = some (vs.filter fun v => q (dec v))[i] := List.getElem?_eq_getElem hvi
    have hFw := hl2 i _ w hv ew
    rw [List.getElem?_map, List.getElem?_map, hv] at ez
    simp only [Option.map_some, Option.some.injEq] at ez
    rw [← ez]
    exact hFw O h'
/-- without a test -/
theorem EvP.comp0 {x : Str} {px pos : Pos} {iter elt : Expr} {scope : Scope} {cl : List (Str × Addr)} {xv : PV} {xs : List PV} {ρ' : PEnv} (f : PV → PV)
    (hi : EvP c ρ iter xv) (hx : IterP c.prog c.w xv xs) (hz : xs.length ≤ sizeLine) (himm : ∀ y ∈ xs, IsImm y) (hfi : ∀ y ∈ xs, IsImm (f y)) (K : CompOk c ρ scope cl x ρ')
    (he : ∀ C y, y ∈ xs → EvP (compFC c scope cl C) ((x, .val y) :: ρ') elt (f y))
    (hs : ∀ x, foldedSetIterable iter c.env x = pure x := by intro _; rfl) :
    EvP c ρ (.ListComp elt [⟨.Name x px, iter, [], 0⟩] scope pos) (.list (xs.map f)) := by
  have := EvP.comp (c := c) (ρ := ρ) (px := px) (pos := pos) (fun _ => true) f hi hx hz himm hfi K (fun C y _ => IfsP.nil) (fun C y hy _ => he C y hy) hs
  have e : xs.filter (fun _ => true) = xs := by simp
  rw [e] at this
  exact this
end
end Mine
namespace Mine
section
variable {c : FC} {ρ : PEnv}
theorem Op2.addL {xs ys : List PV} (h : xs.length + ys.length ≤ sizeLine) : Op2 c (binaryOp .Add) (.list xs) (.list ys) (.list (xs ++ ys)) := by
  refine ⟨fun O s v w E G r q => ?_⟩
  obtain ⟨l, vs, rfl, ho, hl, rl⟩ := r.list_inv; obtain ⟨b, ws, rfl, hob, hb, rb⟩ := q.list_inv
  obtain ⟨⟨cls, dd, data, sl⟩, ho, hc, n, hd⟩ := id hl
  obtain ⟨⟨cls2, dd2, data2, sl2⟩, ho2, hc2, n2, hd2⟩ := id hb
  simp only at hc hd hc2 hd2
  subst hc hd hc2 hd2
  have e : vs.toArray ++ ws.toArray = (vs ++ ws).toArray := by simp
  refine concat_meets ⟨_, ho, rfl⟩ ⟨_, ho2, rfl⟩ noFill_list_add seq_list_add PySem.F.slot_list_add PySem.F.entry_list_add (PySem.F.args_list_add_2 _ _) (list_addW l b vs.toArray ws.toArray n n2 dd dd2 sl sl2 (by simp [rl.1, rb.1]; exact h)) ⟨ho, ho2, ?_⟩
  rw [e]
  exact Got.new (tk := s.toks) (Rep.newList G.live (rl.append rb))
theorem Op2.mulSI {x : Str} {n : Int} (h : MulOk x n) : Op2 c (binaryOp .Mult) (.str x) (.int n) (.str (Txt.mul x n)) := by
  refine ⟨fun O s v w E G r q => ?_⟩
  obtain ⟨t, rfl⟩ := r.str_inv; obtain ⟨u, rfl⟩ := q.int_inv
  exact SB.mul h fun t' k => Got.toks (.str _ _)
theorem Op2.addB {a b : Array UInt8} (h : a.size + b.size ≤ 16777216) : Op2 c (binaryOp .Add) (.bytes a) (.bytes b) (.bytes (a ++ b)) := by
  refine ⟨fun O s v w E G r q => ?_⟩
  obtain ⟨t, rfl⟩ := r.bytes_inv; obtain ⟨u, rfl⟩ := q.bytes_inv
  exact KBy.add_bytes h fun t' k => Got.toks (.bytes _ _)
theorem Truth.tuple {xs : List PV} (h : xs.length ≤ sizeLine) : Truth c (.tuple xs) (!xs.isEmpty) := by
  refine ⟨fun O s v E G r => ?_⟩
  obtain ⟨a, vs, n, rfl, ho, hg, rl⟩ := r.tuple_inv'
  have e : (!vs.toArray.isEmpty) = !xs.isEmpty := by
    have := rl.1
    cases vs <;> cases xs <;> simp_all
  rw [← e]
  exact ktl_truthy hg (by rw [sizeLine_eq] at h; simp [rl.1]; omega) ⟨rfl, s.heap, _, rfl, Ext.refl _⟩
theorem Truth.list {xs : List PV} (h : xs.length ≤ sizeLine) : Truth c (.list xs) (!xs.isEmpty) := by
  refine ⟨fun O s v E G r => ?_⟩
  obtain ⟨a, vs, rfl, ho, hg, rl⟩ := r.list_inv
  have e : (!vs.toArray.isEmpty) = !xs.isEmpty := by
    have := rl.1
    cases vs <;> cases xs <;> simp_all
  rw [← e]
  exact wpAny_truthy_list hg (by rw [sizeLine_eq] at h; simp [rl.1]; omega) ⟨rfl, s.heap, _, rfl, Ext.refl _⟩

/-! slices -/
theorem pick_upto (vs : List Value) (b : Nat) : (slicePick vs.toArray none (some (b : Int)) none).toList = vs.take b := by rw [slicePick_upto']
theorem pick_from (vs : List Value) (b : Nat) : (slicePick vs.toArray (some (b : Int)) none none).toList = vs.drop b := by rw [slicePick_from']
theorem EvP.takeL {e u : Expr} {p pos : Pos} {xs : List PV} {k : Int} (he : EvP c ρ e (.list xs)) (hu : EvP c ρ u (.int k)) (h0 : 0 ≤ k) (hsz : xs.length ≤ sizeLine) : EvP c ρ (.Subscript e (.Slice none (some u) none p) pos) (.list (xs.take k.toNat)) :=
  EvP.sliceL he PartP.none (PartP.some hu) PartP.none (by simp) hsz fun O h vs r => by
    have : k = ((k.toNat : Nat) : Int) := by omega
    rw [this, pick_upto]
    exact r.take _
theorem EvP.dropL {e u : Expr} {p pos : Pos} {xs : List PV} {k : Int} (he : EvP c ρ e (.list xs)) (hu : EvP c ρ u (.int k)) (h0 : 0 ≤ k) (hsz : xs.length ≤ sizeLine) : EvP c ρ (.Subscript e (.Slice (some u) none none p) pos) (.list (xs.drop k.toNat)) :=
  EvP.sliceL he (PartP.some hu) PartP.none PartP.none (by simp) hsz fun O h vs r => by
    have : k = ((k.toNat : Nat) : Int) := by omega
    rw [this, pick_from]
    exact r.drop _
theorem EvP.revL {e u : Expr} {p pos : Pos} {xs : List PV} (he : EvP c ρ e (.list xs)) (hu : EvP c ρ u (.int (-1))) (hsz : xs.length ≤ sizeLine) : EvP c ρ (.Subscript e (.Slice none none (some u) p) pos) (.list xs.reverse) :=
  EvP.sliceL he PartP.none PartP.none (PartP.some hu) (by decide) hsz fun O h vs r => by
    rw [krv_pick]
    exact r.reverse
theorem EvP.dropT {e : Expr} {k : Nat} {p pos kp : Pos} {xs : List PV} (he : EvP c ρ e (.tuple xs)) (h1 : 1 ≤ k) (ha : k ≤ xs.length) (hsz : xs.length ≤ sizeLine) : EvP c ρ (.Subscript e (.Slice (some (.Constant (.int k) 0 kp)) none none p) pos) (.tuple (xs.drop k)) := by
  refine EvP.sliceOf (T := "tuple") he (PartP.some (EvP.int _ _ _)) PartP.none PartP.none (fun O h v r s' e' => ?_) slot_tuple_getitem.lookup fun O s v vl vu vs sl E G r hs p1 p2 p3 => ?_
  · obtain ⟨a, vs, rfl, _, hl', _⟩ := r.tuple_inv
    subst e'
    exact hl'.typeIs
  · obtain ⟨a, ws, rfl, ho, hl', rl⟩ := r.tuple_inv
    cases p1; cases p2; cases p3
    refine getItem_tuple_from hl' hs h1 (by simp [rl.1]; exact ha) ?_ (by simp [rl.1]; exact hsz)
    exact Got.new (tk := s.toks) (Rep.newTuple G.live (rl.drop k))
theorem EvP.cutB {e l u : Expr} {p pos : Pos} {b : Array UInt8} {i j : Int} (he : EvP c ρ e (.bytes b)) (hl : EvP c ρ l (.int i)) (hu : EvP c ρ u (.int j)) (hsz : b.size ≤ sizeLine) : EvP c ρ (.Subscript e (.Slice (some l) (some u) none p) pos) (.bytes (KBy.picked b (some i) (some j))) := by
  refine EvP.sliceOf (T := "bytes") he (PartP.some hl) (PartP.some hu) PartP.none (fun O h v r s' e' => ?_) FB.slot_bytes_getitem.lookup fun O s v vl vu vs sl E G r hs p1 p2 p3 => ?_
  · obtain ⟨t, rfl⟩ := r.bytes_inv
    exact typeIs_bytes _ _ _
  · obtain ⟨t, rfl⟩ := r.bytes_inv
    cases p3
    exact getItem_meets (typeIs_bytes _ _ _) (by decide) FB.slot_bytes_getitem FB.entry_bytes_getitem (FB.args_bytes_getitem_2 _ _) (KBc.meets_slice2 b t _ p1 p2)
      ⟨hs, Nat.le_trans (KBc.size_picked_le b _ _) hsz, fun t' k => Got.toks (.bytes _ _)⟩

/-! a text's place -/
theorem CallP.indexS {g : GC} {n : Nat} {x y : Str} {i : Nat} {rest : List Nat} (h : Builtin.Str.occurrences x y 0 x.length 1 = i :: rest) : CallP g n (.builtin "str.index") [.str x, .str y] (.int i) := by
  refine ⟨fun A O s vs E R X L r => ?_⟩
  obtain ⟨v, vs', rfl, r₁, r₂⟩ := r.cons_inv; obtain ⟨v', vs'', rfl, r₃, r₄⟩ := r₂.cons_inv; obtain rfl := r₄.nil_inv; obtain ⟨t, rfl⟩ := r₁.str_inv; obtain ⟨u, rfl⟩ := r₃.str_inv
  exact SC.index h (Got.toks (.int _ _))
theorem EvP.indexS {o a : Expr} {ap cp : Pos} {x y : Str} {i : Nat} {rest : List Nat} (ho : EvP c ρ o (.str x)) (ha : EvP c ρ a (.str y)) (h : Builtin.Str.occurrences x y 0 x.length 1 = i :: rest) (he : starEach [a] c.env = [(false, eval a c.env)] := by rfl)
    (hev : MethForm c o (Str.ofString "index") ap [a] cp := by exact ⟨_, rfl⟩) : EvP c ρ (.Call (.Attribute o (Str.ofString "index") ap) [a] [] cp) (.int i) :=
  EvP.methS ho (ArgsP.cons ha ArgsP.nil he) F.slot_str_index F.type_str_index (fun n => CallP.indexS h) he hev

theorem EvP.to {e : Expr} {x y : PV} (h : EvP c ρ e x) (q : x = y) : EvP c ρ e y := q ▸ h
theorem TrP.to {e : Expr} {x y : Bool} (h : TrP c ρ e x) (q : x = y) : TrP c ρ e y := q ▸ h
theorem Op2.to {t : Value → Value → Sem Value} {x y z z' : PV} (h : Op2 c t x y z) (q : z = z') : Op2 c t x y z' := q ▸ h
theorem CallP.to {g : GC} {n : Nat} {f : Value} {xs : List PV} {z z' : PV} (h : CallP g n f xs z) (q : z = z') : CallP g n f xs z' := q ▸ h
theorem ExP.to {st : List Stmt} {o o' : Out} (h : ExP c ρ st o) (q : o = o') : ExP c ρ st o' := q ▸ h
theorem StP.whileEx {test : Expr} {body : List Stmt} {pos : Pos} {out : Out} (hr : ∃ n, WhileR c test body n ρ out) : StP c ρ (.While test body [] pos) out := let ⟨_, h⟩ := hr; StP.whileDo h
theorem Sub.nil {ρ : PEnv} : Sub [] ρ := fun x e h => by simp at h
theorem Sub.cons {ρ' ρ : PEnv} {x : Str} {e : Ent} (h : ρ.lookup x = some e) (s : Sub ρ' ρ) : Sub ((x, e) :: ρ') ρ := fun y d hy => by
  rw [List.lookup_cons] at hy
  cases hb : y == x with
  | true => rw [hb] at hy; cases hy; rw [beq_iff_eq.mp hb]; exact h
  | false => rw [hb] at hy; exact s y d hy
/-! targets of two names -/
theorem TgtP.pair {x y : Str} {px py tp : Pos} {k : Nat} {a b : PV} (hx : CanStore c x) (hy : CanStore c y) : TgtP c (.Tuple [.Name x px, .Name y py] k tp) (.tuple [a, b]) ρ ((y, .val b) :: (x, .val a) :: ρ) := by
  refine ⟨fun hF O m cm s E v I r => ?_⟩
  obtain ⟨t, vs, rfl, ho, ht, rl⟩ := r.tuple_inv
  obtain ⟨v1, vs1, rfl, r1, rl1⟩ := rl.cons_inv
  obtain ⟨v2, vs2, rfl, r2, rl2⟩ := rl1.cons_inv
  obtain rfl := rl2.nil_inv
  refine wpAny_assign_Tuple I.good.room.hd ht rfl rfl fun h' he => ?_
  have hext : Ext s.heap h' := fun b o e => he b o (Nat.ne_of_lt (Heap.lt_size e)) e
  have I₁ := I.ext hext
  show wpAny _ _ (assignInOrder [assign (.Name x px) c.env, assign (.Name y py) c.env] [v1, v2]) _ _ _
  unfold assignInOrder
  refine wpAny_bind (wpAny_holding ?_)
  refine wpAny_mono ((TgtP.name (px := px) a hx).run hF O m cm { s with heap := h' } E v1 I₁ (r1.ext hext)) (fun _ s₂ h₂ => ?_) fun _ _ x => x
  obtain ⟨h₂, tk₂, m₂, cm₂, rfl, K₂, I₂⟩ := h₂
  unfold assignInOrder
  have r2' : Rep O h₂ v2 b := (r2.ext hext).mono (fun _ _ q _ => q) fun b' o no so e => K₂ b' o e (fun q => by
    rcases q with rfl | ⟨n, en⟩
    · exact solid_ne I₁.ns e so rfl
    · exact solid_ne_cell (I₁.cell n b' en) e so rfl) no
  refine wpAny_bind (wpAny_holding ?_)
  refine wpAny_mono ((TgtP.name (px := py) b hy).run hF O m₂ cm₂ { s with heap := h₂, toks := tk₂ } E v2 I₂ r2') (fun _ s₃ h₃ => ?_) fun _ _ x => x
  obtain ⟨h₃, tk₃, m₃, cm₃, rfl, K₃, I₃⟩ := h₃
  unfold assignInOrder
  exact wpAny_pure ⟨h₃, tk₃, m₃, cm₃, rfl, fun b' o e nm no => K₃ b' o (K₂ b' o (hext _ _ e) nm no) nm no, I₃⟩
theorem StP.assignPair {x y : Str} {px py tp pos : Pos} {k : Nat} {e : Expr} {a b : PV} (h : EvP c ρ e (.tuple [a, b])) (hx : CanStore c x) (hy : CanStore c y)
    (hs : swapsWithSole [.Tuple [.Name x px, .Name y py] k tp] e pos.line c.env = pure false := by rfl) (hw : swappedStores [.Tuple [.Name x px, .Name y py] k tp] e c.env = pure none := by rfl) :
    StP c ρ (.Assign [.Tuple [.Name x px, .Name y py] k tp] e pos) (.next ((y, .val b) :: (x, .val a) :: ρ)) := by
  refine ⟨fun hF O m cm s E I => ?_⟩
  refine Assign_Tuple (wpAny_mono (h.run O m cm s E I) (fun v s₁ h₁ => ?_) fun _ _ x => x) hs hw
  have I₁ := I.ext h₁.ext
  refine wpAny_mono ((TgtP.pair hx hy).run hF O m cm s₁ E v I₁ h₁.rep) (fun _ s₂ h₂ => ?_) fun _ _ x => x
  obtain ⟨h', tk, m', cm', rfl, K, I'⟩ := h₂
  exact h₁.went I ⟨h', tk, rfl, K, rfl, GoesOn.same I'⟩
end
end Mine
namespace Mine
open PySem.Builtin PySem.Builtin.Str PySem.StrLaws
/-- replacing, sign by sign: how many signs are still to be skipped -/
def rp (y z : List Nat) : Nat → List Nat → List Nat
  | _, [] => []
  | 0, c :: l => if y.isPrefixOf (c :: l) then z ++ rp y z (y.length - 1) l else c :: rp y z 0 l
  | k + 1, _ :: l => rp y z k l
theorem rp_skip (y z : List Nat) : ∀ (k : Nat) (l : List Nat), rp y z k l = rp y z 0 (l.drop k)
  | 0, l => rfl
  | k + 1, [] => by simp [rp]
  | k + 1, c :: l => by rw [rp, rp_skip y z k l, List.drop_succ_cons]
theorem prefix_iff (x y : Str) (k : Nat) (hy : 1 ≤ y.length) : At x y x.length k ↔ y.cps.toList.isPrefixOf (x.cps.toList.drop k) = true := by
  have hyl : y.cps.toList.length = y.length := by simp [Str.length]
  have hxl : x.cps.toList.length = x.length := by simp [Str.length]
  unfold At
  rw [subAt_eq, beq_iff_eq, List.isPrefixOf_iff_prefix, List.prefix_iff_eq_take, hyl]
  constructor
  · rintro ⟨_, h⟩; exact h.symm
  · intro h
    refine ⟨?_, h.symm⟩
    have := congrArg List.length h
    rw [List.length_take, List.length_drop, hxl, hyl] at this
    omega
theorem rp_gap (x y : Str) (z : List Nat) (hy : 1 ≤ y.length) : ∀ (n a c : Nat), c = a + n → c ≤ x.length → (∀ k, a ≤ k → k < c → ¬ At x y x.length k) → rp y.cps.toList z 0 (x.cps.toList.drop a) = (x.cps.toList.drop a).take (c - a) ++ rp y.cps.toList z 0 (x.cps.toList.drop c)
  | 0, a, c, e, hc, hn => by subst e; simp
  | n + 1, a, c, e, hc, hn => by
    have hlt : a < x.cps.toList.length := by simp [Str.length] at hc ⊢; omega
    have ih := rp_gap x y z hy n (a + 1) c (by omega) hc fun k h1 h2 => hn k (by omega) h2
    have h0 : ¬ (y.cps.toList.isPrefixOf (x.cps.toList.drop a) = true) := fun h => hn a (Nat.le_refl _) (by omega) ((prefix_iff x y a hy).mpr h)
    rw [List.drop_eq_getElem_cons hlt] at h0 ⊢
    rw [rp, if_neg h0, ih]
    have : c - a = (c - (a + 1)) + 1 := by omega
    rw [this, List.take_succ_cons]
    simp
theorem rp_end (x y : Str) (z : List Nat) (hy : 1 ≤ y.length) (a : Nat) (hn : ∀ k, a ≤ k → ¬ At x y x.length k) : rp y.cps.toList z 0 (x.cps.toList.drop a) = x.cps.toList.drop a := by
  by_cases ha : a ≤ x.length
  · have := rp_gap x y z hy (x.length - a) a x.length (by omega) (Nat.le_refl _) fun k h1 _ => hn k h1
    rw [this]
    have hxl : x.cps.toList.length = x.length := by simp [Str.length]
    have e1 : x.cps.toList.drop x.length = [] := List.drop_eq_nil_of_le (by omega)
    rw [e1, List.take_of_length_le (by simp [hxl])]
    simp [rp]
  · have hxl : x.cps.toList.length = x.length := by simp [Str.length]
    have e1 : x.cps.toList.drop a = [] := List.drop_eq_nil_of_le (by omega)
    rw [e1]; simp [rp]
theorem rp_parts (x y z : Str) (hy : 1 ≤ y.length) : ∀ (cuts : List Nat) (a f : Nat), a ≤ x.length → ChainG x y x.length a cuts f → (∀ k, f ≤ k → ¬ At x y x.length k) →
    (Str.join z (partsFrom x y.length a cuts)).cps.toList = rp y.cps.toList z.cps.toList 0 (x.cps.toList.drop a)
  | [], a, f, ha, h, hn => by
    have e : f = a := h
    subst e
    rw [rp_end x y _ hy f hn]
    show (strSub x f x.length).cps.toList = _
    rw [strSub_toList]
    exact List.take_of_length_le (by simp [Str.length])
  | c :: r, a, f, ha, h, hn => by
    obtain ⟨h1, h2, h3, h4⟩ := h
    have hcl : c + y.length ≤ x.length := h2.1
    have ih := rp_parts x y z hy r (c + y.length) f hcl h4 hn
    obtain ⟨p, q, e⟩ := partsFrom_ne x y.length (c + y.length) r
    show (Str.join z (strSub x a c :: partsFrom x y.length (c + y.length) r)).cps.toList = _
    rw [e] at ih ⊢
    show (strSub x a c ++ z ++ Str.join z (p :: q)).cps.toList = _
    rw [Str.cps_append, Str.cps_append, Array.toList_append, Array.toList_append, ih, strSub_toList]
    rw [rp_gap x y _ hy (c - a) a c (by omega) (by omega) h3]
    have hlt : c < x.cps.toList.length := by simp [Str.length] at hcl ⊢; simp [Str.length] at hy; omega
    have hp := (prefix_iff x y c hy).mp h2
    have e2 : rp y.cps.toList z.cps.toList 0 (x.cps.toList.drop c) = z.cps.toList ++ rp y.cps.toList z.cps.toList 0 (x.cps.toList.drop (c + y.length)) := by
      rw [List.drop_eq_getElem_cons hlt] at hp ⊢
      rw [rp, if_pos hp, rp_skip, List.drop_drop]
      have : y.cps.toList.length = y.length := by simp [Str.length]
      rw [this]
      congr 3
      omega
    rw [e2]
    simp
theorem kind_one (y : Str) (h : ∀ n ∈ y.cps.toList, n < 256) : strKind y = 1 := by
  unfold PySem.Builtin.Str.strKind
  rw [if_pos]
  rw [← Array.all_toList, List.all_eq_true]
  intro n hn
  exact decide_eq_true (h n hn)
theorem kind_pos (x : Str) : 1 ≤ strKind x := by
  unfold PySem.Builtin.Str.strKind; split
  · exact Nat.le_refl _
  · split <;> omega
/-- cut and joined anew is replaced sign by sign -/
theorem join_split_rp (x y z : Str) (hy : 1 ≤ y.length) (hk : ∀ n ∈ y.cps.toList, n < 256) : (Txt.join z (Txt.split x y)).cps.toList = rp y.cps.toList z.cps.toList 0 x.cps.toList := by
  show (glued z (Txt.split x y)).cps.toList = _
  rw [glued_eq_join]
  obtain ⟨f, hG, hn⟩ := occ_tight x y hy
  have hkk : decide (strKind x < strKind y) = false := by
    rw [kind_one y hk]; have := kind_pos x; exact decide_eq_false (by omega)
  have whole : (∀ k, ¬ At x y x.length k) → (Str.join z [x]).cps.toList = rp y.cps.toList z.cps.toList 0 x.cps.toList := fun h => by
    have := rp_end x y z.cps.toList hy 0 fun k _ => h k
    simp only [List.drop_zero] at this
    rw [this]; rfl
  unfold Txt.split
  rw [hkk, Bool.or_false]
  split
  · rename_i hc
    refine whole fun k hA => ?_
    have := hA.1
    have := of_decide_eq_true hc
    omega
  · split
    · rename_i he
      refine whole fun k hA => ?_
      have e0 : occurrences x y 0 x.length (x.length + 1) = [] := List.isEmpty_iff.mp he
      rw [e0] at hG
      have ef : f = 0 := hG
      subst ef
      exact hn k (Nat.zero_le _) hA
    · rw [partsBetween_eq]
      have := rp_parts x y z hy _ 0 f (Nat.zero_le _) hG hn
      simpa using this

/-- a text by its signs -/
def S (l : List Nat) : Str := ⟨l.toArray⟩
theorem S_toList (l : List Nat) : (S l).cps.toList = l := rfl
theorem S_length (l : List Nat) : (S l).length = l.length := by simp [S, Str.length]
theorem S_app (a b : List Nat) : S a ++ S b = S (a ++ b) := Str.ext' (by simp [S, Str.cps_append])
theorem S_inj {a b : List Nat} (h : S a = S b) : a = b := by
  have := congrArg (fun s => s.cps.toList) h
  exact this
theorem S_of (x : Str) : S x.cps.toList = x := by cases x; simp [S]
theorem S_beq (a b : List Nat) : (S a == S b) = (a == b) := by
  rw [Bool.eq_iff_iff, beq_iff_eq, beq_iff_eq]
  exact ⟨S_inj, congrArg S⟩
theorem S_bne (a b : List Nat) : (S a != S b) = (a != b) := by
  show (!(S a == S b)) = !(a == b)
  rw [S_beq]

def repl1 (x y z : Str) : Str := Txt.join z (Txt.split x y)
theorem repl1_S (x y z : List Nat) (hy : y ≠ []) (hk : ∀ n ∈ y, n < 256) : repl1 (S x) (S y) (S z) = S (rp y z 0 x) := by
  have := join_split_rp (S x) (S y) (S z) (by rw [S_length]; exact List.length_pos_iff.mpr hy) hk
  rw [← S_of (repl1 (S x) (S y) (S z))]
  exact congrArg S this
def rpAll : List Nat → List (List Nat × List Nat) → List Nat
  | t, [] => t
  | t, p :: r => rpAll (rp p.1 p.2 0 t) r
/-- pairs for replace, and no text on the way too long -/
def FitsL : List Nat → List (List Nat × List Nat) → Prop
  | _, [] => True
  | t, p :: r => t.length ≤ 4000 ∧ p.1 ≠ [] ∧ (∀ n ∈ p.1, n < 256) ∧ p.2.length ≤ 4000 ∧ FitsL (rp p.1 p.2 0 t) r
def flatL : List (List Nat × List Nat) → List (List Nat)
  | [] => []
  | p :: r => p.1 :: p.2 :: flatL r
def codesPV (ls : List (List Nat)) : List PV := ls.map fun l => .str (S l)

/-- texts glued with nothing between -/
theorem join_nil : ∀ ls : List (List Nat), Txt.join (S []) (ls.map S) = S ls.flatten := by
  intro ls
  show glued (S []) (ls.map S) = _
  rw [glued_eq_join]
  induction ls with
  | nil => rfl
  | cons a r ih =>
    cases r with
    | nil => simp [Str.join]
    | cons b r =>
      show S a ++ S [] ++ Str.join (S []) ((b :: r).map S) = _
      rw [ih, S_app, S_app]
      simp
theorem join_signs (l : List Nat) : Txt.join (S []) (l.map fun c => S [c]) = S l := by
  have := join_nil (l.map fun c => [c])
  rw [List.map_map] at this
  rw [show (l.map fun c => S [c]) = l.map (S ∘ fun c => [c]) from rfl, this]
  congr 1
  clear this
  induction l with
  | nil => rfl
  | cons a r ih => simp [ih]
theorem sum_signs (l : List Nat) : ((l.map fun c => S [c]).map (·.length)).sum = l.length := by
  induction l with
  | nil => rfl
  | cons a r ih =>
    simp only [List.map_cons, List.sum_cons, List.length_cons, S_length, List.length_nil]
    rw [ih]; omega

theorem mul_sign (c : Nat) (n : Int) : Txt.mul (S [c]) n = S (List.replicate n.toNat c) := by
  unfold Txt.mul
  split
  · have : n.toNat = 0 := by omega
    rw [this]; rfl
  · split
    · rename_i h1 h2
      have : n = 1 := by simpa [S_length] using h2
      subst this; rfl
    · have key : ∀ (k : Nat) (acc : Array Nat), (List.replicate k (S [c]).cps).foldl (· ++ ·) acc = acc ++ (List.replicate k c).toArray := by
        intro k
        induction k with
        | zero => intro acc; simp
        | succ k ih =>
          intro acc
          rw [List.replicate_succ, List.foldl_cons, ih, List.replicate_succ]
          apply Array.toList_inj.mp
          simp [S]
      rw [key]
      exact Str.ext' (by simp [S])

def apB (l : List Nat) : Array UInt8 := (l.map UInt8.ofNat).toArray
theorem bytesPV_apB (l : List Nat) (h : ∀ n ∈ l, n < 256) : bytesPV (apB l) = l.map fun (n : Nat) => PV.int (n : Int) := by
  unfold bytesPV apB
  rw [List.map_map]
  refine List.map_congr_left fun n hn => ?_
  have : (UInt8.ofNat n).toNat = n := by
    rw [UInt8.toNat_ofNat']; exact Nat.mod_eq_of_lt (h n hn)
  simp only [Function.comp, this]
def chrPV : PV → PV
  | .int i => .str (S [i.toNat])
  | _ => .none

section
variable {c : FC} {ρ : PEnv}
theorem CompOk.bare {scope : Scope} {x : Str} (h1 : closureFor scope c.env = pure [] := by rfl) (h2 : ∀ y ∈ scope.names, y.2 ≠ .cell := by decide) (h3 : scope.kind = .function := by rfl)
    (h4 : ∀ y ∈ scope.names, y.2 = .local → scope.names.lookup y.1 = some .local := by decide) (h5 : scope.names.lookup x = some .local := by rfl) : CompOk c ρ scope [] x [] :=
  ⟨h1, h2, h3, h4, h5, fun n a e => by simp at e, fun y e h => by simp at h⟩
theorem CompOk.caps {scope : Scope} {x : Str} {cl : List (Str × Addr)} {ρ' : PEnv} (sub : ∀ p ∈ cl, c.env.cells.lookup p.1 = some p.2)
    (cap : ∀ p ∈ ρ', (∃ pv, p.2 = .val pv) ∧ ρ.lookup p.1 = some p.2 ∧ c.env.kindOf p.1 = some .cell ∧ (relabel scope c.env).names.lookup p.1 = some .cell ∧ (cl.lookup p.1).isSome = true)
    (h1 : closureFor scope c.env = pure cl := by rfl) (h2 : ∀ y ∈ scope.names, y.2 ≠ .cell := by decide) (h3 : scope.kind = .function := by rfl)
    (h4 : ∀ y ∈ scope.names, y.2 = .local → scope.names.lookup y.1 = some .local := by decide) (h5 : scope.names.lookup x = some .local := by rfl) : CompOk c ρ scope cl x ρ' :=
  ⟨h1, h2, h3, h4, h5, fun n a e => sub (n, a) (mem_of_lookup e), fun y e h => cap (y, e) (mem_of_lookup h)⟩
theorem all_cons {α : Type} {P : α → Prop} {a : α} {l : List α} (h : P a) (t : ∀ x ∈ l, P x) : ∀ x ∈ a :: l, P x := List.forall_mem_cons.mpr ⟨h, t⟩
theorem all_nil {α : Type} {P : α → Prop} : ∀ x ∈ ([] : List α), P x := fun _ h => nomatch h
/-- the word that the bytes of Int2AP make -/
theorem EvP.wordOf {x : Str} {iter : Expr} {scope : Scope} {k : Nat} {p1 p2 p3 p4 p5 p6 p7 p8 : Pos} {l : List Nat} (h : EvP c ρ iter (.bytes (apB l))) (hl : ∀ n ∈ l, n < 256) (hz : l.length ≤ 4000) (K : CompOk c ρ scope [] x [])
    (hc : ∀ C, HeadP (compFC c scope [] C) (Str.ofString "chr") (.builtin "chr")) (hd : (x == ("__debug__" : Str)) = false := by decide)
    (hs : ∀ x, foldedSetIterable iter c.env x = pure x := by intro _; rfl)
    (hev : MethForm c (.Constant (.str (Str.ofString "")) k p1) (Str.ofString "join") p2 [.ListComp (.Call (.Name (Str.ofString "chr") p3) [.Name x p4] [] p5) [⟨.Name x p6, iter, [], 0⟩] scope p7] p8 := by exact ⟨_, rfl⟩) :
    EvP c ρ (.Call (.Attribute (.Constant (.str (Str.ofString "")) k p1) (Str.ofString "join") p2) [.ListComp (.Call (.Name (Str.ofString "chr") p3) [.Name x p4] [] p5) [⟨.Name x p6, iter, [], 0⟩] scope p7] [] p8) (.str (S l)) := by
  have hb := bytesPV_apB l hl
  have hmem : ∀ y ∈ bytesPV (apB l), ∃ n : Nat, n < 256 ∧ y = .int (n : Int) := fun y hy => by
    rw [hb] at hy
    obtain ⟨n, hn, rfl⟩ := List.mem_map.mp hy
    exact ⟨n, hl n hn, rfl⟩
  have hcomp : EvP c ρ (.ListComp (.Call (.Name (Str.ofString "chr") p3) [.Name x p4] [] p5) [⟨.Name x p6, iter, [], 0⟩] scope p7) (.list ((bytesPV (apB l)).map chrPV)) := by
    refine EvP.comp0 chrPV h (IterP.bytes _) ?_ ?_ ?_ K (fun C y hy => ?_) hs
    · rw [hb, sizeLine_eq]; simp; omega
    · intro y hy; obtain ⟨n, _, rfl⟩ := hmem y hy; trivial
    · intro y hy; obtain ⟨n, _, rfl⟩ := hmem y hy; trivial
    · obtain ⟨n, hn, rfl⟩ := hmem y hy
      exact EvP.call (n := 0) (hc C) (Calle.builtin _) (ArgsP.cons (EvP.name (by simp) hd) ArgsP.nil) (CallP.chr (a := (n : Int)) (by omega) (by omega)) (Nat.zero_le _)
  have e : (bytesPV (apB l)).map chrPV = strsPV (l.map fun c => S [c]) := by
    rw [hb, strsPV, List.map_map, List.map_map]
    refine List.map_congr_left fun n hn => ?_
    simp [chrPV]
  rw [e] at hcomp
  refine EvP.join (EvP.str _ _ _) hcomp ?_ ?_ rfl hev
  · rw [sum_signs]
    have : (Str.ofString "").length = 0 := by decide
    rw [this, Nat.mul_zero]; omega
  · have : Str.ofString "" = S [] := by decide
    rw [this]
    exact join_signs l
end

theorem boot_abs : bootBuiltins (Str.ofString "abs") = some (.builtin "abs") := by decide +kernel
theorem boot_int : bootBuiltins (Str.ofString "int") = some (.type "int") := by decide +kernel
theorem boot_chr : bootBuiltins (Str.ofString "chr") = some (.builtin "chr") := by decide +kernel
theorem boot_len : bootBuiltins (Str.ofString "len") = some (.builtin "len") := by decide +kernel
theorem boot_divmod : bootBuiltins (Str.ofString "divmod") = some (.builtin "divmod") := by decide +kernel
theorem boot_range : bootBuiltins (Str.ofString "range") = some (.type "range") := by decide +kernel
theorem boot_list : bootBuiltins (Str.ofString "list") = some (.type "list") := by decide +kernel

theorem fdiv_nat (a b : Nat) : (a : Int).fdiv (b : Int) = ((a / b : Nat) : Int) := by
  rw [Int.fdiv_eq_ediv_of_nonneg _ (by omega)]; rfl
theorem fmod_nat (a b : Nat) : (a : Int).fmod (b : Int) = ((a % b : Nat) : Int) := by
  rw [Int.fmod_eq_emod_of_nonneg _ (by omega)]; rfl
theorem pow_nat (a b : Nat) : ((a : Int) ^ b) = ((a ^ b : Nat) : Int) := by simp
theorem noPylong_pow {x : Int} {b j m : Nat} (hb : b ≤ 2 ^ m) (hj : m * j < 9000) : Builtin.divisionGoesByPylong x ((b ^ j : Nat) : Int) = false := by
  refine PyProof.noPylong_of_log2 ?_
  rw [Int.natAbs_natCast]
  by_cases h0 : b ^ j = 0
  · rw [h0]; decide
  · rw [Nat.log2_lt h0]
    have h1 : b ^ j ≤ (2 ^ m) ^ j := Nat.pow_le_pow_left hb j
    rw [← Nat.pow_mul] at h1
    exact Nat.lt_of_le_of_lt h1 (Nat.pow_lt_pow_right (by decide) hj)
/-- the letters of a number, to the base 16, A to P -/
def apF : Nat → Nat → List Nat → List Nat
  | 0, _, acc => acc
  | f + 1, n, acc => if n = 0 then acc else apF f (n / 16) ((65 + n % 16) :: acc)
def apW (f n : Nat) : Str := ⟨(apF f n []).toArray⟩
theorem apF_app : ∀ (f n : Nat) (acc : List Nat), apF f n acc = apF f n [] ++ acc
  | 0, _, _ => rfl
  | f + 1, n, acc => by
    unfold apF
    split
    · simp
    · rw [apF_app f (n / 16) ((65 + n % 16) :: acc), apF_app f (n / 16) [65 + n % 16]]; simp
theorem apF_length : ∀ (f n : Nat) (acc : List Nat), (apF f n acc).length ≤ f + acc.length
  | 0, _, _ => by simp [apF]
  | f + 1, n, acc => by
    unfold apF
    split
    · omega
    · have := apF_length f (n / 16) ((65 + n % 16) :: acc); simp at this; omega
theorem apF_mem : ∀ (f n : Nat) (acc : List Nat), (∀ m ∈ acc, 65 ≤ m ∧ m ≤ 80) → ∀ m ∈ apF f n acc, 65 ≤ m ∧ m ≤ 80
  | 0, _, _, h => h
  | f + 1, n, acc, h => by
    unfold apF
    split
    · exact h
    · refine apF_mem f (n / 16) _ fun m hm => ?_
      rcases List.mem_cons.mp hm with rfl | hm
      · omega
      · exact h m hm
theorem apF_lt (f n : Nat) : ∀ m ∈ apF f n [], m < 256 := fun m hm => by
  have := apF_mem f n [] (fun _ h => nomatch h) m hm
  omega
def APb : Array UInt8 := [65, 66, 67, 68, 69, 70, 71, 72, 73, 74, 75, 76, 77, 78, 79, 80].toArray
theorem picked_AP : ∀ k : Fin 16, KBy.picked APb (some ((k.val : Nat) : Int)) (some (((k.val : Nat) : Int) + 1)) = apB [65 + k.val] := by decide +kernel



end Mine
namespace Mine
/-! replacing a pair that ends in a mark: plain -/
theorem rp_none (y z : List Nat) {b : Nat} (hb : b ∈ y) : ∀ t : List Nat, b ∉ t → rp y z 0 t = t
  | [], _ => rfl
  | c :: t, h => by
    have hn : y.isPrefixOf (c :: t) = false := by
      cases e : y.isPrefixOf (c :: t) with
      | false => rfl
      | true => exact absurd ((List.isPrefixOf_iff_prefix.mp e).subset hb) h
    rw [rp, if_neg (by rw [hn]; decide), rp_none y z hb t fun q => h (List.mem_cons_of_mem _ q)]
theorem mark_inj {b : Nat} : ∀ {u y : List Nat} {v x : List Nat}, b ∉ u → b ∉ y → y ++ b :: x = u ++ b :: v → y = u ∧ x = v
  | [], [], _, _, _, _, e => by simp at e; exact ⟨rfl, e⟩
  | [], c :: y, _, _, _, hy, e => by simp at e; exact absurd (e.1 ▸ List.mem_cons_self ..) hy
  | c :: u, [], _, _, hu, _, e => by simp at e; exact absurd (e.1 ▸ List.mem_cons_self ..) hu
  | c :: u, d :: y, v, x, hu, hy, e => by
    simp at e
    obtain ⟨h1, h2⟩ := mark_inj (fun q => hu (List.mem_cons_of_mem _ q)) (fun q => hy (List.mem_cons_of_mem _ q)) e.2
    exact ⟨by rw [e.1, h1], h2⟩
theorem rp_once (y z v : List Nat) {b : Nat} (hv : b ∉ v) (hy : b ∉ y) : ∀ u : List Nat, b ∉ u → rp (y ++ [b]) z 0 (u ++ y ++ b :: v) = u ++ z ++ v
  | [], _ => by
    have hp : (y ++ [b]).isPrefixOf (y ++ b :: v) = true := List.isPrefixOf_iff_prefix.mpr ⟨v, by simp⟩
    have hd : (y ++ b :: v).drop (y ++ [b]).length = v := by
      have : y ++ b :: v = (y ++ [b]) ++ v := by simp
      rw [this, List.drop_left]
    rw [List.nil_append, List.nil_append]
    have hne : ∃ c l, y ++ b :: v = c :: l := by
      cases y with
      | nil => exact ⟨_, _, rfl⟩
      | cons c y => exact ⟨_, _, rfl⟩
    obtain ⟨c, l, hcl⟩ := hne
    rw [hcl] at hp hd ⊢
    have h1 : (y ++ [b]).length = ((y ++ [b]).length - 1) + 1 := by simp
    rw [h1] at hd
    rw [rp, if_pos hp, rp_skip]
    simp only [List.drop_succ_cons] at hd
    rw [hd, rp_none (y ++ [b]) z (by simp) v hv]
  | c :: u, hu => by
    have hn : (y ++ [b]).isPrefixOf (c :: (u ++ y ++ b :: v)) = false := by
      cases e : (y ++ [b]).isPrefixOf (c :: (u ++ y ++ b :: v)) with
      | false => rfl
      | true =>
        obtain ⟨x, hx⟩ := List.isPrefixOf_iff_prefix.mp e
        have hx' : y ++ b :: x = (c :: (u ++ y)) ++ b :: v := by simpa using hx
        have h2 := (mark_inj (by
          intro q
          rcases List.mem_cons.mp q with q | q
          · exact hu (q ▸ List.mem_cons_self ..)
          · rcases List.mem_append.mp q with q | q
            · exact hu (List.mem_cons_of_mem _ q)
            · exact hy q) hy hx').1
        have := congrArg List.length h2
        simp at this; omega
    rw [List.cons_append, List.cons_append, rp, if_neg (by rw [hn]; decide), rp_once y z v hv hy u fun q => hu (List.mem_cons_of_mem _ q)]
    simp
theorem rp_other (y z v : List Nat) {b : Nat} (hv : b ∉ v) (hy : b ∉ y) : ∀ u : List Nat, b ∉ u → ¬ y <:+ u → rp (y ++ [b]) z 0 (u ++ b :: v) = u ++ b :: v
  | [], _, hs => by
    have hn : (y ++ [b]).isPrefixOf (b :: v) = false := by
      cases e : (y ++ [b]).isPrefixOf (b :: v) with
      | false => rfl
      | true =>
        obtain ⟨x, hx⟩ := List.isPrefixOf_iff_prefix.mp e
        have hx' : y ++ b :: x = [] ++ b :: v := by simpa using hx
        exact absurd ((mark_inj (by simp) hy hx').1 ▸ List.suffix_refl _) hs
    rw [List.nil_append, rp, if_neg (by rw [hn]; decide), rp_none (y ++ [b]) z (by simp) v hv]
  | c :: u, hu, hs => by
    have hn : (y ++ [b]).isPrefixOf (c :: (u ++ b :: v)) = false := by
      cases e : (y ++ [b]).isPrefixOf (c :: (u ++ b :: v)) with
      | false => rfl
      | true =>
        obtain ⟨x, hx⟩ := List.isPrefixOf_iff_prefix.mp e
        have hx' : y ++ b :: x = (c :: u) ++ b :: v := by simpa using hx
        exact absurd ((mark_inj hu hy hx').1 ▸ List.suffix_refl _) hs
    rw [List.cons_append, rp, if_neg (by rw [hn]; decide), rp_other y z v hv hy u (fun q => hu (List.mem_cons_of_mem _ q)) fun q => hs (q.trans (List.suffix_cons ..))]
/-- what a text stands for is kept, if each pair keeps it -/
theorem rp_keep {α : Type} (f : α → Nat → α) (y z : List Nat) (hy : y ≠ []) (h : ∀ v, z.foldl f v = y.foldl f v) : ∀ (n : Nat) (t : List Nat), t.length ≤ n → ∀ v, (rp y z 0 t).foldl f v = t.foldl f v
  | _, [], _, _ => rfl
  | 0, _ :: _, hn, _ => by simp at hn
  | n + 1, c :: t, hn, v => by
    simp only [List.length_cons] at hn
    rw [rp]
    split
    · rename_i e
      obtain ⟨x, hx⟩ := List.isPrefixOf_iff_prefix.mp e
      have h1 : y.length = (y.length - 1) + 1 := by have := List.length_pos_iff.mpr hy; omega
      have hd : t.drop (y.length - 1) = x := by
        have : (c :: t).drop y.length = x := by rw [← hx, List.drop_left]
        rw [h1] at this; simpa using this
      rw [rp_skip, hd, List.foldl_append, h, rp_keep f y z hy h n x (by rw [← hd]; simp; omega), ← List.foldl_append, hx]
    · rw [List.foldl_cons, List.foldl_cons, rp_keep f y z hy h n t (by omega)]
theorem rpAll_keep {α : Type} (f : α → Nat → α) : ∀ (ps : List (List Nat × List Nat)) (t : List Nat), (∀ p ∈ ps, p.1 ≠ [] ∧ ∀ v, p.2.foldl f v = p.1.foldl f v) → ∀ v, (rpAll t ps).foldl f v = t.foldl f v
  | [], _, _, _ => rfl
  | p :: ps, t, h, v => by
    rw [rpAll, rpAll_keep f ps _ (fun q hq => h q (List.mem_cons_of_mem _ hq)), rp_keep f p.1 p.2 (h p (List.mem_cons_self ..)).1 (h p (List.mem_cons_self ..)).2 _ t (Nat.le_refl _)]
/-- lengths -/
theorem rp_short (y z : List Nat) (k : Nat) (hk : 1 ≤ k) (hz : z.length ≤ k) : ∀ (n : Nat) (t : List Nat), (rp y z n t).length ≤ k * t.length
  | n, [] => by cases n <;> simp [rp]
  | 0, c :: t => by
    rw [rp]
    split
    · have := rp_short y z k hk hz (y.length - 1) t
      simp only [List.length_append, List.length_cons, Nat.mul_succ]; omega
    · have := rp_short y z k hk hz 0 t
      simp only [List.length_cons, Nat.mul_succ]; omega
  | n + 1, c :: t => by
    rw [rp]
    have := rp_short y z k hk hz n t
    simp only [List.length_cons, Nat.mul_succ]; omega
theorem rp_same (y z : List Nat) (hy : y ≠ []) (hz : z.length ≤ y.length) : ∀ (n : Nat) (t : List Nat), t.length ≤ n → (rp y z 0 t).length ≤ t.length
  | _, [], _ => by simp [rp]
  | 0, _ :: _, hn => by simp at hn
  | n + 1, c :: t, hn => by
    simp only [List.length_cons] at hn
    rw [rp]
    split
    · rename_i e
      have h2 := (List.isPrefixOf_iff_prefix.mp e).length_le
      have h3 := List.length_pos_iff.mpr hy
      simp only [List.length_cons] at h2
      have := rp_same y z hy hz n (t.drop (y.length - 1)) (by simp; omega)
      rw [rp_skip]
      simp only [List.length_append, List.length_cons, List.length_drop] at this ⊢
      omega
    · have := rp_same y z hy hz n t (by omega)
      simp only [List.length_cons]; omega
/-- pairs of which none lengthens a text -/
theorem fits_same : ∀ (ps : List (List Nat × List Nat)) (t : List Nat), (∀ p ∈ ps, p.1 ≠ [] ∧ (∀ n ∈ p.1, n < 256) ∧ p.2.length ≤ p.1.length ∧ p.2.length ≤ 4000) → t.length ≤ 4000 → FitsL t ps ∧ (rpAll t ps).length ≤ t.length
  | [], _, _, _ => ⟨trivial, Nat.le_refl _⟩
  | p :: ps, t, h, ht => by
    obtain ⟨h1, h2, h3, h4⟩ := h p (List.mem_cons_self ..)
    have h5 := rp_same p.1 p.2 h1 h3 _ t (Nat.le_refl _)
    obtain ⟨h6, h7⟩ := fits_same ps (rp p.1 p.2 0 t) (fun q hq => h q (List.mem_cons_of_mem _ hq)) (by omega)
    exact ⟨⟨ht, h1, h2, h4, h6⟩, by rw [rpAll]; omega⟩
/-- a run with all its bounds, to be computed -/
def run : List Nat → List (List Nat × List Nat) → Option (List Nat)
  | t, [] => some t
  | t, p :: r => if t.length.ble 4000 && (!p.1.isEmpty) && p.1.all (fun n => n.blt 256) && p.2.length.ble 4000 then run (rp p.1 p.2 0 t) r else none
theorem run_ok : ∀ {ps : List (List Nat × List Nat)} {t u : List Nat}, run t ps = some u → FitsL t ps ∧ rpAll t ps = u
  | [], _, _, h => by cases h; exact ⟨trivial, rfl⟩
  | p :: ps, t, u, h => by
    rw [run] at h
    split at h
    · rename_i e
      simp only [Bool.and_eq_true] at e
      obtain ⟨⟨⟨e1, e2⟩, e3⟩, e4⟩ := e
      obtain ⟨h1, h2⟩ := run_ok h
      refine ⟨⟨Nat.le_of_ble_eq_true e1, fun q => ?_, fun n hn => ?_, Nat.le_of_ble_eq_true e4, h1⟩, h2⟩
      · rw [q] at e2; simp at e2
      · have := List.all_eq_true.mp e3 n hn
        exact Nat.le_of_ble_eq_true this
    · cases h
/-- digits, from the right -/
def leV (B : Nat) : List Nat → Nat
  | [] => 0
  | d :: r => d + B * leV B r
theorem leV_pos {B : Nat} (hB : 1 ≤ B) : ∀ {r : List Nat}, r ≠ [] → (∀ d, r.getLast? = some d → d ≠ 0) → leV B r ≠ 0
  | [], h, _ => absurd rfl h
  | [d], _, h => by have := h d rfl; simp [leV]; exact this
  | d :: e :: r, _, h => by
    have := leV_pos hB (r := e :: r) (by simp) (fun x hx => h x (by rw [List.getLast?_cons_cons]; exact hx))
    rw [leV]
    have h2 : 1 ≤ leV B (e :: r) := by omega
    have h3 : 1 * 1 ≤ B * leV B (e :: r) := Nat.mul_le_mul hB h2
    omega
theorem digits {B : Nat} (hB : 2 ≤ B) (F : Nat → Nat → List Nat → List Nat) (enc : Nat → Nat) (h0 : ∀ n acc, F 0 n acc = acc) (hF : ∀ f n acc, F (f + 1) n acc = if n = 0 then acc else F f (n / B) (enc (n % B) :: acc)) :
    ∀ (r : List Nat) (f : Nat) (acc : List Nat), r.length ≤ f → (∀ d ∈ r, d < B) → (∀ d, r.getLast? = some d → d ≠ 0) → F f (leV B r) acc = (r.map enc).reverse ++ acc
  | [], 0, acc, _, _, _ => by rw [h0]; rfl
  | [], f + 1, acc, _, _, _ => by rw [hF, if_pos (show leV B [] = 0 from rfl)]; rfl
  | d :: r, 0, _, h, _, _ => by simp at h
  | d :: r, f + 1, acc, h, hd, hl => by
    have hp := leV_pos (B := B) (by omega) (r := d :: r) (by simp) hl
    have hdB := hd d (List.mem_cons_self ..)
    have e1 : leV B (d :: r) / B = leV B r := by
      rw [leV, Nat.add_mul_div_left _ _ (by omega), Nat.div_eq_of_lt hdB]; omega
    have e2 : leV B (d :: r) % B = d := by
      rw [leV, Nat.add_mul_mod_self_left, Nat.mod_eq_of_lt hdB]
    rw [hF, if_neg hp, e1, e2, digits hB F enc h0 hF r f (enc d :: acc) (by simp at h; omega) (fun x hx => hd x (List.mem_cons_of_mem _ hx)) ?_]
    · simp
    · intro x hx
      refine hl x ?_
      cases r with
      | nil => simp at hx
      | cons e r => rw [List.getLast?_cons_cons]; exact hx
end Mine
namespace Mine
def intsPV (ns : List Int) : List PV := ns.map .int
theorem flatL_app : ∀ (a b : List (List Nat × List Nat)), flatL (a ++ b) = flatL a ++ flatL b
  | [], _ => rfl
  | p :: a, b => by simp [flatL, flatL_app a b]
theorem flatL_length : ∀ a : List (List Nat × List Nat), (flatL a).length = 2 * a.length
  | [] => rfl
  | p :: a => by simp [flatL, flatL_length a]; omega
theorem range_one (a b : Int) (h : a ≤ b) : Builtin.Range.rangeSize a b 1 = ((b - a).toNat : Int) := by
  unfold Builtin.Range.rangeSize
  rw [if_pos (by decide), Int.ediv_one]
  split <;> omega
theorem two_fit (a b : Nat) : (⟨#[a]⟩ : Str).length + (⟨#[b]⟩ : Str).length ≤ sizeLine := by
  show 1 + 1 ≤ sizeLine
  rw [sizeLine_eq]; decide
def forBody : Option Stmt → List Stmt
  | some (Stmt.For _ _ b _ _) => b
  | _ => []
theorem let_at : ∀ k : Fin 16, (Str.ofString "ABCDEFGHIJKLMNOP").cps[k.val]? = some (65 + k.val) := by decide +kernel
theorem intsRep {O : Addr → Prop} {h : Heap} : ∀ {vs : List Value} {ns : List Int}, IntsAre vs ns → RepL O h vs (intsPV ns)
  | _, _, .nil => .nil
  | _, _, .cons n t r => .cons (.int n t) (intsRep r)
theorem scriptRep {h : Heap} {P : Params} {a : Addr} {vs : List Value} {ns : List Int} (hW : Well P h (.ref a) (ofPy (PyData.list (ns.map PyData.int)))) (hL : h.IsList a vs.toArray) (hI : IntsAre vs ns) : Rep (fun _ => False) h (.ref a) (.list (intsPV ns)) := by
  obtain ⟨o, ho, hc, n, hd⟩ := hL
  have : ∃ us : List Value, h.get? a = some { cls := .type "list", data := .seq us.toArray } := by
    cases hW with
    | list hg _ => exact ⟨_, hg⟩
  obtain ⟨us, hg⟩ := this
  rw [hg] at ho
  cases ho
  have hd' : Data.seq us.toArray 0 = Data.seq vs.toArray n := hd
  injection hd' with h1 h2
  have h3 : us = vs := by simpa using h1
  subst h3
  exact .list' (fun q => q) ⟨_, hg⟩ (intsRep hI)
theorem startInv {c : FC} {m cm : Str → Option Value} {h : Heap} {a : Addr} {x : PV} (G : c.Good) (hB : ∀ a, ¬ c.B a) (hc : ∀ n b, c.env.cells.lookup n = some b → h.IsCell b (cm n)) (F : Fr c.h₀ c.env.locals h m) (hm : m (Str.ofString "script") = some (.ref a)) (hk : c.env.kindOf (Str.ofString "script") = some .local) (r : Rep (fun _ => False) c.h₀ (.ref a) x) :
    Inv c [(Str.ofString "script", .val x)] (fun _ => False) m cm h := by
  refine ⟨G, F.ns, hc, F.keep, fun y pv e => ?_, fun y ys e => ?_, fun y z ys zs b e => ?_, fun b q => hB b q, fun b q => q.elim⟩
  · rw [List.lookup_cons] at e
    cases hb : y == Str.ofString "script" with
    | true =>
      rw [hb] at e; cases e
      rw [beq_iff_eq.mp hb]
      exact ⟨.ref a, .inl ⟨hk, hm⟩, r.ext F.keep⟩
    | false => rw [hb] at e; simp at e
  · rw [List.lookup_cons] at e
    cases hb : y == Str.ofString "script" with
    | true => rw [hb] at e; cases e
    | false => rw [hb] at e; simp at e
  · rw [List.lookup_cons] at e
    cases hb : y == Str.ofString "script" with
    | true => rw [hb] at e; cases e
    | false => rw [hb] at e; simp at e
theorem finishLaw {c : FC} {ρ : PEnv} {body : List Stmt} (hex : ExP c ρ body (.ret (.bool true))) (hfresh : c.Fresh) {O : Addr → Prop} {s : Shared} {m cm : Str → Option Value} (hinv : Inv c ρ O m cm s.heap) {Q : Flow → Shared → Prop} {E : Value → Shared → Prop}
    (hQ : ∀ h' tk, Ext c.h₀ h' → Q (.ret (.bool true)) { s with heap := h', toks := tk }) : wpAny (model c.prog c.w) c.A (execs body c.env) Q E s := by
  refine wpAny_mono (hex.run hfresh O m cm s E hinv) (fun f s' w => ?_) fun _ _ x => x
  obtain ⟨h', tk, rfl, _, ⟨v, rfl, r⟩, k⟩ := w
  have := r.bool_inv
  subst this
  exact hQ h' tk k
end Mine
namespace Mine
def fourL (f : Nat) : List Nat := [8, 4, 2, 1].map fun p => if f / p % 2 = 0 then 102 else 116
def openedL : List (List Nat × List Nat) := (List.range 16).map fun f => ([65 + f], fourL f)
def closedL : List (List Nat × List Nat) := (List.range 16).map fun f => (fourL f ++ [62], [62, 65 + f])
def movesL : List (List Nat × List Nat) := [([102, 48], [48, 102]), ([102, 49], [48, 116]), ([102, 50], [49, 102]), ([116, 48], [49, 116]), ([116, 49], [50, 102]), ([116, 50], [50, 116]), ([60, 49], [60, 116]), ([60, 50], [60, 116, 102])]
def binF : Nat → Nat → List Nat → List Nat
  | 0, _, acc => acc
  | f + 1, n, acc => if n = 0 then acc else binF f (n / 2) ((if n % 2 = 0 then 102 else 116) :: acc)
def toldL (n : Nat) : List Nat := 60 :: (binF 12 n [] ++ [62])
def trimL : List (List Nat × List Nat) := [([60, 102, 102, 102], [60]), ([60, 102, 102], [60]), ([60, 102], [60])]
/-! the opening, letter by letter -/
theorem rp_letters (y : Nat) (z : List Nat) : ∀ a b : List Nat, rp [y] z 0 (a ++ b) = rp [y] z 0 a ++ rp [y] z 0 b
  | [], b => by simp [rp]
  | c :: a, b => by
    have ih := rp_letters y z a b
    simp only [List.cons_append, rp, List.isPrefixOf, List.length_cons, List.length_nil, Nat.zero_add, Nat.sub_self, Bool.and_true]
    split
    · rw [ih, List.append_assoc]
    · rw [ih, List.cons_append]
def fitb (m : Nat) : List Nat → List (List Nat × List Nat) → Bool
  | _, [] => true
  | t, p :: r => Nat.ble t.length m && fitb m (rp p.1 p.2 0 t) r
def OneL (ps : List (List Nat × List Nat)) : Prop := ∀ p ∈ ps, ∃ y z, p = ([y], z) ∧ y < 256 ∧ z.length ≤ 4000
theorem oneL_opened : OneL openedL := fun p hp => by
  obtain ⟨f, hf, rfl⟩ := List.mem_map.mp hp
  have := List.mem_range.mp hf
  exact ⟨65 + f, fourL f, rfl, by omega, by simp [fourL]⟩
theorem rpAll_letters : ∀ (ps : List (List Nat × List Nat)) (a b : List Nat), OneL ps → rpAll (a ++ b) ps = rpAll a ps ++ rpAll b ps
  | [], _, _, _ => rfl
  | p :: ps, a, b, h => by
    obtain ⟨y, z, rfl, _⟩ := h p (List.mem_cons_self ..)
    rw [rpAll, rpAll, rpAll, rp_letters, rpAll_letters ps _ _ fun q hq => h q (List.mem_cons_of_mem _ hq)]
theorem fitb_app : ∀ (ps : List (List Nat × List Nat)) (m n : Nat) (a b : List Nat), OneL ps → fitb m a ps = true → fitb n b ps = true → fitb (m + n) (a ++ b) ps = true
  | [], _, _, _, _, _, _, _ => rfl
  | p :: ps, m, n, a, b, h, h1, h2 => by
    obtain ⟨y, z, rfl, _⟩ := h p (List.mem_cons_self ..)
    rw [fitb, Bool.and_eq_true] at h1 h2 ⊢
    have l1 := Nat.le_of_ble_eq_true h1.1
    have l2 := Nat.le_of_ble_eq_true h2.1
    refine ⟨Nat.ble_eq.mpr (by rw [List.length_append]; omega), ?_⟩
    rw [rp_letters]
    exact fitb_app ps m n _ _ (fun q hq => h q (List.mem_cons_of_mem _ hq)) h1.2 h2.2
theorem fitb_fits {m : Nat} (hm : m ≤ 4000) : ∀ (ps : List (List Nat × List Nat)) (t : List Nat), OneL ps → fitb m t ps = true → FitsL t ps
  | [], _, _, _ => trivial
  | p :: ps, t, h, h1 => by
    obtain ⟨y, z, rfl, hy, hz⟩ := h p (List.mem_cons_self ..)
    rw [fitb, Bool.and_eq_true] at h1
    have l1 := Nat.le_of_ble_eq_true h1.1
    exact ⟨by omega, by simp, fun n hn => by simp at hn; omega, hz, fitb_fits hm ps _ (fun q hq => h q (List.mem_cons_of_mem _ hq)) h1.2⟩
/-- a sign's opening -/
def openS (c : Nat) : List Nat := if Nat.ble 65 c then fourL (c - 65) else [c]
theorem signs_ok : (60 :: 62 :: (List.range 16).map (65 + ·)).all (fun c => fitb 4 [c] openedL && rpAll [c] openedL == openS c) = true := by decide +kernel
theorem sign_ok {c : Nat} (hc : c = 60 ∨ c = 62 ∨ (65 ≤ c ∧ c ≤ 80)) : fitb 4 [c] openedL = true ∧ rpAll [c] openedL = openS c := by
  have h := List.all_eq_true.mp signs_ok c (by
    simp only [List.mem_cons, List.mem_map, List.mem_range]
    rcases hc with h | h | h
    · exact .inl h
    · exact .inr (.inl h)
    · exact .inr (.inr ⟨c - 65, by omega, by omega⟩))
  rw [Bool.and_eq_true, beq_iff_eq] at h
  exact h
theorem rpAll_empty : ∀ ps : List (List Nat × List Nat), rpAll [] ps = []
  | [] => rfl
  | p :: ps => by
    have : rp p.1 p.2 0 [] = [] := by simp [rp]
    rw [rpAll, this, rpAll_empty ps]
theorem fitb_empty : ∀ ps : List (List Nat × List Nat), fitb 0 [] ps = true
  | [] => rfl
  | p :: ps => by
    have : rp p.1 p.2 0 [] = [] := by simp [rp]
    rw [fitb, this, fitb_empty ps]; rfl
theorem signs_open : ∀ t : List Nat, (∀ c ∈ t, c = 60 ∨ c = 62 ∨ (65 ≤ c ∧ c ≤ 80)) → fitb (4 * t.length) t openedL = true ∧ rpAll t openedL = t.flatMap openS
  | [], _ => ⟨fitb_empty _, rpAll_empty _⟩
  | c :: t, h => by
    obtain ⟨a1, a2⟩ := sign_ok (h c (List.mem_cons_self ..))
    obtain ⟨b1, b2⟩ := signs_open t fun x hx => h x (List.mem_cons_of_mem _ hx)
    have e : 4 * (c :: t).length = 4 + 4 * t.length := by rw [List.length_cons]; omega
    have e2 : c :: t = [c] ++ t := rfl
    rw [e]
    constructor
    · rw [e2]; exact fitb_app _ _ _ _ _ oneL_opened a1 b1
    · rw [e2, rpAll_letters _ _ _ oneL_opened, a2, b2]; rfl
def openT (n : Nat) : List Nat := (60 :: (apF 2 n [] ++ [62])).flatMap openS
theorem first_ok : (List.range 255).all (fun i => run (openT (i + 1)) trimL == some (toldL (i + 1))) = true := by decide +kernel
theorem first_told (n : Nat) (h1 : 1 ≤ n) (h2 : n ≤ 255) : FitsL (60 :: (apF 2 n [] ++ [62])) openedL ∧ FitsL (rpAll (60 :: (apF 2 n [] ++ [62])) openedL) trimL ∧ rpAll (rpAll (60 :: (apF 2 n [] ++ [62])) openedL) trimL = toldL n := by
  have h := List.all_eq_true.mp first_ok (n - 1) (List.mem_range.mpr (by omega))
  have e : n - 1 + 1 = n := by omega
  rw [e, beq_iff_eq] at h
  obtain ⟨c, d⟩ := run_ok h
  have hlen := apF_length 2 n []
  simp only [List.length_nil, Nat.add_zero] at hlen
  obtain ⟨a, b⟩ := signs_open (60 :: (apF 2 n [] ++ [62])) fun c hc => by
    rcases List.mem_cons.mp hc with rfl | hc
    · exact .inl rfl
    · rcases List.mem_append.mp hc with hc | hc
      · exact .inr (.inr (apF_mem 2 n [] (fun _ h => nomatch h) c hc))
      · exact .inr (.inl (List.mem_singleton.mp hc))
  rw [b]
  exact ⟨fitb_fits (by simp only [List.length_cons, List.length_append, List.length_nil]; omega) _ _ oneL_opened a, c, d⟩
def rpN (ps : List (List Nat × List Nat)) : Nat → List Nat → List Nat
  | 0, t => t
  | n + 1, t => rpN ps n (rpAll t ps)
def isBit (c : Nat) : Prop := c = 102 ∨ c = 116
/-- a text's worth, from the left -/
def stepV (v c : Nat) : Nat :=
  if c = 102 then 2 * v else if c = 116 then 2 * v + 1 else if c = 60 then 0 else if c = 62 then v else if c ≤ 50 then 3 * v + (c - 48) else 16 * v + (c - 65)
theorem moves_keep : ∀ p ∈ movesL, p.1 ≠ [] ∧ ∀ v, p.2.foldl stepV v = p.1.foldl stepV v := by
  intro p hp
  simp only [movesL, List.mem_cons, List.not_mem_nil, or_false] at hp
  rcases hp with rfl | rfl | rfl | rfl | rfl | rfl | rfl | rfl <;> refine ⟨by simp, fun v => ?_⟩ <;> simp [stepV] <;> omega
/-- a text with one figure to the base 3 at most, and how far it has to go; its length -/
inductive St (M : Nat) : Nat → List Nat → Prop where
  | fin (bits : List Nat) : (∀ c ∈ bits, isBit c) → bits.head? = some 116 → bits.length + 2 ≤ M → St M 0 (60 :: (bits ++ [62]))
  | go (pre post : List Nat) (d : Nat) : (∀ c ∈ pre, isBit c) → (∀ c ∈ post, isBit c) → (d = 48 ∨ d = 49 ∨ d = 50) → (pre = [] → d ≠ 48) → (∀ c, pre.head? = some c → c = 116) → pre.length + post.length + 4 ≤ M → St M (pre.length + 1) (60 :: (pre ++ d :: (post ++ [62])))
theorem bits_no {l : List Nat} (h : ∀ c ∈ l, isBit c) {b : Nat} (hb : b < 102) : b ∉ l := fun q => by
  have := h b q; unfold isBit at this; omega
theorem moves_mark : ∀ p ∈ movesL, ∃ a b z, p = ([a, b], z) ∧ (b = 48 ∨ b = 49 ∨ b = 50) ∧ (a = 102 ∨ a = 116 ∨ a = 60) := by
  intro p hp
  simp only [movesL, List.mem_cons, List.not_mem_nil, or_false] at hp
  rcases hp with rfl | rfl | rfl | rfl | rfl | rfl | rfl | rfl <;> exact ⟨_, _, _, rfl, by decide, by decide⟩
theorem step_fin {M : Nat} {T : List Nat} (h : St M 0 T) {p : List Nat × List Nat} (hp : p ∈ movesL) : rp p.1 p.2 0 T = T := by
  obtain ⟨a, b, z, rfl, hb, ha⟩ := moves_mark p hp
  cases h with
  | fin bits hbits _ _ =>
    refine rp_none [a, b] z (b := b) (by simp) _ fun q => ?_
    have := bits_no hbits (b := b) (by omega)
    simp only [List.mem_cons, List.mem_append, List.not_mem_nil, or_false] at q
    rcases q with q | q | q
    · omega
    · exact this q
    · omega
theorem call_fin {M : Nat} {T : List Nat} (h : St M 0 T) : ∀ ps : List (List Nat × List Nat), (∀ p ∈ ps, p ∈ movesL) → rpAll T ps = T
  | [], _ => rfl
  | p :: ps, hp => by rw [rpAll, step_fin h (hp p (List.mem_cons_self ..)), call_fin h ps fun q hq => hp q (List.mem_cons_of_mem _ hq)]
/-- one pair: the figure goes on, or the text stays -/
theorem step_go {M k : Nat} {T : List Nat} (h : St M (k + 1) T) {p : List Nat × List Nat} (hp : p ∈ movesL) : (rp p.1 p.2 0 T = T) ∨ ∃ k', k' ≤ k ∧ St M k' (rp p.1 p.2 0 T) := by
  obtain ⟨a, b, z, rfl, hb, ha⟩ := moves_mark p hp
  generalize hk : k + 1 = k1 at h
  cases h with
  | fin _ _ _ _ => omega
  | go pre post d hpre hpost hd h48 hlead hM =>
    have hno1 : ∀ x < 52, x ∉ (60 :: pre) := fun x hx q => by
      rcases List.mem_cons.mp q with q | q
      · omega
      · exact bits_no hpre (by omega) q
    have hno2 : ∀ x < 52, x ∉ (post ++ [62]) := fun x hx q => by
      rcases List.mem_append.mp q with q | q
      · exact bits_no hpost (by omega) q
      · simp at q; omega
    by_cases hbd : b = d
    · subst hbd
      by_cases hs : [a] <:+ 60 :: pre
      · right
        obtain ⟨u, hu⟩ := hs
        have e : 60 :: (pre ++ b :: (post ++ [62])) = u ++ [a] ++ b :: (post ++ [62]) := by
          rw [hu]; simp
        have hb' : b ∉ u := fun q => hno1 b (by omega) (by rw [← hu]; exact List.mem_append_left _ q)
        show ∃ k', k' ≤ k ∧ St M k' (rp ([a] ++ [b]) z 0 _)
        rw [e, rp_once [a] z (post ++ [62]) (hno2 b (by omega)) (by simp; omega) u hb']
        -- what the pair is
        rcases List.eq_nil_or_concat pre with rfl | ⟨pre', c, rfl⟩
        · have hu' : u ++ [a] = [] ++ [60] := by simpa using hu
          obtain ⟨rfl, h60⟩ := List.append_inj' hu' rfl
          obtain rfl : a = 60 := by simpa using h60
          refine ⟨0, Nat.zero_le _, ?_⟩
          simp only [movesL, List.mem_cons, List.not_mem_nil, or_false, Prod.mk.injEq, List.cons.injEq, and_true] at hp
          have hz : (z = [60, 116] ∨ z = [60, 116, 102]) := by
            rcases hp with ⟨⟨h, _⟩, rfl⟩ | ⟨⟨h, _⟩, rfl⟩ | ⟨⟨h, _⟩, rfl⟩ | ⟨⟨h, _⟩, rfl⟩ | ⟨⟨h, _⟩, rfl⟩ | ⟨⟨h, _⟩, rfl⟩ | ⟨⟨h, _⟩, rfl⟩ | ⟨⟨h, _⟩, rfl⟩ <;> first | exact .inl rfl | exact .inr rfl | omega
          rcases hz with rfl | rfl
          · exact St.fin (116 :: post) (all_cons (.inr rfl) hpost) rfl (by simp at hM ⊢; omega)
          · exact St.fin (116 :: 102 :: post) (all_cons (.inr rfl) (all_cons (.inl rfl) hpost)) rfl (by simp at hM ⊢; omega)
        · have hu' : u ++ [a] = (60 :: pre') ++ [c] := by simpa using hu
          obtain ⟨rfl, h60⟩ := List.append_inj' hu' rfl
          obtain rfl : a = c := by simpa using h60
          have hpre' : ∀ x ∈ pre', isBit x := fun x hx => hpre x (by simp [hx])
          have hc : isBit a := hpre a (by simp)
          refine ⟨pre'.length + 1, by simp at hk; omega, ?_⟩
          have hz : ∃ d' x', z = [d', x'] ∧ isBit x' ∧ (d' = 48 ∨ d' = 49 ∨ d' = 50) ∧ (a = 116 → d' ≠ 48) := by
            unfold isBit at hc
            simp only [movesL, List.mem_cons, List.not_mem_nil, or_false, Prod.mk.injEq, List.cons.injEq, and_true] at hp
            rcases hp with ⟨⟨rfl, rfl⟩, rfl⟩ | ⟨⟨rfl, rfl⟩, rfl⟩ | ⟨⟨rfl, rfl⟩, rfl⟩ | ⟨⟨rfl, rfl⟩, rfl⟩ | ⟨⟨rfl, rfl⟩, rfl⟩ | ⟨⟨rfl, rfl⟩, rfl⟩ | ⟨⟨rfl, rfl⟩, rfl⟩ | ⟨⟨rfl, rfl⟩, rfl⟩ <;> first | omega | exact ⟨_, _, rfl, by unfold isBit; omega, by omega, by omega⟩
          obtain ⟨d', x', rfl, hx', hd', ha'⟩ := hz
          have := St.go (M := M) pre' (x' :: post) d' hpre' (all_cons hx' hpost) hd' (fun q => by
            subst q
            exact ha' (hlead a rfl)) (fun y hy => hlead y (by
              cases pre' with
              | nil => simp at hy
              | cons q r => simpa using hy)) (by simp at hM ⊢; omega)
          simpa using this
      · left
        have := rp_other [a] z (post ++ [62]) (hno2 b (by omega)) (by simp; omega) (60 :: pre) (hno1 b (by omega)) hs
        simpa using this
    · left
      refine rp_none [a, b] z (b := b) (by simp) _ fun q => ?_
      have e : 60 :: (pre ++ d :: (post ++ [62])) = (60 :: pre) ++ d :: (post ++ [62]) := by simp
      rw [e] at q
      rcases List.mem_append.mp q with q | q
      · exact hno1 b (by omega) q
      · rcases List.mem_cons.mp q with q | q
        · exact hbd q
        · exact hno2 b (by omega) q
theorem fires {M k : Nat} {T : List Nat} (h : St M (k + 1) T) : ∃ p ∈ movesL, rp p.1 p.2 0 T ≠ T := by
  generalize hk : k + 1 = k1 at h
  cases h with
  | fin _ _ _ _ => omega
  | go pre post d hpre hpost hd h48 hlead hM =>
    have hno2 : d ∉ (post ++ [62]) := fun q => by
      rcases List.mem_append.mp q with q | q
      · exact bits_no hpost (by omega) q
      · simp at q; omega
    have key : ∀ (u : List Nat) (a : Nat) (z : List Nat), u ++ [a] = 60 :: pre → d ∉ u → a ≠ d → z ≠ [a, d] → rp [a, d] z 0 (60 :: (pre ++ d :: (post ++ [62]))) ≠ 60 :: (pre ++ d :: (post ++ [62])) := fun u a z hu hdu had hz q => by
      have e : 60 :: (pre ++ d :: (post ++ [62])) = u ++ [a] ++ d :: (post ++ [62]) := by rw [hu]; simp
      have := rp_once [a] z (post ++ [62]) hno2 (by simp; omega) u hdu
      rw [e] at q
      have q' := this.symm.trans q
      have e2 : u ++ [a] ++ d :: (post ++ [62]) = u ++ [a, d] ++ (post ++ [62]) := by simp
      rw [e2, List.append_assoc, List.append_assoc] at q'
      have q2 := List.append_cancel_left q'
      exact hz (List.append_cancel_right q2)
    rcases List.eq_nil_or_concat pre with rfl | ⟨pre', c, rfl⟩
    · have h0 := h48 rfl
      have hz : ∃ z, ([60, d], z) ∈ movesL ∧ z ≠ [60, d] := by
        rcases hd with rfl | rfl | rfl
        · exact absurd rfl h0
        · exact ⟨[60, 116], by decide, by decide⟩
        · exact ⟨[60, 116, 102], by decide, by decide⟩
      obtain ⟨z, h1, h2⟩ := hz
      exact ⟨_, h1, key [] 60 z rfl (by simp) (by omega) h2⟩
    · have hc : isBit c := hpre c (by simp)
      have hz : ∃ z, ([c, d], z) ∈ movesL ∧ z ≠ [c, d] := by
        rcases hc with rfl | rfl <;> rcases hd with rfl | rfl | rfl
        · exact ⟨[48, 102], by decide, by decide⟩
        · exact ⟨[48, 116], by decide, by decide⟩
        · exact ⟨[49, 102], by decide, by decide⟩
        · exact ⟨[49, 116], by decide, by decide⟩
        · exact ⟨[50, 102], by decide, by decide⟩
        · exact ⟨[50, 116], by decide, by decide⟩
      obtain ⟨z, h1, h2⟩ := hz
      refine ⟨_, h1, key (60 :: pre') c z (by simp) (fun q => ?_) (by unfold isBit at hc; omega) h2⟩
      rcases List.mem_cons.mp q with q | q
      · omega
      · exact bits_no hpre (b := d) (by omega) (by simp [q])
theorem call_le {M : Nat} : ∀ (ps : List (List Nat × List Nat)) (k : Nat) (T : List Nat), (∀ p ∈ ps, p ∈ movesL) → St M k T → ∃ k', k' ≤ k ∧ St M k' (rpAll T ps)
  | [], k, T, _, h => ⟨k, Nat.le_refl _, h⟩
  | p :: ps, 0, T, hp, h => ⟨0, Nat.le_refl _, by rw [call_fin h _ hp]; exact h⟩
  | p :: ps, k + 1, T, hp, h => by
    rw [rpAll]
    rcases step_go h (hp p (List.mem_cons_self ..)) with e | ⟨k', hk, e⟩
    · rw [e]; exact call_le ps _ T (fun q hq => hp q (List.mem_cons_of_mem _ hq)) h
    · obtain ⟨k2, h2, h3⟩ := call_le ps _ _ (fun q hq => hp q (List.mem_cons_of_mem _ hq)) e
      exact ⟨k2, by omega, h3⟩
theorem call_drop {M : Nat} {k : Nat} {T : List Nat} (h : St M (k + 1) T) : ∀ ps : List (List Nat × List Nat), (∀ p ∈ ps, p ∈ movesL) → (∃ p ∈ ps, rp p.1 p.2 0 T ≠ T) → ∃ k', k' ≤ k ∧ St M k' (rpAll T ps)
  | [], _, ⟨p, hp, _⟩ => nomatch hp
  | q :: ps, hp, ⟨p, hm, hne⟩ => by
    rw [rpAll]
    rcases step_go h (hp q (List.mem_cons_self ..)) with e | ⟨k', hk, e⟩
    · rcases List.mem_cons.mp hm with rfl | hm
      · exact absurd e hne
      · rw [e]; exact call_drop h ps (fun q hq => hp q (List.mem_cons_of_mem _ hq)) ⟨p, hm, hne⟩
    · obtain ⟨k2, h2, h3⟩ := call_le ps _ _ (fun q hq => hp q (List.mem_cons_of_mem _ hq)) e
      exact ⟨k2, by omega, h3⟩
theorem calls_fin {M : Nat} : ∀ (n k : Nat) (T : List Nat), St M k T → k ≤ n → St M 0 (rpN movesL n T)
  | 0, k, T, h, hk => by obtain rfl : k = 0 := by omega
                         exact h
  | n + 1, 0, T, h, hk => by
    rw [rpN, call_fin h _ fun p hp => hp]
    exact calls_fin n 0 T h (Nat.zero_le _)
  | n + 1, k + 1, T, h, hk => by
    obtain ⟨k', h1, h2⟩ := call_drop h movesL (fun p hp => hp) (fires h)
    exact calls_fin n k' _ h2 (by omega)
theorem calls_keep (f : Nat → Nat → Nat) (ps : List (List Nat × List Nat)) (h : ∀ p ∈ ps, p.1 ≠ [] ∧ ∀ v, p.2.foldl f v = p.1.foldl f v) : ∀ (n : Nat) (T : List Nat) (v : Nat), (rpN ps n T).foldl f v = T.foldl f v
  | 0, _, _ => rfl
  | n + 1, T, v => by rw [rpN, calls_keep f ps h n, rpAll_keep f ps T h]
theorem St.len {M k : Nat} {T : List Nat} (h : St M k T) : T.length ≤ M := by
  cases h with
  | fin bits _ _ hM => simp; omega
  | go pre post d _ _ _ _ _ hM => simp; omega
theorem fits_app : ∀ (ps qs : List (List Nat × List Nat)) (t : List Nat), FitsL t ps → FitsL (rpAll t ps) qs → FitsL t (ps ++ qs)
  | [], _, _, _, h => h
  | p :: ps, qs, t, ⟨h1, h2, h3, h4, h5⟩, h => ⟨h1, h2, h3, h4, fits_app ps qs _ h5 h⟩
theorem fits_moves {t : List Nat} (ht : t.length ≤ 4000) : FitsL t movesL := by
  have h := fits_same (movesL.take 7) t (by decide) ht
  exact fits_app (movesL.take 7) [([60, 50], [60, 116, 102])] t h.1 ⟨by omega, by decide, by decide, by decide, trivial⟩
/-- the figures to the base 2 -/
def leB (bits : List Nat) : List Nat := bits.reverse.map fun c => if c = 102 then 0 else 1
theorem bits_val : ∀ (r : List Nat), (∀ c ∈ r, isBit c) → r.reverse.foldl stepV 0 = leV 2 (r.map fun c => if c = 102 then 0 else 1)
  | [], _ => rfl
  | c :: r, h => by
    rw [List.reverse_cons, List.foldl_append, bits_val r fun x hx => h x (List.mem_cons_of_mem _ hx)]
    rcases h c (List.mem_cons_self ..) with rfl | rfl
    · simp [stepV, leV]
    · simp [stepV, leV]; omega
theorem bin_of {bits : List Nat} (h : ∀ c ∈ bits, isBit c) (hh : ∀ c, bits.head? = some c → c = 116) {f : Nat} (hf : bits.length ≤ f) : binF f (bits.foldl stepV 0) [] = bits := by
  have h1 := bits_val bits.reverse fun c hc => h c (List.mem_reverse.mp hc)
  rw [List.reverse_reverse] at h1
  rw [h1, digits (B := 2) (by decide) binF (fun d => if d = 0 then 102 else 116) (fun _ _ => rfl) (fun _ _ _ => rfl) _ f [] (by simpa using hf) (fun d hd => ?_) (fun d hd => ?_)]
  · rw [List.append_nil, List.map_map, List.map_reverse, List.reverse_reverse]
    conv => rhs; rw [← List.map_id bits]
    refine List.map_congr_left fun c hc => ?_
    rcases h c hc with rfl | rfl <;> rfl
  · obtain ⟨c, _, rfl⟩ := List.mem_map.mp hd
    show (if c = 102 then 0 else 1) < 2
    split <;> omega
  · rw [List.map_reverse, List.getLast?_reverse, List.head?_map] at hd
    cases e : bits.head? with
    | none => rw [e] at hd; simp at hd
    | some c =>
      rw [e] at hd
      have := hh c e
      subst this
      simp at hd; omega
theorem val_ge : ∀ (l : List Nat) (v : Nat), (∀ c ∈ l, isBit c) → v * 2 ^ l.length ≤ l.foldl stepV v
  | [], v, _ => by simp
  | c :: l, v, h => by
    have ih := val_ge l (stepV v c) fun x hx => h x (List.mem_cons_of_mem _ hx)
    have h1 : 2 * v ≤ stepV v c := by
      rcases h c (List.mem_cons_self ..) with rfl | rfl
      · simp [stepV]
      · simp [stepV]
    have h2 := Nat.mul_le_mul_right (2 ^ l.length) h1
    rw [List.foldl_cons, List.length_cons, Nat.pow_succ]
    have : v * (2 ^ l.length * 2) = 2 * v * 2 ^ l.length := by rw [Nat.mul_comm (2 ^ l.length), ← Nat.mul_assoc, Nat.mul_comm v]
    omega
/-- a text at rest is the number to the base 2 -/
theorem fin_told {M : Nat} {T : List Nat} (h : St M 0 T) (hN : T.foldl stepV 0 < 4096) : T = toldL (T.foldl stepV 0) := by
  cases h with
  | fin bits hb hh hM =>
    have e : (60 :: (bits ++ [62])).foldl stepV 0 = bits.foldl stepV 0 := by
      rw [List.foldl_cons, List.foldl_append]; rfl
    rw [e] at hN ⊢
    have hl : bits.length ≤ 12 := by
      cases bits with
      | nil => simp
      | cons c r =>
        have hc : c = 116 := by simpa using hh
        subst hc
        have := val_ge r 1 fun x hx => hb x (List.mem_cons_of_mem _ hx)
        have h3 : (116 :: r).foldl stepV 0 = r.foldl stepV 1 := rfl
        have h4 : 2 ^ r.length < 2 ^ 12 := by omega
        have := (Nat.pow_lt_pow_iff_right (a := 2) (by decide)).mp h4
        simp; omega
    unfold toldL
    rw [bin_of hb (fun c hc => by rw [hh] at hc; cases hc; rfl) hl]
end Mine
namespace Mine
theorem binF_app : ∀ (f n : Nat) (acc : List Nat), binF f n acc = binF f n [] ++ acc
  | 0, _, _ => rfl
  | f + 1, n, acc => by
    unfold binF
    split
    · simp
    · rw [binF_app f (n / 2) (_ :: acc), binF_app f (n / 2) [_]]; simp
theorem binF_zero : ∀ (f : Nat) (acc : List Nat), binF f 0 acc = acc
  | 0, _ => rfl
  | f + 1, _ => by rw [binF, if_pos rfl]
theorem binF_succ {f n : Nat} (h : n ≠ 0) : binF (f + 1) n [] = binF f (n / 2) [] ++ [if n % 2 = 0 then 102 else 116] := by
  rw [binF, if_neg h, binF_app]
theorem binF_more : ∀ (f n : Nat), n < 2 ^ f → binF (f + 1) n [] = binF f n []
  | 0, n, h => by
    obtain rfl : n = 0 := by simp at h; exact h
    rfl
  | f + 1, n, h => by
    by_cases h0 : n = 0
    · subst h0; rw [binF_zero, binF_zero]
    · rw [binF_succ h0, binF_succ h0, binF_more f (n / 2) (by rw [Nat.pow_succ] at h; omega)]
theorem bin_bits : ∀ (f n : Nat), ∀ c ∈ binF f n [], isBit c
  | 0, _ => fun _ h => nomatch h
  | f + 1, n => by
    by_cases h0 : n = 0
    · subst h0; rw [binF_zero]; exact fun _ h => nomatch h
    · rw [binF_succ h0]
      intro c hc
      rcases List.mem_append.mp hc with h | h
      · exact bin_bits f _ c h
      · simp only [List.mem_cons, List.not_mem_nil, or_false] at h
        subst h
        unfold isBit
        split <;> omega
theorem bin_head : ∀ (f n : Nat), n ≠ 0 → n < 2 ^ f → (binF f n []).head? = some 116
  | 0, n, h, h' => by simp at h'; omega
  | f + 1, n, h, h' => by
    rw [binF_succ h]
    by_cases h1 : n / 2 = 0
    · have : n = 1 := by omega
      subst this
      rw [h1, binF_zero]; rfl
    · have := bin_head f (n / 2) h1 (by rw [Nat.pow_succ] at h'; omega)
      rw [List.head?_append, this]; rfl
theorem bin_val : ∀ (f n : Nat), n < 2 ^ f → (binF f n []).foldl stepV 0 = n
  | 0, n, h => by simp at h; subst h; rfl
  | f + 1, n, h => by
    by_cases h0 : n = 0
    · subst h0; rw [binF_zero]; rfl
    · rw [binF_succ h0, List.foldl_append, bin_val f (n / 2) (by rw [Nat.pow_succ] at h; omega)]
      by_cases h2 : n % 2 = 0
      · simp [h2, stepV]; omega
      · simp [h2, stepV]; omega
theorem bin_len : ∀ (f n : Nat), (binF f n []).length ≤ f
  | 0, _ => by simp [binF]
  | f + 1, n => by
    by_cases h0 : n = 0
    · subst h0; rw [binF_zero]; simp
    · rw [binF_succ h0]
      have := bin_len f (n / 2)
      simp; omega
def tailL : List (List Nat × List Nat) := [([116, 62], [50, 62]), ([102, 62], [62])]
def nextN (n : Nat) : Nat := if n % 2 = 0 then n / 2 else (3 * n + 1) / 2
theorem fits_tail {t : List Nat} (ht : t.length ≤ 4000) : FitsL t tailL ∧ (rpAll t tailL).length ≤ t.length := fits_same tailL t (by decide) ht
theorem told_len (n : Nat) : (toldL n).length ≤ 14 := by
  have := bin_len 12 n
  unfold toldL; simp; omega
theorem not_suffix {a c : Nat} (h : a ≠ c) (l : List Nat) : ¬ [a] <:+ l ++ [c] := fun ⟨u, hu⟩ => by
  obtain ⟨_, e⟩ := List.append_inj' hu rfl
  simp at e; exact h e
theorem tail_st {n : Nat} (h1 : 1 ≤ n) (h2 : n < 4096) : ∃ k, k + 1 ≤ (rpAll (toldL n) tailL).length ∧ St 16 k (rpAll (toldL n) tailL) ∧ (rpAll (toldL n) tailL).foldl stepV 0 = nextN n := by
  have hb := bin_bits 11 (n / 2)
  have hv := bin_val 11 (n / 2) (by omega)
  have hl := bin_len 11 (n / 2)
  have h62 : 62 ∉ 60 :: binF 11 (n / 2) [] := fun q => by
    rcases List.mem_cons.mp q with q | q
    · omega
    · exact bits_no hb (b := 62) (by omega) q
  by_cases he : n % 2 = 0
  · have et : rpAll (toldL n) tailL = 60 :: (binF 11 (n / 2) [] ++ [62]) := by
      unfold toldL
      rw [binF_succ (f := 11) (by omega), if_pos he]
      show rp ([102] ++ [62]) [62] 0 (rp ([116] ++ [62]) [50, 62] 0 _) = _
      have e1 : 60 :: (binF 11 (n / 2) [] ++ [102] ++ [62]) = (60 :: binF 11 (n / 2) [] ++ [102]) ++ 62 :: [] := by simp
      rw [e1, rp_other [116] _ [] (by simp) (by simp) (60 :: binF 11 (n / 2) [] ++ [102]) (fun q => by
        rcases List.mem_append.mp q with q | q
        · exact h62 q
        · simp at q) (not_suffix (by decide) _)]
      have := rp_once [102] [62] [] (b := 62) (by simp) (by simp) (60 :: binF 11 (n / 2) []) h62
      rw [this]; simp
    have hh := bin_head 11 (n / 2) (by omega) (by omega)
    rw [et]
    refine ⟨0, by simp, St.fin _ hb hh (by omega), ?_⟩
    rw [List.foldl_cons, List.foldl_append]
    show stepV ((binF 11 (n / 2) []).foldl stepV 0) 62 = _
    rw [hv, nextN, if_pos he]; rfl
  · have et : rpAll (toldL n) tailL = 60 :: (binF 11 (n / 2) [] ++ 50 :: ([] ++ [62])) := by
      unfold toldL
      rw [binF_succ (f := 11) (by omega), if_neg he]
      show rp ([102] ++ [62]) [62] 0 (rp ([116] ++ [62]) [50, 62] 0 _) = _
      have e1 : 60 :: (binF 11 (n / 2) [] ++ [116] ++ [62]) = (60 :: binF 11 (n / 2) []) ++ [116] ++ 62 :: [] := by simp
      rw [e1, rp_once [116] [50, 62] [] (b := 62) (by simp) (by simp) (60 :: binF 11 (n / 2) []) h62]
      have e2 : 60 :: binF 11 (n / 2) [] ++ [50, 62] ++ [] = (60 :: binF 11 (n / 2) [] ++ [50]) ++ 62 :: [] := by simp
      rw [e2, rp_other [102] _ [] (by simp) (by simp) (60 :: binF 11 (n / 2) [] ++ [50]) (fun q => by
        rcases List.mem_append.mp q with q | q
        · exact h62 q
        · simp at q) (not_suffix (by decide) _)]
      simp
    rw [et]
    refine ⟨(binF 11 (n / 2) []).length + 1, by simp, St.go _ _ 50 hb (fun _ h => nomatch h) (by omega) (fun _ => by decide) (fun c hc => ?_) (by simp; omega), ?_⟩
    · by_cases h0 : n / 2 = 0
      · rw [h0, binF_zero] at hc; simp at hc
      · rw [bin_head 11 (n / 2) h0 (by omega)] at hc; cases hc; rfl
    · rw [List.foldl_cons, List.foldl_append]
      show stepV (stepV ((binF 11 (n / 2) []).foldl stepV 0) 50) 62 = _
      rw [hv, nextN, if_neg he]
      simp [stepV]; omega
/-- a round -/
theorem round_told {n : Nat} (h1 : 1 ≤ n) (h2 : n < 2700) : (∀ i, (rpN movesL i (rpAll (toldL n) tailL)).length ≤ 16) ∧ rpN movesL (rpAll (toldL n) tailL).length (rpAll (toldL n) tailL) = toldL (nextN n) := by
  obtain ⟨k, hk, hst, hv⟩ := tail_st h1 (by omega)
  generalize rpAll (toldL n) tailL = T at *
  have hN : nextN n < 4096 := by unfold nextN; split <;> omega
  constructor
  · intro i
    have : ∀ i k T, St 16 k T → ∃ k', St 16 k' (rpN movesL i T) := by
      intro i
      induction i with
      | zero => exact fun k T h => ⟨k, h⟩
      | succ i ih =>
        intro k T h
        obtain ⟨k', _, h'⟩ := call_le movesL k T (fun p hp => hp) h
        exact ih k' _ h'
    obtain ⟨k', h'⟩ := this i k T hst
    exact h'.len
  · have hf := calls_fin T.length k T hst (by omega)
    have hk2 := calls_keep stepV movesL moves_keep T.length T 0
    have := fin_told hf (by rw [hk2, hv]; exact hN)
    rw [this, hk2, hv]
/-! the end: four figures a letter -/
theorem rp_sign (c : Nat) : ∀ t : List Nat, rp [c] [] 0 t = t.filter fun x => !(x == c)
  | [] => rfl
  | d :: t => by
    rw [rp, rp_skip, rp_sign c t, List.filter_cons]
    by_cases h : d = c
    · subst h; simp [rp_sign, List.isPrefixOf]
    · have : ([c].isPrefixOf (d :: t)) = false := by simp [List.isPrefixOf]; omega
      simp [h]; exact fun e => absurd e.symm h
theorem closed_form {p : List Nat × List Nat} (hp : p ∈ closedL) : ∃ f, f < 16 ∧ p = (fourL f ++ [62], [62, 65 + f]) := by
  obtain ⟨f, hf, rfl⟩ := List.mem_map.mp hp
  exact ⟨f, List.mem_range.mp hf, rfl⟩
theorem four_bits (f : Nat) : ∀ c ∈ fourL f, isBit c := by
  intro c hc
  obtain ⟨q, _, rfl⟩ := List.mem_map.mp hc
  unfold isBit
  split <;> omega
theorem closed_keep : ∀ p ∈ closedL, p.1 ≠ [] ∧ ∀ v, p.2.foldl stepV v = p.1.foldl stepV v := by
  intro p hp
  obtain ⟨f, hf, rfl⟩ := closed_form hp
  refine ⟨by simp, fun v => ?_⟩
  have : f = 0 ∨ f = 1 ∨ f = 2 ∨ f = 3 ∨ f = 4 ∨ f = 5 ∨ f = 6 ∨ f = 7 ∨ f = 8 ∨ f = 9 ∨ f = 10 ∨ f = 11 ∨ f = 12 ∨ f = 13 ∨ f = 14 ∨ f = 15 := by omega
  rcases this with rfl | rfl | rfl | rfl | rfl | rfl | rfl | rfl | rfl | rfl | rfl | rfl | rfl | rfl | rfl | rfl <;> simp [fourL, stepV] <;> omega
/-- the text while its figures turn to letters -/
inductive Ct (pre : List Nat) : Nat → List Nat → Prop where
  | mk (bits let_ : List Nat) : bits <+: pre → (∀ c ∈ let_, 65 ≤ c ∧ c ≤ 80) → bits.length + 4 * let_.length = pre.length → Ct pre bits.length (60 :: (bits ++ 62 :: let_))
theorem ct_step {pre : List Nat} (hpre : ∀ c ∈ pre, isBit c) {k : Nat} {T : List Nat} (h : Ct pre k T) {p : List Nat × List Nat} (hp : p ∈ closedL) : rp p.1 p.2 0 T = T ∨ ∃ k', k' + 4 ≤ k ∧ Ct pre k' (rp p.1 p.2 0 T) := by
  obtain ⟨f, hf, rfl⟩ := closed_form hp
  cases h with
  | mk bits ls hb hl hn =>
    have hbits : ∀ c ∈ bits, isBit c := fun c hc => hpre c (hb.subset hc)
    have n1 : 62 ∉ 60 :: bits := fun q => by
      rcases List.mem_cons.mp q with q | q
      · omega
      · exact bits_no hbits (b := 62) (by omega) q
    have n2 : 62 ∉ ls := fun q => by have := hl 62 q; omega
    have n3 : 62 ∉ fourL f := bits_no (four_bits f) (by omega)
    by_cases hs : fourL f <:+ 60 :: bits
    · right
      obtain ⟨u, hu⟩ := hs
      have hu1 : u ≠ [] := fun q => by
        subst q
        have : 60 ∈ fourL f := by rw [List.nil_append] at hu; rw [hu]; exact List.mem_cons_self ..
        exact bits_no (four_bits f) (by omega) this
      obtain ⟨c, u', rfl⟩ := List.exists_cons_of_ne_nil hu1
      have hc : c = 60 := by simp at hu; exact hu.1
      subst hc
      have hu2 : u' ++ fourL f = bits := by simpa using hu
      have e : 60 :: (bits ++ 62 :: ls) = (60 :: u') ++ fourL f ++ 62 :: ls := by rw [← hu2]; simp
      have hlen : bits.length = u'.length + 4 := by rw [← hu2]; simp [fourL]
      refine ⟨u'.length, by omega, ?_⟩
      show Ct pre _ (rp (fourL f ++ [62]) _ 0 _)
      rw [e, rp_once (fourL f) [62, 65 + f] ls n2 n3 (60 :: u') (fun q => n1 (by rw [← hu]; exact List.mem_append_left _ q))]
      have := Ct.mk (pre := pre) u' ((65 + f) :: ls) ((List.prefix_append u' (fourL f)).trans (hu2 ▸ hb)) (fun c hc => by
        rcases List.mem_cons.mp hc with rfl | hc
        · omega
        · exact hl c hc) (by simp; omega)
      simpa using this
    · left
      have := rp_other (fourL f) [62, 65 + f] ls n2 n3 (60 :: bits) n1 hs
      simpa using this
theorem four_of : ∀ a b c d : Nat, isBit a → isBit b → isBit c → isBit d → ∃ f, f < 16 ∧ fourL f = [a, b, c, d] := by
  intro a b c d ha hb hc hd
  rcases ha with rfl | rfl <;> rcases hb with rfl | rfl <;> rcases hc with rfl | rfl <;> rcases hd with rfl | rfl
  · exact ⟨0, by decide, by decide⟩
  · exact ⟨1, by decide, by decide⟩
  · exact ⟨2, by decide, by decide⟩
  · exact ⟨3, by decide, by decide⟩
  · exact ⟨4, by decide, by decide⟩
  · exact ⟨5, by decide, by decide⟩
  · exact ⟨6, by decide, by decide⟩
  · exact ⟨7, by decide, by decide⟩
  · exact ⟨8, by decide, by decide⟩
  · exact ⟨9, by decide, by decide⟩
  · exact ⟨10, by decide, by decide⟩
  · exact ⟨11, by decide, by decide⟩
  · exact ⟨12, by decide, by decide⟩
  · exact ⟨13, by decide, by decide⟩
  · exact ⟨14, by decide, by decide⟩
  · exact ⟨15, by decide, by decide⟩
theorem ct_fires {pre : List Nat} (hpre : ∀ c ∈ pre, isBit c) {k : Nat} {T : List Nat} (h : Ct pre k T) (hk : 4 ≤ k) : ∃ p ∈ closedL, rp p.1 p.2 0 T ≠ T := by
  cases h with
  | mk bits ls hb hl hn =>
    have hbits : ∀ c ∈ bits, isBit c := fun c hc => hpre c (hb.subset hc)
    have e : bits = bits.take (bits.length - 4) ++ bits.drop (bits.length - 4) := (List.take_append_drop _ _).symm
    have hd : (bits.drop (bits.length - 4)).length = 4 := by simp; omega
    generalize bits.take (bits.length - 4) = u at e
    generalize bits.drop (bits.length - 4) = v at e hd
    match v, hd with
    | [a, b, c, d], _ =>
      have hm : ∀ x ∈ [a, b, c, d], isBit x := fun x hx => hbits x (by rw [e]; exact List.mem_append_right _ hx)
      obtain ⟨f, hf, h4⟩ := four_of a b c d (hm a (by simp)) (hm b (by simp)) (hm c (by simp)) (hm d (by simp))
      refine ⟨_, List.mem_map.mpr ⟨f, List.mem_range.mpr hf, rfl⟩, fun q => ?_⟩
      have n1 : 62 ∉ 60 :: u := fun q => by
        rcases List.mem_cons.mp q with q | q
        · omega
        · exact bits_no hbits (b := 62) (by omega) (by rw [e]; exact List.mem_append_left _ q)
      have n2 : 62 ∉ ls := fun q => by have := hl 62 q; omega
      have n3 : 62 ∉ fourL f := bits_no (four_bits f) (by omega)
      have e2 : 60 :: (bits ++ 62 :: ls) = (60 :: u) ++ fourL f ++ 62 :: ls := by rw [e, h4]; simp
      rw [e2] at q
      have q' := (rp_once (fourL f) [62, 65 + f] ls n2 n3 (60 :: u) n1).symm.trans q
      have := congrArg List.length q'
      rw [h4] at this
      simp at this
theorem ct_le {pre : List Nat} (hpre : ∀ c ∈ pre, isBit c) : ∀ (ps : List (List Nat × List Nat)) (k : Nat) (T : List Nat), (∀ p ∈ ps, p ∈ closedL) → Ct pre k T → ∃ k', k' ≤ k ∧ Ct pre k' (rpAll T ps)
  | [], k, T, _, h => ⟨k, Nat.le_refl _, h⟩
  | p :: ps, k, T, hp, h => by
    rw [rpAll]
    rcases ct_step hpre h (hp p (List.mem_cons_self ..)) with e | ⟨k', hk, e⟩
    · rw [e]; exact ct_le hpre ps _ T (fun q hq => hp q (List.mem_cons_of_mem _ hq)) h
    · obtain ⟨k2, h2, h3⟩ := ct_le hpre ps _ _ (fun q hq => hp q (List.mem_cons_of_mem _ hq)) e
      exact ⟨k2, by omega, h3⟩
theorem ct_drop {pre : List Nat} (hpre : ∀ c ∈ pre, isBit c) {k : Nat} {T : List Nat} (h : Ct pre k T) : ∀ ps : List (List Nat × List Nat), (∀ p ∈ ps, p ∈ closedL) → (∃ p ∈ ps, rp p.1 p.2 0 T ≠ T) → ∃ k', k' + 4 ≤ k ∧ Ct pre k' (rpAll T ps)
  | [], _, ⟨p, hp, _⟩ => nomatch hp
  | q :: ps, hp, ⟨p, hm, hne⟩ => by
    rw [rpAll]
    rcases ct_step hpre h (hp q (List.mem_cons_self ..)) with e | ⟨k', hk, e⟩
    · rcases List.mem_cons.mp hm with rfl | hm
      · exact absurd e hne
      · rw [e]; exact ct_drop hpre h ps (fun q hq => hp q (List.mem_cons_of_mem _ hq)) ⟨p, hm, hne⟩
    · obtain ⟨k2, h2, h3⟩ := ct_le hpre ps _ _ (fun q hq => hp q (List.mem_cons_of_mem _ hq)) e
      exact ⟨k2, by omega, h3⟩
theorem ct_call {pre : List Nat} (hpre : ∀ c ∈ pre, isBit c) {k : Nat} {T : List Nat} (h : Ct pre k T) : ∃ k', (k' + 4 ≤ k ∨ (k ≤ 3 ∧ k' ≤ k)) ∧ Ct pre k' (rpAll T closedL) := by
  by_cases hk : 4 ≤ k
  · obtain ⟨k', h1, h2⟩ := ct_drop hpre h closedL (fun p hp => hp) (ct_fires hpre h hk)
    exact ⟨k', .inl h1, h2⟩
  · obtain ⟨k', h1, h2⟩ := ct_le hpre closedL k T (fun p hp => hp) h
    exact ⟨k', .inr ⟨by omega, h1⟩, h2⟩
theorem letters_val : ∀ (r : List Nat), (∀ c ∈ r, 65 ≤ c ∧ c ≤ 80) → r.reverse.foldl stepV 0 = leV 16 (r.map (· - 65))
  | [], _ => rfl
  | c :: r, h => by
    rw [List.reverse_cons, List.foldl_append, letters_val r fun x hx => h x (List.mem_cons_of_mem _ hx)]
    obtain ⟨h1, h2⟩ := h c (List.mem_cons_self ..)
    simp only [List.foldl_cons, List.foldl_nil, List.map_cons, leV, stepV]
    rw [if_neg (by omega), if_neg (by omega), if_neg (by omega), if_neg (by omega), if_neg (by omega)]; omega
theorem letters_lt : ∀ (r : List Nat), (∀ c ∈ r, 65 ≤ c ∧ c ≤ 80) → leV 16 (r.map (· - 65)) < 16 ^ r.length
  | [], _ => by simp [leV]
  | c :: r, h => by
    have ih := letters_lt r fun x hx => h x (List.mem_cons_of_mem _ hx)
    obtain ⟨h1, h2⟩ := h c (List.mem_cons_self ..)
    simp only [List.map_cons, leV, List.length_cons, Nat.pow_succ]; omega
theorem word_of {ls : List Nat} (h : ∀ c ∈ ls, 65 ≤ c ∧ c ≤ 80) (hh : 16 ^ (ls.length - 1) ≤ ls.foldl stepV 0) {f : Nat} (hf : ls.length ≤ f) : apF f (ls.foldl stepV 0) [] = ls := by
  have h1 := letters_val ls.reverse fun c hc => h c (List.mem_reverse.mp hc)
  rw [List.reverse_reverse] at h1
  rw [h1, digits (B := 16) (by decide) apF (fun d => 65 + d) (fun _ _ => rfl) (fun _ _ _ => rfl) _ f [] (by simpa using hf) (fun d hd => ?_) (fun d hd => ?_)]
  · rw [List.append_nil, List.map_map, List.map_reverse, List.reverse_reverse]
    conv => rhs; rw [← List.map_id ls]
    refine List.map_congr_left fun c hc => ?_
    have := h c hc
    simp; omega
  · obtain ⟨c, hc, rfl⟩ := List.mem_map.mp hd
    have := h c (List.mem_reverse.mp hc)
    omega
  · rw [List.map_reverse, List.getLast?_reverse, List.head?_map] at hd
    cases ls with
    | nil => simp at hd
    | cons c r =>
      simp at hd
      intro q
      have hc := h c (List.mem_cons_self ..)
      have : c = 65 := by omega
      subst this
      have e : (65 :: r).foldl stepV 0 = r.foldl stepV 0 := rfl
      have h2 := letters_val r.reverse fun c hc => h c (List.mem_cons_of_mem _ (List.mem_reverse.mp hc))
      have h3 := letters_lt r.reverse fun c hc => h c (List.mem_cons_of_mem _ (List.mem_reverse.mp hc))
      rw [List.reverse_reverse] at h2
      rw [List.length_reverse] at h3
      rw [e] at hh
      simp at hh; omega
def padL : List (List Nat × List Nat) := [([60], [60, 102, 102, 102])]
def strikeL : List (List Nat × List Nat) := [([60], []), ([62], []), ([102], [])]
/-- the end of a number -/
theorem last_told {n : Nat} (h1 : 1 ≤ n) (h2 : n < 4096) : (∀ i, i ≤ 3 → (rpN closedL i (rpAll (toldL n) padL)).length ≤ 40) ∧ rpAll (rpN closedL 3 (rpAll (toldL n) padL)) strikeL = apF 3 n [] := by
  have hb := bin_bits 12 n
  have hh := bin_head 12 n (by omega) (by omega)
  have hv := bin_val 12 n (by omega)
  have hl := bin_len 12 n
  have e0 : rpAll (toldL n) padL = 60 :: (([102, 102, 102] ++ binF 12 n []) ++ 62 :: []) := by
    have := rp_once [] [60, 102, 102, 102] (binF 12 n [] ++ [62]) (b := 60) (fun q => by
      rcases List.mem_append.mp q with q | q
      · exact bits_no hb (b := 60) (by omega) q
      · simp at q) (by simp) [] (by simp)
    show rp ([] ++ [60]) [60, 102, 102, 102] 0 ([] ++ [] ++ 60 :: (binF 12 n [] ++ [62])) = _
    rw [this]; simp
  have hpre : ∀ c ∈ [102, 102, 102] ++ binF 12 n [], isBit c := by
    intro c hc
    rcases List.mem_append.mp hc with q | q
    · simp at q; exact .inl q
    · exact hb c q
  have hpl : ([102, 102, 102] ++ binF 12 n []).length = 3 + (binF 12 n []).length := by simp; omega
  have c0 : Ct ([102, 102, 102] ++ binF 12 n []) ([102, 102, 102] ++ binF 12 n []).length (rpAll (toldL n) padL) := by
    rw [e0]; exact Ct.mk _ [] (List.prefix_refl _) (fun _ h => nomatch h) (by simp)
  have hval0 : (rpAll (toldL n) padL).foldl stepV 0 = n := by
    rw [e0, List.foldl_cons, List.foldl_append, List.foldl_append]
    show stepV ((binF 12 n []).foldl stepV 0) 62 = n
    rw [hv]; rfl
  rw [hpl] at c0
  generalize rpAll (toldL n) padL = T0 at *
  obtain ⟨k1, q1, c1⟩ := ct_call hpre c0
  obtain ⟨k2, q2, c2⟩ := ct_call hpre c1
  obtain ⟨k3, q3, c3⟩ := ct_call hpre c2
  have clen : ∀ {k : Nat} {T : List Nat}, Ct ([102, 102, 102] ++ binF 12 n []) k T → T.length ≤ 40 := by
    intro k T h
    cases h with
    | mk bits ls hb hl' hn => simp at hn ⊢; omega
  have hk := calls_keep stepV closedL closed_keep 3 T0 0
  rw [hval0] at hk
  constructor
  · intro i hi
    have : i = 0 ∨ i = 1 ∨ i = 2 ∨ i = 3 := by omega
    rcases this with rfl | rfl | rfl | rfl
    · exact clen c0
    · exact clen c1
    · exact clen c2
    · exact clen c3
  · change Ct _ k3 (rpN closedL 3 T0) at c3
    generalize rpN closedL 3 T0 = T3 at *
    cases c3 with
    | mk bits ls hbp hls hn =>
      have hb3 : bits.length ≤ 3 := by omega
      have hf : ∀ c ∈ bits, c = 102 := by
        have : bits <+: [102, 102, 102] := List.prefix_of_prefix_length_le hbp (List.prefix_append _ _) (by simpa using hb3)
        intro c hc
        have := this.subset hc
        simpa using this
      have hz : ∀ (l : List Nat), (∀ c ∈ l, c = 102) → l.foldl stepV 0 = 0 := by
        intro l
        induction l with
        | nil => exact fun _ => rfl
        | cons c l ih =>
          intro h
          have := h c (List.mem_cons_self ..)
          subst this
          exact ih fun x hx => h x (List.mem_cons_of_mem _ hx)
      have hn2 : ls.foldl stepV 0 = n := by
        rw [List.foldl_cons, List.foldl_append, List.foldl_cons] at hk
        have h0 : stepV 0 60 = 0 := rfl
        rw [h0, hz bits hf] at hk
        exact hk
      obtain ⟨r, hr⟩ : ∃ r, binF 12 n [] = 116 :: r := by
        cases e : binF 12 n [] with
        | nil => rw [e] at hh; simp at hh
        | cons c r => rw [e] at hh; simp at hh; subst hh; exact ⟨r, rfl⟩
      have hge : 2 ^ r.length ≤ n := by
        have h3 := val_ge r 1 fun x hx => hb x (by rw [hr]; exact List.mem_cons_of_mem _ hx)
        have h4 : (116 :: r).foldl stepV 0 = r.foldl stepV 1 := rfl
        rw [hr, h4] at hv
        omega
      rw [hpl, hr] at hn
      simp only [List.length_cons] at hn
      have hp : 16 ^ (ls.length - 1) ≤ n := by
        have : (16 : Nat) = 2 ^ 4 := rfl
        rw [this, ← Nat.pow_mul]
        exact Nat.le_trans (Nat.pow_le_pow_right (by decide) (by omega)) hge
      have hw := word_of (f := 3) hls (by rw [hn2]; exact hp) (by rw [hr] at hl; simp at hl; omega)
      rw [hn2] at hw
      rw [hw]
      show rp [102] [] 0 (rp [62] [] 0 (rp [60] [] 0 _)) = ls
      rw [rp_sign, rp_sign, rp_sign, List.filter_filter, List.filter_filter, List.filter_cons, if_neg (by decide), List.filter_append, List.filter_cons, if_neg (by decide), List.filter_eq_nil_iff.mpr, List.nil_append, List.filter_eq_self.mpr]
      · intro c hc
        have := hls c hc
        simp; omega
      · intro c hc
        rw [hf c hc]; decide
theorem nextN_ok {n : Nat} (h : 1 ≤ n) : 1 ≤ nextN n ∧ 2 * nextN n ≤ 3 * n + 1 := by
  unfold nextN
  split <;> omega
end Mine
open_top hd02 for PySem.Challenge.rw_ph0004_02
namespace Mine
def fdAt (K : Frag) (a : Addr) : FuncData := match K.lookup a with
  | some ⟨_, _, .func fd, _⟩ => fd
  | _ => default
def bodyOf (fd : FuncData) : List Stmt := match fd.body with
  | .stmts b => b
  | _ => []

noncomputable abbrev KK (w : World) : Frag := hd02.heap_39 w.params
noncomputable abbrev GG (w : World) (mg mb : Str → Option Value) : GC := { prog := PySem.Challenge.rw_ph0004_02.row.prog, w := w, K := KK w, p := hd02.view_39, loose := looseW hd02.view_39 [], mg := mg, mb := mb }

def replAll : Str → List (Str × Str) → Str
  | t, [] => t
  | t, p :: r => replAll (repl1 t p.1 p.2) r
def FitsR : Str → List (Str × Str) → Prop
  | _, [] => True
  | t, p :: r => t.length ≤ 4000 ∧ 1 ≤ p.1.length ∧ p.2.length ≤ 4000 ∧ FitsR (repl1 t p.1 p.2) r
def flat : List (Str × Str) → List Str
  | [] => []
  | p :: r => p.1 :: p.2 :: flat r
theorem flat_length (ps : List (Str × Str)) : (flat ps).length = 2 * ps.length := by
  induction ps with
  | nil => rfl
  | cons p r ih => simp [flat, ih]; omega
theorem split_fits {x y z : Str} (hx : x.length ≤ 4000) (hy : 1 ≤ y.length) (hz : z.length ≤ 4000) : ((Txt.split x y).map (·.length)).sum + (Txt.split x y).length * z.length ≤ 16777216 := by
  have h := split_weight x y hy
  generalize hA : ((Txt.split x y).map (·.length)).sum = a at *
  generalize hB : (Txt.split x y).length = b at *
  have hb : b ≤ 4001 := by omega
  have h2 : b * z.length ≤ 4001 * 4000 := Nat.mul_le_mul hb hz
  omega
def SS (ps : List (List Nat × List Nat)) : List (Str × Str) := ps.map fun p => (S p.1, S p.2)
theorem fitsR_of : ∀ {ps : List (List Nat × List Nat)} {t : List Nat}, FitsL t ps → FitsR (S t) (SS ps)
  | [], _, _ => trivial
  | p :: r, t, h => by
    obtain ⟨h1, h2, h3, h4, h5⟩ := h
    refine ⟨by rw [S_length]; exact h1, by rw [S_length]; exact List.length_pos_iff.mpr h2, by rw [S_length]; exact h4, ?_⟩
    show FitsR (repl1 (S t) (S p.1) (S p.2)) (SS r)
    rw [repl1_S _ _ _ h2 h3]
    exact fitsR_of h5
theorem replAll_S : ∀ {ps : List (List Nat × List Nat)} {t : List Nat}, FitsL t ps → replAll (S t) (SS ps) = S (rpAll t ps)
  | [], _, _ => rfl
  | p :: r, t, h => by
    obtain ⟨h1, h2, h3, h4, h5⟩ := h
    show replAll (repl1 (S t) (S p.1) (S p.2)) (SS r) = _
    rw [repl1_S _ _ _ h2 h3, replAll_S h5]
    rfl
theorem flat_SS : ∀ ps : List (List Nat × List Nat), strsPV (flat (SS ps)) = codesPV (flatL ps)
  | [] => rfl
  | p :: r => by
    show .str (S p.1) :: .str (S p.2) :: strsPV (flat (SS r)) = _
    rw [flat_SS r]; rfl

section
variable {w : World} {mg mb : Str → Option Value}
noncomputable abbrev FF (w : World) (mg mb : Str → Option Value) (f : Addr) (A : Around) (L : Addr) (h₀ : Heap) (B : Addr → Prop) (n : Nat) : FC := frameOf (GG w mg mb) (fdAt (KK w) f) f A L h₀ B n
theorem def21 : DefAt (GG w mg mb) 21 (fdAt (KK w) 21) (bodyOf (fdAt (KK w) 21)) :=
  ⟨⟨_, rfl, rfl⟩, ⟨_, _, _, _, rfl, rfl, rfl, rfl⟩, rfl, rfl, rfl, rfl, rfl, rfl, rfl⟩

theorem replace_body {A : Around} {L : Addr} {h₀ : Heap} {B : Addr → Prop} {t : Str} {ps : List (Str × Str)} (hf : FitsR t ps) (hn : ps.length ≤ 4000) :
    ExP (FF w mg mb 21 A L h₀ B 0) [(Str.ofString "text", .val (.str t)), (Str.ofString "pairs", .val (.tuple (strsPV (flat ps))))] (bodyOf (fdAt (KK w) 21)) (.ret (.str (replAll t ps))) := by
  refine ExP.cons (ρ' := [(Str.ofString "text", .val (.str (replAll t ps))), (Str.ofString "pairs", .val (.tuple []))]) (StP.whileDo (n := ps.length) ?_) (ExP.ret (StP.ret (EvP.name rfl)))
  induction ps generalizing t with
  | nil => exact .done (TrP.plain (EvP.name rfl) (Truth.tuple (by simp [strsPV, flat])))
  | cons p r ih =>
    have hl : (strsPV (flat (p :: r))).length ≤ sizeLine := by
      rw [sizeLine_eq]; simp only [strsPV, List.length_map, flat_length]; simp only [List.length_cons] at hn ⊢; omega
    obtain ⟨h1, h2, h3, h4⟩ := hf
    refine .step (TrP.plain (EvP.name rfl) (Truth.tuple hl)) ?_ (ih h4 (by simp at hn; omega))
    refine ExP.forget ?_ (ExP.cons (StP.assign (EvP.joinSplit (z := p.2) (x := t) (y := p.1) (r := repl1 t p.1 p.2) (EvP.itemT (EvP.name rfl) (EvP.int _ _ _) (by decide) (by decide) rfl) (EvP.name rfl) (EvP.itemT (EvP.name rfl) (EvP.int _ _ _) (by decide) (by decide) rfl) ?_ ?_ ?_ rfl) (.inl rfl))
      (ExP.one (StP.assign (EvP.dropT (k := 2) (EvP.name rfl) (by decide) ?_ hl) (.inl rfl))))
    · exact Sub.cons rfl (Sub.cons rfl Sub.nil)
    · simp; omega
    · rw [sizeLine_eq]; omega
    · exact split_fits h1 h2 h3
    · simp [strsPV, flat]

theorem call_replace {n : Nat} {t : Str} {ps : List (Str × Str)} (hf : FitsR t ps) (hn : ps.length ≤ 4000) : CallP (GG w mg mb) (n + 1) (.ref 21) (.str t :: strsPV (flat ps)) (.str (replAll t ps)) := by
  have h0 : CallP (GG w mg mb) (0 + 1) (.ref 21) (.str t :: strsPV (flat ps)) (.str (replAll t ps)) :=
    CallP.def (ys := [.str t, .tuple (strsPV (flat ps))]) (names := [Str.ofString "text", Str.ofString "pairs"]) def21 (BindP.star (fun v vs => ?_) ?_) rfl (by decide) ?_ fun A L h₀ B => replace_body hf hn
  · exact h0.more (by omega)
  · cases vs <;> rfl
  · rw [sizeLine_eq]; simp only [strsPV, List.length_map, flat_length]; omega
  · intro L x hx
    left
    simp only [List.mem_cons, List.not_mem_nil, or_false] at hx
    rcases hx with rfl | rfl <;> rfl

theorem call_rep {n : Nat} {t : List Nat} {ps : List (List Nat × List Nat)} (hf : FitsL t ps) (hn : ps.length ≤ 4000) : CallP (GG w mg mb) (n + 1) (.ref 21) (.str (S t) :: codesPV (flatL ps)) (.str (S (rpAll t ps))) := by
  have := call_replace (w := w) (mg := mg) (mb := mb) (n := n) (fitsR_of hf) (by simpa [SS] using hn)
  rw [flat_SS, replAll_S hf] at this
  exact this

theorem def28 : DefAt (GG w mg mb) 28 (fdAt (KK w) 28) (bodyOf (fdAt (KK w) 28)) :=
  ⟨⟨_, rfl, rfl⟩, ⟨_, _, _, _, rfl, rfl, rfl, rfl⟩, rfl, rfl, rfl, rfl, rfl, rfl, rfl⟩

theorem int2ap_body {A : Around} {L : Addr} {h₀ : Heap} {B : Addr → Prop} {i : Int} {f : Nat} (hf : f ≤ 4000) (hi : i.natAbs < 16 ^ f) :
    ExP (FF w mg mb 28 A L h₀ B 0) [(Str.ofString "num", .val (.int i))] (bodyOf (fdAt (KK w) 28)) (.ret (.bytes (apB (apF f i.natAbs [])))) := by
  have habs : (if i < 0 then -i else i) = (i.natAbs : Int) := by omega
  refine ExP.cons (StP.assign (EvP.bytes _ _ _) (.inl rfl)) ?_
  refine ExP.cons (StP.assign (EvP.bytes _ _ _) (.inl rfl)) ?_
  refine ExP.cons (StP.assign (EvP.call (n := 0) (HeadP.boot rfl rfl boot_int) (Calle.type _) (ArgsP.cons (EvP.call (n := 0) (HeadP.boot rfl rfl boot_abs) (Calle.builtin _) (ArgsP.cons (EvP.name rfl) ArgsP.nil) (CallP.abs i) (Nat.le_refl _)) ArgsP.nil) (CallP.int _) (Nat.le_refl _)) (.inl rfl)) ?_
  rw [habs]
  refine ExP.weak (ρ' := [(Str.ofString "num", .val (.int (i.natAbs : Int))), (Str.ofString "val", .val (.bytes (apB []))), (Str.ofString "AP", .val (.bytes APb))]) (Sub.cons rfl (Sub.cons rfl (Sub.cons rfl Sub.nil))) ?_
  generalize i.natAbs = n at hi
  refine ExP.cons (ρ' := [(Str.ofString "num", .val (.int 0)), (Str.ofString "val", .val (.bytes (apB (apF f n [])))), (Str.ofString "AP", .val (.bytes APb))]) (StP.whileEx ?_) (ExP.ret (StP.ret (EvP.name rfl)))
  have hacc : f + ([] : List Nat).length ≤ 4000 := by simpa using hf
  clear hf habs
  generalize ([] : List Nat) = acc at hacc ⊢
  induction f generalizing n acc with
  | zero =>
    have : n = 0 := by simp at hi; omega
    subst this
    exact ⟨0, .done (TrP.plain (EvP.name rfl) (Truth.int _))⟩
  | succ f ih =>
    by_cases h0 : n = 0
    · subst h0
      refine ⟨0, ?_⟩
      have : apF (f + 1) 0 acc = acc := by simp [apF]
      rw [this]
      exact .done (TrP.plain (EvP.name rfl) (Truth.int _))
    · obtain ⟨k, hk⟩ := ih (n := n / 16) (by rw [Nat.pow_succ] at hi; omega) ((65 + n % 16) :: acc) (by simp at hacc ⊢; omega)
      refine ⟨k + 1, ?_⟩
      have e1 : apF (f + 1) n acc = apF f (n / 16) ((65 + n % 16) :: acc) := by simp [apF, h0]
      rw [e1]
      refine .step ((TrP.plain (EvP.name rfl) (Truth.int _)).to (by simp; omega)) ?_ hk
      have d1 : (n : Int).fdiv 16 = ((n / 16 : Nat) : Int) := by
        rw [Int.fdiv_eq_ediv_of_nonneg _ (by decide)]; rfl
      have d2 : (n : Int).fmod 16 = ((n % 16 : Nat) : Int) := by
        rw [Int.fmod_eq_emod_of_nonneg _ (by decide)]; rfl
      have hp := picked_AP ⟨n % 16, Nat.mod_lt _ (by decide)⟩
      refine ExP.forget ?_ (ExP.cons (StP.assignPair (a := .int ((n / 16 : Nat) : Int)) (b := .int ((n % 16 : Nat) : Int))
        ((EvP.call (n := 0) (HeadP.boot rfl rfl boot_divmod) (Calle.builtin _) (ArgsP.cons (EvP.name rfl) (ArgsP.cons (EvP.int _ _ _) ArgsP.nil)) (CallP.divmod (by decide) (PyProof.noPylong_small (by decide))) (Nat.le_refl _)).to (by rw [d1, d2])) (.inl rfl) (.inl rfl))
        (ExP.one (StP.assign (v := .bytes (apB ((65 + n % 16) :: acc))) ((EvP.binop (EvP.cutB (EvP.name rfl) (EvP.name rfl) (EvP.binop (EvP.name rfl) (EvP.int _ _ _) (Op2.addI _ _)) (by decide)) (EvP.name rfl) (Op2.addB ?_)).to ?_) (.inl rfl))))
      · exact Sub.cons rfl (Sub.cons rfl (Sub.cons rfl Sub.nil))
      · rw [hp]; simp [apB]; omega
      · rw [hp]; simp [apB]

theorem call_int2ap {n : Nat} {i : Int} {f : Nat} (hf : f ≤ 4000) (hi : i.natAbs < 16 ^ f) : CallP (GG w mg mb) (n + 1) (.ref 28) [.int i] (.bytes (apB (apF f i.natAbs []))) := by
  have h0 : CallP (GG w mg mb) (0 + 1) (.ref 28) [.int i] (.bytes (apB (apF f i.natAbs []))) :=
    CallP.def (ys := [.int i]) (names := [Str.ofString "num"]) def28 (BindP.one fun v => rfl) rfl (by decide) (fun L x hx => .inl (by
      simp only [List.mem_cons, List.not_mem_nil, or_false] at hx
      subst hx; rfl)) fun A L h₀ B => int2ap_body hf hi
  exact h0.more (by omega)
end
end Mine
namespace Mine
theorem ft_at : ∀ k : Fin 2, (Str.ofString "ft").cps[k.val]? = some (if k.val = 0 then 102 else 116) := by decide +kernel
section
variable {w : World} {mg mb : Str → Option Value}
theorem def33 : DefAt (GG w mg mb) 33 (fdAt (KK w) 33) (bodyOf (fdAt (KK w) 33)) := ⟨⟨_, rfl, rfl⟩, ⟨_, _, _, _, rfl, rfl, rfl, rfl⟩, rfl, rfl, rfl, rfl, rfl, rfl, rfl⟩
theorem def40 : DefAt (GG w mg mb) 40 (fdAt (KK w) 40) (bodyOf (fdAt (KK w) 40)) := ⟨⟨_, rfl, rfl⟩, ⟨_, _, _, _, rfl, rfl, rfl, rfl⟩, rfl, rfl, rfl, rfl, rfl, rfl, rfl⟩
theorem word_body {A : Around} {L : Addr} {h₀ : Heap} {B : Addr → Prop} {i : Int} {f : Nat} (hf : f ≤ 4000) (hi : i.natAbs < 16 ^ f) :
    ExP (FF w mg mb 33 A L h₀ B 1) [(Str.ofString "whole", .val (.int i))] (bodyOf (fdAt (KK w) 33)) (.ret (.str (S (apF f i.natAbs [])))) := by
  have hlen := apF_length f i.natAbs []
  simp only [List.length_nil, Nat.add_zero] at hlen
  exact ExP.ret (StP.ret (EvP.wordOf (EvP.call (n := 1) (HeadP.own rfl rfl) (Calle.own rfl) (ArgsP.cons (EvP.name rfl) ArgsP.nil) (call_int2ap hf hi) (Nat.le_refl _)) (apF_lt _ _) (by omega) CompOk.bare (fun C => HeadP.boot rfl rfl boot_chr)))
theorem call_word {n : Nat} {i : Int} {f : Nat} (hf : f ≤ 4000) (hi : i.natAbs < 16 ^ f) : CallP (GG w mg mb) (n + 2) (.ref 33) [.int i] (.str (S (apF f i.natAbs []))) := by
  have h0 : CallP (GG w mg mb) (1 + 1) (.ref 33) [.int i] (.str (S (apF f i.natAbs []))) :=
    CallP.def (ys := [.int i]) (names := [Str.ofString "whole"]) def33 (BindP.one fun v => rfl) rfl (by decide) (fun L x hx => .inl (by
      simp only [List.mem_cons, List.not_mem_nil, or_false] at hx
      subst hx; rfl)) fun A L h₀ B => word_body hf hi
  exact h0.more (by omega)
theorem binary_body {A : Around} {L : Addr} {h₀ : Heap} {B : Addr → Prop} {n f : Nat} (hf : f ≤ 4000) (hi : n < 2 ^ f) :
    ExP (FF w mg mb 40 A L h₀ B 0) [(Str.ofString "whole", .val (.int (n : Int)))] (bodyOf (fdAt (KK w) 40)) (.ret (.str (S (binF f n [])))) := by
  refine ExP.cons (StP.assign (EvP.str _ _ _) (.inl rfl)) ?_
  refine ExP.weak (ρ' := [(Str.ofString "whole", .val (.int (n : Int))), (Str.ofString "text", .val (.str (S [])))]) (Sub.cons rfl (Sub.cons rfl Sub.nil)) ?_
  refine ExP.cons (ρ' := [(Str.ofString "whole", .val (.int 0)), (Str.ofString "text", .val (.str (S (binF f n []))))]) (StP.whileEx ?_) (ExP.ret (StP.ret (EvP.name rfl)))
  have hacc : f + ([] : List Nat).length ≤ 4000 := by simpa using hf
  clear hf
  generalize ([] : List Nat) = acc at hacc ⊢
  induction f generalizing n acc with
  | zero =>
    have : n = 0 := by simp at hi; omega
    subst this
    exact ⟨0, .done ((TrP.cmp (EvP.name rfl) (EvP.int _ _ _) (Op2.gtI _ _)).to (by decide))⟩
  | succ f ih =>
    by_cases h0 : n = 0
    · subst h0
      refine ⟨0, ?_⟩
      rw [binF_zero]
      exact .done ((TrP.cmp (EvP.name rfl) (EvP.int _ _ _) (Op2.gtI _ _)).to (by decide))
    · obtain ⟨k, hk⟩ := ih (n := n / 2) (by rw [Nat.pow_succ] at hi; omega) ((if n % 2 = 0 then 102 else 116) :: acc) (by simp at hacc ⊢; omega)
      refine ⟨k + 1, ?_⟩
      rw [binF, if_neg h0]
      refine .step ((TrP.cmp (EvP.name rfl) (EvP.int _ _ _) (Op2.gtI _ _)).to (by simp; omega)) ?_ hk
      have d1 : (n : Int).fdiv 2 = ((n / 2 : Nat) : Int) := fdiv_nat n 2
      have d2 : (n : Int).fmod 2 = ((n % 2 : Nat) : Int) := fmod_nat n 2
      have hp := ft_at ⟨n % 2, Nat.mod_lt _ (by decide)⟩
      refine ExP.forget (Sub.cons rfl (Sub.cons rfl Sub.nil)) (ExP.cons (StP.assign (v := .str (S ((if n % 2 = 0 then 102 else 116) :: acc)))
        ((EvP.binop (EvP.itemS (n := if n % 2 = 0 then 102 else 116) (EvP.str _ _ _) (EvP.binop (EvP.name rfl) (EvP.int _ _ _) (Op2.modI (by decide))) ?_ ?_ ?_) (EvP.name rfl) (Op2.addS ?_)).to ?_) (.inl rfl))
        (ExP.one (StP.assign (v := .int ((n / 2 : Nat) : Int)) ((EvP.binop (EvP.name rfl) (EvP.int _ _ _) (Op2.divI (by decide) (PyProof.noPylong_small (by decide)))).to (by rw [d1])) (.inl rfl))))
      · rw [d2]; omega
      · rw [d2]; omega
      · rw [d2, Int.toNat_natCast]; exact hp
      · show 1 + (S acc).length ≤ sizeLine
        rw [S_length, sizeLine_eq]; omega
      · show PV.str (S [_] ++ S acc) = _
        rw [S_app]; rfl
theorem call_binary {n : Nat} {i f : Nat} (hf : f ≤ 4000) (hi : i < 2 ^ f) : CallP (GG w mg mb) (n + 1) (.ref 40) [.int (i : Int)] (.str (S (binF f i []))) := by
  have h0 : CallP (GG w mg mb) (0 + 1) (.ref 40) [.int (i : Int)] (.str (S (binF f i []))) :=
    CallP.def (ys := [.int (i : Int)]) (names := [Str.ofString "whole"]) def40 (BindP.one fun v => rfl) rfl (by decide) (fun L x hx => .inl (by
      simp only [List.mem_cons, List.not_mem_nil, or_false] at hx
      subst hx; rfl)) fun A L h₀ B => binary_body hf hi
  exact h0.more (by omega)
end
end Mine
namespace Mine
def openP (f : Nat) : List Nat × List Nat := ([65 + f], fourL f)
def closeP (f : Nat) : List Nat × List Nat := (fourL f ++ [62], [62, 65 + f])
def fourPV (v : Nat) : PV → PV
  | .int k => .str (S [if v / k.toNat % 2 = 0 then 102 else 116])
  | _ => .none
theorem moves_eq : (["f0", "0f", "f1", "0t", "f2", "1f", "t0", "1t", "t1", "2f", "t2", "2t", "<1", "<t", "<2", "<tf"].map fun s => PV.str (Str.ofString s)) = codesPV (flatL movesL) := by
  have : ["f0", "0f", "f1", "0t", "f2", "1f", "t0", "1t", "t1", "2f", "t2", "2t", "<1", "<t", "<2", "<tf"].map Str.ofString = (flatL movesL).map S := by decide +kernel
  have h := congrArg (List.map PV.str) this
  rw [List.map_map, List.map_map] at h
  exact h
section
variable {w : World} {mg mb : Str → Option Value}
noncomputable abbrev LF (w : World) (mg mb : Str → Option Value) (A : Around) (L fa : Addr) (cd : Value) (h₀ : Heap) (B : Addr → Prop) (n : Nat) : FC :=
  { toGC := GG w mg mb, A := A, env := envOfC (Str.ofString "law") (fdAt (KK w) 45).scope L fa cd, h₀ := h₀, B := B, n := n }
theorem four_ev {A : Around} {L fa : Addr} {cd : Value} {h₀ : Heap} {B : Addr → Prop} {v : Nat} (hv : v < 16) (p : Nat) (hp : p ∈ [8, 4, 2, 1]) :
    (((v : Int).fdiv (p : Int)).fmod 2 = ((v / p % 2 : Nat) : Int)) := by
  rw [fdiv_nat]; exact fmod_nat _ 2
theorem law_tables {A : Around} {L fa : Addr} {cd : Value} {h₀ : Heap} {B : Addr → Prop} {sc : PV} {out : Out}
    (hr : ExP (LF w mg mb A L fa cd h₀ B 3) [(Str.ofString "opened", .val (.list (codesPV (flatL openedL)))), (Str.ofString "closed", .val (.list (codesPV (flatL closedL)))), (Str.ofString "moves", .val (.list (codesPV (flatL movesL)))), (Str.ofString "script", .val sc)] ((bodyOf (fdAt (KK w) 45)).drop 4) out) :
    ExP (LF w mg mb A L fa cd h₀ B 3) [(Str.ofString "script", .val sc)] (bodyOf (fdAt (KK w) 45)) out := by
  refine ExP.cons (StP.assignOwn (.inl rfl)) (ExP.cons (StP.assignOwn (.inl rfl)) ?_)
  have hr' : ExP (LF w mg mb A L fa cd h₀ B 3) [(Str.ofString "opened", .own (codesPV (flatL ((List.range 16).map openP)))), (Str.ofString "closed", .own (codesPV (flatL ((List.range 16).map closeP)))), (Str.ofString "script", .val sc)] ((bodyOf (fdAt (KK w) 45)).drop 3) out := by
    refine ExP.freeze (x := Str.ofString "opened") rfl (ExP.freeze (x := Str.ofString "closed") rfl ?_)
    refine ExP.cons (StP.assign (v := .list (codesPV (flatL movesL))) ((EvP.list (ArgsP.cons (EvP.str _ _ _) (ArgsP.cons (EvP.str _ _ _) (ArgsP.cons (EvP.str _ _ _) (ArgsP.cons (EvP.str _ _ _) (ArgsP.cons (EvP.str _ _ _) (ArgsP.cons (EvP.str _ _ _) (ArgsP.cons (EvP.str _ _ _) (ArgsP.cons (EvP.str _ _ _) (ArgsP.cons (EvP.str _ _ _) (ArgsP.cons (EvP.str _ _ _) (ArgsP.cons (EvP.str _ _ _) (ArgsP.cons (EvP.str _ _ _) (ArgsP.cons (EvP.str _ _ _) (ArgsP.cons (EvP.str _ _ _) (ArgsP.cons (EvP.str _ _ _) (ArgsP.cons (EvP.str _ _ _) ArgsP.nil)))))))))))))))) (by rw [sizeLine_eq]; simp)).to (congrArg PV.list moves_eq)) (.inl rfl)) ?_
    exact ExP.weak (Sub.cons rfl (Sub.cons rfl (Sub.cons rfl (Sub.cons rfl Sub.nil)))) hr
  obtain ⟨a1, h1⟩ : ∃ a : List (List Nat), a = [] := ⟨[], rfl⟩
  obtain ⟨a2, h2⟩ : ∃ a : List (List Nat), a = [] := ⟨[], rfl⟩
  have e1 : codesPV (flatL ((List.range 16).map openP)) = codesPV (a1 ++ flatL ((List.range 16).map openP)) := by rw [h1]; rfl
  have e2 : codesPV (flatL ((List.range 16).map closeP)) = codesPV (a2 ++ flatL ((List.range 16).map closeP)) := by rw [h2]; rfl
  rw [e1, e2] at hr'
  have s1 : Builtin.Range.small 0 16 1 = true := small_one (by decide) (by decide) (by decide) (by decide)
  have n1 : Builtin.Range.rangeSize 0 16 1 = ((16 : Nat) : Int) := by rw [range_one _ _ (by decide)]; rfl
  have er : rangePV 0 1 16 = (List.range 16).map fun (v : Nat) => PV.int (v : Int) := by
    unfold rangePV
    refine List.map_congr_left fun i _ => ?_
    congr 1; omega
  refine ExP.cons (StP.forIn [(Str.ofString "opened", .own (codesPV a1)), (Str.ofString "closed", .own (codesPV a2)), (Str.ofString "script", .val sc)] (Sub.cons (by rw [h1]; rfl) (Sub.cons (by rw [h2]; rfl) (Sub.cons rfl Sub.nil)))
    (EvP.call (n := 0) (HeadP.boot rfl rfl boot_range) (Calle.type _) (ArgsP.cons (EvP.int _ _ _) ArgsP.nil) (CallP.range1 _) (Nat.zero_le _)) (IterP.range s1 n1) ?_) hr'
  rw [er]
  have hlt : ∀ v ∈ List.range 16, v < 16 := fun v hv => List.mem_range.mp hv
  have hl1 : a1.length + 2 * (List.range 16).length ≤ 1000 := by rw [h1]; simp
  have hl2 : a2.length + 2 * (List.range 16).length ≤ 1000 := by rw [h2]; simp
  clear hr hr' e1 e2 h1 h2 s1 n1 er
  generalize List.range 16 = vs at *
  induction vs generalizing a1 a2 with
  | nil => simp only [List.map_nil, flatL, List.append_nil]; exact ForR.nil
  | cons v vs ih =>
    have hv := hlt v (List.mem_cons_self ..)
    simp only [List.length_cons] at hl1 hl2
    have e3 : a1 ++ flatL ((v :: vs).map openP) = (a1 ++ [[65 + v], fourL v]) ++ flatL (vs.map openP) := by simp [flatL, openP]
    have e4 : a2 ++ flatL ((v :: vs).map closeP) = (a2 ++ [fourL v ++ [62], [62, 65 + v]]) ++ flatL (vs.map closeP) := by simp [flatL, closeP]
    rw [e3, e4, List.map_cons]
    refine ForR.step (TgtP.name _ (.inr ⟨rfl, rfl⟩)) (ρ' := [(Str.ofString "opened", .own (codesPV (a1 ++ [[65 + v], fourL v]))), (Str.ofString "closed", .own (codesPV (a2 ++ [fourL v ++ [62], [62, 65 + v]]))), (Str.ofString "script", .val sc)]) ?_ (ih _ _ (fun x hx => hlt x (List.mem_cons_of_mem _ hx)) (by simp; omega) (by simp; omega))
    have lt := let_at ⟨v, hv⟩
    have hgt : Str.ofString ">" = S [62] := by decide
    have hem : Str.ofString "" = S [] := by decide
    have hfl : (fourL v).length = 4 := rfl
    refine ExP.cons (StP.assign (v := .str (S (fourL v))) (EvP.join (EvP.str _ _ _) (ys := (fourL v).map fun c => S [c]) ((EvP.comp0 (cl := [(Str.ofString "figure", L + 1)]) (ρ' := [(Str.ofString "figure", .val (.int (v : Int)))]) (fourPV v)
      (EvP.list (ArgsP.cons (EvP.int _ _ _) (ArgsP.cons (EvP.int _ _ _) (ArgsP.cons (EvP.int _ _ _) (ArgsP.cons (EvP.int _ _ _) ArgsP.nil)))) (by rw [sizeLine_eq]; simp)) (IterP.list _) (by rw [sizeLine_eq]; simp) ?_ ?_ ?_ (fun C y hy => ?_)).to ?_) ?_ ?_) (.inl rfl)) ?_
    · intro y hy
      simp only [List.mem_cons, List.not_mem_nil, or_false] at hy
      rcases hy with rfl | rfl | rfl | rfl <;> trivial
    · intro y hy
      simp only [List.mem_cons, List.not_mem_nil, or_false] at hy
      rcases hy with rfl | rfl | rfl | rfl <;> trivial
    · exact CompOk.caps (all_cons rfl all_nil) (all_cons ⟨⟨_, rfl⟩, rfl, rfl, rfl, rfl⟩ all_nil)
    · have hy' : ∃ p : Nat, p ∈ [8, 4, 2, 1] ∧ y = .int (p : Int) := by
        simp only [List.mem_cons, List.not_mem_nil, or_false] at hy
        rcases hy with rfl | rfl | rfl | rfl
        · exact ⟨8, by decide, rfl⟩
        · exact ⟨4, by decide, rfl⟩
        · exact ⟨2, by decide, rfl⟩
        · exact ⟨1, by decide, rfl⟩
      obtain ⟨p, hp, rfl⟩ := hy'
      have hp' : p = 8 ∨ p = 4 ∨ p = 2 ∨ p = 1 := by simpa using hp
      have d2 : ((v : Int).fdiv (p : Int)).fmod 2 = ((v / p % 2 : Nat) : Int) := by rw [fdiv_nat]; exact fmod_nat _ 2
      have hf := ft_at ⟨v / p % 2, Nat.mod_lt _ (by decide)⟩
      refine (EvP.itemS (n := if v / p % 2 = 0 then 102 else 116) (EvP.str _ _ _) (EvP.binop (EvP.binop (EvP.name rfl) (EvP.name rfl) (Op2.divI (by omega) (PyProof.noPylong_small (by rcases hp' with rfl | rfl | rfl | rfl <;> decide)))) (EvP.int _ _ _) (Op2.modI (by decide))) ?_ ?_ ?_).to ?_
      · rw [d2]; omega
      · rw [d2]; omega
      · rw [d2, Int.toNat_natCast]; exact hf
      · rfl
    · rfl
    · rw [sum_signs, List.length_map, hfl]
      have : (Str.ofString "").length = 0 := by decide
      rw [this]; decide
    · rw [hem]; exact join_signs _
    refine ExP.forget (Sub.cons ?_ (Sub.cons ?_ (Sub.cons rfl Sub.nil))) (ExP.cons (StP.extend rfl (EvP.list (ArgsP.cons (EvP.itemS (n := 65 + v) (EvP.str _ _ _) (EvP.name rfl) (by omega) (by omega) lt) (ArgsP.cons (EvP.name rfl) ArgsP.nil)) (by rw [sizeLine_eq]; simp)) ?_)
      (ExP.one (StP.extend rfl (EvP.list (ArgsP.cons (x := .str (S (fourL v ++ [62]))) ((EvP.binop (EvP.name rfl) (EvP.str _ _ _) (Op2.addS ?_)).to ?_) (ArgsP.cons (x := .str (S [62, 65 + v])) ((EvP.binop (EvP.str _ _ _) (EvP.itemS (n := 65 + v) (EvP.str _ _ _) (EvP.name rfl) (by omega) (by omega) lt) (Op2.addS ?_)).to ?_) ArgsP.nil)) (by rw [sizeLine_eq]; simp)) ?_)))
    · show List.lookup _ (_ :: _) = _
      simp [codesPV, S]; rfl
    · show List.lookup _ (_ :: _) = _
      simp [codesPV, S]
    · rw [sizeLine_eq]; simp [codesPV]; omega
    · rw [hgt, S_length, S_length, sizeLine_eq, hfl]; decide
    · rw [hgt, S_app]
    · rw [hgt]
      show 1 + 1 ≤ sizeLine
      rw [sizeLine_eq]; decide
    · rw [hgt]; rfl
    · rw [sizeLine_eq]; simp [codesPV]; omega
end
end Mine
namespace Mine
theorem gt_eq : Str.ofString ">" = S [62] := by decide
theorem lt_eq : Str.ofString "<" = S [60] := by decide
theorem told_eq (n : Nat) : (S [60] ++ S (binF 12 n [])) ++ S [62] = S (toldL n) := by rw [S_app, S_app]; rfl
def nextsN : Nat → Nat → Nat
  | 0, n => n
  | k + 1, n => nextsN k (nextN n)
abbrev EnvT (t : List Nat) (n : Nat) : PEnv := [(Str.ofString "told", .val (.str (S t))), (Str.ofString "number", .val (.int (n : Int))), (Str.ofString "opened", .val (.list (codesPV (flatL openedL)))), (Str.ofString "closed", .val (.list (codesPV (flatL closedL)))), (Str.ofString "moves", .val (.list (codesPV (flatL movesL))))]
theorem many_moves : (codesPV (flatL movesL)).length ≤ sizeLine := by rw [sizeLine_eq]; decide
theorem many_opened : (codesPV (flatL openedL)).length ≤ sizeLine := by rw [sizeLine_eq]; decide
theorem many_closed : (codesPV (flatL closedL)).length ≤ sizeLine := by rw [sizeLine_eq]; decide
theorem fits_closed {t : List Nat} (ht : t.length ≤ 4000) : FitsL t closedL := (fits_same closedL t (by decide +kernel) ht).1
section
variable {w : World} {mg mb : Str → Option Value}
noncomputable def outerB (w : World) : List Stmt := forBody ((bodyOf (fdAt (KK w) 45))[4]?)
noncomputable def turnB (w : World) : List Stmt := forBody ((outerB w)[4]?)
theorem bin_fit (n : Nat) : (S [60]).length + (S (binF 12 n [])).length ≤ sizeLine ∧ (S [60] ++ S (binF 12 n [])).length + (S [62]).length ≤ sizeLine := by
  have := bin_len 12 n
  rw [S_app, S_length, S_length, S_length, S_length, sizeLine_eq]
  simp only [List.length_append, List.length_cons, List.length_nil]
  omega
/-- one round -/
theorem turn_round {A : Around} {L fa : Addr} {cd : Value} {h₀ : Heap} {B : Addr → Prop} {n : Nat} {y : PV} (h1 : 1 ≤ n) (h2 : n < 2700) :
    ExP (LF w mg mb A L fa cd h₀ B 3) ((Str.ofString "turn", .val y) :: EnvT (toldL n) n) (turnB w) (.next (EnvT (toldL (nextN n)) (nextN n))) := by
  obtain ⟨hlen, hend⟩ := round_told h1 h2
  have hN := nextN_ok h1
  have ft := fits_tail (t := toldL n) (by have := told_len n; omega)
  have d2 : (n : Int).fmod 2 = ((n % 2 : Nat) : Int) := fmod_nat n 2
  refine ExP.cons (StP.assign (v := .int (nextN n : Int)) (EvP.ifexp (b := decide (n % 2 = 0)) (TrP.cmp (EvP.binop (EvP.name rfl) (EvP.int _ _ _) (Op2.modI (by decide))) (EvP.int _ _ _) ((Op2.eqI _ _).to ?_)) (fun h => ?_) fun h => ?_) (.inl rfl)) ?_
  · rw [d2]
    by_cases h : n % 2 = 0
    · rw [h]; rfl
    · rw [decide_eq_false h]; simp; omega
  · have h' := of_decide_eq_true h
    exact (EvP.binop (EvP.name rfl) (EvP.int _ _ _) (Op2.divI (by decide) (PyProof.noPylong_small (by decide)))).to (by rw [nextN, if_pos h']; exact congrArg PV.int (fdiv_nat n 2))
  · have h' := of_decide_eq_false h
    refine (EvP.binop (EvP.binop (EvP.binop (EvP.int _ _ _) (EvP.name rfl) (Op2.mulI (IntMulOk.of_left (by decide)))) (EvP.int _ _ _) (Op2.addI _ _)) (EvP.int _ _ _) (Op2.divI (by decide) (PyProof.noPylong_small (by decide)))).to ?_
    rw [nextN, if_neg h']
    have e : (3 * (n : Int) + 1) = ((3 * n + 1 : Nat) : Int) := by omega
    rw [e]
    exact congrArg PV.int (fdiv_nat _ 2)
  refine ExP.cons (StP.assign (v := .str (S (rpAll (toldL n) tailL))) (EvP.call (n := 1) (HeadP.own rfl rfl) (Calle.own rfl)
    (ArgsP.cons (EvP.name rfl) (ArgsP.cons ((EvP.str _ _ _).to (congrArg PV.str (by decide : Str.ofString "t>" = S [116, 62]))) (ArgsP.cons ((EvP.str _ _ _).to (congrArg PV.str (by decide : Str.ofString "2>" = S [50, 62]))) (ArgsP.cons ((EvP.str _ _ _).to (congrArg PV.str (by decide : Str.ofString "f>" = S [102, 62]))) (ArgsP.cons ((EvP.str _ _ _).to (congrArg PV.str gt_eq)) ArgsP.nil)))))
    (call_rep (ps := tailL) ft.1 (by decide)) (Nat.le_of_ble_eq_true rfl)) (.inl rfl)) ?_
  refine ExP.weak (ρ' := EnvT (rpAll (toldL n) tailL) (nextN n)) (Sub.cons rfl (Sub.cons rfl (Sub.cons rfl (Sub.cons rfl (Sub.cons rfl Sub.nil))))) ?_
  have hl0 := hlen 0
  rw [rpN] at hl0
  generalize rpAll (toldL n) tailL = T at *
  refine ExP.cons (ρ' := EnvT (toldL (nextN n)) (nextN n)) (StP.forIn (EnvT T (nextN n)) (fun _ _ h => h)
    (EvP.call (n := 0) (HeadP.boot rfl rfl boot_range) (Calle.type _) (ArgsP.cons (EvP.call (n := 0) (HeadP.boot rfl rfl boot_len) (Calle.builtin _) (ArgsP.cons (EvP.name rfl) ArgsP.nil) (CallP.lenS (by rw [S_length, sizeLine_eq]; omega)) (Nat.zero_le _)) ArgsP.nil) (CallP.range1 _) (Nat.zero_le _))
    (IterP.range (k := T.length) (by rw [S_length]; exact small_one (by decide) (by decide) (by omega) (by omega)) (by rw [S_length, range_one _ _ (by omega)]; omega)) ?_) ?_
  · have hm : (rangePV 0 1 T.length).length = T.length := rangePV_length _ _ _
    rw [← hm] at hend
    clear hm hl0 ft
    generalize rangePV 0 1 T.length = ys at *
    induction ys generalizing T with
    | nil =>
      have : T = toldL (nextN n) := hend
      subst this
      exact ForR.nil
    | cons y ys ih =>
      have hl0 := hlen 0
      rw [rpN] at hl0
      refine ForR.step (TgtP.name _ (.inl rfl)) (ρ' := EnvT (rpAll T movesL) (nextN n)) ?_ (ih (rpAll T movesL) (fun i => hlen (i + 1)) hend)
      exact ExP.forget (Sub.cons rfl (Sub.cons rfl (Sub.cons rfl (Sub.cons rfl (Sub.cons rfl Sub.nil))))) (ExP.one (StP.assign (EvP.call (n := 1) (HeadP.own rfl rfl) (Calle.own rfl) (ArgsP.cons (EvP.name rfl) (ArgsP.star (EvP.name rfl) ArgsP.nil many_moves)) (by rw [List.append_nil]; exact call_rep (fits_moves (by omega)) (by decide)) (Nat.le_of_ble_eq_true rfl)) (.inl rfl)))
  · obtain ⟨f1, f2⟩ := bin_fit (nextN n)
    refine ExP.one (StP.ite (b := false) (TrP.cmp (EvP.name rfl) (EvP.binop (EvP.binop ((EvP.str _ _ _).to (congrArg PV.str lt_eq)) (EvP.call (n := 1) (HeadP.own rfl rfl) (Calle.own rfl) (ArgsP.cons (EvP.name rfl) ArgsP.nil) (call_binary (f := 12) (by decide) (by omega)) (Nat.le_of_ble_eq_true rfl)) (Op2.addS f1)) ((EvP.str _ _ _).to (congrArg PV.str gt_eq)) (Op2.addS f2)) ((Op2.neS _ _).to ?_)) (fun h => nomatch h) fun _ => ExP.nil)
    rw [told_eq]; simp
theorem nexts_ok : ∀ (k n : Nat), 1 ≤ n → 1 ≤ nextsN k n ∧ nextsN k n * 2 ^ k ≤ (n + 1) * 3 ^ k
  | 0, n, h => ⟨h, by simp [nextsN]⟩
  | k + 1, n, h => by
    obtain ⟨h1, h2⟩ := nextN_ok h
    obtain ⟨h3, h4⟩ := nexts_ok k (nextN n) h1
    refine ⟨h3, ?_⟩
    rw [nextsN, Nat.pow_succ, Nat.pow_succ]
    have h5 : 2 * (nextN n + 1) ≤ 3 * (n + 1) := by omega
    have h6 := Nat.mul_le_mul_right (3 ^ k) h5
    have e1 : nextsN k (nextN n) * (2 ^ k * 2) = 2 * (nextsN k (nextN n) * 2 ^ k) := by rw [← Nat.mul_assoc, Nat.mul_comm _ 2]
    have e2 : (n + 1) * (3 ^ k * 3) = 3 * (n + 1) * 3 ^ k := by rw [Nat.mul_comm (3 ^ k) 3, ← Nat.mul_assoc, Nat.mul_comm (n + 1) 3]
    have e3 : 2 * (nextN n + 1) * 3 ^ k = 2 * ((nextN n + 1) * 3 ^ k) := Nat.mul_assoc _ _ _
    omega
/-- all rounds of a number -/
theorem rounds {A : Around} {L fa : Addr} {cd : Value} {h₀ : Heap} {B : Addr → Prop} {p : Pos} : ∀ (ys : List PV) (n : Nat), 1 ≤ n → n * 3 ^ ys.length + 3 ^ ys.length ≤ 2700 * 2 ^ ys.length →
    ForR (LF w mg mb A L fa cd h₀ B 3) (.Name (Str.ofString "turn") p) (turnB w) ys (EnvT (toldL n) n) (.next (EnvT (toldL (nextsN ys.length n)) (nextsN ys.length n)))
  | [], n, _, _ => ForR.nil
  | y :: ys, n, h1, h2 => by
    obtain ⟨h3, h4⟩ := nextN_ok h1
    have hs : (2 : Nat) ^ ys.length ≤ 3 ^ ys.length := Nat.pow_le_pow_left (by decide) _
    have hb : 1 ≤ (2 : Nat) ^ ys.length := Nat.one_le_two_pow
    rw [List.length_cons, Nat.pow_succ, Nat.pow_succ] at h2
    have h5 : (2 * (nextN n + 1)) * 3 ^ ys.length ≤ (3 * (n + 1)) * 3 ^ ys.length := Nat.mul_le_mul_right _ (by omega)
    have h6 : (3 * (n + 1)) * 3 ^ ys.length ≤ (2700 * 2) * 2 ^ ys.length := by
      have e1 : n * (3 ^ ys.length * 3) + 3 ^ ys.length * 3 = (3 * (n + 1)) * 3 ^ ys.length := by
        rw [Nat.mul_comm (3 ^ ys.length) 3, ← Nat.mul_assoc, ← Nat.add_mul]; congr 1; omega
      have e2 : 2700 * (2 ^ ys.length * 2) = (2700 * 2) * 2 ^ ys.length := by omega
      omega
    have h7 : n < 2700 := by
      have : (3 * (n + 1)) * 2 ^ ys.length ≤ (2700 * 2) * 2 ^ ys.length := Nat.le_trans (Nat.mul_le_mul_left _ hs) h6
      have := Nat.le_of_mul_le_mul_right this hb
      omega
    refine ForR.step (TgtP.name _ (.inl rfl)) (turn_round h1 h7) (rounds ys (nextN n) h3 ?_)
    have e3 : (2 * (nextN n + 1)) * 3 ^ ys.length = 2 * (nextN n * 3 ^ ys.length + 3 ^ ys.length) := by rw [Nat.mul_assoc, Nat.add_mul, Nat.one_mul]
    omega
abbrev EnvB : PEnv := [(Str.ofString "opened", .val (.list (codesPV (flatL openedL)))), (Str.ofString "closed", .val (.list (codesPV (flatL closedL)))), (Str.ofString "moves", .val (.list (codesPV (flatL movesL))))]
theorem one_number {A : Around} {L fa : Addr} {cd : Value} {h₀ : Heap} {B : Addr → Prop} {x : Int} :
    ExP (LF w mg mb A L fa cd h₀ B 3) ((Str.ofString "x", .val (.int x)) :: EnvB) (outerB w) (.next EnvB) := by
  have m1 := Int.fmod_lt_of_pos x (b := 255) (by decide)
  have m2 := Int.fmod_nonneg_of_pos x (b := 255) (by decide)
  have m3 := Int.fmod_lt_of_pos (x.fdiv 255) (b := 5) (by decide)
  have m4 := Int.fmod_nonneg_of_pos (x.fdiv 255) (b := 5) (by decide)
  obtain ⟨n, hn⟩ : ∃ n : Nat, 1 + x.fmod 255 = (n : Int) := ⟨(1 + x.fmod 255).toNat, by omega⟩
  obtain ⟨k, hk⟩ : ∃ k : Nat, (x.fdiv 255).fmod 5 = (k : Int) := ⟨((x.fdiv 255).fmod 5).toNat, by omega⟩
  have n1 : 1 ≤ n := by omega
  have n2 : n ≤ 255 := by omega
  have k4 : k ≤ 4 := by omega
  obtain ⟨ft1, ft2, ft3⟩ := first_told n n1 n2
  have hl := apF_length 2 n []
  simp only [List.length_nil, Nat.add_zero] at hl
  obtain ⟨f1, f2⟩ := bin_fit n
  have e60 : (S [60] ++ S (apF 2 n [])) ++ S [62] = S (60 :: (apF 2 n [] ++ [62])) := by rw [S_app, S_app]; rfl
  have g1 : (S [60]).length + (S (apF 2 n [])).length ≤ sizeLine := by rw [S_length, S_length, sizeLine_eq]; simp only [List.length_cons, List.length_nil]; omega
  have g2 : (S [60] ++ S (apF 2 n [])).length + (S [62]).length ≤ sizeLine := by rw [S_app, S_length, S_length, sizeLine_eq]; simp only [List.length_append, List.length_cons, List.length_nil]; omega
  refine ExP.cons (StP.assign (v := .int (n : Int)) ((EvP.binop (EvP.int _ _ _) (EvP.binop (EvP.name rfl) (EvP.int _ _ _) (Op2.modI (by decide))) (Op2.addI _ _)).to (congrArg PV.int hn)) (.inl rfl)) ?_
  refine ExP.cons (StP.assign (v := .str (S (rpAll (60 :: (apF 2 n [] ++ [62])) openedL))) (EvP.call (n := 1) (HeadP.own rfl rfl) (Calle.own rfl)
    (ArgsP.cons ((EvP.binop (EvP.binop ((EvP.str _ _ _).to (congrArg PV.str lt_eq)) (EvP.call (n := 2) (HeadP.own rfl rfl) (Calle.own rfl) (ArgsP.cons (EvP.name rfl) ArgsP.nil) (call_word (f := 2) (by decide) (by rw [Int.natAbs_natCast]; omega)) (Nat.le_of_ble_eq_true rfl)) (Op2.addS (by rw [Int.natAbs_natCast]; exact g1))) ((EvP.str _ _ _).to (congrArg PV.str gt_eq)) (Op2.addS (by rw [Int.natAbs_natCast]; exact g2))).to (by rw [Int.natAbs_natCast, e60])) (ArgsP.star (EvP.name rfl) ArgsP.nil many_opened))
    (by rw [List.append_nil]; exact call_rep ft1 (by decide)) (Nat.le_of_ble_eq_true rfl)) (.inl rfl)) ?_
  refine ExP.cons (StP.assign (v := .str (S (toldL n))) ((EvP.call (n := 1) (HeadP.own rfl rfl) (Calle.own rfl)
    (ArgsP.cons (EvP.name rfl) (ArgsP.cons ((EvP.str _ _ _).to (congrArg PV.str (by decide : Str.ofString "<fff" = S [60, 102, 102, 102]))) (ArgsP.cons ((EvP.str _ _ _).to (congrArg PV.str lt_eq)) (ArgsP.cons ((EvP.str _ _ _).to (congrArg PV.str (by decide : Str.ofString "<ff" = S [60, 102, 102]))) (ArgsP.cons ((EvP.str _ _ _).to (congrArg PV.str lt_eq)) (ArgsP.cons ((EvP.str _ _ _).to (congrArg PV.str (by decide : Str.ofString "<f" = S [60, 102]))) (ArgsP.cons ((EvP.str _ _ _).to (congrArg PV.str lt_eq)) ArgsP.nil)))))))
    (call_rep (ps := trimL) ft2 (by decide)) (Nat.le_of_ble_eq_true rfl)).to (by rw [ft3])) (.inl rfl)) ?_
  refine ExP.cons (StP.ite (b := false) (TrP.cmp (EvP.name rfl) (EvP.binop (EvP.binop ((EvP.str _ _ _).to (congrArg PV.str lt_eq)) (EvP.call (n := 1) (HeadP.own rfl rfl) (Calle.own rfl) (ArgsP.cons (EvP.name rfl) ArgsP.nil) (call_binary (f := 12) (by decide) (by omega)) (Nat.le_of_ble_eq_true rfl)) (Op2.addS f1)) ((EvP.str _ _ _).to (congrArg PV.str gt_eq)) (Op2.addS f2)) ((Op2.neS _ _).to (by rw [told_eq]; simp))) (fun h => nomatch h) fun _ => ExP.nil) ?_
  -- the rounds
  have hkl : (rangePV 0 1 k).length = k := rangePV_length _ _ _
  have hpow : (n + 1) * 3 ^ k ≤ 1300 * 2 ^ k := by
    have : k = 0 ∨ k = 1 ∨ k = 2 ∨ k = 3 ∨ k = 4 := by omega
    rcases this with rfl | rfl | rfl | rfl | rfl <;> simp <;> omega
  have hb : 1 ≤ (2 : Nat) ^ k := Nat.one_le_two_pow
  have hr := fun p : Pos => rounds (w := w) (mg := mg) (mb := mb) (A := A) (L := L) (fa := fa) (cd := cd) (h₀ := h₀) (B := B) (rangePV 0 1 k) n n1 (by rw [hkl]; rw [Nat.add_mul, Nat.one_mul] at hpow; omega) (p := p)
  simp only [hkl] at hr
  obtain ⟨q1, q2⟩ := nexts_ok k n n1
  have q3 : nextsN k n ≤ 1300 := Nat.le_of_mul_le_mul_right (Nat.le_trans q2 hpow) hb
  generalize nextsN k n = N at *
  refine ExP.cons (ρ' := EnvT (toldL N) N) (StP.forIn (EnvT (toldL n) n) (Sub.cons rfl (Sub.cons rfl (Sub.cons rfl (Sub.cons rfl (Sub.cons rfl Sub.nil)))))
    ((EvP.call (n := 0) (HeadP.boot rfl rfl boot_range) (Calle.type _) (ArgsP.cons ((EvP.binop (EvP.binop (EvP.name rfl) (EvP.int _ _ _) (Op2.divI (by decide) (PyProof.noPylong_small (by decide)))) (EvP.int _ _ _) (Op2.modI (by decide))).to (congrArg PV.int hk)) ArgsP.nil) (CallP.range1 _) (Nat.zero_le _)))
    (IterP.range (k := k) (small_one (by decide) (by decide) (by omega) (by omega)) (by rw [range_one _ _ (by omega)]; omega)) (hr _)) ?_
  clear hr q2 hpow
  obtain ⟨hlen, hend⟩ := last_told (n := N) q1 (by omega)
  have tl := told_len N
  refine ExP.cons (StP.assign (v := .str (S (rpAll (toldL N) padL))) (EvP.call (n := 1) (HeadP.own rfl rfl) (Calle.own rfl)
    (ArgsP.cons (EvP.name rfl) (ArgsP.cons ((EvP.str _ _ _).to (congrArg PV.str lt_eq)) (ArgsP.cons ((EvP.str _ _ _).to (congrArg PV.str (by decide : Str.ofString "<fff" = S [60, 102, 102, 102]))) ArgsP.nil)))
    (call_rep (ps := padL) ⟨by omega, by decide, by decide, by decide, trivial⟩ (by decide)) (Nat.le_of_ble_eq_true rfl)) (.inl rfl)) ?_
  have l0 := hlen 0 (by decide)
  have l1 := hlen 1 (by decide)
  have l2 := hlen 2 (by decide)
  have l3 := hlen 3 (by decide)
  rw [rpN] at l0
  generalize rpAll (toldL N) padL = T at *
  have er : rangePV 0 1 3 = [.int 0, .int 1, .int 2] := rfl
  have one : ∀ (t : List Nat) (y : PV) (ht : t.length ≤ 4000), ExP (LF w mg mb A L fa cd h₀ B 3) ((Str.ofString "call", .val y) :: EnvT t N) (forBody ((outerB w)[6]?)) (.next (EnvT (rpAll t closedL) N)) := fun t y ht =>
    ExP.forget (Sub.cons rfl (Sub.cons rfl (Sub.cons rfl (Sub.cons rfl (Sub.cons rfl Sub.nil))))) (ExP.one (StP.assign (EvP.call (n := 1) (HeadP.own rfl rfl) (Calle.own rfl) (ArgsP.cons (EvP.name rfl) (ArgsP.star (EvP.name rfl) ArgsP.nil many_closed)) (by rw [List.append_nil]; exact call_rep (fits_closed ht) (by decide)) (Nat.le_of_ble_eq_true rfl)) (.inl rfl)))
  refine ExP.cons (ρ' := EnvT (rpN closedL 3 T) N) (StP.forIn (EnvT T N) (Sub.cons rfl (Sub.cons rfl (Sub.cons rfl (Sub.cons rfl (Sub.cons rfl Sub.nil)))))
    (EvP.call (n := 0) (HeadP.boot rfl rfl boot_range) (Calle.type _) (ArgsP.cons (EvP.int _ _ _) ArgsP.nil) (CallP.range1 _) (Nat.zero_le _))
    (IterP.range (k := 3) (small_one (by decide) (by decide) (by decide) (by decide)) (by rw [range_one _ _ (by decide)]; rfl)) ?_) ?_
  · rw [er]
    exact ForR.step (TgtP.name _ (.inl rfl)) (one T _ (by omega)) (ForR.step (TgtP.name _ (.inl rfl)) (one _ _ (by
      have : rpAll T closedL = rpN closedL 1 T := rfl
      rw [this]; omega)) (ForR.step (TgtP.name _ (.inl rfl)) (one _ _ (by
      have : rpAll (rpAll T closedL) closedL = rpN closedL 2 T := rfl
      rw [this]; omega)) ForR.nil))
  · have fs := fits_same strikeL (rpN closedL 3 T) (by decide) (by omega)
    refine ExP.forget (Sub.cons rfl (Sub.cons rfl (Sub.cons rfl Sub.nil))) (ExP.one (StP.ite (b := false) (TrP.cmp
      (EvP.call (n := 1) (HeadP.own rfl rfl) (Calle.own rfl)
        (ArgsP.cons (EvP.name rfl) (ArgsP.cons ((EvP.str _ _ _).to (congrArg PV.str lt_eq)) (ArgsP.cons ((EvP.str _ _ _).to (congrArg PV.str (by decide : Str.ofString "" = S []))) (ArgsP.cons ((EvP.str _ _ _).to (congrArg PV.str gt_eq)) (ArgsP.cons ((EvP.str _ _ _).to (congrArg PV.str (by decide : Str.ofString "" = S []))) (ArgsP.cons ((EvP.str _ _ _).to (congrArg PV.str (by decide : Str.ofString "f" = S [102]))) (ArgsP.cons ((EvP.str _ _ _).to (congrArg PV.str (by decide : Str.ofString "" = S []))) ArgsP.nil)))))))
        (call_rep (ps := strikeL) fs.1 (by decide)) (Nat.le_of_ble_eq_true rfl))
      (EvP.call (n := 2) (HeadP.own rfl rfl) (Calle.own rfl) (ArgsP.cons (EvP.unop (EvP.name rfl) (Op1.negI _)) ArgsP.nil) (call_word (f := 3) (by decide) (by rw [Int.natAbs_neg, Int.natAbs_natCast]; omega)) (Nat.le_of_ble_eq_true rfl))
      ((Op2.neS _ _).to ?_)) (fun h => nomatch h) fun _ => ExP.nil))
    rw [hend, Int.natAbs_neg, Int.natAbs_natCast]; simp
theorem law_whole {A : Around} {L fa : Addr} {cd : Value} {h₀ : Heap} {B : Addr → Prop} {ns : List Int} (hn : ns.length ≤ 63) :
    ExP (LF w mg mb A L fa cd h₀ B 3) [(Str.ofString "script", .val (.list (intsPV ns)))] (bodyOf (fdAt (KK w) 45)) (.ret (.bool true)) := by
  have hz : (intsPV ns).length ≤ sizeLine := by rw [sizeLine_eq]; simp [intsPV]; omega
  refine law_tables ?_
  have e : [PV.int 536] ++ (intsPV ns).take ((2 : Int).toNat) = intsPV (536 :: ns.take 2) := by simp [intsPV, List.map_take]
  refine ExP.cons (ρ' := EnvB) (StP.forIn EnvB (Sub.cons rfl (Sub.cons rfl (Sub.cons rfl Sub.nil)))
    ((EvP.binop (EvP.list (ArgsP.cons (EvP.int _ _ _) ArgsP.nil) (by rw [sizeLine_eq]; simp)) (EvP.takeL (EvP.name rfl) (EvP.int _ _ _) (by decide) hz) (Op2.addL (by rw [sizeLine_eq]; simp; omega))).to (congrArg PV.list e)) (IterP.list _) ?_) (ExP.ret (StP.ret (EvP.bool _ _ _)))
  generalize 536 :: ns.take 2 = xs
  induction xs with
  | nil => exact ForR.nil
  | cons x xs ih => exact ForR.step (TgtP.name _ (.inl rfl)) one_number ih
end
end Mine
namespace Mine
theorem cellsOf {h₀ h : Heap} {L : Addr} {cm : Str → Option Value} : ∀ {cs : List (Str × Addr)} {cells : List (Addr × Obj)}, CellsAre cm cs cells → (∀ p ∈ cells, h.get? p.1 = some p.2) → ∀ n b, cs.lookup n = some b → h.IsCell b (cm n)
  | _, _, .nil, _, n, b, e => nomatch e
  | _, _, .cons (n := n') hd X, hg, n, b, e => by
    rw [List.lookup_cons] at e
    cases hb : n == n' with
    | true => rw [hb] at e; cases e; rw [eq_of_beq hb]; exact ⟨_, hg _ (List.mem_cons_self ..), hd⟩
    | false => rw [hb] at e; exact cellsOf (h₀ := h₀) (L := L) X (fun p hp => hg p (List.mem_cons_of_mem _ hp)) n b e
theorem lawStart {w : World} {mg mb : Str → Option Value} {s₁ : Shared} {mean : ExcName → Option Value} {h₁ : Heap} {a fa : Addr} {cd : Value} {P : Params} {vs : List Value} {ns : List Int} {tk : Nat} {m cm : Str → Option Value} {cells : List (Addr × Obj)} {Q : Flow → Shared → Prop} {E : Value → Shared → Prop} (KX : (KK w).In s₁.heap) (T : Top hd02.view_39 (looseW hd02.view_39 []) mean mg mb s₁.heap)
    (F : Fr s₁.heap s₁.heap.objs.size h₁ m) (N : News s₁.heap s₁.heap.objs.size h₁ cells) (X : CellsAre cm (cellsFrom (s₁.heap.objs.size + 1) (fdAt (KK w) 45).scope.names []) cells) (hm : m (Str.ofString "script") = some (.ref a)) (hI : IntsAre vs ns) (hW : Well P s₁.heap (.ref a) (ofPy (PyData.list (ns.map PyData.int)))) (hL : s₁.heap.IsList a vs.toArray) (hn : ns.length ≤ 63)
    (hQ : ∀ h' tk, Ext s₁.heap h' → Q (.ret (.bool true)) { s₁ with heap := h', toks := tk }) :
    wpAny (model PySem.Challenge.rw_ph0004_02.row.prog w) (callerA.deeper (envOfC (Str.ofString "law") (fdAt (KK w) 45).scope s₁.heap.objs.size fa cd)) (execs (bodyOf (fdAt (KK w) 45)) (envOfC (Str.ofString "law") (fdAt (KK w) 45).scope s₁.heap.objs.size fa cd)) Q E { s₁ with heap := h₁, toks := tk } := by
  have hroom : ∀ env, Room (callerA.deeper env) 3 := fun env => ⟨rfl, by show 1 + claimMargin + 1 + 3 < 900; decide, by show 4 + 3 + 10 * 3 < 9000; decide⟩
  have hcs : (cellsFrom (s₁.heap.objs.size + 1) (fdAt (KK w) 45).scope.names []) = [(Str.ofString "figure", s₁.heap.objs.size + 1)] := rfl
  have hone : ∀ n b, (cellsFrom (s₁.heap.objs.size + 1) (fdAt (KK w) 45).scope.names []).lookup n = some b → n = Str.ofString "figure" ∧ b = s₁.heap.objs.size + 1 := fun n b e => by
    rw [hcs, List.lookup_cons] at e
    cases hb : n == Str.ofString "figure" with
    | true => rw [hb] at e; cases e; exact ⟨eq_of_beq hb, rfl⟩
    | false => rw [hb] at e; cases e
  have hfresh : (LF w mg mb (callerA.deeper (envOfC (Str.ofString "law") (fdAt (KK w) 45).scope s₁.heap.objs.size fa cd)) s₁.heap.objs.size fa cd s₁.heap (fun _ => False) 3).Fresh :=
    ⟨get_size _, fun n a e => by
      obtain ⟨_, rfl⟩ := hone n a e
      exact Heap.get?_none_of_le (Nat.le_succ _), fun n n' a e e' => (hone n a e).1.trans (hone n' a e').1.symm⟩
  have hinv := startInv (c := LF w mg mb (callerA.deeper (envOfC (Str.ofString "law") (fdAt (KK w) 45).scope s₁.heap.objs.size fa cd)) s₁.heap.objs.size fa cd s₁.heap (fun _ => False) 3) ⟨rfl, rfl, rfl, hroom _, ⟨KX, topRead_of T⟩⟩ (fun _ q => q) (cellsOf (h₀ := s₁.heap) (L := 0) X fun p hp => (N p hp).1) F hm rfl (scriptRep hW hL hI)
  exact finishLaw (s := { s₁ with heap := h₁, toks := tk }) (law_whole hn) hfresh hinv fun h' tk' hk => hQ h' tk' hk
end Mine
theorem PySem.Challenge.cw_ph0004_02_holds : PySem.Challenge.rw_ph0004_02.Holds :=
  hd02 (by
  k_go0
  (all_goals try k_fold)
  rename Frag.In _ _ => KX
  rename Top _ _ _ _ _ _ => T
  rename Fr _ _ _ _ => F
  rename News _ _ _ _ => N
  rename CellsAre _ _ _ => X
  rename IntsAre _ _ => hI
  rename Well _ _ _ _ => hW
  rename Heap.IsList _ _ _ => hL
  rename _ = #[] => hg
  rename ¬ _ => hn
  refine Mine.lawStart KX T F N X rfl hI hW hL (by omega) fun h' tk hk => ?_
  exact ⟨.inl ⟨.bool true, .bool true, [], rfl, fun cls => rfl, .bool true, postW_of rfl (w_eq_bool (w_res rfl) w_lit) rfl, fun _ => ⟨List.nodup_nil, fun a h => nomatch h⟩⟩, hk, rfl, hg⟩)
