import PyProof.Rows.All
import Wide.All
import OpenK.AllK
import Wide.FinOn
import PySem.Challenge.RW_dm0115_09
open PySem PySem.W PySem.Calls PyProof.Rows
set_option Elab.async false
set_option maxRecDepth 100000
set_option linter.unusedVariables false
set_option linter.unusedSectionVars false
set_option linter.unusedSimpArgs false
namespace Mine

/-- data -/
inductive D where
  | int (i : Int)
  | str (x : Str)
  | val (v : Value)
  | tuple (ds : List D)
  | list (ds : List D)
  | range (a b : Int)
  | flt (b : UInt64)
  | obj (p : Obj → Prop)

/-- the kind of an iterator's object -/
def IterObj (o : Obj) : Prop := ∃ nm vs, o.cls = .type nm ∧ o.data = .fields vs ∧ nm ≠ "range"

abbrev D.bool (b : Bool) : D := .val (.bool b)
abbrev D.none : D := .val .none

def byVal : Value → Bool
  | .none | .ellipsis | .notImplemented | .bool _ | .type _ | .builtin _ => true
  | _ => false

mutual
inductive Rp (h : Heap) (X : Addr → Prop) : Value → D → Prop
  | int (i t) : Rp h X (.int i t) (.int i)
  | str (x t) : Rp h X (.str x t) (.str x)
  | val (v) : byVal v = true → Rp h X v (.val v)
  | fn (a o f) : h.get? a = some o → o.data = .func f → ¬ X a → Rp h X (.ref a) (.val (.ref a))
  | tuple {a vs ds} : IsTup h a vs.toArray → ¬ X a → RpAll h X vs ds → Rp h X (.ref a) (.tuple ds)
  | list {a vs ds} : h.IsList a vs.toArray → ¬ X a → RpAll h X vs ds → Rp h X (.ref a) (.list ds)
  | range {r a b t u v} : IsRange h r a b 1 t u v → ¬ X r → Rp h X (.ref r) (.range a b)
  | flt (b t) : Rp h X (.float b t) (.flt b)
  | obj {a o p} : h.get? a = some o → p o → ¬ IterObj o → ¬ X a → Rp h X (.ref a) (.obj p)
inductive RpAll (h : Heap) (X : Addr → Prop) : List Value → List D → Prop
  | nil : RpAll h X [] []
  | cons {v vs d ds} : Rp h X v d → RpAll h X vs ds → RpAll h X (v :: vs) (d :: ds)
end

theorem IsTup.at' {h h' : Heap} {a : Addr} {its} (x : IsTup h a its) (e : ∀ o, h.get? a = some o → h'.get? a = some o) : IsTup h' a its :=
  let ⟨o, ho, r⟩ := x; ⟨o, e o ho, r⟩

mutual
theorem Rp.mono {h h' : Heap} {X X' : Addr → Prop} (hk : ∀ a o, ¬ X a → h.get? a = some o → h'.get? a = some o) (hx : ∀ a o, ¬ X a → h.get? a = some o → ¬ X' a) :
    ∀ {v d}, Rp h X v d → Rp h' X' v d
  | _, _, .int i t => .int i t
  | _, _, .str x t => .str x t
  | _, _, .val v e => .val v e
  | _, _, .fn a o f ho hd hn => .fn a o f (hk _ _ hn ho) hd (hx _ _ hn ho)
  | _, _, .tuple ht hn hr => .tuple (IsTup.at' ht fun o e => hk _ o hn e) (let ⟨_, ho, _⟩ := ht; hx _ _ hn ho) (RpAll.mono hk hx hr)
  | _, _, .list ht hn hr => .list (ht.at fun o e => hk _ o hn e) (let ⟨_, ho, _⟩ := ht; hx _ _ hn ho) (RpAll.mono hk hx hr)
  | _, _, .range ht hn => .range (hk _ _ hn ht) (hx _ _ hn ht)
  | _, _, .flt b t => .flt b t
  | _, _, .obj ho hp hi hn => .obj (hk _ _ hn ho) hp hi (hx _ _ hn ho)
theorem RpAll.mono {h h' : Heap} {X X' : Addr → Prop} (hk : ∀ a o, ¬ X a → h.get? a = some o → h'.get? a = some o) (hx : ∀ a o, ¬ X a → h.get? a = some o → ¬ X' a) :
    ∀ {vs ds}, RpAll h X vs ds → RpAll h' X' vs ds
  | _, _, .nil => .nil
  | _, _, .cons a r => .cons (Rp.mono hk hx a) (RpAll.mono hk hx r)
end

section
variable {h h' : Heap} {X X' : Addr → Prop} {v : Value} {d : D} {vs ws : List Value} {ds es : List D}
theorem Rp.keeps (hk : ∀ a o, h.get? a = some o → h'.get? a = some o) (x : Rp h X v d) : Rp h' X v d := x.mono (fun a o _ e => hk a o e) fun _ _ n _ => n
theorem RpAll.keeps (hk : ∀ a o, h.get? a = some o → h'.get? a = some o) (x : RpAll h X vs ds) : RpAll h' X vs ds := x.mono (fun a o _ e => hk a o e) fun _ _ n _ => n
theorem Rp.sub (hs : ∀ a, X' a → X a) (x : Rp h X v d) : Rp h X' v d := x.mono (fun _ _ _ e => e) fun a _ n _ q => n (hs a q)
theorem RpAll.sub (hs : ∀ a, X' a → X a) (x : RpAll h X vs ds) : RpAll h X' vs ds := x.mono (fun _ _ _ e => e) fun a _ n _ q => n (hs a q)
theorem RpAll.length (x : RpAll h X vs ds) : vs.length = ds.length := by
  induction vs generalizing ds with
  | nil => cases x; rfl
  | cons v vs ih => cases x with | cons _ r => simp [ih r]
theorem RpAll.append (x : RpAll h X vs ds) (y : RpAll h X ws es) : RpAll h X (vs ++ ws) (ds ++ es) := by
  induction vs generalizing ds with
  | nil => cases x; exact y
  | cons v vs ih => cases x with | cons a r => exact .cons a (ih r)
theorem RpAll.get (x : RpAll h X vs ds) {k : Nat} {v : Value} (hv : vs[k]? = some v) : ∃ d, ds[k]? = some d ∧ Rp h X v d := by
  induction vs generalizing ds k with
  | nil => simp at hv
  | cons w vs ih =>
    cases x with
    | cons a r =>
      cases k with
      | zero => simp at hv; subst hv; exact ⟨_, rfl, a⟩
      | succ k => simp at hv; simpa using ih r hv
theorem RpAll.get' (x : RpAll h X vs ds) {k : Nat} {d : D} (hd : ds[k]? = some d) : ∃ v, vs[k]? = some v ∧ Rp h X v d := by
  induction vs generalizing ds k with
  | nil => cases x; simp at hd
  | cons w vs ih =>
    cases x with
    | cons a r =>
      cases k with
      | zero => simp at hd; subst hd; exact ⟨_, rfl, a⟩
      | succ k => simp at hd; simpa using ih r hd
theorem RpAll.take (x : RpAll h X vs ds) (k : Nat) : RpAll h X (vs.take k) (ds.take k) := by
  induction vs generalizing ds k with
  | nil => cases x; simp; exact .nil
  | cons w vs ih => cases x with | cons a r => cases k with
    | zero => exact .nil
    | succ k => exact .cons a (ih r k)
theorem RpAll.drop (x : RpAll h X vs ds) (k : Nat) : RpAll h X (vs.drop k) (ds.drop k) := by
  induction vs generalizing ds k with
  | nil => cases x; simp; exact .nil
  | cons w vs ih => cases x with | cons a r => cases k with
    | zero => exact .cons a r
    | succ k => exact ih r k
theorem RpAll.one (x : Rp h X v d) : RpAll h X [v] [d] := .cons x .nil
end

/-- what a name of the frame holds -/
def VarIs (env : Env) (h : Heap) (x : Str) (v : Value) : Prop :=
  (env.kindOf x = some .local ∧ ∃ m, h.Ns env.locals m ∧ m x = some v) ∨
  ((env.kindOf x = some .cell ∨ env.kindOf x = some .free) ∧ ∃ c, env.cells.lookup x = some c ∧ h.IsCell c (some v))

theorem VarIs.keeps {env h h' x v} (y : VarIs env h x v) (hk : ∀ a o, h.get? a = some o → h'.get? a = some o) : VarIs env h' x v := by
  rcases y with ⟨k, m, n, e⟩ | ⟨k, c, l, e⟩
  · exact .inl ⟨k, m, n.keeps hk, e⟩
  · exact .inr ⟨k, c, l, e.keeps hk⟩

inductive Bnd where
  | val (d : D)
  | own (ds : List D)

abbrev Sto := List (String × Bnd)
def Sto.get : Sto → String → Option Bnd
  | [], _ => none
  | (y, b) :: r, x => if y = x then some b else Sto.get r x
def Sto.put : Sto → String → Bnd → Sto
  | [], x, b => [(x, b)]
  | (y, c) :: r, x, b => if y = x then (x, b) :: r else (y, c) :: Sto.put r x b
def Sto.del : Sto → String → Sto
  | [], _ => []
  | (y, c) :: r, x => if y = x then Sto.del r x else (y, c) :: Sto.del r x

theorem Sto.get_put (σ : Sto) (x : String) (b : Bnd) (y : String) : (σ.put x b).get y = if x = y then some b else σ.get y := by
  induction σ with
  | nil => simp [Sto.put, Sto.get]
  | cons p r ih =>
    obtain ⟨z, c⟩ := p
    unfold Sto.put
    by_cases hz : z = x
    · subst hz; simp only [if_true, Sto.get]; split <;> rfl
    · simp only [hz, if_false, Sto.get, ih]
      by_cases h1 : z = y
      · subst h1; simp [Ne.symm hz]
      · simp [h1]

abbrev S (x : String) : Str := Str.ofString x

theorem S_inj {x y : String} (h : S x = S y) : x = y := by
  have hx : ∀ s : String, S s = Str.ofStringByList s := fun s => by unfold S; rw [Str.ofString_eq_byList]
  rw [hx, hx] at h
  unfold Str.ofStringByList at h
  injection h with h
  have h' : x.toList.map Char.toNat = y.toList.map Char.toNat := by simpa using h
  have inj : ∀ (a b : List Char), a.map Char.toNat = b.map Char.toNat → a = b := by
    intro a
    induction a with
    | nil => intro b hb; cases b <;> simp at hb ⊢
    | cons c r ih =>
      intro b hb
      cases b with
      | nil => simp at hb
      | cons e t =>
        simp only [List.map_cons, List.cons.injEq] at hb
        rw [ih t hb.2]
        congr 1
        apply Char.ext
        apply UInt32.toNat_inj.mp
        exact hb.1
  exact String.ext (inj _ _ h') 

/-- the base: what the text's top has left -/
structure Bas where
  prog : Program
  w : World
  hB : Heap
  mg : Str → Option Value
  mb : Str → Option Value

structure Bas.Ok (B : Bas) : Prop where
  g : B.hB.Ns mainGlobals B.mg
  b : B.hB.Ns builtinsNs B.mb
  builtins : ∀ x : Str, x ≠ "__name__" → B.mb x = bootBuiltins x
  nolimit : B.hB.NoLimit

/-- room for n calls more -/
structure AOk (n : Nat) (A : Around) : Prop where
  handled : A.handled = none
  depth : A.depth + n < recursionLimit
  units : A.units + 5 * n + 100 < cLine

structure EnvOk (env : Env) : Prop where
  kind : env.scope.kind = .function
  globals : env.globals = mainGlobals
  builtins : env.builtins = builtinsNs
  apart : ∀ x y c, env.cells.lookup x = some c → env.cells.lookup y = some c → x = y

def BndIs (env : Env) (h : Heap) (X O : Addr → Prop) (x : String) : Bnd → Prop
  | .val d => ∃ v, VarIs env h (S x) v ∧ Rp h X v d
  | .own ds => ∃ a vs, VarIs env h (S x) (.ref a) ∧ O a ∧ a ≠ env.locals ∧ h.PlainList a vs.toArray ∧ RpAll h X vs ds

structure St (B : Bas) (h₀ : Heap) (P : Addr → Prop) (env : Env) (σ : Sto) (O : Addr → Prop) (h : Heap) : Prop where
  base : ∀ b o, B.hB.get? b = some o → h₀.get? b = some o
  keep : ∀ b o, h₀.get? b = some o → h.get? b = some o
  plive : ∀ a, P a → (∃ o, h₀.get? a = some o) ∧ B.hB.get? a = none
  live : ∀ a, O a → ∃ o, h.get? a = some o
  new : ∀ a, O a → h₀.get? a = none
  ok : EnvOk env
  loc : O env.locals
  ns : ∃ m, h.Ns env.locals m
  cells : ∀ x c, env.cells.lookup x = some c → (∃ v, h.IsCell c v) ∧ (env.func.isSome = true → O c)
  vars : ∀ x b, σ.get x = some b → BndIs env h (fun a => P a ∨ O a) O x b
  apart : ∀ x y ds es a, x ≠ y → σ.get x = some (.own ds) → σ.get y = some (.own es) → VarIs env h (S x) (.ref a) → VarIs env h (S y) (.ref a) → False

/-- what may change is none of the text's own -/
theorem St.xlive {B h₀ P env σ O h} (T : St B h₀ P env σ O h) {b : Addr} (q : P b ∨ O b) : (∃ o, h.get? b = some o) ∧ B.hB.get? b = none := by
  rcases q with q | q
  · obtain ⟨⟨o, e⟩, z⟩ := T.plive b q; exact ⟨⟨o, T.keep b o e⟩, z⟩
  · refine ⟨T.live b q, ?_⟩
    cases e : B.hB.get? b with
    | none => rfl
    | some o => have := T.new b q; rw [T.base b o e] at this; cases this

def Mov (O : Addr → Prop) (s s' : Shared) : Prop := ∃ h' tk, s' = { s with heap := h', toks := tk } ∧ ∀ b o, ¬ O b → s.heap.get? b = some o → h'.get? b = some o

theorem Mov.refl (O s) : Mov O s s := ⟨s.heap, s.toks, rfl, fun _ _ _ e => e⟩
theorem Mov.of_keeps {O s s'} (k : Keeps s s') : Mov O s s' := let ⟨h', tk, e, k⟩ := k; ⟨h', tk, e, fun b o _ x => k b o x⟩
theorem Mov.trans {O O' : Addr → Prop} {s s' s'' : Shared} (a : Mov O s s') (b : Mov O' s' s'') (hs : ∀ b, O' b → O b ∨ s.heap.get? b = none) : Mov O s s'' := by
  obtain ⟨h', tk, rfl, k⟩ := a
  obtain ⟨h'', tk', rfl, k'⟩ := b
  exact ⟨h'', tk', rfl, fun b o n e => k' b o (fun q => by rcases hs b q with q | q; exact n q; rw [q] at e; cases e) (k b o n e)⟩
theorem krefl (s : Shared) : Keeps s s := ⟨s.heap, s.toks, rfl, fun _ _ e => e⟩
theorem ktok (s : Shared) (t : Nat) : Keeps s { s with toks := t } := ⟨s.heap, t, rfl, fun _ _ e => e⟩
theorem ktrans {s s' s'' : Shared} (a : Keeps s s') (b : Keeps s' s'') : Keeps s s'' := by
  obtain ⟨h', tk, rfl, k⟩ := a
  obtain ⟨h'', tk', rfl, k'⟩ := b
  exact ⟨h'', tk', rfl, fun b o e => k' b o (k b o e)⟩
theorem kpush (s : Shared) (o : Obj) (t : Nat) : Keeps s { s with heap := s.heap.push o, toks := t } := ⟨_, t, rfl, fun _ _ e => Heap.get?_push_of_some _ e⟩
theorem kpush' (s : Shared) (o : Obj) : Keeps s { s with heap := s.heap.push o } := ⟨_, s.toks, rfl, fun _ _ e => Heap.get?_push_of_some _ e⟩
theorem kheap {s s' : Shared} (a : Keeps s s') : ∀ b o, s.heap.get? b = some o → s'.heap.get? b = some o := by obtain ⟨h', tk, rfl, k⟩ := a; exact k
theorem fresh_of {h : Heap} {a : Addr} (ha : h.objs.size ≤ a) : h.get? a = none := by
  cases e : h.get? a with
  | none => rfl
  | some o => exact absurd (Heap.lt_size e) (Nat.not_lt.mpr ha)

section
variable {B : Bas} {h₀ h h' : Heap} {P O : Addr → Prop} {env : Env} {σ : Sto}
theorem VarIs.fn {x : Str} {v w : Value} (a : VarIs env h x v) (b : VarIs env h x w) : v = w := by
  rcases a with ⟨k, m, n, e⟩ | ⟨k, c, l, e⟩ <;> rcases b with ⟨k', m', n', e'⟩ | ⟨k', c', l', e'⟩
  · rw [n.eq_nsMap] at e; rw [n'.eq_nsMap] at e'; rw [e] at e'; exact Option.some.inj e'
  · rcases k' with k' | k' <;> rw [k] at k' <;> cases k'
  · rcases k with k | k <;> rw [k] at k' <;> cases k'
  · rw [l] at l'; cases l'
    obtain ⟨o, ho, hd⟩ := e; obtain ⟨o', ho', hd'⟩ := e'
    rw [ho] at ho'; cases ho'; rw [hd] at hd'; cases hd'; rfl
theorem VarIs.back {x : Str} {v w : Value} (hk : ∀ a o, h.get? a = some o → h'.get? a = some o) (a : VarIs env h x v) (b : VarIs env h' x w) : w = v := (b.fn (a.keeps hk))
theorem BndIs.keeps {X : Addr → Prop} {x : String} {b : Bnd} (hk : ∀ a o, h.get? a = some o → h'.get? a = some o) (y : BndIs env h X O x b) : BndIs env h' X O x b := by
  cases b with
  | val d => obtain ⟨v, a, r⟩ := y; exact ⟨v, a.keeps hk, r.keeps hk⟩
  | own ds => obtain ⟨a, vs, hv, ho, hl, hp, r⟩ := y; exact ⟨a, vs, hv.keeps hk, ho, hl, hp.at fun o e => hk _ o e, r.keeps hk⟩
theorem BndIs.var {X : Addr → Prop} {x : String} {b : Bnd} (y : BndIs env h X O x b) : ∃ v, VarIs env h (S x) v := by
  cases b with
  | val d => obtain ⟨v, a, _⟩ := y; exact ⟨v, a⟩
  | own ds => obtain ⟨a, vs, hv, _⟩ := y; exact ⟨_, hv⟩
theorem St.keeps (T : St B h₀ P env σ O h) (hk : ∀ a o, h.get? a = some o → h'.get? a = some o) : St B h₀ P env σ O h' where
  base := T.base
  keep := fun b o e => hk b o (T.keep b o e)
  plive := T.plive
  live := fun a q => let ⟨o, e⟩ := T.live a q; ⟨o, hk a o e⟩
  new := T.new
  ok := T.ok
  loc := T.loc
  ns := let ⟨m, n⟩ := T.ns; ⟨m, n.keeps hk⟩
  cells := fun x c l => let ⟨⟨v, e⟩, f⟩ := T.cells x c l; ⟨⟨v, e.keeps hk⟩, f⟩
  vars := fun x b e => (T.vars x b e).keeps hk
  apart := fun x y ds es a ne hx hy vx vy => by
    obtain ⟨v, a1⟩ := (T.vars x _ hx).var
    obtain ⟨v', a2⟩ := (T.vars y _ hy).var
    have e1 := a1.back hk vx; have e2 := a2.back hk vy
    subst e1; subst e2
    exact T.apart x y ds es a ne hx hy a1 a2
theorem St.kp {s s' : Shared} (T : St B h₀ P env σ O s.heap) (k : Keeps s s') : St B h₀ P env σ O s'.heap := T.keeps (kheap k)
/-- a new address is not among those that may change -/
theorem St.notX (T : St B h₀ P env σ O h) {a : Addr} (ha : h.get? a = none) : ¬ (P a ∨ O a) := by
  rintro (q | q)
  · obtain ⟨⟨o, e⟩, _⟩ := T.plive a q; rw [T.keep _ _ e] at ha; cases ha
  · obtain ⟨o, e⟩ := T.live a q; rw [e] at ha; cases ha
theorem St.notX' (T : St B h₀ P env σ O h) {a : Addr} (ha : h.objs.size ≤ a) : ¬ (P a ∨ O a) := T.notX (fresh_of ha)
end

/-- an expression's value, its parts never to change -/
def Ev (B : Bas) (n : Nat) (env : Env) (σ : Sto) (e : Expr) (d : D) : Prop :=
  ∀ (h₀ : Heap) (P O : Addr → Prop) (A : Around) (s : Shared) (E : Value → Shared → Prop) (Q : Value → Shared → Prop), B.Ok → AOk n A → St B h₀ P env σ O s.heap →
    (∀ v s', Keeps s s' → Rp s'.heap (fun a => P a ∨ O a) v d → Q v s') → wpAny (model B.prog B.w) A (eval e env) Q E s
/-- an expression's value, as it stands now -/
def EvW (B : Bas) (n : Nat) (env : Env) (σ : Sto) (e : Expr) (d : D) : Prop :=
  ∀ (h₀ : Heap) (P O : Addr → Prop) (A : Around) (s : Shared) (E : Value → Shared → Prop) (Q : Value → Shared → Prop), B.Ok → AOk n A → St B h₀ P env σ O s.heap →
    (∀ v s', Keeps s s' → Rp s'.heap (fun _ => False) v d → Q v s') → wpAny (model B.prog B.w) A (eval e env) Q E s
/-- a new list, no one else's -/
def EvN (B : Bas) (n : Nat) (env : Env) (σ : Sto) (e : Expr) (ds : List D) : Prop :=
  ∀ (h₀ : Heap) (P O : Addr → Prop) (A : Around) (s : Shared) (E : Value → Shared → Prop) (Q : Value → Shared → Prop), B.Ok → AOk n A → St B h₀ P env σ O s.heap →
    (∀ a vs s', Keeps s s' → s.heap.get? a = none → s'.heap.PlainList a vs.toArray → RpAll s'.heap (fun b => P b ∨ O b ∨ b = a) vs ds → Q (.ref a) s') → wpAny (model B.prog B.w) A (eval e env) Q E s
/-- what may be handed back -/
def EvR (B : Bas) (n : Nat) (env : Env) (σ : Sto) (e : Expr) (d : D) : Prop :=
  ∀ (h₀ : Heap) (P O : Addr → Prop) (A : Around) (s : Shared) (E : Value → Shared → Prop) (Q : Value → Shared → Prop), B.Ok → AOk n A → St B h₀ P env σ O s.heap →
    (∀ v s', Keeps s s' → Rp s'.heap P v d → Q v s') → wpAny (model B.prog B.w) A (eval e env) Q E s

section
variable {B : Bas} {n : Nat} {env : Env} {σ : Sto} {e : Expr} {d : D} {ds : List D}
theorem Ev.weak (x : Ev B n env σ e d) : EvW B n env σ e d := fun h₀ P O A s E Q b a T k => x h₀ P O A s E Q b a T fun v s' ks r => k v s' ks (r.sub fun _ q => q.elim)
theorem Ev.ret (x : Ev B n env σ e d) : EvR B n env σ e d := fun h₀ P O A s E Q b a T k => x h₀ P O A s E Q b a T fun v s' ks r => k v s' ks (r.sub fun _ q => .inl q)
theorem EvN.ev (x : EvN B n env σ e ds) : Ev B n env σ e (.list ds) := fun h₀ P O A s E Q b a T k => x h₀ P O A s E Q b a T fun a vs s' ks hn hp r =>
  k _ s' ks (.list hp.isList (T.notX hn) (r.sub fun b q => q.elim .inl fun q => .inr (.inl q)))
end

/-- a name read -/
theorem wp_name {B : Bas} {h₀ : Heap} {P O : Addr → Prop} {env : Env} {σ : Sto} {A : Around} {s : Shared} {E : Value → Shared → Prop} {Q : Value → Shared → Prop} {x : String} {p : Pos} {v : Value}
    (T : St B h₀ P env σ O s.heap) (hv : VarIs env s.heap (S x) v) (h : Q v s) (hd : (S x == ("__debug__" : Str)) = false) (hc : (S x == ("__classdict__" : Str)) = false) : wpAny (model B.prog B.w) A (eval (.Name (S x) p) env) Q E s := by
  refine wpAny_Name ?_ hd
  rcases hv with ⟨k, m, n, e⟩ | ⟨k | k, c, l, e⟩
  · exact wpAny_loadName_local T.ok.kind k n e h
  · exact wpAny_loadName_cell T.ok.kind k l e h
  · exact wpAny_loadName_free T.ok.kind k l e h hc

theorem plainName {x y : String} (h : x ≠ y) : (S x == S y) = false := by
  rw [beq_eq_false_iff_ne]; exact fun e => h (S_inj e)

section
variable {B : Bas} {n : Nat} {env : Env} {σ : Sto} {x : String} {p : Pos} {d : D} {ds : List D}
theorem ev_name (h : σ.get x = some (.val d)) (h1 : x ≠ "__debug__" := by decide) (h2 : x ≠ "__classdict__" := by decide) : Ev B n env σ (.Name (S x) p) d := by
  intro h₀ P O A s E Q _ _ T k
  obtain ⟨v, hv, r⟩ := T.vars x _ h
  exact wp_name T hv (k v s (krefl s) r) (plainName h1) (plainName h2)
theorem evw_own (h : σ.get x = some (.own ds)) (h1 : x ≠ "__debug__" := by decide) (h2 : x ≠ "__classdict__" := by decide) : EvW B n env σ (.Name (S x) p) (.list ds) := by
  intro h₀ P O A s E Q _ _ T k
  obtain ⟨a, vs, hv, ho, hl, hp, r⟩ := T.vars x _ h
  exact wp_name T hv (k _ s (krefl s) (.list hp.isList id (r.sub fun _ q => q.elim))) (plainName h1) (plainName h2)
theorem evr_own (h : σ.get x = some (.own ds)) (h1 : x ≠ "__debug__" := by decide) (h2 : x ≠ "__classdict__" := by decide) : EvR B n env σ (.Name (S x) p) (.list ds) := by
  intro h₀ P O A s E Q _ _ T k
  obtain ⟨a, vs, hv, ho, hl, hp, r⟩ := T.vars x _ h
  exact wp_name T hv (k _ s (krefl s) (.list hp.isList (fun q => by obtain ⟨⟨o, e⟩, _⟩ := T.plive _ q; rw [T.new _ ho] at e; cases e) (r.sub fun _ q => .inl q))) (plainName h1) (plainName h2)
end

def Storable (env : Env) (x : String) : Prop :=
  env.kindOf (S x) = some .local ∨ (env.kindOf (S x) = some .cell ∧ env.func.isSome = true ∧ (env.cells.lookup (S x)).isSome = true)

def NewB (env : Env) (h : Heap) (X O : Addr → Prop) (σ : Sto) (x : String) (v : Value) : Bnd → Prop
  | .val d => Rp h X v d
  | .own ds => ∃ a vs, v = .ref a ∧ O a ∧ a ≠ env.locals ∧ h.PlainList a vs.toArray ∧ RpAll h X vs ds ∧ ∀ y es, y ≠ x → σ.get y = some (.own es) → ¬ VarIs env h (S y) (.ref a)

section
variable {B : Bas} {h₀ h h' : Heap} {P O : Addr → Prop} {env : Env} {σ : Sto}

theorem plain_ne_ns {h : Heap} {a b : Addr} {its m} (p : h.IsList a its) (n : h.Ns b m) : a ≠ b := by
  rintro rfl
  obtain ⟨k, e, _, _, d'⟩ := p; obtain ⟨o, es, ep, e', d, _⟩ := n
  rw [e] at e'; cases e'; rw [d'] at d; cases d
theorem plain_ne_cell {h : Heap} {a b : Addr} {its v} (p : h.IsList a its) (n : h.IsCell b v) : a ≠ b := by
  rintro rfl
  obtain ⟨k, e, _, _, d'⟩ := p; obtain ⟨o, e', d⟩ := n
  rw [e] at e'; cases e'; rw [d'] at d; cases d
theorem ns_ne_cell {h : Heap} {a b : Addr} {m v} (n : h.Ns a m) (c : h.IsCell b v) : a ≠ b := by
  rintro rfl
  obtain ⟨o, es, ep, e, d, _⟩ := n; obtain ⟨o', e', d'⟩ := c
  rw [e] at e'; cases e'; rw [d] at d'; cases d'

/-- one address of the frame's own is changed; the name x is bound anew -/
theorem St.put (T : St B h₀ P env σ O h) {c : Addr} (hc : O c) (hs : Heap.SameBut c h h') {x : String} {v : Value} {b : Bnd} (hlc : ∃ o, h'.get? c = some o)
    (hx : VarIs env h' (S x) v) (ho : ∀ y w, y ≠ x → VarIs env h (S y) w → VarIs env h' (S y) w) (hl : ∃ m, h'.Ns env.locals m) (hcell : ∀ y k v, env.cells.lookup y = some k → h.IsCell k v → ∃ v, h'.IsCell k v)
    (hp : ∀ a its, h.PlainList a its → a ≠ c) (hb : NewB env h (fun a => P a ∨ O a) O σ x v b) : St B h₀ P env (σ.put x b) O h' := by
  have hk : ∀ a o, ¬ (P a ∨ O a) → h.get? a = some o → h'.get? a = some o := fun a o n e => (hs.2 a (fun q => n (.inr (q ▸ hc)))).trans e
  have old : ∀ y w, y ≠ x → (∃ b, σ.get y = some b) → VarIs env h' (S y) w → VarIs env h (S y) w := by
    rintro y w ne ⟨b, hb⟩ hv
    obtain ⟨w', hw'⟩ := (T.vars y b hb).var
    rw [hv.fn (ho y w' ne hw')]; exact hw'
  have mv : ∀ {v d}, Rp h (fun a => P a ∨ O a) v d → Rp h' (fun a => P a ∨ O a) v d := fun r => r.mono hk fun _ _ n _ => n
  have mva : ∀ {v d}, RpAll h (fun a => P a ∨ O a) v d → RpAll h' (fun a => P a ∨ O a) v d := fun r => r.mono hk fun _ _ n _ => n
  have pl : ∀ {a its}, h.PlainList a its → h'.PlainList a its := fun q => by obtain ⟨k, e⟩ := id q; exact ⟨k, (hs.2 _ (hp _ _ q)).trans e⟩
  refine ⟨T.base, fun b o e => ?_, T.plive, fun a q => ?_, T.new, T.ok, T.loc, hl, fun y k e => ?_, fun y b' e => ?_, fun y z ds es a ne hy hz vy vz => ?_⟩
  · exact (hs.2 b (fun q => by subst q; rw [T.new _ hc] at e; cases e)).trans (T.keep b o e)
  · by_cases q' : a = c
    · subst q'; exact hlc
    · obtain ⟨o, e⟩ := T.live a q; exact ⟨o, (hs.2 a q').trans e⟩
  · obtain ⟨⟨v, q⟩, f⟩ := T.cells y k e
    exact ⟨hcell y k v e q, f⟩
  · rw [Sto.get_put] at e
    by_cases q : x = y
    · subst q
      simp only [if_true] at e; cases e
      cases b with
      | val d => exact ⟨v, hx, mv hb⟩
      | own ds =>
        obtain ⟨a, vs, rfl, h1, h2, h3, h4, _⟩ := hb
        exact ⟨a, vs, hx, h1, h2, pl h3, mva h4⟩
    · simp only [q, if_false] at e
      have := T.vars y b' e
      cases b' with
      | val d => obtain ⟨w, hw, r⟩ := this; exact ⟨w, ho y w (fun e => q e.symm) hw, mv r⟩
      | own ds => obtain ⟨a, vs, hv, h1, h2, h3, h4⟩ := this; exact ⟨a, vs, ho y _ (fun e => q e.symm) hv, h1, h2, pl h3, mva h4⟩
  · rw [Sto.get_put] at hy hz
    by_cases q : x = y
    · subst q
      simp only [if_true] at hy; cases hy
      rw [if_neg ne] at hz
      obtain ⟨a', vs, rfl, h1, h2, h3, h4, h5⟩ := hb
      have := hx.fn vy; cases this
      exact h5 z es (Ne.symm ne) hz (old z _ (Ne.symm ne) ⟨_, hz⟩ vz)
    · rw [if_neg q] at hy
      by_cases q' : x = z
      · subst q'
        simp only [if_true] at hz; cases hz
        obtain ⟨a', vs, rfl, h1, h2, h3, h4, h5⟩ := hb
        have := hx.fn vz; cases this
        exact h5 y ds ne hy (old y _ ne ⟨_, hy⟩ vy)
      · rw [if_neg q'] at hz
        exact T.apart y z ds es a ne hy hz (old y _ (fun e => q e.symm) ⟨_, hy⟩ vy) (old z _ (fun e => q' e.symm) ⟨_, hz⟩ vz)

/-- where the names of a frame lie -/
def Names (env : Env) (b : Addr) : Prop := b = env.locals ∨ (env.func.isSome = true ∧ ∃ x, env.cells.lookup x = some b)
theorem Mov.names {s s' : Shared} (m : Mov (Names env) s s') (T : St B h₀ P env σ O s.heap) : Mov O s s' := by
  obtain ⟨h', tk, e, k⟩ := m
  refine ⟨h', tk, e, fun b o nb => k b o ?_⟩
  rintro (q | ⟨f, x, q⟩)
  · subst q; exact nb T.loc
  · exact nb ((T.cells x b q).2 f)

theorem wp_store {A : Around} {s : Shared} {E : Value → Shared → Prop} {Q : Unit → Shared → Prop} (T : St B h₀ P env σ O s.heap) {x : String} {v : Value} {b : Bnd} (hx : Storable env x) (hb : NewB env s.heap (fun a => P a ∨ O a) O σ x v b)
    (h : ∀ s', Mov (Names env) s s' → St B h₀ P env (σ.put x b) O s'.heap → Q () s') : wpAny (model B.prog B.w) A (storeName env (S x) v) Q E s := by
  obtain ⟨m, n⟩ := T.ns
  rcases hx with hx | ⟨hx, hf, hs⟩
  · refine wpAny_storeName_local hx n (fun h' hn hs => h _ ⟨h', _, rfl, fun b o nb e => (hs.2 b (fun q => nb (.inl q))).trans e⟩ ?_) (by rw [T.ok.kind]; rfl)
    refine T.put T.loc hs (let ⟨o, _, _, e, _⟩ := hn; ⟨o, e⟩) (.inl ⟨hx, _, hn, by simp⟩) ?_ ⟨_, hn⟩ ?_ (fun a its p => plain_ne_ns p.isList n) hb
    · rintro y w ne (⟨k, m', n', e⟩ | ⟨k, c, l, e⟩)
      · refine .inl ⟨k, _, hn, ?_⟩
        rw [n'.eq_nsMap, ← n.eq_nsMap] at e
        rw [if_neg (fun q => ne (S_inj q))]; exact e
      · exact .inr ⟨k, c, l, e.sameBut hs (Ne.symm (ns_ne_cell n e))⟩
    · exact fun y k v _ e => ⟨v, e.sameBut hs (Ne.symm (ns_ne_cell n e))⟩
  · obtain ⟨c, hc⟩ := Option.isSome_iff_exists.mp hs
    obtain ⟨⟨v₀, e₀⟩, ho⟩ := T.cells _ _ hc
    refine wpAny_storeName_cell T.ok.kind hx hc e₀ fun h' hv hs => h _ ⟨h', _, rfl, fun b o nb e => (hs.2 b (fun q => nb (.inr ⟨hf, _, q ▸ hc⟩))).trans e⟩ ?_
    have hL : env.locals ≠ c := ns_ne_cell n e₀
    refine T.put (ho hf) hs (let ⟨o, e, _⟩ := hv; ⟨o, e⟩) (.inr ⟨.inl hx, c, hc, hv⟩) ?_ ⟨m, n.sameBut hs hL⟩ ?_ (fun a its p => plain_ne_cell p.isList e₀) hb
    · rintro y w ne (⟨k, m', n', e⟩ | ⟨k, c', l, e⟩)
      · exact .inl ⟨k, m', n'.sameBut hs hL, e⟩
      · exact .inr ⟨k, c', l, e.sameBut hs (fun q => ne (S_inj (T.ok.apart _ _ c (q ▸ l) hc)))⟩
    · intro y k v l e
      by_cases q : k = c
      · subst q; exact ⟨_, hv⟩
      · exact ⟨v, e.sameBut hs q⟩

/-- a new list becomes the frame's own -/
theorem St.grow (T : St B h₀ P env σ O h) (hk : ∀ a o, h.get? a = some o → h'.get? a = some o) {a : Addr} (hn : h.get? a = none) (hl : ∃ o, h'.get? a = some o) : St B h₀ P env σ (fun b => O b ∨ b = a) h' := by
  have T' := T.keeps hk
  have mvx : ∀ b o, ¬ (P b ∨ O b) → h.get? b = some o → ¬ (P b ∨ (O b ∨ b = a)) := by
    rintro b o n e (q | q | q)
    · exact n (.inl q)
    · exact n (.inr q)
    · subst q; rw [hn] at e; cases e
  refine ⟨T.base, T'.keep, T.plive, ?_, ?_, T.ok, .inl T.loc, T'.ns, fun x c l => ⟨(T'.cells x c l).1, fun f => .inl ((T'.cells x c l).2 f)⟩, ?_, T'.apart⟩
  · rintro b (q | q)
    · exact T'.live b q
    · subst q; exact hl
  · rintro b (q | q)
    · exact T.new b q
    · subst q
      cases e : h₀.get? b with
      | none => rfl
      | some o => rw [T.keep _ _ e] at hn; cases hn
  · intro x b e
    have := T.vars x b e
    cases b with
    | val d => obtain ⟨v, hv, r⟩ := this; exact ⟨v, hv.keeps hk, r.mono (fun b o _ e => hk b o e) mvx⟩
    | own ds => obtain ⟨a', vs, hv, h1, h2, h3, h4⟩ := this; exact ⟨a', vs, hv.keeps hk, .inl h1, h2, h3.at fun o e => hk _ o e, h4.mono (fun b o _ e => hk b o e) mvx⟩
end

/-- how a block ends -/
inductive Fl where
  | next | brk | cont
  | ret (d : D)

def FlIs (h : Heap) (P : Addr → Prop) : Flow → Fl → Prop
  | .next, .next => True
  | .brk, .brk => True
  | .cont, .cont => True
  | .ret v, .ret d => Rp h P v d
  | _, _ => False

def Post (B : Bas) (h₀ : Heap) (P : Addr → Prop) (env : Env) (O : Addr → Prop) (s : Shared) (R : Fl → Sto → Prop) (f : Flow) (s' : Shared) : Prop :=
  ∃ fl σ' O', Mov O s s' ∧ FlIs s'.heap P f fl ∧ R fl σ' ∧ (∀ b, O' b → O b ∨ s.heap.get? b = none) ∧ St B h₀ P env σ' O' s'.heap

def Ex (B : Bas) (n : Nat) (env : Env) (σ : Sto) (ss : List Stmt) (R : Fl → Sto → Prop) : Prop :=
  ∀ (h₀ : Heap) (P O : Addr → Prop) (A : Around) (s : Shared) (E : Value → Shared → Prop), B.Ok → AOk n A → St B h₀ P env σ O s.heap →
    wpAny (model B.prog B.w) A (execs ss env) (Post B h₀ P env O s R) E s
def Ex1 (B : Bas) (n : Nat) (env : Env) (σ : Sto) (st : Stmt) (R : Fl → Sto → Prop) : Prop :=
  ∀ (h₀ : Heap) (P O : Addr → Prop) (A : Around) (s : Shared) (E : Value → Shared → Prop), B.Ok → AOk n A → St B h₀ P env σ O s.heap →
    wpAny (model B.prog B.w) A (exec st env) (Post B h₀ P env O s R) E s

section
variable {B : Bas} {n : Nat} {env : Env} {σ : Sto} {R : Fl → Sto → Prop}
theorem Post.mono {h₀ P O s f s'} {R' : Fl → Sto → Prop} (x : Post B h₀ P env O s R f s') (h : ∀ fl σ, R fl σ → R' fl σ) : Post B h₀ P env O s R' f s' :=
  let ⟨fl, σ', O', a, b, c, d⟩ := x; ⟨fl, σ', O', a, b, h _ _ c, d⟩
theorem Post.trans {h₀ P O O' s s₁ f s'} (m : Mov O s s₁) (ho : ∀ b, O' b → O b ∨ s.heap.get? b = none) (x : Post B h₀ P env O' s₁ R f s') : Post B h₀ P env O s R f s' := by
  obtain ⟨fl, σ', O'', a, b, c, d, e⟩ := x
  refine ⟨fl, σ', O'', m.trans a ho, b, c, fun q hq => ?_, e⟩
  rcases d q hq with z | z
  · exact ho q z
  · by_cases hO : O q
    · exact .inl hO
    · refine .inr ?_
      cases w : s.heap.get? q with
      | none => rfl
      | some o =>
        obtain ⟨h', tk, rfl, k⟩ := m
        have := k q o hO w
        rw [z] at this; cases this
theorem Ex.mono {ss} {R' : Fl → Sto → Prop} (x : Ex B n env σ ss R) (h : ∀ fl σ, R fl σ → R' fl σ) : Ex B n env σ ss R' :=
  fun h₀ P O A s E b a T => wpAny_mono (x h₀ P O A s E b a T) (fun _ _ q => q.mono h) fun _ _ q => q
theorem ex_nil (h : R .next σ) : Ex B n env σ [] R := fun h₀ P O A s E b a T =>
  wpAny_execs_nil ⟨.next, σ, O, Mov.refl _ _, trivial, h, fun _ q => .inl q, T⟩
theorem ex_cons {st rest} (x : Ex1 B n env σ st fun fl σ' => match fl with | .next => Ex B n env σ' rest R | f => R f σ') : Ex B n env σ (st :: rest) R := by
  intro h₀ P O A s E b a T
  refine wpAny_execs_cons (wpAny_mono (x h₀ P O A s E b a T) (fun f s' q => ?_) fun _ _ q => q)
  obtain ⟨fl, σ', O', m, hf, hr, ho, T'⟩ := q
  cases f with
  | next =>
    cases fl <;> try exact hf.elim
    exact wpAny_mono (hr h₀ P O' A s' E b a T') (fun _ _ q => q.trans m ho) fun _ _ q => q
  | brk => cases fl <;> first | exact hf.elim | exact ⟨_, σ', O', m, hf, hr, ho, T'⟩
  | cont => cases fl <;> first | exact hf.elim | exact ⟨_, σ', O', m, hf, hr, ho, T'⟩
  | ret v => cases fl <;> first | exact hf.elim | exact ⟨_, σ', O', m, hf, hr, ho, T'⟩

theorem ex_return {e : Expr} {d : D} {p : Pos} (x : EvR B n env σ e d) (h : R (.ret d) σ) : Ex1 B n env σ (.Return (some e) p) R := by
  intro h₀ P O A s E b a T
  exact wpAny_Return_some (x h₀ P O A s E _ b a T fun v s' k r => ⟨.ret d, σ, O, Mov.of_keeps k, r, h, fun _ q => .inl q, T.kp k⟩)
theorem ex_pass {p : Pos} (h : R .next σ) : Ex1 B n env σ (.Pass p) R := by
  intro h₀ P O A s E b a T
  exact wpAny_Pass ⟨.next, σ, O, Mov.refl _ _, trivial, h, fun _ q => .inl q, T⟩

theorem ex_assign {x : String} {p p' : Pos} {e : Expr} {d : D} (hx : Storable env x) (v : Ev B n env σ e d) (h : R .next (σ.put x (.val d)))
    (hs : swapsWith e (some (.Name (S x) p')) p.line env = pure false) : Ex1 B n env σ (.Assign [.Name (S x) p'] e p) R := by
  intro h₀ P O A s E b a T
  refine wpAny_Assign_Name (v h₀ P O A s E _ b a T fun v s' k r => ?_) hs
  refine wp_store (b := .val d) (T.kp k) hx r fun s'' m T' => ?_
  exact ⟨.next, _, O, (Mov.of_keeps k).trans (m.names (T.kp k)) (fun _ q => .inl q), trivial, h, fun _ q => .inl q, T'⟩
theorem ex_assignN {x : String} {p p' : Pos} {e : Expr} {ds : List D} (hx : Storable env x) (v : EvN B n env σ e ds) (h : R .next (σ.put x (.own ds)))
    (hs : swapsWith e (some (.Name (S x) p')) p.line env = pure false) : Ex1 B n env σ (.Assign [.Name (S x) p'] e p) R := by
  intro h₀ P O A s E b a T
  refine wpAny_Assign_Name (v h₀ P O A s E _ b a T fun a vs s' k hn hp r => ?_) hs
  have T1 : St B h₀ P env σ (fun b => O b ∨ b = a) s'.heap := T.grow (kheap k) hn (let ⟨_, e⟩ := hp; ⟨_, e⟩)
  have hne : a ≠ env.locals := fun q => by obtain ⟨o, e⟩ := T.live _ T.loc; rw [← q, hn] at e; cases e
  refine wp_store (b := .own ds) T1 hx ⟨a, vs, rfl, .inr rfl, hne, hp, r, ?_⟩ fun s'' m T' => ?_
  · intro y es ne hy hv
    obtain ⟨a', vs', hv', ho, _⟩ := T.vars y _ hy
    have := hv.fn (hv'.keeps (kheap k)); cases this
    obtain ⟨o, e⟩ := T.live _ ho; rw [hn] at e; cases e
  · refine ⟨.next, _, _, (Mov.of_keeps k).trans (m.names T1) ?_, trivial, h, ?_, T'⟩
    · rintro b (q | q)
      · exact .inl q
      · subst q; exact .inr hn
    · rintro b (q | q)
      · exact .inl q
      · subst q; exact .inr hn

theorem ex_freeze {ss} {x : String} {ds : List D} (hx : σ.get x = some (.own ds)) (h : Ex B n env (σ.put x (.val (.list ds))) ss R) : Ex B n env σ ss R := by
  intro h₀ P O A s E b a T
  obtain ⟨a0, vs, hv, ho, hne, hp, r⟩ := T.vars x _ hx
  -- the list's address may change no more
  have hcell : ∀ y c, env.cells.lookup y = some c → a0 ≠ c := fun y c l => by obtain ⟨⟨v, e⟩, _⟩ := T.cells y c l; exact plain_ne_cell hp.isList e
  have T1 : St B h₀ P env (σ.put x (.val (.list ds))) (fun b => O b ∧ b ≠ a0) s.heap := by
    have sub : ∀ b, (P b ∨ (O b ∧ b ≠ a0)) → (P b ∨ O b) := fun b q => q.imp id And.left
    refine ⟨T.base, T.keep, T.plive, fun b q => T.live b q.1, fun b q => T.new b q.1, T.ok, ⟨T.loc, Ne.symm hne⟩, T.ns, fun y c l => ⟨(T.cells y c l).1, fun f => ⟨(T.cells y c l).2 f, Ne.symm (hcell y c l)⟩⟩, ?_, ?_⟩
    · intro y b' e
      rw [Sto.get_put] at e
      by_cases q : x = y
      · subst q; simp only [if_true] at e; cases e
        refine ⟨_, hv, .list hp.isList ?_ (r.sub sub)⟩
        rintro (q | q)
        · obtain ⟨⟨o, e⟩, _⟩ := T.plive _ q; rw [T.new _ ho] at e; cases e
        · exact q.2 rfl
      · rw [if_neg q] at e
        have := T.vars y b' e
        cases b' with
        | val d => obtain ⟨v, hv', r'⟩ := this; exact ⟨v, hv', r'.sub sub⟩
        | own es =>
          obtain ⟨a', vs', hv', h1, h2, h3, h4⟩ := this
          refine ⟨a', vs', hv', ⟨h1, fun e' => ?_⟩, h2, h3, h4.sub sub⟩
          subst e'; exact T.apart x y ds es _ q hx e hv hv'
    · intro y z ds' es' a' ne hy hz vy vz
      rw [Sto.get_put] at hy hz
      by_cases q : x = y
      · subst q; simp only [if_true] at hy; cases hy
      · by_cases q' : x = z
        · subst q'; simp only [if_true] at hz; cases hz
        · rw [if_neg q] at hy; rw [if_neg q'] at hz
          exact T.apart y z ds' es' a' ne hy hz vy vz
  refine wpAny_mono (h h₀ P _ A s E b a T1) (fun f s' q => ?_) fun _ _ q => q
  obtain ⟨fl, σ', O', m, hf, hr, ho', T'⟩ := q
  refine ⟨fl, σ', O', ?_, hf, hr, fun b hb => (ho' b hb).imp And.left id, T'⟩
  obtain ⟨h', tk, e, k⟩ := m
  exact ⟨h', tk, e, fun b o nb => k b o fun q => nb q.1⟩
end

abbrev NoX : Addr → Prop := fun _ => False

theorem Rp.now {h X v d} (r : Rp h X v d) : Rp h NoX v d := r.sub fun _ q => q.elim
theorem RpAll.now {h X v d} (r : RpAll h X v d) : RpAll h NoX v d := r.sub fun _ q => q.elim
theorem rp_int {h X v i} (r : Rp h X v (.int i)) : ∃ t, v = .int i t := by cases r; exact ⟨_, rfl⟩
theorem rp_str {h X v i} (r : Rp h X v (.str i)) : ∃ t, v = .str i t := by cases r; exact ⟨_, rfl⟩
theorem rp_val {h X v w} (r : Rp h X v (.val w)) : v = w := by cases r <;> rfl
theorem rp_list {h X v ds} (r : Rp h X v (.list ds)) : ∃ a vs, v = .ref a ∧ h.IsList a vs.toArray ∧ ¬ X a ∧ RpAll h X vs ds := by cases r with | list a b c => exact ⟨_, _, rfl, a, b, c⟩
theorem rp_tuple {h X v ds} (r : Rp h X v (.tuple ds)) : ∃ a vs, v = .ref a ∧ IsTup h a vs.toArray ∧ ¬ X a ∧ RpAll h X vs ds := by cases r with | tuple a b c => exact ⟨_, _, rfl, a, b, c⟩
theorem rp_range {h X v a b} (r : Rp h X v (.range a b)) : ∃ r t u w, v = .ref r ∧ IsRange h r a b 1 t u w ∧ ¬ X r := by cases r with | range a b => exact ⟨_, _, _, _, rfl, a, b⟩

def Bas.Here (B : Bas) (h : Heap) : Prop := ∀ b o, B.hB.get? b = some o → h.get? b = some o
theorem Bas.Here.kp {B : Bas} {s s' : Shared} (x : B.Here s.heap) (k : Keeps s s') : B.Here s'.heap := fun b o e => kheap k b o (x b o e)
theorem St.here {B h₀ P env σ O h} (T : St B h₀ P env σ O h) : B.Here h := fun b o e => T.keep b o (T.base b o e)

/-- a test -/
def Tst (B : Bas) (n : Nat) (env : Env) (σ : Sto) (e : Expr) (p : Bool) : Prop :=
  ∀ (h₀ : Heap) (P O : Addr → Prop) (A : Around) (s : Shared) (E : Value → Shared → Prop) (Q : Bool → Shared → Prop), B.Ok → AOk n A → St B h₀ P env σ O s.heap →
    (∀ s', Keeps s s' → Q p s') → wpAny (model B.prog B.w) A (isTrue e env (eval e env)) Q E s
/-- a comparison of data -/
def Cmp (B : Bas) (n : Nat) (op : CmpOp) (a b : D) (p : Bool) : Prop :=
  ∀ (A : Around) (s : Shared) (E : Value → Shared → Prop) (Q : Value → Shared → Prop) (va vb : Value), B.Ok → AOk n A → B.Here s.heap → Rp s.heap NoX va a → Rp s.heap NoX vb b →
    (∀ s', Keeps s s' → Q (.bool p) s') → wpAny (model B.prog B.w) A (compareOp op va vb) Q E s
/-- an operator on data whose value is no object -/
def Bin (B : Bas) (n : Nat) (op : Operator) (a b c : D) : Prop :=
  ∀ (A : Around) (s : Shared) (E : Value → Shared → Prop) (Q : Value → Shared → Prop) (va vb : Value), B.Ok → AOk n A → B.Here s.heap → Rp s.heap NoX va a → Rp s.heap NoX vb b →
    (∀ v s', Keeps s s' → (∀ h X, Rp h X v c) → Q v s') → wpAny (model B.prog B.w) A (binaryOp op va vb) Q E s
/-- truth of a datum -/
def Tru (B : Bas) (n : Nat) (a : D) (p : Bool) : Prop :=
  ∀ (A : Around) (s : Shared) (E : Value → Shared → Prop) (Q : Bool → Shared → Prop) (va : Value), B.Ok → AOk n A → B.Here s.heap → Rp s.heap NoX va a →
    (∀ s', Keeps s s' → Q p s') → wpAny (model B.prog B.w) A (truthy va) Q E s
/-- arguments -/
def EvAs (B : Bas) (n : Nat) (env : Env) (σ : Sto) (es : List Expr) (ds : List D) : Prop :=
  ∀ (h₀ : Heap) (P O : Addr → Prop) (A : Around) (s : Shared) (E : Value → Shared → Prop) (Q : List Value → Shared → Prop) (pos : Pos), B.Ok → AOk n A → St B h₀ P env σ O s.heap →
    (∀ vs s', Keeps s s' → RpAll s'.heap (fun a => P a ∨ O a) vs ds → Q vs s') → wpAny (model B.prog B.w) A (spliced (backTo pos (starEach es env))) Q E s
def EvAsW (B : Bas) (n : Nat) (env : Env) (σ : Sto) (es : List Expr) (ds : List D) : Prop :=
  ∀ (h₀ : Heap) (P O : Addr → Prop) (A : Around) (s : Shared) (E : Value → Shared → Prop) (Q : List Value → Shared → Prop) (pos : Pos), B.Ok → AOk n A → St B h₀ P env σ O s.heap →
    (∀ vs s', Keeps s s' → RpAll s'.heap NoX vs ds → Q vs s') → wpAny (model B.prog B.w) A (spliced (backTo pos (starEach es env))) Q E s

section
variable {B : Bas} {n : Nat} {env : Env} {σ : Sto} {e l r : Expr} {d a b c : D} {p p' : Pos}

theorem ev_int {i : Int} {k : Nat} : Ev B n env σ (.Constant (.int i) k p) (.int i) := fun h₀ P O A s E Q _ _ T q => wpAny_Constant_int (q _ _ (ktok s _) (.int _ _))
theorem ev_bool {i : Bool} {k : Nat} : Ev B n env σ (.Constant (.bool i) k p) (.bool i) := fun h₀ P O A s E Q _ _ T q => by
  rw [eval_Constant]; exact wpAny_pure (q _ _ (krefl s) (.val _ rfl))
theorem ev_none {k : Nat} : Ev B n env σ (.Constant .none k p) .none := fun h₀ P O A s E Q _ _ T q => by
  rw [eval_Constant]; exact wpAny_pure (q _ _ (krefl s) (.val _ rfl))
theorem ev_str {x : Str} {k : Nat} : Ev B n env σ (.Constant (.str x) k p) (.str x) := fun h₀ P O A s E Q _ _ T q => by
  rw [eval_Constant]; exact wpAny_mkText (q _ _ (ktok s _) (.str _ _))

theorem evas_nil : EvAs B n env σ [] [] := fun h₀ P O A s E Q pos _ _ T q => args_nil (q _ _ (krefl s) .nil)
theorem evas_cons {es : List Expr} {ds : List D} (x : Ev B n env σ e d) (xs : EvAs B n env σ es ds) (he : starEach (e :: es) env = (false, eval e env) :: starEach es env := by rfl) : EvAs B n env σ (e :: es) (d :: ds) :=
  fun h₀ P O A s E Q pos b a T q => args_cons (x h₀ P O A s E _ b a T fun v s₁ k r => xs h₀ P O A s₁ E _ pos b a (T.kp k) fun vs s₂ k₂ rs => q _ _ (ktrans k k₂) (.cons (r.keeps (kheap k₂)) rs)) he
theorem evasw_nil : EvAsW B n env σ [] [] := fun h₀ P O A s E Q pos _ _ T q => args_nil (q _ _ (krefl s) .nil)
theorem evasw_cons {es : List Expr} {ds : List D} (x : EvW B n env σ e d) (xs : EvAsW B n env σ es ds) (he : starEach (e :: es) env = (false, eval e env) :: starEach es env := by rfl) : EvAsW B n env σ (e :: es) (d :: ds) :=
  fun h₀ P O A s E Q pos b a T q => args_cons (x h₀ P O A s E _ b a T fun v s₁ k r => xs h₀ P O A s₁ E _ pos b a (T.kp k) fun vs s₂ k₂ rs => q _ _ (ktrans k k₂) (.cons (r.keeps (kheap k₂)) rs)) he

theorem ev_bin {op : Operator} (x : EvW B n env σ l a) (y : EvW B n env σ r b) (z : Bin B n op a b c) : Ev B n env σ (.BinOp l op r p) c :=
  fun h₀ P O A s E Q bo ao T q => wpAny_BinOp (x h₀ P O A s E _ bo ao T fun va s₁ k₁ r₁ => y h₀ P O A s₁ E _ bo ao (T.kp k₁) fun vb s₂ k₂ r₂ =>
    z A s₂ E Q va vb bo ao ((T.kp k₁).kp k₂).here (r₁.keeps (kheap k₂)) r₂ fun v s₃ k₃ r₃ => q v s₃ (ktrans (ktrans k₁ k₂) k₃) (r₃ _ _))
theorem ev_cmp {op : CmpOp} {t : Bool} (x : EvW B n env σ l a) (y : EvW B n env σ r b) (z : Cmp B n op a b t) (hm : behindInMarks op r = false := by with_unfolding_all rfl) : Ev B n env σ (.Compare l [op] [r] p) (.bool t) :=
  fun h₀ P O A s E Q bo ao T q => wpAny_Compare1 (x h₀ P O A s E _ bo ao T fun va s₁ k₁ r₁ => y h₀ P O A s₁ E _ bo ao (T.kp k₁) fun vb s₂ k₂ r₂ =>
    z A s₂ E Q va vb bo ao ((T.kp k₁).kp k₂).here (r₁.keeps (kheap k₂)) r₂ fun s₃ k₃ => q _ s₃ (ktrans (ktrans k₁ k₂) k₃) (.val _ rfl)) hm
theorem tst_cmp {op : CmpOp} {t : Bool} (x : EvW B n env σ l a) (y : EvW B n env σ r b) (z : Cmp B n op a b t) (hm : behindInMarks op r = false := by with_unfolding_all rfl) : Tst B n env σ (.Compare l [op] [r] p) t :=
  fun h₀ P O A s E Q bo ao T q => wpAny_isTrue_Compare1 (x h₀ P O A s E _ bo ao T fun va s₁ k₁ r₁ => y h₀ P O A s₁ E _ bo ao (T.kp k₁) fun vb s₂ k₂ r₂ =>
    z A s₂ E _ va vb bo ao ((T.kp k₁).kp k₂).here (r₁.keeps (kheap k₂)) r₂ fun s₃ k₃ => wpAny_truthy_bool (q s₃ (ktrans (ktrans k₁ k₂) k₃))) hm
theorem tst_ev {t : Bool} (x : EvW B n env σ e d) (y : Tru B n d t) (he : ∀ whole, isTrue e env whole = (do let v ← whole; standAt e.pos; holding [v] (truthy v)) := by intro _; rfl) : Tst B n env σ e t :=
  fun h₀ P O A s E Q bo ao T q => isTrue_plain (x h₀ P O A s E _ bo ao T fun va s₁ k₁ r₁ => y A s₁ E _ va bo ao (T.kp k₁).here r₁ fun s₂ k₂ => q s₂ (ktrans k₁ k₂)) (he _)
theorem tst_not {t : Bool} (x : Tst B n env σ e t) : Tst B n env σ (.UnaryOp .Not e p) (!t) :=
  fun h₀ P O A s E Q bo ao T q => isTrue_not (x h₀ P O A s E _ bo ao T fun s' k => q s' k)
theorem tst_and {e₁ e₂ : Expr} {t u : Bool} (x : Tst B n env σ e₁ t) (y : t = true → Tst B n env σ e₂ u) : Tst B n env σ (.BoolOp .And [e₁, e₂] p) (t && u) :=
  fun h₀ P O A s E Q bo ao T q => isTrue_and (x h₀ P O A s E _ bo ao T fun s' k => by
    cases t with
    | false => exact q s' k
    | true => exact isTrue_and (y rfl h₀ P O A s' E _ bo ao (T.kp k) fun s'' k' => by
        cases u with
        | false => exact q s'' (ktrans k k')
        | true => exact isTrue_and_nil (q s'' (ktrans k k'))))
theorem tst_or {e₁ e₂ : Expr} {t u : Bool} (x : Tst B n env σ e₁ t) (y : t = false → Tst B n env σ e₂ u) : Tst B n env σ (.BoolOp .Or [e₁, e₂] p) (t || u) :=
  fun h₀ P O A s E Q bo ao T q => isTrue_or (x h₀ P O A s E _ bo ao T fun s' k => by
    cases t with
    | true => exact q s' k
    | false => exact isTrue_or (y rfl h₀ P O A s' E _ bo ao (T.kp k) fun s'' k' => by
        cases u with
        | true => exact q s'' (ktrans k k')
        | false => exact isTrue_or_nil (q s'' (ktrans k k'))))
theorem tst_eq {t u : Bool} (x : Tst B n env σ e t) (h : t = u) : Tst B n env σ e u := h ▸ x
theorem ev_eq {d'} (x : Ev B n env σ e d) (h : d = d') : Ev B n env σ e d' := h ▸ x

theorem ev_ifexp {t : Bool} {e₁ e₂ : Expr} (x : Tst B n env σ e t) (y : t = true → Ev B n env σ e₁ d) (z : t = false → Ev B n env σ e₂ d) : Ev B n env σ (.IfExp e e₁ e₂ p) d :=
  fun h₀ P O A s E Q bo ao T q => IfExp_ (x h₀ P O A s E _ bo ao T fun s' k => by
    cases t with
    | false => exact z rfl h₀ P O A s' E _ bo ao (T.kp k) fun v s'' k' r => q v s'' (ktrans k k') r
    | true => exact y rfl h₀ P O A s' E _ bo ao (T.kp k) fun v s'' k' r => q v s'' (ktrans k k') r)
/-- and, or of bools -/
theorem ev_and {e₁ e₂ : Expr} {t u : Bool} (x : Ev B n env σ e₁ (.bool t)) (y : t = true → Ev B n env σ e₂ (.bool u)) : Ev B n env σ (.BoolOp .And [e₁, e₂] p) (.bool (t && u)) :=
  fun h₀ P O A s E Q bo ao T q => BoolOp_and (x h₀ P O A s E _ bo ao T fun v s' k r => by
    cases rp_val r
    refine wpAny_truthy_bool ?_
    cases t with
    | false => exact q _ s' k (.val _ rfl)
    | true => exact BoolOp_one (y rfl h₀ P O A s' E _ bo ao (T.kp k) fun v s'' k' r' => q v s'' (ktrans k k') r'))
theorem ev_or {e₁ e₂ : Expr} {t u : Bool} (x : Ev B n env σ e₁ (.bool t)) (y : t = false → Ev B n env σ e₂ (.bool u)) : Ev B n env σ (.BoolOp .Or [e₁, e₂] p) (.bool (t || u)) :=
  fun h₀ P O A s E Q bo ao T q => BoolOp_or (x h₀ P O A s E _ bo ao T fun v s' k r => by
    cases rp_val r
    refine wpAny_truthy_bool ?_
    cases t with
    | true => exact q _ s' k (.val _ rfl)
    | false => exact BoolOp_one (y rfl h₀ P O A s' E _ bo ao (T.kp k) fun v s'' k' r' => q v s'' (ktrans k k') r'))
theorem ev_not {t : Bool} (x : EvW B n env σ e d) (y : Tru B n d t) : Ev B n env σ (.UnaryOp .Not e p) (.bool (!t)) :=
  fun h₀ P O A s E Q bo ao T q => UnaryOp_ (x h₀ P O A s E _ bo ao T fun v s' k r => not_of (y A s' E _ v bo ao (T.kp k).here r fun s'' k' => q _ s'' (ktrans k k') (.val _ rfl)))
theorem ev_neg {i : Int} (x : EvW B n env σ e (.int i)) : Ev B n env σ (.UnaryOp .USub e p) (.int (-i)) :=
  fun h₀ P O A s E Q bo ao T q => UnaryOp_ (x h₀ P O A s E _ bo ao T fun v s' k r => by
    obtain ⟨t, rfl⟩ := rp_int r
    exact neg_int (q _ _ (ktrans k (ktok _ _)) (.int _ _)))
theorem ev_inv {i : Int} (x : EvW B n env σ e (.int i)) : Ev B n env σ (.UnaryOp .Invert e p) (.int (Builtin.bitNot i)) :=
  fun h₀ P O A s E Q bo ao T q => UnaryOp_ (x h₀ P O A s E _ bo ao T fun v s' k r => by
    obtain ⟨t, rfl⟩ := rp_int r
    exact invert_int (q _ _ (ktrans k (ktok _ _)) (.int _ _)))
end

section
variable {B : Bas} {n : Nat} {i j : Int}
theorem tru_bool {b : Bool} : Tru B n (.bool b) b := fun A s E Q va bo ao hh r q => by cases rp_val r; exact wpAny_truthy_bool (q s (krefl s))
theorem tru_int : Tru B n (.int i) (i != 0) := fun A s E Q va bo ao hh r q => by obtain ⟨t, rfl⟩ := rp_int r; exact truthy_int (q s (krefl s))
theorem bin_add : Bin B n .Add (.int i) (.int j) (.int (i + j)) := fun A s E Q va vb bo ao hh r r' q => by
  obtain ⟨t, rfl⟩ := rp_int r; obtain ⟨u, rfl⟩ := rp_int r'; exact add_int (q _ _ (ktok _ _) fun _ _ => .int _ _)
theorem bin_sub : Bin B n .Sub (.int i) (.int j) (.int (i - j)) := fun A s E Q va vb bo ao hh r r' q => by
  obtain ⟨t, rfl⟩ := rp_int r; obtain ⟨u, rfl⟩ := rp_int r'; exact sub_int (q _ _ (ktok _ _) fun _ _ => .int _ _)
theorem bin_mul (hm : IntMulOk i j) : Bin B n .Mult (.int i) (.int j) (.int (i * j)) := fun A s E Q va vb bo ao hh r r' q => by
  obtain ⟨t, rfl⟩ := rp_int r; obtain ⟨u, rfl⟩ := rp_int r'; exact mul_int (q _ _ (ktok _ _) fun _ _ => .int _ _) hm
theorem bin_mod (hj : j ≠ 0) : Bin B n .Mod (.int i) (.int j) (.int (i.fmod j)) := fun A s E Q va vb bo ao hh r r' q => by
  obtain ⟨t, rfl⟩ := rp_int r; obtain ⟨u, rfl⟩ := rp_int r'; exact mod_int' hj (q _ _ (ktok _ _) fun _ _ => .int _ _)
theorem noPylong {x y : Int} (h : y.natAbs < 2 ^ 64) : Builtin.divisionGoesByPylong x y = false := by
  unfold Builtin.divisionGoesByPylong
  have h2 : y.natAbs.log2 < 64 := by
    by_cases hz : y.natAbs = 0
    · rw [hz]; decide
    · exact (Nat.log2_lt hz).mpr h
  have : ¬ ((if (y == 0) = true then 0 else y.natAbs.log2 / 30 + 1) > 300) := by
    split
    · omega
    · omega
  simp only [this, decide_false, Bool.false_and]
theorem bin_div (hj : j ≠ 0) (hs : j.natAbs < 2 ^ 64) : Bin B n .FloorDiv (.int i) (.int j) (.int (i.fdiv j)) := fun A s E Q va vb bo ao hh r r' q => by
  obtain ⟨t, rfl⟩ := rp_int r; obtain ⟨u, rfl⟩ := rp_int r'; exact floordiv_int hj (q _ _ (ktok _ _) fun _ _ => .int _ _) (.inl (noPylong hs))
theorem bin_shr (hj : 0 ≤ j) : Bin B n .RShift (.int i) (.int j) (.int (i.fdiv (2 ^ j.toNat))) := fun A s E Q va vb bo ao hh r r' q => by
  obtain ⟨t, rfl⟩ := rp_int r; obtain ⟨u, rfl⟩ := rp_int r'; exact rshift_int hj (q _ _ (ktok _ _) fun _ _ => .int _ _)
theorem bin_and : Bin B n .BitAnd (.int i) (.int j) (.int (Builtin.bitAnd i j)) := fun A s E Q va vb bo ao hh r r' q => by
  obtain ⟨t, rfl⟩ := rp_int r; obtain ⟨u, rfl⟩ := rp_int r'; exact and_int (q _ _ (ktok _ _) fun _ _ => .int _ _)
theorem bin_pow (hj : 0 ≤ j) (h2 : j ≤ 1000000) (ha : i.natAbs < 2 ^ 64) : Bin B n .Pow (.int i) (.int j) (.int (i ^ j.toNat)) := fun A s E Q va vb bo ao hh r r' q => by
  obtain ⟨t, rfl⟩ := rp_int r; obtain ⟨u, rfl⟩ := rp_int r'; exact pow_int_small hj h2 ha (q _ _ (ktok _ _) fun _ _ => .int _ _)
theorem cmp_eq : Cmp B n .Eq (.int i) (.int j) (i == j) := fun A s E Q va vb bo ao hh r r' q => by
  obtain ⟨t, rfl⟩ := rp_int r; obtain ⟨u, rfl⟩ := rp_int r'; exact eq_int (q _ (krefl _))
theorem cmp_ne : Cmp B n .NotEq (.int i) (.int j) (i != j) := fun A s E Q va vb bo ao hh r r' q => by
  obtain ⟨t, rfl⟩ := rp_int r; obtain ⟨u, rfl⟩ := rp_int r'; exact ne_int (q _ (krefl _))
theorem cmp_lt : Cmp B n .Lt (.int i) (.int j) (decide (i < j)) := fun A s E Q va vb bo ao hh r r' q => by
  obtain ⟨t, rfl⟩ := rp_int r; obtain ⟨u, rfl⟩ := rp_int r'; exact lt_int (q _ (krefl _))
theorem cmp_le : Cmp B n .LtE (.int i) (.int j) (decide (i ≤ j)) := fun A s E Q va vb bo ao hh r r' q => by
  obtain ⟨t, rfl⟩ := rp_int r; obtain ⟨u, rfl⟩ := rp_int r'; exact le_int (q _ (krefl _))
theorem cmp_gt : Cmp B n .Gt (.int i) (.int j) (decide (j < i)) := fun A s E Q va vb bo ao hh r r' q => by
  obtain ⟨t, rfl⟩ := rp_int r; obtain ⟨u, rfl⟩ := rp_int r'; exact gt_int (q _ (krefl _))
theorem cmp_ge : Cmp B n .GtE (.int i) (.int j) (decide (j ≤ i)) := fun A s E Q va vb bo ao hh r r' q => by
  obtain ⟨t, rfl⟩ := rp_int r; obtain ⟨u, rfl⟩ := rp_int r'; exact ge_int (q _ (krefl _))
end

section
variable {B : Bas} {n : Nat} {env : Env} {σ : Sto} {e l r : Expr} {R : Fl → Sto → Prop} {p : Pos}
theorem ex_if {t : Bool} {body orelse : List Stmt} (x : Tst B n env σ e t) (y : t = true → Ex B n env σ body R) (z : t = false → Ex B n env σ orelse R) : Ex1 B n env σ (.If e body orelse p) R := by
  intro h₀ P O A s E bo ao T
  refine wpAny_If (x h₀ P O A s E _ bo ao T fun s' k => ?_)
  cases t with
  | false => exact wpAny_mono (z rfl h₀ P O A s' E bo ao (T.kp k)) (fun _ _ q => q.trans (Mov.of_keeps k) fun _ q => .inl q) fun _ _ q => q
  | true => exact wpAny_mono (y rfl h₀ P O A s' E bo ao (T.kp k)) (fun _ _ q => q.trans (Mov.of_keeps k) fun _ q => .inl q) fun _ _ q => q

/-- list and tuple displays -/
theorem fresh_kp {s s' : Shared} (k : Keeps s s') : s.heap.get? s'.heap.objs.size = none := by
  cases e : s.heap.get? s'.heap.objs.size with
  | none => rfl
  | some o => exact absurd (Heap.lt_size (kheap k _ _ e)) (Nat.lt_irrefl _)
theorem szLine {k : Nat} (h : k ≤ 1000000) : k ≤ sizeLine := Nat.le_trans h (by decide)
/-- what was known of the parts holds of them beside a new address -/
theorem RpAll.beside {h : Heap} {P O : Addr → Prop} {vs ds} (r : RpAll h (fun a => P a ∨ O a) vs ds) (o : Obj) : RpAll (h.push o) (fun b => P b ∨ O b ∨ b = h.objs.size) vs ds :=
  r.mono (fun a o _ e => Heap.get?_push_of_some _ e) fun a o n e q => by
    rcases q with q | q | q
    · exact n (.inl q)
    · exact n (.inr q)
    · subst q; exact absurd (Heap.lt_size e) (Nat.lt_irrefl _)
theorem wp_newList {B : Bas} {n : Nat} {h₀ : Heap} {P O : Addr → Prop} {env : Env} {σ : Sto} {A : Around} {s s' : Shared} {E : Value → Shared → Prop} {Q : Value → Shared → Prop} {vs : List Value} {ds : List D}
    (k : Keeps s s') (r : RpAll s'.heap (fun a => P a ∨ O a) vs ds) (hsz : ds.length ≤ 1000000)
    (q : ∀ a vs s', Keeps s s' → s.heap.get? a = none → s'.heap.PlainList a vs.toArray → RpAll s'.heap (fun b => P b ∨ O b ∨ b = a) vs ds → Q (.ref a) s') : wpAny (model B.prog B.w) A (newList vs) Q E s' :=
  wpAny_newObj_type (q _ vs _ (ktrans k (kpush' _ _)) (fresh_kp k) ⟨_, Heap.get?_push_size _ rfl⟩ (r.beside _)) (by show vs.toArray.size ≤ sizeLine; rw [List.size_toArray, r.length]; exact szLine hsz)
theorem evn_list {es : List Expr} {ds : List D} (x : EvAs B n env σ es ds) (hsz : ds.length ≤ 1000000) : EvN B n env σ (.List es p) ds :=
  fun h₀ P O A s E Q bo ao T q => List_ (x h₀ P O A s E _ p bo ao T fun vs s' k r => wp_newList (n := n) (h₀ := h₀) (env := env) (σ := σ) k r hsz q)
theorem ev_tuple {es : List Expr} {ds : List D} {i : Nat} (x : EvAs B n env σ es ds) (hsz : ds.length ≤ 1000000) : Ev B n env σ (.Tuple es i p) (.tuple ds) :=
  fun h₀ P O A s E Q bo ao T q => Tuple_ (x h₀ P O A s E _ p bo ao T fun vs s' k r => wpAny_newObj_type
    (q _ _ (ktrans k (kpush' _ _)) (.tuple ⟨_, Heap.get?_push_size _ rfl, rfl, 0, rfl⟩ ((T.kp k).notX' (Nat.le_refl _)) (r.keeps fun a o e => Heap.get?_push_of_some _ e)))
    (by show vs.toArray.size ≤ sizeLine; rw [List.size_toArray, r.length]; exact szLine hsz))
end

section
variable {B : Bas} {n : Nat} {env : Env} {σ : Sto} {e l r i : Expr} {p : Pos}
/-- the place k of a sequence of m items -/
def place (k : Int) (m : Nat) : Nat := if k < 0 then (k + m).toNat else k.toNat
theorem seqIndex_place {k : Int} {m : Nat} (h : -(m : Int) ≤ k) (h' : k < m) : seqIndex? k m = some (place k m) := by
  unfold place
  split
  · exact seqIndex_neg ‹_› h
  · rename_i h0
    unfold seqIndex?
    simp only [h0, if_false]
    rw [if_pos (by simp only [Bool.and_eq_true, decide_eq_true_eq]; omega)]
/-- an item of a list, of a tuple -/
theorem wp_item {A : Around} {s : Shared} {E : Value → Shared → Prop} {Q : Value → Shared → Prop} {a : Addr} {vs : List Value} {k : Int} {t : Tok} {v : Value} (hl : s.heap.IsList a vs.toArray)
    (h1 : -(vs.length : Int) ≤ k) (h2 : k < vs.length) (hsz : vs.length ≤ 1000000) (hv : vs[place k vs.length]? = some v) (q : Q v s) : wpAny (model B.prog B.w) A (getItem (.ref a) (.int k t)) Q E s := by
  unfold place at hv
  by_cases h0 : k < 0
  · rw [if_pos h0] at hv
    exact wpAny_getItem_list_neg hl h0 (by simpa using h1) (by omega) (by simpa using hv) q
  · rw [if_neg h0] at hv
    exact wpAny_getItem_list hl (by omega) (by omega) (by simpa using hv) q

theorem ev_item {ds : List D} {k : Int} {d : D} (x : Ev B n env σ l (.list ds)) (y : EvW B n env σ i (.int k)) (h1 : -(ds.length : Int) ≤ k) (h2 : k < ds.length) (hsz : ds.length ≤ 1000000) (hd : ds[place k ds.length]? = some d)
    (hs : ∀ a u, subscripted i false (.ref a) (.int k u) = operate [.ref a, .int k u] (getItem (.ref a) (.int k u)) := by intro _ _; with_unfolding_all rfl) : Ev B n env σ (.Subscript l i p) d :=
  fun h₀ P O A s E Q bo ao T q => Subscript_ (x h₀ P O A s E _ bo ao T fun v s₁ k₁ r₁ => y h₀ P O A s₁ E _ bo ao (T.kp k₁) fun w s₂ k₂ r₂ => by
    obtain ⟨t, rfl⟩ := rp_int r₂
    obtain ⟨a, vs, rfl, hl, ha, rs⟩ := rp_list (r₁.keeps (kheap k₂))
    have hlen := rs.length
    obtain ⟨v, hv, rv⟩ := rs.get' hd
    exact tail_any hl.typeIs slot_list_getitem.lookup (wp_item hl (by omega) (by omega) (by omega) (by rw [hlen]; exact hv) (q v s₂ (ktrans k₁ k₂) rv)) (hs _ _))
theorem ev_itemO {ds : List D} {k : Int} {d : D} {z : String} {p' : Pos} (x : σ.get z = some (.own ds)) (y : EvW B n env σ i (.int k)) (h1 : -(ds.length : Int) ≤ k) (h2 : k < ds.length) (hsz : ds.length ≤ 1000000) (hd : ds[place k ds.length]? = some d)
    (hs : ∀ a u, subscripted i false (.ref a) (.int k u) = operate [.ref a, .int k u] (getItem (.ref a) (.int k u)) := by intro _ _; with_unfolding_all rfl)
    (z1 : z ≠ "__debug__" := by decide) (z2 : z ≠ "__classdict__" := by decide) : Ev B n env σ (.Subscript (.Name (S z) p') i p) d :=
  fun h₀ P O A s E Q bo ao T q => Subscript_ (by
    obtain ⟨a, vs, hv, ho, hne, hl, rs⟩ := T.vars z _ x
    refine wp_name T hv (y h₀ P O A s E _ bo ao T fun w s₂ k₂ r₂ => ?_) (plainName z1) (plainName z2)
    obtain ⟨t, rfl⟩ := rp_int r₂
    have hlen := rs.length
    obtain ⟨v, hv, rv⟩ := rs.get' hd
    have hl' : s₂.heap.IsList a vs.toArray := hl.isList.at fun o e => kheap k₂ _ o e
    exact tail_any hl'.typeIs slot_list_getitem.lookup (wp_item hl' (by omega) (by omega) (by omega) (by rw [hlen]; exact hv) (q v s₂ k₂ (rv.keeps (kheap k₂)))) (hs _ _))
theorem ev_itemT {ds : List D} {k : Int} {d : D} (x : Ev B n env σ l (.tuple ds)) (y : EvW B n env σ i (.int k)) (h1 : -(ds.length : Int) ≤ k) (h2 : k < ds.length) (hsz : ds.length ≤ 1000000) (hd : ds[place k ds.length]? = some d)
    (hs : ∀ a u, subscripted i false (.ref a) (.int k u) = operate [.ref a, .int k u] (getItem (.ref a) (.int k u)) := by intro _ _; with_unfolding_all rfl) : Ev B n env σ (.Subscript l i p) d :=
  fun h₀ P O A s E Q bo ao T q => Subscript_ (x h₀ P O A s E _ bo ao T fun v s₁ k₁ r₁ => y h₀ P O A s₁ E _ bo ao (T.kp k₁) fun w s₂ k₂ r₂ => by
    obtain ⟨t, rfl⟩ := rp_int r₂
    obtain ⟨a, vs, rfl, hl, ha, rs⟩ := rp_tuple (r₁.keeps (kheap k₂))
    have hlen := rs.length
    obtain ⟨v, hv, rv⟩ := rs.get' hd
    exact tail_any hl.typeIs slot_tuple_getitem.lookup (getItem_tuple hl (by omega) (by omega) (by simp only [List.size_toArray]; rw [hlen]; exact seqIndex_place h1 h2) (by simpa using hv) (q v s₂ (ktrans k₁ k₂) rv)) (hs _ _))

/-- names of the top, of the built-ins -/
theorem wp_glob {h₀ : Heap} {P O : Addr → Prop} {A : Around} {s : Shared} {E : Value → Shared → Prop} {Q : Value → Shared → Prop} {x : String} {v : Value} (bo : B.Ok) (T : St B h₀ P env σ O s.heap) (hx : env.kindOf (S x) = some .globalImplicit)
    (hv : B.mg (S x) = some v) (h : Q v s) (hd : x ≠ "__debug__") : wpAny (model B.prog B.w) A (eval (.Name (S x) p) env) Q E s :=
  Name_function_global T.ok.kind hx (loadGlobal_global (by rw [T.ok.globals]; exact bo.g.keeps T.here) hv h) (plainName hd)
theorem wp_boot {h₀ : Heap} {P O : Addr → Prop} {A : Around} {s : Shared} {E : Value → Shared → Prop} {Q : Value → Shared → Prop} {x : String} {v : Value} (bo : B.Ok) (T : St B h₀ P env σ O s.heap) (hx : env.kindOf (S x) = some .globalImplicit)
    (hm : B.mg (S x) = none) (hv : bootBuiltins (S x) = some v) (h : Q v s) (hd : x ≠ "__debug__") (hn : x ≠ "__name__") : wpAny (model B.prog B.w) A (eval (.Name (S x) p) env) Q E s :=
  Name_function_global T.ok.kind hx (loadGlobal_builtin (by rw [T.ok.globals]; exact bo.g.keeps T.here) hm (by rw [T.ok.builtins]; exact bo.b.keeps T.here) ((bo.builtins _ (fun q => hn (S_inj q))).trans hv) h) (plainName hd)

structure BootName (B : Bas) (env : Env) (x : String) (v : Value) : Prop where
  kind : env.kindOf (S x) = some .globalImplicit
  miss : B.mg (S x) = none
  boot : bootBuiltins (S x) = some v
  d : x ≠ "__debug__"
  n : x ≠ "__name__"
theorem ev_boot {x : String} {v : Value} (hx : BootName B env x v) (hv : byVal v = true) : Ev B n env σ (.Name (S x) p) (.val v) :=
  fun h₀ P O A s E Q bo ao T q => wp_boot bo T hx.kind hx.miss hx.boot (q _ _ (krefl s) (.val _ hv)) hx.d hx.n

/-- a built-in function's value, no object -/
def Bi (B : Bas) (n : Nat) (f : Value) (ds : List D) (d : D) : Prop :=
  ∀ (A : Around) (s : Shared) (E : Value → Shared → Prop) (Q : Value → Shared → Prop) (vs : List Value), B.Ok → AOk n A → B.Here s.heap → RpAll s.heap NoX vs ds →
    (∀ v s', Keeps s s' → (∀ h X, Rp h X v d) → Q v s') → wpAny (model B.prog B.w) A (call f vs) Q E s
theorem ev_builtin {x id : String} {es : List Expr} {ds : List D} {d : D} {p' : Pos} (hx : BootName B env x (.builtin id)) (a : EvAsW B n env σ (e :: es) ds) (f : Bi B n (.builtin id) ds d)
    (he : starEach (e :: es) env = (false, eval e env) :: starEach es env := by rfl) (hp : (backTo p (starEach es env)).any (·.1) = false := by rfl)
    (hc : eval (.Call (.Name (S x) p') (e :: es) [] p) env = (do callWith p (← eval (.Name (S x) p') env) [] (backTo p (starEach (e :: es) env)) (backToKw p (keywordEach [] env))) := by rfl) : Ev B n env σ (.Call (.Name (S x) p') (e :: es) [] p) d :=
  fun h₀ P O A s E Q bo ao T q => Call_ (wp_boot bo T hx.kind hx.miss hx.boot (callWith_builtin1 (a h₀ P O A s E _ p bo ao T fun vs s₁ k r => f A s₁ E _ vs bo ao (T.kp k).here r fun v s₂ k₂ r₂ => q v s₂ (ktrans k k₂) (r₂ _ _)) he hp) hx.d hx.n) hc

theorem bi_len {ds : List D} (hsz : ds.length ≤ 1000000) : Bi B n (.builtin "len") [.list ds] (.int ds.length) := fun A s E Q vs bo ao hh r q => by
  cases r with | cons r rn =>
  cases rn
  obtain ⟨a, vs, rfl, hl, _, rs⟩ := rp_list r
  have hlen := rs.length
  refine len_list hl (by simp only [List.size_toArray]; omega) (q _ _ (ktok _ _) fun _ _ => ?_)
  simp only [List.size_toArray, hlen]; exact .int _ _
theorem bi_lenT {ds : List D} (hsz : ds.length ≤ 1000000) : Bi B n (.builtin "len") [.tuple ds] (.int ds.length) := fun A s E Q vs bo ao hh r q => by
  cases r with | cons r rn =>
  cases rn
  obtain ⟨a, vs, rfl, hl, _, rs⟩ := rp_tuple r
  have hlen := rs.length
  refine len_tuple hl (by simp only [List.size_toArray]; omega) (q _ _ (ktok _ _) fun _ _ => ?_)
  simp only [List.size_toArray, hlen]; exact .int _ _
theorem bi_abs {i : Int} : Bi B n (.builtin "abs") [.int i] (.int (if i < 0 then -i else i)) := fun A s E Q vs bo ao hh r q => by
  cases r with | cons r rn =>
  cases rn
  obtain ⟨t, rfl⟩ := rp_int r
  exact call_abs_int fun u tk => q _ _ (ktok _ _) fun _ _ => .int _ _
end

mutual
theorem Rp.stepX {h h' : Heap} {X X' : Addr → Prop} (hk : ∀ a o, ¬ X a → ¬ IterObj o → h.get? a = some o → h'.get? a = some o) (hx : ∀ a o, ¬ X a → h.get? a = some o → ¬ X' a) : ∀ {v d}, Rp h X v d → Rp h' X' v d
  | _, _, .int i t => .int i t
  | _, _, .str x t => .str x t
  | _, _, .val v e => .val v e
  | _, _, .fn a o f ho hd hn => .fn a o f (hk _ _ hn (by rintro ⟨nm, vs, _, e, _⟩; rw [hd] at e; cases e) ho) hd (hx _ _ hn ho)
  | _, _, .tuple ht hn hr => .tuple (by obtain ⟨o, ho, hc, n, hd⟩ := ht; exact ⟨o, hk _ _ hn (by rintro ⟨nm, vs, _, e, _⟩; rw [hd] at e; cases e) ho, hc, n, hd⟩) (let ⟨_, ho, _⟩ := ht; hx _ _ hn ho) (RpAll.stepX hk hx hr)
  | _, _, .list ht hn hr => .list (by obtain ⟨o, ho, hc, n, hd⟩ := ht; exact ⟨o, hk _ _ hn (by rintro ⟨nm, vs, _, e, _⟩; rw [hd] at e; cases e) ho, hc, n, hd⟩) (let ⟨_, ho, _⟩ := ht; hx _ _ hn ho) (RpAll.stepX hk hx hr)
  | _, _, .range ht hn => .range (hk _ _ hn (by rintro ⟨nm, vs, c, _, e⟩; cases c; exact e rfl) ht) (hx _ _ hn ht)
  | _, _, .flt b t => .flt b t
  | _, _, .obj ho hp hi hn => .obj (hk _ _ hn hi ho) hp hi (hx _ _ hn ho)
theorem RpAll.stepX {h h' : Heap} {X X' : Addr → Prop} (hk : ∀ a o, ¬ X a → ¬ IterObj o → h.get? a = some o → h'.get? a = some o) (hx : ∀ a o, ¬ X a → h.get? a = some o → ¬ X' a) : ∀ {vs ds}, RpAll h X vs ds → RpAll h' X' vs ds
  | _, _, .nil => .nil
  | _, _, .cons a r => .cons (Rp.stepX hk hx a) (RpAll.stepX hk hx r)
end
theorem Rp.step {h h' : Heap} {X : Addr → Prop} (hk : ∀ a o, ¬ IterObj o → h.get? a = some o → h'.get? a = some o) {v d} (r : Rp h X v d) : Rp h' X v d := r.stepX (fun a o _ => hk a o) fun _ _ n _ => n
theorem RpAll.step {h h' : Heap} {X : Addr → Prop} (hk : ∀ a o, ¬ IterObj o → h.get? a = some o → h'.get? a = some o) {v d} (r : RpAll h X v d) : RpAll h' X v d := r.stepX (fun a o _ => hk a o) fun _ _ n _ => n

section
variable {B : Bas} {h₀ h h' : Heap} {P O : Addr → Prop} {env : Env} {σ : Sto}
theorem ns_step {a m} (hk : ∀ a o, ¬ IterObj o → h.get? a = some o → h'.get? a = some o) (n : h.Ns a m) : h'.Ns a m := by
  obtain ⟨o, es, ep, e, d, r⟩ := n
  exact ⟨o, es, ep, hk _ _ (by rintro ⟨nm, vs, _, e, _⟩; rw [d] at e; cases e) e, d, r⟩
theorem cell_step {a m} (hk : ∀ a o, ¬ IterObj o → h.get? a = some o → h'.get? a = some o) (n : h.IsCell a m) : h'.IsCell a m := by
  obtain ⟨o, e, d⟩ := n
  exact ⟨o, hk _ _ (by rintro ⟨nm, vs, _, e, _⟩; rw [d] at e; cases e) e, d⟩
theorem plist_step {a m} (hk : ∀ a o, ¬ IterObj o → h.get? a = some o → h'.get? a = some o) (n : h.PlainList a m) : h'.PlainList a m := by
  obtain ⟨k, e⟩ := n
  exact ⟨k, hk _ _ (by rintro ⟨nm, vs, _, e, _⟩; cases e) e⟩
theorem list_step {a m} (hk : ∀ a o, ¬ IterObj o → h.get? a = some o → h'.get? a = some o) (n : h.IsList a m) : h'.IsList a m := by
  obtain ⟨o, e, c, k, d⟩ := n
  exact ⟨o, hk _ _ (by rintro ⟨nm, vs, _, e, _⟩; rw [d] at e; cases e) e, c, k, d⟩
theorem var_step {x v} (hk : ∀ a o, ¬ IterObj o → h.get? a = some o → h'.get? a = some o) (y : VarIs env h x v) : VarIs env h' x v := by
  rcases y with ⟨k, m, n, e⟩ | ⟨k, c, l, e⟩
  · exact .inl ⟨k, m, ns_step hk n, e⟩
  · exact .inr ⟨k, c, l, cell_step hk e⟩
/-- an iterator goes on: the frame stands as it stood -/
theorem St.step (T : St B h₀ P env σ O h) (hk : ∀ a o, ¬ IterObj o → h.get? a = some o → h'.get? a = some o) (hb : ∀ b o, h₀.get? b = some o → h'.get? b = some o) (ho : ∀ a, O a → ∃ o, h'.get? a = some o) : St B h₀ P env σ O h' where
  base := T.base
  keep := hb
  plive := T.plive
  live := ho
  new := T.new
  ok := T.ok
  loc := T.loc
  ns := let ⟨m, n⟩ := T.ns; ⟨m, ns_step hk n⟩
  cells := fun x c l => let ⟨⟨v, e⟩, f⟩ := T.cells x c l; ⟨⟨v, cell_step hk e⟩, f⟩
  vars := fun x b e => by
    have := T.vars x b e
    cases b with
    | val d => obtain ⟨v, hv, r⟩ := this; exact ⟨v, var_step hk hv, r.step hk⟩
    | own ds => obtain ⟨a, vs, hv, h1, h2, h3, h4⟩ := this; exact ⟨a, vs, var_step hk hv, h1, h2, plist_step hk h3, h4.step hk⟩
  apart := fun x y ds es a ne hx hy vx vy => by
    obtain ⟨v, a1⟩ := (T.vars x _ hx).var
    obtain ⟨v', a2⟩ := (T.vars y _ hy).var
    have e1 := (var_step hk a1).fn vx; have e2 := (var_step hk a2).fn vy
    subst e1; subst e2
    exact T.apart x y ds es a ne hx hy a1 a2
end

structure Iter (B : Bas) (A : Around) (I : Addr) (fp wr : List Addr) (m : Nat) (Pv : Nat → Value → Prop) (Si : Nat → Heap → Prop) : Prop where
  W : Walks B.prog B.w A I fp wr m Pv Si
  go : ∀ i (s : Shared) target v (Q : Unit → Shared → Prop) (E : Value → Shared → Prop), Si i s.heap → Q () s → wpAny (model B.prog B.w) A (letOwnedTupleGo target (.ref I) v) Q E s
  live : ∀ i h, Si i h → ∀ b ∈ fp, ∃ o, h.get? b = some o
  kind : ∀ i h, Si i h → ∀ b ∈ wr, ∃ o, h.get? b = some o ∧ IterObj o

theorem wp_letGo {M : Model} {A : Around} {E : Value → Shared → Prop} {s : Shared} {Q : Unit → Shared → Prop} {target : Expr} {I : Addr} {v : Value} {o : Obj} {nm : String} {vs : Array Value} (ho : s.heap.get? I = some o) (hc : o.cls = .type nm)
    (hd : o.data = .fields vs) (hn : ["enumerate", "zip", "dict_itemiterator", "dict_reverseitemiterator", "odict_iterator", "itertools.zip_longest", "itertools.pairwise"].contains nm = false) (h : Q () s) :
    wpAny M A (letOwnedTupleGo target (.ref I) v) Q E s := by
  have key : wpAny M A (do let o ← load I
                           match o.cls, o.data with
                           | .type n, .fields vs =>
                             if ["enumerate", "zip", "dict_itemiterator", "dict_reverseitemiterator", "odict_iterator", "itertools.zip_longest", "itertools.pairwise"].contains n && vs[0]? == some (rawInt (match v with | .ref a => a | _ => 0)) then
                               rule "for.unpacks-the-owned-tuple"
                               updateField I 0 .none
                           | _, _ => pure ()) Q E s := by
    refine wpAny_bind (wpAny_load ho ?_)
    rw [hc, hd]
    simp only [hn, Bool.false_and, Bool.false_eq_true, if_false]
    exact wpAny_pure h
  unfold letOwnedTupleGo
  cases target <;> first | exact wpAny_pure h | (cases v <;> first | exact wpAny_pure h | exact key)

theorem iter_list {B : Bas} {A : Around} (hh : A.handled = none) (I ax : Addr) (hne : ax ≠ I) (items : Array Value) :
    Iter B A I [I, ax] [I] items.size (fun i v => items[i]? = some v) (fun i h => h.IsListIter I ax i ∧ h.IsList ax items) where
  W := Walks.list hh I ax hne items
  go := fun i s target v Q E st q => by obtain ⟨o, ho, hc, hd⟩ := st.1; exact wp_letGo ho hc hd (by decide) q
  live := fun i h st b hb => by
    rcases List.mem_cons.mp hb with rfl | hb
    · obtain ⟨o, ho, _⟩ := st.1; exact ⟨o, ho⟩
    · rw [List.mem_singleton.mp hb]; obtain ⟨o, ho, _⟩ := st.2; exact ⟨o, ho⟩
  kind := fun i h st b hb => by rw [List.mem_singleton.mp hb]; obtain ⟨o, ho, hc, hd⟩ := st.1; exact ⟨o, ho, _, _, hc, hd, by decide⟩
theorem iter_tuple {B : Bas} {A : Around} (hh : A.handled = none) (I ax : Addr) (hne : ax ≠ I) (items : Array Value) :
    Iter B A I [I, ax] [I] items.size (fun i v => items[i]? = some v) (fun i h => h.IsTupleIter I ax i ∧ h.IsTuple ax items) where
  W := Walks.tuple hh I ax hne items
  go := fun i s target v Q E st q => by obtain ⟨o, ho, hc, hd⟩ := st.1; exact wp_letGo ho hc hd (by decide) q
  live := fun i h st b hb => by
    rcases List.mem_cons.mp hb with rfl | hb
    · obtain ⟨o, ho, _⟩ := st.1; exact ⟨o, ho⟩
    · rw [List.mem_singleton.mp hb]; obtain ⟨o, ho, _⟩ := st.2; exact ⟨o, ho⟩
  kind := fun i h st b hb => by rw [List.mem_singleton.mp hb]; obtain ⟨o, ho, hc, hd⟩ := st.1; exact ⟨o, ho, _, _, hc, hd, by decide⟩
theorem iter_range {B : Bas} {A : Around} (hh : A.handled = none) (I : Addr) (a c : Int) (n : Nat) :
    Iter B A I [I] [I] n (fun i v => i < n ∧ ∃ t, v = .int (a + i * c) t) (fun i h => IsRangeIter h I (a + (i : Nat) * c) ((n : Int) - (i : Nat)) c) where
  W := (Walks.range hh I a c n).bound
  go := fun i s target v Q E st q => wp_letGo st rfl rfl (by decide) q
  live := fun i h st b hb => by rw [List.mem_singleton.mp hb]; exact ⟨_, st⟩
  kind := fun i h st b hb => by rw [List.mem_singleton.mp hb]; exact ⟨_, st, _, _, rfl, rfl, by decide⟩

/-- what a for goes over; f: what the walk looks at never changes -/
def EvIt (f : Bool) (B : Bas) (n : Nat) (env : Env) (σ : Sto) (e : Expr) (ds : List D) : Prop :=
  ∀ (h₀ : Heap) (P O : Addr → Prop) (A : Around) (s : Shared) (E : Value → Shared → Prop) (Q : Value → Shared → Prop), B.Ok → AOk n A → St B h₀ P env σ O s.heap →
    (∀ s₂ I fp wr Pv Si, Keeps s s₂ → Iter B A I fp wr ds.length Pv Si → Si 0 s₂.heap → (∀ b ∈ wr, s.heap.get? b = none) → (∀ b ∈ fp, b < s₂.heap.objs.size) → (f = true → ∀ b ∈ fp, ¬ (P b ∨ O b)) →
      (∀ i v, Pv i v → ∃ d, ds[i]? = some d ∧ Rp s₂.heap (fun a => P a ∨ O a) v d) → Q (.ref I) s₂) →
    wpAny (model B.prog B.w) A (eval e env) (fun x s₁ => wpAny (model B.prog B.w) A (pyIter x) Q E s₁) E s

def rngD (a b : Int) : List D := (List.range (b - a).toNat).map fun (i : Nat) => D.int (a + i)

section
variable {B : Bas} {n : Nat} {env : Env} {σ : Sto} {e : Expr}
theorem EvIt.weak {ds} (x : EvIt true B n env σ e ds) : EvIt false B n env σ e ds := fun h₀ P O A s E Q bo ao T q => x h₀ P O A s E Q bo ao T fun s₂ I fp wr Pv Si k it st hw hb hf hr => q s₂ I fp wr Pv Si k it st hw hb (fun e => nomatch e) hr

theorem evit_list {f ds} (x : Ev B n env σ e (.list ds)) : EvIt f B n env σ e ds := fun h₀ P O A s E Q bo ao T q =>
  x h₀ P O A s E _ bo ao T fun v s₁ k₁ r => by
    obtain ⟨a, vs, rfl, hl, ha, rs⟩ := rp_list r
    have hne : a ≠ s₁.heap.objs.size := by obtain ⟨o, e, _⟩ := hl; exact Nat.ne_of_lt (Heap.lt_size e)
    have hlen : vs.toArray.size = ds.length := by rw [List.size_toArray]; exact rs.length
    refine wpAny_pyIter_list hl (q _ _ [s₁.heap.objs.size, a] [s₁.heap.objs.size] (fun i v => vs.toArray[i]? = some v) (fun i h => h.IsListIter s₁.heap.objs.size a i ∧ h.IsList a vs.toArray) (ktrans k₁ (kpush' _ _)) (hlen ▸ iter_list ao.handled _ a hne vs.toArray) ⟨⟨_, Heap.get?_push_size _ rfl, rfl, rfl⟩, hl.at fun o e => Heap.get?_push_of_some _ e⟩ ?_ ?_ ?_ ?_)
    · intro b hb; rw [List.mem_singleton.mp hb]; exact fresh_kp k₁
    · intro b hb
      show b < (s₁.heap.push _).objs.size
      rw [Heap.size_push]
      rcases List.mem_cons.mp hb with rfl | hb
      · exact Nat.lt_succ_self _
      · rw [List.mem_singleton.mp hb]; obtain ⟨o, e, _⟩ := hl; exact Nat.lt_succ_of_lt (Heap.lt_size e)
    · intro _ b hb
      rcases List.mem_cons.mp hb with rfl | hb
      · exact (T.kp k₁).notX' (Nat.le_refl _)
      · rw [List.mem_singleton.mp hb]; exact ha
    · intro i v hv
      obtain ⟨d, hd, r⟩ := rs.get (k := i) (v := v) (by simpa using hv)
      exact ⟨d, hd, r.keeps fun a o e => Heap.get?_push_of_some _ e⟩
theorem evit_own {ds} {x : String} {p : Pos} (hx : σ.get x = some (.own ds)) (h1 : x ≠ "__debug__" := by decide) (h2 : x ≠ "__classdict__" := by decide) : EvIt false B n env σ (.Name (S x) p) ds := fun h₀ P O A s E Q bo ao T q => by
    obtain ⟨a, vs, hv, ho, hne', hpl, rs⟩ := T.vars x _ hx
    have hl := hpl.isList
    refine wp_name T hv ?_ (plainName h1) (plainName h2)
    have hne : a ≠ s.heap.objs.size := by obtain ⟨o, e, _⟩ := hl; exact Nat.ne_of_lt (Heap.lt_size e)
    have hlen : vs.toArray.size = ds.length := by rw [List.size_toArray]; exact rs.length
    refine wpAny_pyIter_list hl (q _ _ [s.heap.objs.size, a] [s.heap.objs.size] (fun i v => vs.toArray[i]? = some v) (fun i h => h.IsListIter s.heap.objs.size a i ∧ h.IsList a vs.toArray) (kpush' _ _) (hlen ▸ iter_list ao.handled _ a hne vs.toArray) ⟨⟨_, Heap.get?_push_size _ rfl, rfl, rfl⟩, hl.at fun o e => Heap.get?_push_of_some _ e⟩ ?_ ?_ (fun e => nomatch e) ?_)
    · intro b hb; rw [List.mem_singleton.mp hb]; exact fresh_of (Nat.le_refl _)
    · intro b hb
      show b < (s.heap.push _).objs.size
      rw [Heap.size_push]
      rcases List.mem_cons.mp hb with rfl | hb
      · exact Nat.lt_succ_self _
      · rw [List.mem_singleton.mp hb]; obtain ⟨o, e, _⟩ := hl; exact Nat.lt_succ_of_lt (Heap.lt_size e)
    · intro i v hv
      obtain ⟨d, hd, r⟩ := rs.get (k := i) (v := v) (by simpa using hv)
      exact ⟨d, hd, r.keeps fun a o e => Heap.get?_push_of_some _ e⟩
theorem evit_tuple {f ds} (x : Ev B n env σ e (.tuple ds)) : EvIt f B n env σ e ds := fun h₀ P O A s E Q bo ao T q =>
  x h₀ P O A s E _ bo ao T fun v s₁ k₁ r => by
    obtain ⟨a, vs, rfl, hl, ha, rs⟩ := rp_tuple r
    have hne : a ≠ s₁.heap.objs.size := by obtain ⟨o, e, _⟩ := hl; exact Nat.ne_of_lt (Heap.lt_size e)
    have hlen : vs.toArray.size = ds.length := by rw [List.size_toArray]; exact rs.length
    have hl' : s₁.heap.IsTuple a vs.toArray := hl
    refine wpAny_pyIter_tuple hl' (q _ _ [s₁.heap.objs.size, a] [s₁.heap.objs.size] (fun i v => vs.toArray[i]? = some v) (fun i h => h.IsTupleIter s₁.heap.objs.size a i ∧ h.IsTuple a vs.toArray) (ktrans k₁ (kpush' _ _)) (hlen ▸ iter_tuple ao.handled _ a hne vs.toArray) ⟨⟨_, Heap.get?_push_size _ rfl, rfl, rfl⟩, hl'.at fun o e => Heap.get?_push_of_some _ e⟩ ?_ ?_ ?_ ?_)
    · intro b hb; rw [List.mem_singleton.mp hb]; exact fresh_kp k₁
    · intro b hb
      show b < (s₁.heap.push _).objs.size
      rw [Heap.size_push]
      rcases List.mem_cons.mp hb with rfl | hb
      · exact Nat.lt_succ_self _
      · rw [List.mem_singleton.mp hb]; obtain ⟨o, e, _⟩ := hl; exact Nat.lt_succ_of_lt (Heap.lt_size e)
    · intro _ b hb
      rcases List.mem_cons.mp hb with rfl | hb
      · exact (T.kp k₁).notX' (Nat.le_refl _)
      · rw [List.mem_singleton.mp hb]; exact ha
    · intro i v hv
      obtain ⟨d, hd, r⟩ := rs.get (k := i) (v := v) (by simpa using hv)
      exact ⟨d, hd, r.keeps fun a o e => Heap.get?_push_of_some _ e⟩
theorem evit_range {f} {a b : Int} (x : Ev B n env σ e (.range a b)) (ha : -1000000 ≤ a) (ha' : a ≤ 1000000) (hb : -1000000 ≤ b) (hb' : b ≤ 1000000) : EvIt f B n env σ e (rngD a b) := fun h₀ P O A s E Q bo ao T q =>
  x h₀ P O A s E _ bo ao T fun v s₁ k₁ r => by
    obtain ⟨r, t, u, w, rfl, hr, hx⟩ := rp_range r
    have hlen : (rngD a b).length = (b - a).toNat := by simp [rngD]
    have hsz : Builtin.Range.rangeSize a b 1 = (((b - a).toNat : Nat) : Int) := by rw [rangeSize_one]; split <;> omega
    refine wpAny_pyIter_range hr (small_one (by omega) (by omega) (by omega) (by omega)) (q _ _ [s₁.heap.objs.size] [s₁.heap.objs.size] (fun i v => i < (b - a).toNat ∧ ∃ t, v = .int (a + i * 1) t) (fun i h => IsRangeIter h s₁.heap.objs.size (a + (i : Nat) * 1) (((b - a).toNat : Int) - (i : Nat)) 1) (ktrans k₁ (kpush' _ _)) (by rw [hlen]; exact iter_range ao.handled _ a 1 (b - a).toNat) ?_ ?_ ?_ ?_ ?_)
    · dsimp only; rw [hsz]; simpa using Heap.get?_push_size _ rfl
    · intro b hb; rw [List.mem_singleton.mp hb]; exact fresh_kp k₁
    · intro b hb
      show b < (s₁.heap.push _).objs.size
      rw [Heap.size_push, List.mem_singleton.mp hb]; exact Nat.lt_succ_self _
    · intro _ b hb; rw [List.mem_singleton.mp hb]; exact (T.kp k₁).notX' (Nat.le_refl _)
    · rintro i v ⟨hi, t, rfl⟩
      refine ⟨.int (a + i), by simp [rngD, List.getElem?_range hi], ?_⟩
      rw [Int.mul_one]; exact .int _ _

/-- a target is assigned -/
def Asg (B : Bas) (n : Nat) (env : Env) (σ : Sto) (target : Expr) (d : D) (σ' : Sto) : Prop :=
  ∀ (h₀ : Heap) (P O : Addr → Prop) (A : Around) (s : Shared) (E : Value → Shared → Prop) (Q : Unit → Shared → Prop) (v : Value), B.Ok → AOk n A → St B h₀ P env σ O s.heap → Rp s.heap (fun a => P a ∨ O a) v d →
    (∀ s', Mov (Names env) s s' → St B h₀ P env σ' O s'.heap → Q () s') → wpAny (model B.prog B.w) A (assign target env v) Q E s
theorem asg_name {x : String} {p : Pos} {d : D} (hx : Storable env x) : Asg B n env σ (.Name (S x) p) d (σ.put x (.val d)) := fun h₀ P O A s E Q v bo ao T r q =>
  wpAny_assign_Name (wp_store (b := .val d) T hx r q)

/-- several targets in order -/
def Asgs (B : Bas) (n : Nat) (env : Env) (σ : Sto) (ts : List Expr) (ds : List D) (σ' : Sto) : Prop :=
  ∀ (h₀ : Heap) (P O : Addr → Prop) (A : Around) (s : Shared) (E : Value → Shared → Prop) (Q : Unit → Shared → Prop) (vs : List Value), B.Ok → AOk n A → St B h₀ P env σ O s.heap → RpAll s.heap (fun a => P a ∨ O a) vs ds →
    (∀ s', Mov (Names env) s s' → St B h₀ P env σ' O s'.heap → Q () s') → wpAny (model B.prog B.w) A (assignInOrder ((assignEach ts env).map (·.2)) vs) Q E s
theorem asgs_nil : Asgs B n env σ [] [] σ := fun h₀ P O A s E Q vs bo ao T r q => by cases r; exact wpAny_pure (q s (Mov.refl _ _) T)
theorem asgs_cons {t : Expr} {ts : List Expr} {d : D} {ds : List D} {σ₁ σ₂ : Sto} (x : Asg B n env σ t d σ₁) (y : Asgs B n env σ₁ ts ds σ₂) (he : (assignEach (t :: ts) env).map (·.2) = assign t env :: (assignEach ts env).map (·.2) := by rfl) : Asgs B n env σ (t :: ts) (d :: ds) σ₂ :=
  fun h₀ P O A s E Q vs bo ao T r q => by
    cases r with | cons r rs =>
    rw [he]
    refine wpAny_bind (wpAny_holding (x h₀ P O A s E _ _ bo ao T r fun s₁ m₁ T₁ => ?_))
    refine y h₀ P O A s₁ E _ _ bo ao T₁ ?_ fun s₂ m₂ T₂ => q s₂ (m₁.trans m₂ fun _ q => .inl q) T₂
    obtain ⟨h', tk, rfl, k⟩ := m₁.names T
    exact rs.mono (fun a o n e => k a o (fun q => n (.inr q)) e) fun _ _ n _ => n
theorem asg_tuple {ts : List Expr} {ds : List D} {σ' : Sto} {k : Nat} {p : Pos} (x : Asgs B n env σ ts ds σ') (hn : (assignEach ts env).length = ds.length := by rfl) (hstar : (assignEach ts env).findIdx? (·.1) = none := by rfl) : Asg B n env σ (.Tuple ts k p) (.tuple ds) σ' :=
  fun h₀ P O A s E Q v bo ao T r q => by
    obtain ⟨a, vs, rfl, ht, ha, rs⟩ := rp_tuple r
    refine assign_Tuple_tuple ao.handled ht (by rw [hn, List.size_toArray, rs.length]) hstar fun h' he => ?_
    have k : Keeps s { s with heap := h' } := ⟨h', s.toks, rfl, fun b o e => he b o (Nat.ne_of_lt (Heap.lt_size e)) e⟩
    exact x h₀ P O A _ E _ _ bo ao (T.kp k) (rs.keeps (kheap k)) fun s' m T' => q s' ((Mov.of_keeps k).trans m fun _ q => .inl q) T'
end

section
variable {B : Bas} {n : Nat} {env : Env} {σ : Sto} {R : Fl → Sto → Prop}

theorem St.sub {h₀ h P O} (T : St B h₀ P env σ O h) {b : Addr} (hb : O b) : ∃ o, h.get? b = some o := T.live b hb

theorem take_split {α : Type} {ds : List α} {i : Nat} {d : α} (h : ds[i]? = some d) : ds = ds.take i ++ d :: ds.drop (i + 1) ∧ ds.take (i + 1) = ds.take i ++ [d] := by
  have hs : ds.take (i + 1) = ds.take i ++ [d] := by simp [List.take_add_one, h]
  refine ⟨?_, hs⟩
  have := List.take_append_drop (i + 1) ds
  rw [hs, List.append_assoc] at this
  exact this.symm

/-- a for by an invariant -/
theorem ex_for {target iter : Expr} {body : List Stmt} {p : Pos} {ds : List D} (Inv : List D → Sto → Prop) (x : EvIt true B n env σ iter ds) (h0 : Inv [] σ)
    (turn : ∀ pre d post σ', ds = pre ++ d :: post → Inv pre σ' → ∃ σ'', Asg B n env σ' target d σ'' ∧
      Ex B n env σ'' body (fun fl τ => match fl with | .next => Inv (pre ++ [d]) τ | .cont => Inv (pre ++ [d]) τ | .brk => R .next τ | .ret v => R (.ret v) τ))
    (done : ∀ σ', Inv ds σ' → R .next σ') (hs : ∀ x, foldedSetIterable iter env x = pure x := by intro _; rfl) : Ex1 B n env σ (.For target iter body [] p) R := by
  intro h₀ P O A s E bo ao T
  refine wpAny_For (x h₀ P O A s E _ bo ao T fun s₂ I fp wr Pv Si k it st hw hb hf hr => ?_) hs
  have hf := hf rfl
  have T₂ := T.kp k
  have hlive := it.live 0 _ st
  refine codeAny_forLoop_any (fun (kk : Nat) (s' : Shared) => ∃ i σ' O', kk = ds.length + 1 - i ∧ i ≤ ds.length ∧ (∃ h' tk, s' = { s₂ with heap := h', toks := tk }) ∧ Si i s'.heap ∧ St B h₀ P env σ' O' s'.heap ∧ Inv (ds.take i) σ' ∧
      (∀ b o, ¬ O b → b ∉ wr → s₂.heap.get? b = some o → s'.heap.get? b = some o) ∧ (∀ b, O' b → O b ∨ s₂.heap.get? b = none)) ?_ (ds.length + 1)
    ⟨0, σ, O, rfl, Nat.zero_le _, ⟨s₂.heap, s₂.toks, rfl⟩, st, T₂, by simpa using h0, fun _ _ _ _ e => e, fun _ q => .inl q⟩
  rintro kk s' ⟨i, σ', O', rfl, hi, ⟨hh, tk, rfl⟩, st', T', hI, hk, hO⟩
  have fpO : ∀ b ∈ fp, ¬ O' b := fun b hbf q => by
    rcases hO b q with q | q
    · exact hf b hbf (.inr q)
    · obtain ⟨o, e⟩ := hlive b hbf; rw [q] at e; cases e
  have wrO : ∀ b ∈ wr, ¬ O' b := fun b hbw => fpO b (it.W.sub b hbw)
  -- what is kept at the end
  have fin : ∀ (O'' : Addr → Prop) (s'' : Shared), (∃ h' tk, s'' = { s₂ with heap := h', toks := tk }) → (∀ b o, ¬ O b → b ∉ wr → s₂.heap.get? b = some o → s''.heap.get? b = some o) → (∀ b, O'' b → O b ∨ s₂.heap.get? b = none) →
      Mov O s s'' ∧ ∀ b, O'' b → O b ∨ s.heap.get? b = none := by
    rintro O'' s'' ⟨h', tk', rfl⟩ hk' hO'
    obtain ⟨h2, tk2, rfl, k2⟩ := k
    refine ⟨⟨h', tk', rfl, fun b o nb e => hk' b o nb (fun hbw => by rw [hw b hbw] at e; cases e) (k2 b o e)⟩, fun b q => (hO' b q).imp id fun q => ?_⟩
    cases e : s.heap.get? b with
    | none => rfl
    | some o => rw [k2 b o e] at q; cases q
  -- the iterator goes on
  have stepSt : ∀ h₁ : Heap, (∀ b o, b ∉ wr → hh.get? b = some o → h₁.get? b = some o) → St B h₀ P env σ' O' h₁ := fun h₁ hk₁ =>
    T'.step (fun a o ni e => hk₁ a o (fun hbw => by obtain ⟨o', e', q⟩ := it.kind i _ st' a hbw; rw [e] at e'; cases e'; exact ni q) e)
      (fun b o e => hk₁ b o (fun hbw => by have := hw b hbw; rw [T.keep b o e] at this; cases this) (T'.keep b o e))
      (fun a q => by obtain ⟨o, e⟩ := T'.live a q; exact ⟨o, hk₁ a o (fun hbw => wrO a hbw q) e⟩)
  by_cases hlt : i < ds.length
  · refine it.W.item i _ _ _ hlt st' fun v h₁ tk₁ hPv st₁ hk₁ => ?_
    obtain ⟨d, hd, rd⟩ := hr i v hPv
    obtain ⟨e1, e2⟩ := take_split hd
    have T₁ := stepSt h₁ hk₁
    refine it.go _ _ _ _ _ _ st₁ ?_
    obtain ⟨σ'', hasg, hex⟩ := turn _ d _ σ' e1 hI
    have rd' : Rp h₁ (fun a => P a ∨ O' a) v d := by
      refine Rp.step (fun a o ni e => hk₁ a o (fun hbw => by obtain ⟨o', e', q⟩ := it.kind i _ st' a hbw; rw [e] at e'; cases e'; exact ni q) e) (rd.stepX (h' := hh) (X' := fun a => P a ∨ O' a) (fun a o na ni e => ?_) (fun a o na e q => ?_))
      · exact hk a o (fun q => na (.inr q)) (fun haw => by obtain ⟨o', e', q⟩ := it.kind 0 _ st a haw; rw [e] at e'; cases e'; exact ni q) e
      · rcases q with q | q
        · exact na (.inl q)
        · rcases hO a q with q | q
          · exact na (.inr q)
          · rw [q] at e; cases e
    refine hasg h₀ P O' A _ _ _ v bo ao T₁ rd' fun s₃ m₃ T₃ => ?_
    refine wpAny_mono (hex h₀ P O' A s₃ _ bo ao T₃) (fun f s₄ q => ?_) fun _ _ q => q
    obtain ⟨fl, τ, O₄, m₄, hfl, hR, hO₄, T₄⟩ := q
    obtain ⟨h3, tk3, rfl, k3⟩ := m₃.names T₁
    obtain ⟨h4, tk4, rfl, k4⟩ := m₄
    have keepAll : ∀ b o, ¬ O' b → h₁.get? b = some o → h4.get? b = some o := fun b o nb e => k4 b o nb (k3 b o nb e)
    have hk4 : ∀ b o, ¬ O b → b ∉ wr → s₂.heap.get? b = some o → h4.get? b = some o := fun b o nb nw e =>
      keepAll b o (fun q => (hO b q).elim nb fun q => by rw [q] at e; cases e) (hk₁ b o nw (hk b o nb nw e))
    have hO4 : ∀ b, O₄ b → O b ∨ s₂.heap.get? b = none := fun b q => by
      rcases hO₄ b q with q | q
      · exact hO b q
      · by_cases hOb : O b
        · exact .inl hOb
        · by_cases hbw : b ∈ wr
          · obtain ⟨o, e⟩ := it.live _ _ st₁ b (it.W.sub b hbw)
            have : h3.get? b = some o := k3 b o (wrO b hbw) e
            rw [this] at q; cases q
          · refine .inr ?_
            cases e : s₂.heap.get? b with
            | none => rfl
            | some o =>
              have h5 := hk₁ b o hbw (hk b o hOb hbw e)
              by_cases ho' : O' b
              · rcases hO b ho' with z | z
                · exact absurd z hOb
                · rw [z] at e; cases e
              · have := k3 b o ho' h5
                rw [this] at q; cases q
    have stN : Si (i + 1) h4 := it.W.frame _ _ _ st₁ fun b hbf o e => keepAll b o (fpO b hbf) e
    obtain ⟨mv, mo⟩ := fin O₄ _ ⟨h4, tk4, rfl⟩ hk4 hO4
    cases f with
    | next =>
      cases fl <;> try exact hfl.elim
      exact ⟨_, by omega, i + 1, τ, O₄, rfl, hlt, ⟨h4, tk4, rfl⟩, stN, T₄, e2 ▸ hR, hk4, hO4⟩
    | cont =>
      cases fl <;> try exact hfl.elim
      exact ⟨_, by omega, i + 1, τ, O₄, rfl, hlt, ⟨h4, tk4, rfl⟩, stN, T₄, e2 ▸ hR, hk4, hO4⟩
    | brk =>
      cases fl <;> try exact hfl.elim
      exact ⟨.next, τ, O₄, mv, trivial, hR, mo, T₄⟩
    | ret w =>
      cases fl <;> try exact hfl.elim
      exact ⟨.ret _, τ, O₄, mv, hfl, hR, mo, T₄⟩
  · have hi' : i = ds.length := by omega
    subst hi'
    rw [List.take_length] at hI
    refine it.W.done _ _ _ st' fun h₁ tk₁ hk₁ => ?_
    have hk1 : ∀ b o, ¬ O b → b ∉ wr → s₂.heap.get? b = some o → h₁.get? b = some o := fun b o nb nw e => hk₁ b o nw (hk b o nb nw e)
    obtain ⟨mv, mo⟩ := fin O' { s₂ with heap := h₁, toks := tk₁ } ⟨h₁, tk₁, rfl⟩ hk1 hO
    exact wpAny_execs_nil ⟨.next, σ', O', mv, trivial, done _ hI, mo, stepSt h₁ hk₁⟩
end

section
variable {B : Bas} {n : Nat} {env : Env} {σ : Sto} {R : Fl → Sto → Prop}

theorem ex_while {test : Expr} {body : List Stmt} {p : Pos} (Inv : Nat → Sto → Prop) (m : Nat) (h0 : Inv m σ)
    (turn : ∀ k σ', Inv k σ' → ∃ t, Tst B n env σ' test t ∧ (t = false → R .next σ') ∧
      (t = true → Ex B n env σ' body (fun fl τ => match fl with | .next => ∃ k', k' < k ∧ Inv k' τ | .cont => ∃ k', k' < k ∧ Inv k' τ | .brk => R .next τ | .ret v => R (.ret v) τ))) :
    Ex1 B n env σ (.While test body [] p) R := by
  intro h₀ P O A s E bo ao T
  refine wpAny_While ?_
  refine codeAny_whileLoop (fun k s' => ∃ σ' O', Mov O s s' ∧ (∀ b, O' b → O b ∨ s.heap.get? b = none) ∧ St B h₀ P env σ' O' s'.heap ∧ Inv k σ') ?_ m ⟨σ, O, Mov.refl _ _, fun _ q => .inl q, T, h0⟩
  rintro k s' ⟨σ', O', mv, hO, T', hI⟩
  obtain ⟨t, ht, hf, hb⟩ := turn k σ' hI
  refine ht h₀ P O' A s' _ _ bo ao T' fun s₁ k₁ => ?_
  have mv₁ : Mov O s s₁ := mv.trans (Mov.of_keeps (O := O') k₁) hO
  cases t with
  | false =>
    simp only [Bool.false_eq_true, if_false]
    exact wpAny_execs_nil ⟨.next, σ', O', mv₁, trivial, hf rfl, hO, T'.kp k₁⟩
  | true =>
    simp only [if_true]
    refine wpAny_mono (hb rfl h₀ P O' A s₁ _ bo ao (T'.kp k₁)) (fun f s₂ q => ?_) fun _ _ q => q
    obtain ⟨fl, τ, O₂, m₂, hfl, hR, hO₂, T₂⟩ := q
    have x := Post.trans (R := fun fl' τ' => fl' = fl ∧ τ' = τ) mv₁ hO ⟨fl, τ, O₂, m₂, hfl, ⟨rfl, rfl⟩, hO₂, T₂⟩
    obtain ⟨fl', τ', O₃, m₃, hfl₃, ⟨e1, e2⟩, hO₃, T₃⟩ := x
    subst e1; subst e2
    cases f with
    | next =>
      cases fl' <;> try exact hfl.elim
      obtain ⟨k', lt, hI'⟩ := hR
      exact ⟨k', lt, τ', O₃, m₃, hO₃, T₃, hI'⟩
    | cont =>
      cases fl' <;> try exact hfl.elim
      obtain ⟨k', lt, hI'⟩ := hR
      exact ⟨k', lt, τ', O₃, m₃, hO₃, T₃, hI'⟩
    | brk =>
      cases fl' <;> try exact hfl.elim
      exact ⟨.next, τ', O₃, m₃, trivial, hR, hO₃, T₃⟩
    | ret w =>
      cases fl' <;> try exact hfl.elim
      exact ⟨.ret _, τ', O₃, m₃, hfl₃, hR, hO₃, T₃⟩
end

/-- what a def of the text gives back -/
def FnS (B : Bas) (n : Nat) (a : Addr) (ds : List D) (d : D) : Prop :=
  ∀ (P : Addr → Prop) (A : Around) (s : Shared) (E : Value → Shared → Prop) (Q : Value → Shared → Prop) (vs : List Value), B.Ok → AOk n A → B.Here s.heap → (∀ x, P x → (∃ o, s.heap.get? x = some o) ∧ B.hB.get? x = none) → RpAll s.heap P vs ds →
    (∀ v s', Keeps s s' → Rp s'.heap P v d → Q v s') → wpAny (model B.prog B.w) A (call (.ref a) vs) Q E s

structure FnAt (B : Bas) (a : Addr) (name : Str) (params : Arguments) (body : List Stmt) (scope : Scope) : Prop where
  at_ : ∃ o pm cd doc, B.hB.get? a = some o ∧ o.data = .func (docDef name params body scope pm cd doc) ∧ B.hB.CodeRec cd name

/-- the environment of a call -/
structure FEnv (sc : Scope) (env : Env) : Prop where
  scope : env.scope = sc
  func : env.func.isSome = true
  cells : ∀ x, sc.names.lookup x = some .cell → (env.cells.lookup x).isSome = true

theorem bindL_get {kindOf : Str → Option NameKind} {x : Str} {v : Value} (hk : kindOf x = some .local) : ∀ (binds : List (Str × Value)) (m : Str → Option Value), (binds.map (·.1)).Nodup → (x, v) ∈ binds → bindL kindOf binds m x = some v := by
  have other : ∀ (binds : List (Str × Value)) (m : Str → Option Value), x ∉ binds.map (·.1) → bindL kindOf binds m x = m x := by
    intro binds
    induction binds with
    | nil => intro m _; rfl
    | cons p r ih =>
      obtain ⟨y, w⟩ := p
      intro m hn
      simp only [List.map_cons, List.mem_cons, not_or] at hn
      unfold bindL
      rw [ih _ hn.2]
      split
      · exact if_neg hn.1
      · rfl
  intro binds
  induction binds with
  | nil => intro m _ h; cases h
  | cons p r ih =>
    obtain ⟨y, w⟩ := p
    intro m hn hm
    simp only [List.map_cons, List.nodup_cons] at hn
    unfold bindL
    rcases List.mem_cons.mp hm with e | hm
    · cases e
      rw [other _ _ hn.1, if_pos hk]; exact if_pos rfl
    · exact ih _ hn.2 hm
theorem bindC_get {kindOf : Str → Option NameKind} {x : Str} {v : Value} (hk : kindOf x ≠ some .local) : ∀ (binds : List (Str × Value)) (m : Str → Option Value), (binds.map (·.1)).Nodup → (x, v) ∈ binds → bindC kindOf binds m x = some v := by
  have other : ∀ (binds : List (Str × Value)) (m : Str → Option Value), x ∉ binds.map (·.1) → bindC kindOf binds m x = m x := by
    intro binds
    induction binds with
    | nil => intro m _; rfl
    | cons p r ih =>
      obtain ⟨y, w⟩ := p
      intro m hn
      simp only [List.map_cons, List.mem_cons, not_or] at hn
      unfold bindC
      rw [ih _ hn.2]
      split
      · rfl
      · exact if_neg hn.1
  intro binds
  induction binds with
  | nil => intro m _ h; cases h
  | cons p r ih =>
    obtain ⟨y, w⟩ := p
    intro m hn hm
    simp only [List.map_cons, List.nodup_cons] at hn
    unfold bindC
    rcases List.mem_cons.mp hm with e | hm
    · cases e
      rw [other _ _ hn.1, if_neg hk]; exact if_pos rfl
    · exact ih _ hn.2 hm

theorem cellsFrom_some : ∀ (names : List (Str × NameKind)) (k : Nat) (acc : List (Str × Addr)) (x : Str), (names.lookup x = some .cell ∨ (acc.lookup x).isSome = true) → ((cellsFrom k names acc).lookup x).isSome = true := by
  intro names
  induction names with
  | nil => intro k acc x h; rcases h with h | h; cases h; exact h
  | cons p r ih =>
    obtain ⟨y, kd⟩ := p
    intro k acc x h
    unfold cellsFrom
    by_cases hx : x = y
    · subst hx
      rcases h with h | h
      · simp only [List.lookup_cons, beq_self_eq_true] at h
        cases h
        exact ih _ _ _ (.inr (by simp [List.lookup_cons]))
      · split
        · exact ih _ _ _ (.inr (by simp [List.lookup_cons]))
        · exact ih _ _ _ (.inr h)
    · have hb : (x == y) = false := by simpa using hx
      split
      · refine ih _ _ _ (h.imp (fun h => by simpa [List.lookup_cons, hb] using h) fun h => by simpa [List.lookup_cons, hb] using h)
      · refine ih _ _ _ (h.imp (fun h => by simpa [List.lookup_cons, hb] using h) id)

theorem lookup_apart {cs : List (Str × Addr)} (hp : cs.Pairwise fun x y => x.2 ≠ y.2) : ∀ {x y c}, cs.lookup x = some c → cs.lookup y = some c → x = y := by
  induction cs with
  | nil => intro x y c h; cases h
  | cons p r ih =>
    obtain ⟨z, w⟩ := p
    intro x y c hx hy
    rw [List.pairwise_cons] at hp
    simp only [List.lookup_cons] at hx hy
    split at hx <;> split at hy
    · rename_i h1 _ h2; rw [beq_iff_eq.mp h1, beq_iff_eq.mp h2]
    · cases hx; exact absurd rfl (hp.1 (y, w) (PySem.mem_of_lookup hy))
    · cases hy; exact absurd rfl (hp.1 (x, w) (PySem.mem_of_lookup hx))
    · exact ih hp.2 hx hy

def binds0 (xs : List String) (ds : List D) : Sto := (xs.zip ds).map fun p => (p.1, Bnd.val p.2)

theorem binds0_get {xs : List String} {ds : List D} {h : Heap} {X : Addr → Prop} {vs : List Value} (r : RpAll h X vs ds) (hl : xs.length = ds.length) {x : String} {b : Bnd} (hb : (binds0 xs ds).get x = some b) :
    ∃ d v, b = .val d ∧ Rp h X v d ∧ (S x, v) ∈ (xs.map S).zip vs := by
  induction xs generalizing ds vs with
  | nil => simp [binds0, Sto.get] at hb
  | cons y ys ih =>
    cases r with
    | nil => simp at hl
    | cons r rs =>
      simp only [binds0, List.zip_cons_cons, List.map_cons, Sto.get] at hb
      by_cases hy : y = x
      · subst hy
        simp only [if_true] at hb
        exact ⟨_, _, (Option.some.inj hb).symm, r, by simp⟩
      · rw [if_neg hy] at hb
        obtain ⟨d, v, e, r', m⟩ := ih rs (by simpa using hl) hb
        exact ⟨d, v, e, r', by simp [m]⟩

theorem fns_of {B : Bas} {n : Nat} {a : Addr} {name : Str} {params : Arguments} {body : List Stmt} {scope : Scope} {xs : List String} {ds : List D} {d : D} (F : FnAt B a name params body scope) (hk : scope.kind = .function)
    (hbind : ∀ pm cd doc vs, vs.length = xs.length → bindArgs (docDef name params body scope pm cd doc) ⟨vs, []⟩ = pure ((xs.map S).zip vs)) (hlen : xs.length = ds.length) (hnd : xs.Nodup)
    (hkind : ∀ x ∈ xs, scope.names.lookup (S x) = some .local ∨ scope.names.lookup (S x) = some .cell)
    (h : ∀ env, FEnv scope env → Ex B n env (binds0 xs ds) body fun fl _ => match fl with | .ret e => e = d | .next => d = .none | _ => False)
    (hco : scope.isCoroutine = false := by rfl) (hgen : scope.isGenerator = false := by rfl) : FnS B (n + 1) a ds d := by
  intro P A s E Q vs bo ao hh hP r q
  obtain ⟨o, pm, cd, doc, ho, hd, hcd⟩ := F.at_
  have hvl : vs.length = xs.length := by rw [r.length, hlen]
  refine wpAny_call (codeAny_mono (codeAny_call_cells (R := fun res s' => ∃ v, res = .ok (.ret v) ∧ Keeps s s' ∧ Rp s'.heap P v d) (by have := ao.depth; omega) (hh _ _ ho) hd (bo.nolimit.keeps hh) (hcd.keeps hh) rfl (hbind pm cd doc vs hvl) rfl ?_ ?_ hco hgen hk) ?_)
  · intro x hx
    obtain ⟨y, hy, e⟩ : ∃ y ∈ xs, x.1 = S y := by
      have := List.of_mem_zip hx
      obtain ⟨y, hy, e⟩ := List.mem_map.mp this.1
      exact ⟨y, hy, e.symm⟩
    rw [e]
    rcases hkind y hy with q | q
    · exact .inl q
    · exact .inr ⟨q, cellsFrom_some _ _ _ _ (.inl q)⟩
  · intro s₁ C
    generalize henv : callEnvC (docDef name params body scope pm cd doc) s.heap.objs.size a = env at C
    have hsc : env.scope = scope := by rw [← henv]; rfl
    have hloc : env.locals = s.heap.objs.size := by rw [← henv]; rfl
    have hfn : env.func.isSome = true := by rw [← henv]; rfl
    have hgl : env.globals = mainGlobals := by rw [← henv]; rfl
    have hbi : env.builtins = builtinsNs := by rw [← henv]; rfl
    have hcells : env.cells = cellsFrom (s.heap.objs.size + 1) scope.names [] := by rw [← henv]; rfl
    have fe : FEnv scope env := ⟨hsc, hfn, fun x hx => by rw [hcells]; exact cellsFrom_some _ _ _ _ (.inl hx)⟩
    have kK : Keeps s s₁ := C.toInCall.done
    have nodup : (((xs.map S).zip vs).map (·.1)).Nodup := by
      rw [List.map_fst_zip (by simp [hvl])]
      exact List.Pairwise.map S (fun a b ne e => ne (S_inj e)) hnd
    have T : St B s.heap P env (binds0 xs ds) (fun b => b = env.locals ∨ ∃ x, env.cells.lookup x = some b) s₁.heap := by
      have notold : ∀ b, s.heap.objs.size ≤ b → s.heap.get? b = none := fun b hb => fresh_of hb
      have hnew : ∀ b, (b = env.locals ∨ ∃ x, env.cells.lookup x = some b) → s.heap.get? b = none := by
        rintro b (e | ⟨x, hx⟩)
        · subst e; exact notold _ (Nat.le_of_eq hloc.symm)
        · have := C.above x b (PySem.mem_of_lookup hx); exact notold _ (Nat.le_of_lt (by rw [hloc] at this; exact this))
      have rx : RpAll s₁.heap (fun b => P b ∨ (b = env.locals ∨ ∃ x, env.cells.lookup x = some b)) vs ds := r.mono (fun a o _ e => kheap kK a o e) fun a o np e => by
        rintro (q | q)
        · exact np q
        · rw [hnew a q] at e; cases e
      refine ⟨hh, C.toInCall.keep, hP, ?_, hnew, ⟨by rw [hsc]; exact hk, hgl, hbi, fun x y c h1 h2 => lookup_apart C.apart h1 h2⟩, .inl rfl, ⟨_, C.toInCall.ns⟩, fun x c l => ⟨⟨_, C.cell x c l⟩, fun _ => .inr ⟨x, l⟩⟩, fun x b hb => ?_, ?_⟩
      · rintro b (e | ⟨x, hx⟩)
        · subst e; obtain ⟨o, _, _, e, _⟩ := C.toInCall.ns; exact ⟨o, e⟩
        · obtain ⟨o, e, _⟩ := C.cell x b hx; exact ⟨o, e⟩
      · obtain ⟨d', v, rfl, rv, hm⟩ := binds0_get rx hlen hb
        refine ⟨v, ?_, rv⟩
        have hxm : x ∈ xs := by
          have := (List.of_mem_zip hm).1
          obtain ⟨y, hy, e⟩ := List.mem_map.mp this
          rwa [← S_inj e]
        rcases hkind x hxm with kx | kx
        · refine .inl ⟨by unfold Env.kindOf; rw [hsc]; exact kx, _, C.toInCall.ns, ?_⟩
          exact bindL_get (by unfold Env.kindOf; rw [hsc]; exact kx) _ _ nodup hm
        · obtain ⟨c, hc⟩ := Option.isSome_iff_exists.mp (fe.cells _ kx)
          refine .inr ⟨.inl (by unfold Env.kindOf; rw [hsc]; exact kx), c, hc, ?_⟩
          have := C.cell _ _ hc
          rwa [bindC_get (by unfold Env.kindOf; rw [hsc, kx]; intro q; cases q) _ _ nodup hm] at this
      · intro x y ds' es a' ne hx
        obtain ⟨_, _, e, _⟩ := binds0_get r hlen hx; cases e
    refine wpAny_mono (h env fe s.heap P _ _ s₁ _ bo ⟨ao.handled, by have := ao.depth; show A.depth + 1 + n < _; omega, by have := ao.units; show A.units + 3 + 5 * n + 100 < _; omega⟩ T) (fun f s' z => ?_) fun _ _ z => z
    obtain ⟨fl, σ', O', mv, hfl, hR, hO, T'⟩ := z
    have kk : Keeps s s' := by
      obtain ⟨h', tk', rfl, k'⟩ := mv
      obtain ⟨h1, tk1, rfl, k1⟩ := kK
      exact ⟨h', tk', rfl, T'.keep⟩
    cases f with
    | ret v =>
      cases fl <;> try exact hfl.elim
      cases hR
      exact ⟨v, rfl, kk, hfl⟩
    | next =>
      cases fl <;> try exact hfl.elim
      cases hR
      exact ⟨.none, rfl, kk, .val _ rfl⟩
    | brk => cases fl <;> first | exact hfl.elim | exact hR.elim
    | cont => cases fl <;> first | exact hfl.elim | exact hR.elim
  · rintro res s' ⟨v, rfl, kk, rv⟩
    exact q v s' kk rv

section
variable {B : Bas} {n : Nat} {env : Env} {σ : Sto} {h₀ h h' : Heap} {P O : Addr → Prop}
theorem St.forget {σ' : Sto} (T : St B h₀ P env σ O h) (hs : ∀ x b, σ'.get x = some b → σ.get x = some b) : St B h₀ P env σ' O h :=
  ⟨T.base, T.keep, T.plive, T.live, T.new, T.ok, T.loc, T.ns, T.cells, fun x b e => T.vars x b (hs x b e), fun x y ds es a ne hx hy => T.apart x y ds es a ne (hs _ _ hx) (hs _ _ hy)⟩
/-- an own address that no name holds is changed -/
theorem St.chg (T : St B h₀ P env σ O h) {c : Addr} (hc : O c) (hs : Heap.SameBut c h h') (hlc : ∃ o, h'.get? c = some o) (hl : c ≠ env.locals) (hcell : ∀ y k, env.cells.lookup y = some k → k ≠ c)
    (hv : ∀ x ds, σ.get x = some (.own ds) → ¬ VarIs env h (S x) (.ref c)) : St B h₀ P env σ O h' := by
  have hk : ∀ a o, ¬ (P a ∨ O a) → h.get? a = some o → h'.get? a = some o := fun a o n e => (hs.2 a (fun q => n (.inr (q ▸ hc)))).trans e
  have mvv : ∀ {x w}, VarIs env h x w → VarIs env h' x w := by
    rintro x w (⟨kd, m, nn, e⟩ | ⟨kd, k, l, e⟩)
    · exact .inl ⟨kd, m, nn.sameBut hs (Ne.symm hl), e⟩
    · exact .inr ⟨kd, k, l, e.sameBut hs (hcell _ _ l)⟩
  have bck : ∀ {x w}, (∃ b, σ.get x = some b) → VarIs env h' (S x) w → VarIs env h (S x) w := by
    rintro x w ⟨b, hb⟩ hw
    obtain ⟨w', hw'⟩ := (T.vars x b hb).var
    rw [hw.fn (mvv hw')]; exact hw'
  have mv : ∀ {v d}, Rp h (fun a => P a ∨ O a) v d → Rp h' (fun a => P a ∨ O a) v d := fun r => r.mono hk fun _ _ n _ => n
  have mva : ∀ {v d}, RpAll h (fun a => P a ∨ O a) v d → RpAll h' (fun a => P a ∨ O a) v d := fun r => r.mono hk fun _ _ n _ => n
  refine ⟨T.base, fun b o e => ?_, T.plive, fun a q => ?_, T.new, T.ok, T.loc, let ⟨m, nn⟩ := T.ns; ⟨m, nn.sameBut hs (Ne.symm hl)⟩, fun y k e => ?_, fun y b' e => ?_, fun y z ds es a ne hy hz vy vz => ?_⟩
  · exact (hs.2 b (fun q => by subst q; rw [T.new _ hc] at e; cases e)).trans (T.keep b o e)
  · by_cases q' : a = c
    · subst q'; exact hlc
    · obtain ⟨o, e⟩ := T.live a q; exact ⟨o, (hs.2 a q').trans e⟩
  · obtain ⟨⟨v, q⟩, f⟩ := T.cells y k e
    exact ⟨⟨v, q.sameBut hs (hcell _ _ e)⟩, f⟩
  · have := T.vars y b' e
    cases b' with
    | val d => obtain ⟨w, hw, r⟩ := this; exact ⟨w, mvv hw, mv r⟩
    | own ds =>
      obtain ⟨a, vs, hw, h1, h2, h3, h4⟩ := this
      refine ⟨a, vs, mvv hw, h1, h2, ?_, mva h4⟩
      have ha : a ≠ c := fun q => hv y ds e (q ▸ hw)
      obtain ⟨o, ho⟩ := h3
      exact ⟨o, (hs.2 a ha).trans ho⟩
  · exact T.apart y z ds es a ne hy hz (bck ⟨_, hy⟩ vy) (bck ⟨_, hz⟩ vz)
end

/-- a namespace that is let go -/
theorem St.lose {B : Bas} {env : Env} {σ : Sto} {h₀ h h' : Heap} {P O : Addr → Prop} {C : Addr} {m : Str → Option Value} (T : St B h₀ P env σ (fun b => O b ∨ b = C) h) (hs : Heap.SameBut C h h') (hn : h.Ns C m) (hl : env.locals ≠ C) (hcell : ∀ y k, env.cells.lookup y = some k → k ≠ C) (hC : ¬ O C) : St B h₀ P env σ O h' := by
  have up : ∀ a o, a ≠ C → h.get? a = some o → h'.get? a = some o := fun a o ne e => (hs.2 a ne).trans e
  have hk : ∀ a o, ¬ (P a ∨ (O a ∨ a = C)) → h.get? a = some o → h'.get? a = some o := fun a o n e => up a o (fun q => n (.inr (.inr q))) e
  have hx : ∀ a o, ¬ (P a ∨ (O a ∨ a = C)) → h.get? a = some o → ¬ (P a ∨ O a) := fun a o n _ q => n (q.imp id .inl)
  have locO : O env.locals := by rcases T.loc with q | q; exact q; exact absurd q hl
  have mvv : ∀ {x w}, VarIs env h x w → VarIs env h' x w := by
    rintro x w (⟨kd, m, nn, e⟩ | ⟨kd, k, l, e⟩)
    · exact .inl ⟨kd, m, nn.sameBut hs hl, e⟩
    · exact .inr ⟨kd, k, l, e.sameBut hs (hcell _ _ l)⟩
  have bck : ∀ {x w}, (∃ b, σ.get x = some b) → VarIs env h' (S x) w → VarIs env h (S x) w := by
    rintro x w ⟨b, hb⟩ hw
    obtain ⟨w', hw'⟩ := (T.vars x b hb).var
    rw [hw.fn (mvv hw')]; exact hw'
  refine ⟨T.base, fun b o e => up b o (fun q => by rw [q, T.new C (.inr rfl)] at e; cases e) (T.keep b o e), T.plive, fun a q => ?_, fun a q => T.new a (.inl q), T.ok, locO, let ⟨m, nn⟩ := T.ns; ⟨m, nn.sameBut hs hl⟩, fun y k e => ?_, fun y b' e => ?_, fun y z ds es a ne hy hz vy vz => ?_⟩
  · obtain ⟨o, e⟩ := T.live a (.inl q); exact ⟨o, up a o (fun e' => hC (e' ▸ q)) e⟩
  · obtain ⟨⟨v, q⟩, g⟩ := T.cells y k e
    exact ⟨⟨v, q.sameBut hs (hcell _ _ e)⟩, fun f => (g f).elim id fun q => absurd q (hcell _ _ e)⟩
  · have := T.vars y b' e
    cases b' with
    | val d => obtain ⟨w, hw, r⟩ := this; exact ⟨w, mvv hw, r.mono hk hx⟩
    | own ds =>
      obtain ⟨a, vs, hw, h1, h2, h3, h4⟩ := this
      have ha : a ≠ C := plain_ne_ns h3.isList hn
      refine ⟨a, vs, mvv hw, h1.elim id fun q => absurd q ha, h2, ?_, h4.mono hk hx⟩
      obtain ⟨o, ho⟩ := h3
      exact ⟨o, up a _ ha ho⟩
  · exact T.apart y z ds es a ne hy hz (bck ⟨_, hy⟩ vy) (bck ⟨_, hz⟩ vz)

/-- the tests of a comprehension's clause -/
def Tsts (B : Bas) (n : Nat) (env : Env) (σ : Sto) (ifs : List Expr) (p : Bool) : Prop :=
  ∀ (h₀ : Heap) (P O : Addr → Prop) (A : Around) (s : Shared) (E : Value → Shared → Prop) (Q : Bool → Shared → Prop), B.Ok → AOk n A → St B h₀ P env σ O s.heap →
    (∀ s', Keeps s s' → Q p s') → wpAny (model B.prog B.w) A (forIn ifs true fun c r => if r = true then do let ok ← isTrue c env (eval c env); pure (ForInStep.yield ok) else pure (ForInStep.yield r)) Q E s
theorem tsts_nil {B n env σ} : Tsts B n env σ [] true := fun h₀ P O A s E Q bo ao T q => wpAny_pure (q s (krefl s))
theorem tsts_one {B n env σ c p} (x : Tst B n env σ c p) : Tsts B n env σ [c] p := fun h₀ P O A s E Q bo ao T q => by
  rw [List.forIn_cons]
  simp only [if_true]
  refine wpAny_bind (wpAny_bind (x h₀ P O A s E _ bo ao T fun s' k => wpAny_pure ?_))
  exact wpAny_pure (q s' k)

/-- the environment of a comprehension -/
structure CEnv (sc : Scope) (cenv : Env) : Prop where
  loc : ∀ x, sc.names.lookup x = some .local → cenv.kindOf x = some .local
  glob : ∀ x, sc.names.lookup x = some .globalImplicit → cenv.kindOf x = some .globalImplicit

def capt (σ : Sto) (caps : List String) : Sto := caps.filterMap fun x => match σ.get x with | some (.val d) => some (x, .val d) | _ => none

theorem capt_get {σ : Sto} {caps : List String} {x : String} {b : Bnd} (h : (capt σ caps).get x = some b) : x ∈ caps ∧ ∃ d, b = .val d ∧ σ.get x = some (.val d) := by
  induction caps with
  | nil => cases h
  | cons y r ih =>
    unfold capt at h
    rw [List.filterMap_cons] at h
    have rest : (capt σ r).get x = some b → x ∈ y :: r ∧ ∃ d, b = .val d ∧ σ.get x = some (.val d) := fun h => (ih h).imp (List.mem_cons_of_mem _) id
    split at h
    · exact rest h
    · rename_i p hp
      split at hp
      · cases hp
        rename_i d hd
        unfold Sto.get at h
        by_cases hy : y = x
        · subst hy; rw [if_pos rfl] at h; cases h
          exact ⟨List.mem_cons_self .., _, rfl, hd⟩
        · rw [if_neg hy] at h; exact rest h
      · cases hp

theorem lookup_relabel {env : Env} {k : NameKind} (hk : k ≠ .free) : ∀ {names : List (Str × NameKind)} {x : Str}, names.lookup x = some k →
    (names.map fun (n, k) => if (k == NameKind.free && env.scope.kind == .function && env.kindOf n == some .cell) then (n, NameKind.cell) else (n, k)).lookup x = some k
  | [], _, h => by simp at h
  | (m, j) :: r, x, h => by
    have ih := @lookup_relabel env k hk r x
    show List.lookup x ((if (j == NameKind.free && env.scope.kind == .function && env.kindOf m == some .cell) = true then (m, NameKind.cell) else (m, j)) :: _) = _
    cases hx : x == m with
    | true =>
      simp only [List.lookup_cons, hx] at h
      cases h
      have : (k == NameKind.free) = false := by simpa using hk
      rw [this]
      simp [List.lookup_cons, hx]
    | false =>
      simp only [List.lookup_cons, hx] at h
      by_cases hc : (j == NameKind.free && env.scope.kind == .function && env.kindOf m == some .cell) = true
      · rw [if_pos hc]; simp only [List.lookup_cons, hx]; exact ih h
      · rw [if_neg hc]; simp only [List.lookup_cons, hx]; exact ih h
theorem lookup_relabel_free {env : Env} : ∀ {names : List (Str × NameKind)} {x : Str}, names.lookup x = some .free →
    (names.map fun (n, k) => if (k == NameKind.free && env.scope.kind == .function && env.kindOf n == some .cell) then (n, NameKind.cell) else (n, k)).lookup x = some .cell ∨
    (names.map fun (n, k) => if (k == NameKind.free && env.scope.kind == .function && env.kindOf n == some .cell) then (n, NameKind.cell) else (n, k)).lookup x = some .free
  | [], _, h => by simp at h
  | (m, j) :: r, x, h => by
    have ih := @lookup_relabel_free env r x
    show List.lookup x ((if (j == NameKind.free && env.scope.kind == .function && env.kindOf m == some .cell) = true then (m, NameKind.cell) else (m, j)) :: _) = _ ∨ List.lookup x ((if (j == NameKind.free && env.scope.kind == .function && env.kindOf m == some .cell) = true then (m, NameKind.cell) else (m, j)) :: _) = _
    cases hx : x == m with
    | true =>
      simp only [List.lookup_cons, hx] at h
      cases h
      split <;> simp [List.lookup_cons, hx]
    | false =>
      simp only [List.lookup_cons, hx] at h
      split <;> (simp only [List.lookup_cons, hx]; exact ih h)

/-- the cells that a comprehension takes along -/
def closG (env : Env) : List (Str × NameKind) → List (Str × Addr) → List (Str × Addr)
  | [], acc => acc
  | (x, k) :: r, acc => closG env r (if k == .free then (x, (env.cells.lookup x).getD 0) :: acc else acc)
theorem closureFor_eq {sc : Scope} {env : Env} (h : ∀ x ∈ sc.names, x.2 = .free → (env.cells.lookup x.1).isSome = true) : closureFor sc env = pure (closG env sc.names []) := by
  have key : ∀ (names : List (Str × NameKind)) (acc : List (Str × Addr)), (∀ x ∈ names, x.2 = .free → (env.cells.lookup x.1).isSome = true) →
      (forIn names acc fun (x : Str × NameKind) (r : List (Str × Addr)) => (if x.2 == .free then do let __do_lift ← cellOf env x.1; pure (ForInStep.yield ((x.1, __do_lift) :: r)) else pure (ForInStep.yield r) : Sem (ForInStep (List (Str × Addr))))) = (pure (closG env names acc) : Sem (List (Str × Addr))) := by
    intro names
    induction names with
    | nil => intro acc _; rfl
    | cons p r ih =>
      intro acc hn
      obtain ⟨x, k⟩ := p
      rw [List.forIn_cons]
      by_cases hk : k = .free
      · subst hk
        obtain ⟨c, hc⟩ := Option.isSome_iff_exists.mp (hn (x, .free) (List.mem_cons_self ..) rfl)
        have : cellOf env x = pure c := by unfold cellOf; rw [hc]
        simp only [beq_self_eq_true, if_true, this, pure_bind]
        rw [ih _ fun y hy => hn y (List.mem_cons_of_mem _ hy)]
        simp [closG, hc]
      · have : (k == NameKind.free) = false := by simpa using hk
        simp only [this, Bool.false_eq_true, if_false, pure_bind]
        rw [ih _ fun y hy => hn y (List.mem_cons_of_mem _ hy)]
        simp [closG, this]
  simp only [closureFor]
  rw [key _ _ h]
  rfl
theorem closG_sub {env : Env} {names : List (Str × NameKind)} {acc : List (Str × Addr)} (h : ∀ x ∈ names, x.2 = .free → (env.cells.lookup x.1).isSome = true) (ha : ∀ x c, acc.lookup x = some c → env.cells.lookup x = some c) :
    ∀ x c, (closG env names acc).lookup x = some c → env.cells.lookup x = some c := by
  induction names generalizing acc with
  | nil => exact ha
  | cons p r ih =>
    obtain ⟨y, k⟩ := p
    unfold closG
    refine ih (fun z hz => h z (List.mem_cons_of_mem _ hz)) ?_
    intro x c hx
    split at hx
    · rename_i hk
      rw [List.lookup_cons] at hx
      split at hx
      · rename_i e
        cases hx
        obtain ⟨c, hc⟩ := Option.isSome_iff_exists.mp (h (y, k) (List.mem_cons_self ..) (by simpa using hk))
        have e' := beq_iff_eq.mp e
        subst e'
        rw [hc]; rfl
      · exact ha x c hx
    · exact ha x c hx
theorem closG_free {env : Env} {names : List (Str × NameKind)} {acc : List (Str × Addr)} {x : Str} (hx : (x, NameKind.free) ∈ names ∨ (acc.lookup x).isSome = true) : ((closG env names acc).lookup x).isSome = true := by
  induction names generalizing acc with
  | nil => rcases hx with hx | hx; cases hx; exact hx
  | cons p r ih =>
    obtain ⟨y, k⟩ := p
    unfold closG
    refine ih ?_
    rcases hx with hx | hx
    · rcases List.mem_cons.mp hx with e | e
      · cases e; right; simp
      · exact .inl e
    · right
      split
      · rw [List.lookup_cons]; split <;> first | rfl | exact hx
      · exact hx

section
variable {B : Bas} {n : Nat} {env : Env} {σ : Sto}

theorem comp_loop {R : Result → Shared → Prop} {A : Around} {s : Shared} {elt target iter : Expr} {ifs : List Expr} {scope : Scope} {pos : Pos} {it acc : Value} {env : Env} (I : Nat → Shared → Prop)
    (turn : ∀ n s, I n s → wpAny (model B.prog B.w) A (pyNext it) (fun r s₁ => match r with
      | none => R (.ok .next) s₁
      | some v => wpAny (model B.prog B.w) A (letOwnedTupleGo target it v) (fun _ s₁' => wpAny (model B.prog B.w) A (assign target env v) (fun _ s₂ =>
          wpAny (model B.prog B.w) A (forIn ifs true fun c r => if r = true then do let ok ← isTrue c env (eval c env); pure (ForInStep.yield ok) else pure (ForInStep.yield r)) (fun ok s₃ =>
            if ok = true then wpAny (model B.prog B.w) A (eval elt env) (fun x s₄ =>
              wpAny (model B.prog B.w) A (call (.builtin "list.append") [acc, x]) (fun _ s₅ => ∃ m, m < n ∧ I m s₅) (notedBy (model B.prog B.w) A env fun e s' => R (.error e) s') s₄) (notedBy (model B.prog B.w) A env fun e s' => R (.error e) s') s₃
            else ∃ m, m < n ∧ I m s₃) (notedBy (model B.prog B.w) A env fun e s' => R (.error e) s') s₂) (notedBy (model B.prog B.w) A env fun e s' => R (.error e) s') s₁') (notedBy (model B.prog B.w) A env fun e s' => R (.error e) s') s₁) (notedBy (model B.prog B.w) A env fun e s' => R (.error e) s') s)
    (n : Nat) (h : I n s) : codeAny (model B.prog B.w) A (.compLoop (.ListComp elt [⟨target, iter, ifs, 0⟩] scope pos) 0 it acc env) R s := by
  refine codeAny_loop rfl I (fun n s hI => ?_) n h
  show wpAny _ A ((compTurn (.ListComp elt [⟨target, iter, ifs, 0⟩] scope pos) 0 it acc env).onRaise (fun x => do noteFrame x env; theTreesLotGoes x)) _ _ s
  refine wpAny_noted ?_
  rw [compTurn_list]
  refine wpAny_bind (wpAny_standAt (wpAny_bind (wpAny_mono (turn n s hI) (fun r s₁ h₁ => ?_) fun _ _ h' => h')))
  cases r with
  | none => exact wpAny_pure h₁
  | some v =>
    refine wpAny_bind (wpAny_mono h₁ (fun _ s₁' h₁' => ?_) fun _ _ h' => h')
    refine wpAny_bind (wpAny_mono h₁' (fun _ s₂ h₂ => wpAny_bind (wpAny_mono h₂ (fun ok s₃ h₃ => ?_) fun _ _ h' => h')) fun _ _ h' => h')
    cases ok with
    | false => exact wpAny_pure ⟨rfl, h₃⟩
    | true =>
      exact wpAny_bind (wpAny_bind (wpAny_mono h₃ (fun x s₄ h₄ => wpAny_bind (wpAny_mono h₄ (fun _ s₅ h₅ => wpAny_pure (wpAny_pure ⟨rfl, h₅⟩)) fun _ _ h' => h')) fun _ _ h' => h'))

/-- a comprehension's own conditions -/
structure CompOk (sc : Scope) (env : Env) (caps : List String) : Prop where
  kind : sc.kind = .function
  nocell : ∀ y ∈ sc.names, y.2 ≠ .cell
  locals : ∀ y ∈ sc.names, y.2 = .local → sc.names.lookup y.1 = some .local
  free : ∀ x ∈ sc.names, x.2 = .free → (env.cells.lookup x.1).isSome = true
  caps : ∀ x ∈ caps, sc.names.lookup (S x) = some .free ∧ (env.kindOf (S x) = some .cell ∨ env.kindOf (S x) = some .free)

theorem comp_core {elt target iter : Expr} {ifs : List Expr} {sc : Scope} {pos : Pos} {α : Type} {ds : List α} {caps : List String} (g : α → D) (p : α → Bool) (f : α → D) (ok : CompOk sc env caps) (hsz : ds.length ≤ 1000000)
    (turn : ∀ cenv, CEnv sc cenv → ∀ d ∈ ds, ∃ σd, Asg B n cenv (capt σ caps) target (g d) σd ∧ (∀ x b, (capt σ caps).get x = some b → σd.get x = some b) ∧ Tsts B n cenv σd ifs (p d) ∧ (p d = true → Ev B n cenv σd elt (f d)))
    {h₀ : Heap} {P O : Addr → Prop} {A : Around} {s s₂ : Shared} {E : Value → Shared → Prop} (bo : B.Ok) (ao : AOk n A) (T : St B h₀ P env σ O s.heap) (k₂ : Keeps s s₂) {I : Addr} {fp wr : List Addr} {Pv : Nat → Value → Prop} {Si : Nat → Heap → Prop}
    (it : Iter B A I fp wr ds.length Pv Si) (st : Si 0 s₂.heap) (hw : ∀ b ∈ wr, s.heap.get? b = none) (hfp : ∀ b ∈ fp, b < s₂.heap.objs.size) (hr : ∀ i v, Pv i v → ∃ d, ds[i]? = some d ∧ Rp s₂.heap (fun a => P a ∨ O a) v (g d))
    {RR : Value → Addr → Result → Shared → Prop}
    (hRR : ∀ Da C h' tk m' (ys : List Value), s₂.heap.get? Da = none → s₂.heap.get? C = none → Da ≠ C → h'.Ns C m' → h'.PlainList Da ys.toArray → RpAll h' (fun b => P b ∨ O b ∨ b = Da ∨ b = C) ys ((ds.filter p).map f) →
      (∀ b o, b ∉ wr → s₂.heap.get? b = some o → h'.get? b = some o) → RR (.ref Da) C (.ok .next) { s₂ with heap := h', toks := tk }) :
    wpAny (model B.prog B.w) A (newList []) (fun acc s₃ => wpAny (model B.prog B.w) A (newFunctionEnv sc env.globals (closG env sc.names []) [] env.qual none .none (some env)) (fun cenv s₄ =>
      codeAny (model B.prog B.w) A (.compStart (.ListComp elt [⟨target, iter, ifs, 0⟩] sc pos) 0 (.ref I) acc { cenv with scope := relabel sc env }) (RR acc cenv.locals) s₄) E s₃) E s₂ := by
  refine wpAny_newObj_type (wpAny_newFunctionEnv ok.nocell (by intro y hy; simp at hy) (fun h₁ hns₁ hsb₁ => ?_) ok.kind)
  dsimp only at hns₁ hsb₁ ⊢
  generalize hH2 : s₂.heap.push { cls := .type "list", dict := none, data := .seq ([] : List Value).toArray } = H2 at hns₁ hsb₁ ⊢
  have hCsz : H2.objs.size = s₂.heap.objs.size + 1 := by rw [← hH2, Heap.size_push]
  generalize hC : H2.objs.size = C at hns₁ hsb₁ hCsz ⊢
  generalize hD : s₂.heap.objs.size = Da at hCsz ⊢
  have hDC : Da ≠ C := by omega
  have Dnew : s₂.heap.get? Da = none := fresh_of (by omega)
  have Cnew : s₂.heap.get? C = none := fresh_of (by omega)
  have old : ∀ b o, s₂.heap.get? b = some o → h₁.get? b = some o := fun b o e => hsb₁.extBut b o (fun q => by subst q; rw [Cnew] at e; cases e) (Heap.get?_push_of_some _ (hH2 ▸ Heap.get?_push_of_some _ e))
  have hacc : h₁.PlainList Da #[] := by
    refine ⟨_, hsb₁.extBut _ _ hDC (Heap.get?_push_of_some _ (hH2 ▸ hD ▸ Heap.get?_push_size _ rfl))⟩
  show codeAny _ A (.compStart (.ListComp elt [⟨target, iter, ifs, 0⟩] sc pos) 0 (.ref I) (.ref Da) (compEnvC sc (closG env sc.names []) C env)) (RR (.ref Da) C) { s₂ with heap := h₁, toks := s₂.toks + 0 }
  generalize hce : compEnvC sc (closG env sc.names []) C env = cenv
  have cscope : cenv.scope = relabel sc env := by rw [← hce]; rfl
  have clocals : cenv.locals = C := by rw [← hce]; rfl
  have cglobals : cenv.globals = env.globals := by rw [← hce]; rfl
  have cbuiltins : cenv.builtins = env.builtins := by rw [← hce]; rfl
  have ccells : cenv.cells = closG env sc.names [] := by rw [← hce]; rfl
  have cfunc : cenv.func = none := by rw [← hce]; rfl
  have csub : ∀ x c, cenv.cells.lookup x = some c → env.cells.lookup x = some c := by rw [ccells]; exact closG_sub ok.free (by intro x c h; cases h)
  have CE : CEnv sc cenv := ⟨fun x h => by unfold Env.kindOf; rw [cscope]; exact lookup_relabel (by decide) h, fun x h => by unfold Env.kindOf; rw [cscope]; exact lookup_relabel (by decide) h⟩
  have T₂ := T.kp k₂
  have sD : s.heap.get? Da = none := by
    cases e : s.heap.get? Da with
    | none => rfl
    | some o => rw [kheap k₂ _ _ e] at Dnew; cases Dnew
  have sC : s.heap.get? C = none := by
    cases e : s.heap.get? C with
    | none => rfl
    | some o => rw [kheap k₂ _ _ e] at Cnew; cases Cnew
  have hx2 : ∀ a o, ¬ (P a ∨ O a) → s₂.heap.get? a = some o → ¬ ((P a ∨ O a) ∨ (a = C ∨ a = Da)) := by
    rintro a o na e (q | q | q)
    · exact na q
    · subst q; rw [Cnew] at e; cases e
    · subst q; rw [Dnew] at e; cases e
  have T0 : St B s.heap (fun b => P b ∨ O b) cenv (capt σ caps) (fun b => b = C ∨ b = Da) h₁ := by
    refine ⟨T.here, fun b o e => old b o (kheap k₂ b o e), ?_, ?_, ?_, ⟨?_, by rw [cglobals]; exact T.ok.globals, by rw [cbuiltins]; exact T.ok.builtins, fun x y c h1 h2 => T.ok.apart x y c (csub _ _ h1) (csub _ _ h2)⟩, .inl clocals, ⟨_, clocals ▸ hns₁⟩, ?_, ?_, ?_⟩
    · exact fun b q => T.xlive q
    · rintro b (q | q)
      · subst q; obtain ⟨o, _, _, e, _⟩ := hns₁; exact ⟨o, e⟩
      · subst q; obtain ⟨o, e⟩ := hacc; exact ⟨_, e⟩
    · rintro b (q | q)
      · subst q; exact sC
      · subst q; exact sD
    · rw [cscope]; exact ok.kind
    · intro x c l
      obtain ⟨⟨v, e⟩, _⟩ := T₂.cells x c (csub x c l)
      exact ⟨⟨v, e.keeps old⟩, fun q => by rw [cfunc] at q; cases q⟩
    · intro x b hb
      obtain ⟨hxc, d, rfl, hσ⟩ := capt_get hb
      obtain ⟨v, hv, r⟩ := T₂.vars x _ hσ
      obtain ⟨h1, h2⟩ := ok.caps x hxc
      refine ⟨v, ?_, r.mono (fun a o _ e => old a o e) hx2⟩
      have hin : (S x, NameKind.free) ∈ sc.names := PySem.mem_of_lookup h1
      obtain ⟨c, hc⟩ := Option.isSome_iff_exists.mp (closG_free (env := env) (acc := []) (.inl hin))
      rw [← ccells] at hc
      refine .inr ⟨?_, c, hc, ?_⟩
      · unfold Env.kindOf; rw [cscope]; exact lookup_relabel_free h1
      · rcases hv with ⟨kd, _⟩ | ⟨kd, c', l, e⟩
        · rcases h2 with h2 | h2 <;> rw [h2] at kd <;> cases kd
        · rw [csub _ _ hc] at l; cases l; exact e.keeps old
    · intro x y ds' es a ne hx
      obtain ⟨_, _, e, _⟩ := capt_get hx; cases e
  have st₁ : Si 0 h₁ := it.W.frame _ _ _ st fun b _ o e => old b o e
  have loop : ∀ s₃ : Shared, s₃ = { s₂ with heap := h₁, toks := s₂.toks + 0 } → codeAny (model B.prog B.w) A (.compLoop (.ListComp elt [⟨target, iter, ifs, 0⟩] sc pos) 0 (.ref I) (.ref Da) cenv) (RR (.ref Da) C) s₃ := by
    rintro s₃ rfl
    have fpD : ∀ b ∈ fp, b ≠ Da := fun b hb q => by have := hfp b hb; rw [hD, q] at this; exact Nat.lt_irrefl _ this
    have fpC : ∀ b ∈ fp, b ≠ C := fun b hb q => by have := hfp b hb; rw [hD, q, hCsz] at this; exact Nat.lt_irrefl _ (Nat.lt_of_succ_lt this)
    refine comp_loop (fun (kk : Nat) (s' : Shared) => ∃ i ys, kk = ds.length + 1 - i ∧ i ≤ ds.length ∧ (∃ h' tk, s' = { s₂ with heap := h', toks := tk }) ∧ Si i s'.heap ∧
        St B s.heap (fun b => P b ∨ O b) cenv (capt σ caps) (fun b => b = C ∨ b = Da) s'.heap ∧ s'.heap.PlainList Da (List.toArray ys) ∧ RpAll s'.heap (fun a => (P a ∨ O a) ∨ (a = C ∨ a = Da)) ys (((ds.take i).filter p).map f) ∧
        (∀ b o, b ∉ wr → s₂.heap.get? b = some o → s'.heap.get? b = some o)) ?_ (ds.length + 1)
      ⟨0, [], rfl, Nat.zero_le _, ⟨_, _, rfl⟩, st₁, T0, hacc, by simpa using RpAll.nil, fun b o _ e => old b o e⟩
    rintro kk s' ⟨i, ys, rfl, hi, ⟨hh, tk, rfl⟩, st', T', hl', hy', hk'⟩
    have stepSt : ∀ h₁ : Heap, (∀ b o, b ∉ wr → hh.get? b = some o → h₁.get? b = some o) → ∀ b o, ¬ IterObj o → hh.get? b = some o → h₁.get? b = some o := fun h₁ hk₁ a o ni e =>
      hk₁ a o (fun hbw => by obtain ⟨o', e', q⟩ := it.kind i _ st' a hbw; rw [e] at e'; cases e'; exact ni q) e
    have goSt : ∀ h₁ : Heap, (∀ b o, b ∉ wr → hh.get? b = some o → h₁.get? b = some o) → St B s.heap (fun b => P b ∨ O b) cenv (capt σ caps) (fun b => b = C ∨ b = Da) h₁ := fun h₁ hk₁ => by
      refine T'.step (stepSt h₁ hk₁) (fun b o e => hk₁ b o (fun hbw => by have := hw b hbw; rw [e] at this; cases this) (T'.keep b o e)) ?_
      rintro a q
      obtain ⟨o, e⟩ := T'.live a q
      refine ⟨o, hk₁ a o (fun hbw => ?_) e⟩
      rcases q with q | q
      · exact fpC a (it.W.sub a hbw) q
      · exact fpD a (it.W.sub a hbw) q
    by_cases hlt : i < ds.length
    · refine it.W.item i _ _ _ hlt st' fun v h₂ tk₂ hPv st₂ hk₂ => ?_
      obtain ⟨d, hd, rd⟩ := hr i v hPv
      obtain ⟨e1, e2⟩ := take_split hd
      have Tn := goSt h₂ hk₂
      have rd' : Rp h₂ (fun a => (P a ∨ O a) ∨ (a = C ∨ a = Da)) v (g d) := (rd.stepX (h' := hh) (fun a o na ni e => hk' a o (fun haw => by obtain ⟨o', e', q⟩ := it.kind 0 _ st a haw; rw [e] at e'; cases e'; exact ni q) e) hx2).step (stepSt h₂ hk₂)
      obtain ⟨σd, ha, hfor, hts, hel⟩ := turn cenv CE d (List.mem_of_getElem? hd)
      refine it.go _ _ _ _ _ _ st₂ (ha _ _ _ A _ _ _ v bo ao Tn rd' fun s₃ m₃ T₃ => ?_)
      -- Da stands through the stores
      have hnD : ¬ Names cenv Da := by
        rintro (q | ⟨q, _⟩)
        · rw [clocals] at q; exact hDC q
        · rw [cfunc] at q; cases q
      obtain ⟨h3, tk3, rfl, k3⟩ := m₃
      have hl3 : h3.PlainList Da ys.toArray := by
        have := plist_step (stepSt h₂ hk₂) hl'
        obtain ⟨o, e⟩ := this
        exact ⟨o, k3 _ _ hnD e⟩
      have nm : ∀ b, Names cenv b → b = C := by
        rintro b (q | ⟨q, _⟩)
        · rw [clocals] at q; exact q
        · rw [cfunc] at q; cases q
      have hy3 : RpAll h3 (fun a => (P a ∨ O a) ∨ (a = C ∨ a = Da)) ys (((ds.take i).filter p).map f) := (hy'.step (stepSt h₂ hk₂)).mono (fun a o na e => k3 a o (fun q => na (.inr (.inl (nm a q)))) e) fun _ _ n _ => n
      have st3 : Si (i + 1) h3 := it.W.frame _ _ _ st₂ fun b hb o e => k3 b o (fun q => fpC b hb (nm b q)) e
      have hk3 : ∀ b o, b ∉ wr → s₂.heap.get? b = some o → h3.get? b = some o := fun b o nw e => k3 b o (fun q => by rw [nm b q, Cnew] at e; cases e) (hk₂ b o nw (hk' b o nw e))
      refine hts _ _ _ A _ _ _ bo ao T₃ fun s₄ k₄ => ?_
      have T₄ := T₃.kp k₄
      have hlen : ys.length ≤ 1000000 := by
        rw [hy'.length, List.length_map]
        exact Nat.le_trans (List.length_filter_le _ _) (Nat.le_trans (by rw [List.length_take]; omega) hsz)
      cases hp : p d with
      | false =>
        simp only [Bool.false_eq_true, if_false]
        obtain ⟨h4, tk4, rfl, k4⟩ := k₄
        refine ⟨ds.length + 1 - (i + 1), by omega, i + 1, ys, rfl, hlt, ⟨h4, tk4, rfl⟩, it.W.frame _ _ _ st3 fun b _ o e => k4 b o e, T₄.forget hfor, hl3.at fun o e => k4 _ o e, ?_, fun b o nw e => k4 b o (hk3 b o nw e)⟩
        rw [e2, List.filter_append]
        simp only [List.filter_cons, hp, Bool.false_eq_true, if_false, List.filter_nil, List.append_nil]
        exact hy3.keeps k4
      | true =>
        simp only [if_true]
        refine hel hp _ _ _ A _ _ _ bo ao T₄ fun w s₅ k₅ rw' => ?_
        obtain ⟨h5, tk5, rfl, k5⟩ := ktrans k₄ k₅
        have hl5 : h5.PlainList Da ys.toArray := hl3.at fun o e => k5 _ o e
        refine wpAny_list_append_plain hl5 (fun h6 hl6 hs6 => ?_) (by rw [List.size_toArray]; exact szLine hlen)
        have hk6 : ∀ a o, a ≠ Da → h5.get? a = some o → h6.get? a = some o := fun a o ne e => (hs6.2 a ne).trans e
        have T₅ : St B s.heap (fun b => P b ∨ O b) cenv (capt σ caps) (fun b => b = C ∨ b = Da) h5 := (T₃.keeps k5).forget hfor
        refine ⟨ds.length + 1 - (i + 1), by omega, i + 1, ys ++ [w], rfl, hlt, ⟨h6, tk5, rfl⟩, it.W.frame _ _ _ st3 fun b hb o e => hk6 b o (fpD b hb) (k5 b o e), ?_, ?_, ?_, fun b o nw e => hk6 b o (fun q => by rw [q, Dnew] at e; cases e) (k5 b o (hk3 b o nw e))⟩
        · refine T₅.chg (.inr rfl) hs6 (by obtain ⟨o, e⟩ := hl6; exact ⟨_, e⟩) (by rw [clocals]; exact hDC) ?_ ?_
          · intro y c l q
            obtain ⟨⟨v', e'⟩, _⟩ := T₅.cells y c l
            exact plain_ne_cell hl5.isList e' q.symm
          · intro x es hx
            obtain ⟨_, _, e, _⟩ := capt_get hx; cases e
        · simpa using hl6
        · rw [e2, List.filter_append, List.map_append]
          simp only [List.filter_cons, hp, if_true, List.filter_nil, List.map_cons, List.map_nil]
          have up : ∀ a o, ¬ ((P a ∨ O a) ∨ (a = C ∨ a = Da)) → h5.get? a = some o → h6.get? a = some o := fun a o na e => hk6 a o (fun q => na (.inr (.inr q))) e
          exact ((hy3.keeps k5).mono up fun _ _ n _ => n).append (.one (rw'.mono up fun _ _ n _ => n))
    · have hi' : i = ds.length := by omega
      subst hi'
      rw [List.take_length] at hy'
      refine it.W.done _ _ _ st' fun h₂ tk₂ hk₂ => ?_
      obtain ⟨m', hn'⟩ := (goSt h₂ hk₂).ns
      rw [clocals] at hn'
      refine hRR Da C h₂ tk₂ m' ys Dnew Cnew hDC hn' (plist_step (stepSt h₂ hk₂) hl') ((hy'.step (stepSt h₂ hk₂)).sub ?_) fun b o nw e => hk₂ b o nw (hk' b o nw e)
      rintro b (q | q | q | q)
      · exact .inl (.inl q)
      · exact .inl (.inr q)
      · exact .inr (.inr q)
      · exact .inr (.inl q)
  exact codeAny_compStart_list (loop _ rfl) (it.W.self 0 _ _ _ st₁ (loop _ rfl))

theorem evn_comp {elt target iter : Expr} {ifs : List Expr} {sc : Scope} {pos : Pos} {α : Type} {ds : List α} (caps : List String) (g : α → D) (p : α → Bool) (f : α → D) (ok : CompOk sc env caps) (hsz : ds.length ≤ 1000000) (it : EvIt false B n env σ iter (ds.map g))
    (turn : ∀ cenv, CEnv sc cenv → ∀ d ∈ ds, ∃ σd, Asg B n cenv (capt σ caps) target (g d) σd ∧ (∀ x b, (capt σ caps).get x = some b → σd.get x = some b) ∧ Tsts B n cenv σd ifs (p d) ∧ (p d = true → Ev B n cenv σd elt (f d)))
    (hs : ∀ x, foldedSetIterable iter env x = pure x := by intro _; rfl) : EvN B n env σ (.ListComp elt [⟨target, iter, ifs, 0⟩] sc pos) ((ds.filter p).map f) := by
  intro h₀ P O A s E Q bo ao T q
  rw [eval_ListComp]
  refine wpAny_comprehension_free (use := none) rfl hs (closureFor_eq ok.free) ok.kind ok.locals (it h₀ P O A s E _ bo ao T fun s₂ I fp wr Pv Si k₂ iit st hw hfp _ hr₀ => ?_)
  rw [List.length_map] at iit
  have hr : ∀ i v, Pv i v → ∃ d, ds[i]? = some d ∧ Rp s₂.heap (fun a => P a ∨ O a) v (g d) := fun i v h => by
    obtain ⟨d, hd, r⟩ := hr₀ i v h
    rw [List.getElem?_map] at hd
    obtain ⟨x, hx, rfl⟩ := Option.map_eq_some_iff.mp hd
    exact ⟨x, hx, r⟩
  refine comp_core (RR := fun acc C => compPost (model B.prog B.w) A E none Q acc C) g p f ok hsz turn bo ao T k₂ iit st hw hfp hr ?_
  intro Da C h' tk m' ys hD hC hDC hn hl hy hk
  refine ⟨m', hn, fun h'' hs'' => ?_⟩
  have up : ∀ a o, a ≠ C → h'.get? a = some o → h''.get? a = some o := fun a o ne e => (hs''.2 a ne).trans e
  refine q Da ys _ ?_ ?_ ?_ ?_
  · obtain ⟨h2, tk2, rfl, k2⟩ := k₂
    exact ⟨h'', tk, rfl, fun b o e => up b o (fun q => by rw [q] at e; rw [k2 _ _ e] at hC; cases hC) (hk b o (fun q => by rw [hw b q] at e; cases e) (k2 b o e))⟩
  · cases e : s.heap.get? Da with
    | none => rfl
    | some o => rw [kheap k₂ _ _ e] at hD; cases hD
  · obtain ⟨o, e⟩ := hl; exact ⟨o, up _ _ hDC e⟩
  · refine hy.mono (fun a o na e => up a o (fun q => na (.inr (.inr (.inr q)))) e) fun a o na _ q => na ?_
    rcases q with q | q | q
    · exact .inl q
    · exact .inr (.inl q)
    · exact .inr (.inr (.inl q))

/-- a comprehension bound to a local name on its own line -/
theorem ex_assign_comp {R : Fl → Sto → Prop} {x : String} {px spos : Pos} {elt target iter : Expr} {ifs : List Expr} {sc : Scope} {pos : Pos} {α : Type} {ds : List α} (caps : List String) (g : α → D) (p : α → Bool) (f : α → D) (ok : CompOk sc env caps) (hsz : ds.length ≤ 1000000) (it : EvIt false B n env σ iter (ds.map g))
    (turn : ∀ cenv, CEnv sc cenv → ∀ d ∈ ds, ∃ σd, Asg B n cenv (capt σ caps) target (g d) σd ∧ (∀ x b, (capt σ caps).get x = some b → σd.get x = some b) ∧ Tsts B n cenv σd ifs (p d) ∧ (p d = true → Ev B n cenv σd elt (f d)))
    (hx : env.kindOf (S x) = some .local) (hsw : swapsWith (.ListComp elt [⟨target, iter, ifs, 0⟩] sc pos) (some (.Name (S x) px)) spos.line env = pure true) (h : R .next (σ.put x (.own ((ds.filter p).map f))))
    (hs : ∀ x, foldedSetIterable iter env x = pure x := by intro _; rfl) : Ex1 B n env σ (.Assign [.Name (S x) px] (.ListComp elt [⟨target, iter, ifs, 0⟩] sc pos) spos) R := by
  intro h₀ P O A s E bo ao T
  rw [exec_Assign_Name_used _ _ _ _ hsw]
  refine wpAny_bind (wpAny_standAt (wpAny_bind ?_))
  show wpAny _ A (do let _ ← comprehension (.ListComp elt [⟨target, iter, ifs, 0⟩] sc pos) sc env _ (newList []) false (eval iter env) (some (assign (.Name (S x) px) env))) _ _ s
  refine wpAny_bind (wpAny_mono (wpAny_comprehension_free (use := some (assign (.Name (S x) px) env)) (Q := fun _ s' => Post B h₀ P env O s R .next s') rfl hs (closureFor_eq ok.free) ok.kind ok.locals (it h₀ P O A s E _ bo ao T fun s₂ I fp wr Pv Si k₂ iit st hw hfp _ hr₀ => ?_)) (fun _ s' hq => wpAny_pure (wpAny_pure hq)) fun _ _ e => e)
  rw [List.length_map] at iit
  have hr : ∀ i v, Pv i v → ∃ d, ds[i]? = some d ∧ Rp s₂.heap (fun a => P a ∨ O a) v (g d) := fun i v h => by
    obtain ⟨d, hd, r⟩ := hr₀ i v h
    rw [List.getElem?_map] at hd
    obtain ⟨z, hz, rfl⟩ := Option.map_eq_some_iff.mp hd
    exact ⟨z, hz, r⟩
  refine comp_core (RR := fun acc C => compPost (model B.prog B.w) A E (some (assign (.Name (S x) px) env)) (fun _ s' => Post B h₀ P env O s R .next s') acc C) g p f ok hsz turn bo ao T k₂ iit st hw hfp hr ?_
  intro Da C h' tk m' ys hD hC hDC hn hl hy hk
  show wpAny _ A (assign (.Name (S x) px) env (.ref Da)) _ _ _
  have kk : Keeps s { s₂ with heap := h', toks := tk } := by
    obtain ⟨h2, tk2, rfl, k2⟩ := k₂
    exact ⟨h', tk, rfl, fun b o e => hk b o (fun q => by rw [hw b q] at e; cases e) (k2 b o e)⟩
  have sD : s.heap.get? Da = none := by
    cases e : s.heap.get? Da with
    | none => rfl
    | some o => rw [kheap k₂ _ _ e] at hD; cases hD
  have sC : s.heap.get? C = none := by
    cases e : s.heap.get? C with
    | none => rfl
    | some o => rw [kheap k₂ _ _ e] at hC; cases hC
  have T1 : St B h₀ P env σ (fun b => O b ∨ b = Da) h' := T.grow (kheap kk) sD (let ⟨_, e⟩ := hl; ⟨_, e⟩)
  have T2 : St B h₀ P env σ (fun b => (O b ∨ b = Da) ∨ b = C) h' := by
    have Tb := T.grow (h' := h') (kheap kk) sC (by obtain ⟨o, _, _, e, _⟩ := hn; exact ⟨o, e⟩)
    -- both new addresses at once
    have mvx : ∀ b o, ¬ (P b ∨ O b) → s.heap.get? b = some o → ¬ (P b ∨ ((O b ∨ b = Da) ∨ b = C)) := by
      rintro b o nb e (q | (q | q) | q)
      · exact nb (.inl q)
      · exact nb (.inr q)
      · rw [q, sD] at e; cases e
      · rw [q, sC] at e; cases e
    refine ⟨T.base, T1.keep, T.plive, ?_, ?_, T.ok, .inl T1.loc, T1.ns, fun y c l => ⟨(T1.cells y c l).1, fun g => .inl ((T1.cells y c l).2 g)⟩, ?_, T1.apart⟩
    · rintro b (q | q)
      · exact T1.live b q
      · exact Tb.live b (.inr q)
    · rintro b (q | q)
      · exact T1.new b q
      · exact Tb.new b (.inr q)
    · intro y b e
      have := T.vars y b e
      cases b with
      | val d => obtain ⟨v, hv, r⟩ := this; exact ⟨v, hv.keeps (kheap kk), r.mono (fun b o _ e => kheap kk b o e) mvx⟩
      | own es => obtain ⟨a', vs, hv, h1, h2, h3, h4⟩ := this; exact ⟨a', vs, hv.keeps (kheap kk), .inl (.inl h1), h2, h3.at fun o e => kheap kk _ o e, h4.mono (fun b o _ e => kheap kk b o e) mvx⟩
  have hne : Da ≠ env.locals := fun q => by obtain ⟨o, e⟩ := T.live _ T.loc; rw [← q, sD] at e; cases e
  have hLC : env.locals ≠ C := fun q => by obtain ⟨o, e⟩ := T.live _ T.loc; rw [q, sC] at e; cases e
  refine wpAny_assign_Name (wp_store (b := .own ((ds.filter p).map f)) (s := { s₂ with heap := h', toks := tk }) T2 (.inl hx) ⟨Da, ys, rfl, .inl (.inr rfl), hne, hl, ?_, ?_⟩ fun s₃ m₃ T₃ => ?_)
  · refine hy.sub ?_
    rintro b (q | (q | q) | q)
    · exact .inl q
    · exact .inr (.inl q)
    · exact .inr (.inr (.inl q))
    · exact .inr (.inr (.inr q))
  · intro y es ne hy' hv
    obtain ⟨a', vs', hv', ho, _⟩ := T.vars y _ hy'
    have := hv.fn (hv'.keeps (kheap kk)); cases this
    obtain ⟨o, e⟩ := T.live _ ho; rw [sD] at e; cases e
  · obtain ⟨h3, tk3, rfl, k3⟩ := m₃
    have cellC : ∀ y k, env.cells.lookup y = some k → k ≠ C := fun y k l q => by
      obtain ⟨⟨v, e⟩, _⟩ := T.cells y k l
      obtain ⟨o, e, _⟩ := e
      rw [q, sC] at e; cases e
    have nC : ¬ Names env C := by
      rintro (q | ⟨_, y, q⟩)
      · exact hLC q.symm
      · exact cellC _ _ q rfl
    have hn3 : h3.Ns C m' := hn.at' fun o e => k3 _ o nC e
    refine ⟨m', hn3, fun h4 hs4 => ?_⟩
    have T₄ : St B h₀ P env (σ.put x (.own ((ds.filter p).map f))) (fun b => O b ∨ b = Da) h4 := T₃.lose hs4 hn3 hLC cellC (by
      rintro (q | q)
      · obtain ⟨o, e⟩ := T.live _ q; rw [sC] at e; cases e
      · exact hDC q.symm)
    refine ⟨.next, _, _, ?_, trivial, h, ?_, T₄⟩
    · obtain ⟨h1, tk1, e1, k1⟩ := kk
      refine ⟨h4, tk3, ?_, fun b o nb e => (hs4.2 b (fun q => by rw [q, sC] at e; cases e)).trans (k3 b o (fun q => ?_) ?_)⟩
      · obtain ⟨h2, tk2, rfl, k2⟩ := k₂; rfl
      · rcases q with q | ⟨q, y, l⟩
        · exact nb (q ▸ T.loc)
        · exact nb ((T.cells y b l).2 q)
      · obtain ⟨h2, tk2, rfl, k2⟩ := k₂
        exact hk b o (fun q => by rw [hw b q] at e; cases e) (k2 b o e)
    · rintro b (q | q)
      · exact .inl q
      · rw [q]; exact .inr sD
end

section
variable {B : Bas} {n : Nat} {env : Env} {σ : Sto} {e : Expr} {p p' : Pos}

/-- a call of a def of the text -/
theorem ev_call {x : String} {a : Addr} {es : List Expr} {ds : List D} {d : D} {o : Obj} {fd : FuncData} (hk : env.kindOf (S x) = some .globalImplicit) (hx : B.mg (S x) = some (.ref a)) (ho : B.hB.get? a = some o) (hd : o.data = .func fd)
    (as : EvAs B n env σ (e :: es) ds) (f : FnS B n a ds d) (hn : x ≠ "__debug__" := by decide) (he : starEach (e :: es) env = (false, eval e env) :: starEach es env := by rfl)
    (hc : eval (.Call (.Name (S x) p') (e :: es) [] p) env = (do callWith p (← eval (.Name (S x) p') env) [] (backTo p (starEach (e :: es) env)) (backToKw p (keywordEach [] env))) := by rfl) : Ev B n env σ (.Call (.Name (S x) p') (e :: es) [] p) d :=
  fun h₀ P O A s E Q bo ao T q => Call_ (wp_glob bo T hk hx (callWith_def hd (as h₀ P O A s E _ p bo ao T fun vs s₁ k r => ⟨(T.kp k).here _ _ ho, f _ A s₁ E _ vs bo ao (T.kp k).here (fun b z => (T.kp k).xlive z) r fun v s₂ k₂ r₂ => q v s₂ (ktrans k k₂) r₂⟩) he) hn) hc
/-- the same by a name that holds the def -/
theorem ev_callv {x : String} {a : Addr} {es : List Expr} {ds : List D} {d : D} (hx : σ.get x = some (.val (.val (.ref a)))) 
    (as : EvAs B n env σ (e :: es) ds) (f : FnS B n a ds d) (h1 : x ≠ "__debug__" := by decide) (h2 : x ≠ "__classdict__" := by decide) (he : starEach (e :: es) env = (false, eval e env) :: starEach es env := by rfl)
    (hc : eval (.Call (.Name (S x) p') (e :: es) [] p) env = (do callWith p (← eval (.Name (S x) p') env) [] (backTo p (starEach (e :: es) env)) (backToKw p (keywordEach [] env))) := by rfl) : Ev B n env σ (.Call (.Name (S x) p') (e :: es) [] p) d :=
  fun h₀ P O A s E Q bo ao T q => Call_ (by
    obtain ⟨v, hv, r⟩ := T.vars x _ hx
    cases r with
    | val _ e => cases e
    | fn a o fd ho hd hn =>
    refine wp_name T hv (callWith_def hd (as h₀ P O A s E _ p bo ao T fun vs s₁ k r => ⟨kheap k _ _ ho, f _ A s₁ E _ vs bo ao (T.kp k).here (fun b z => (T.kp k).xlive z) r fun v s₂ k₂ r₂ => q v s₂ (ktrans k k₂) r₂⟩) he) (plainName h1) (plainName h2)) hc

/-- the type of a datum -/
def Ty (d : D) (T : String) : Prop := ∀ (s : Shared) (X : Addr → Prop) (v : Value), Rp s.heap X v d → s.TypeIs v T
theorem ty_int {i : Int} : Ty (.int i) "int" := fun s X v r => by obtain ⟨t, rfl⟩ := rp_int r; exact typeIs_int s i t
theorem ty_str {i : Str} : Ty (.str i) "str" := fun s X v r => by obtain ⟨t, rfl⟩ := rp_str r; exact typeIs_str s i t
theorem ty_list {ds : List D} : Ty (.list ds) "list" := fun s X v r => by obtain ⟨a, vs, rfl, hl, _⟩ := rp_list r; exact hl.typeIs
theorem ty_tuple {ds : List D} : Ty (.tuple ds) "tuple" := fun s X v r => by obtain ⟨a, vs, rfl, hl, _⟩ := rp_tuple r; exact hl.typeIs
theorem ty_bool {b : Bool} : Ty (.bool b) "bool" := fun s X v r => by cases rp_val r; exact PySem.typeIs_bool s b

theorem bi_type {d : D} {T : String} (t : Ty d T) (hnb : (Value.type T == Value.type "builtin_function_or_method") = false := by decide) : Bi B n (.type "type") [d] (.val (.type T)) := fun A s E Q vs bo ao hh r q => by
  cases r with | cons r rn =>
  cases rn
  exact call_type_of (t s _ _ r) hnb (q _ _ (krefl s) fun _ _ => .val _ rfl)

theorem fr0 {h₀ h P O} (T : St B h₀ P env σ O h) : ∃ m, Fr ({} : Heap) env.locals h m := by
  obtain ⟨m, nn⟩ := T.ns
  exact ⟨m, nn, fun b o e => (by simp [Heap.get?] at e), Nat.zero_le _⟩
theorem in0 (h : Heap) : Frag.In ([] : Frag) h := fun a o e => by cases e

/-- a call of a type: type(e), range(e) .. -/
theorem ev_typecall {x T : String} {es : List Expr} {ds : List D} {d : D} (hx : BootName B env x (.type T)) (a : EvAsW B n env σ (e :: es) ds) (f : Bi B n (.type T) ds d)
    (he : starEach (e :: es) env = (false, eval e env) :: starEach es env := by rfl) (hp : (backTo p (starEach es env)).any (·.1) = false := by rfl)
    (hc : eval (.Call (.Name (S x) p') (e :: es) [] p) env = (do callWith p (← eval (.Name (S x) p') env) [] (backTo p (starEach (e :: es) env)) (backToKw p (keywordEach [] env))) := by rfl) : Ev B n env σ (.Call (.Name (S x) p') (e :: es) [] p) d :=
  fun h₀ P O A s E Q bo ao T q => Call_ (wp_boot bo T hx.kind hx.miss hx.boot (PyProof.Rows.callWith_type1 (a h₀ P O A s E _ p bo ao T fun vs s₁ k r => f A s₁ E _ vs bo ao (T.kp k).here r fun v s₂ k₂ r₂ => q v s₂ (ktrans k k₂) (r₂ _ _)) he hp) hx.d hx.n) hc

/-- type(x).__op__(a, b) -/
theorem ev_dunder {o : Expr} {attr : String} {id : String} {T : String} {apos : Pos} {e₁ : Expr} {es : List Expr} {ds : List D} {r : D} {pl : Sem Bool}
    (x : EvW B n env σ o (.val (.type T))) (ht : typeOf (.type T) = pure (.type "type")) (hs : Manifest.isStub T = false) (hf : findCls [] (.type T) (.type "type") (S attr) = some (.val (.builtin id))) (hhd : handedIn (.builtin id) = true)
    (as : EvAsW B n env σ (e₁ :: es) ds) (f : Bi B n (.builtin id) ds r)
    (hstar : starEach (e₁ :: es) env = (false, eval e₁ env) :: starEach es env := by rfl) (hp : (backTo p (starEach es env)).any (·.1) = false := by rfl)
    (he : eval (.Call (.Attribute o (S attr) apos) (e₁ :: es) [] p) env = (do
      let ov ← eval o env
      standAt apos.atName
      let (f, first) ← holding [ov] (getMethod ov (S attr) pl)
      callWith p f first (backTo p (starEach (e₁ :: es) env)) (backToKw p (keywordEach [] env))) := by rfl) : Ev B n env σ (.Call (.Attribute o (S attr) apos) (e₁ :: es) [] p) r :=
  fun h₀ P O A s E Q bo ao T q => methodCall_KW (x h₀ P O A s E _ bo ao T fun v s₁ k₁ r₁ => by
    cases rp_val r₁
    obtain ⟨m, F⟩ := fr0 (T.kp k₁)
    refine method_type F (in0 _) ht hs hf hhd ?_
    have k₂ := ktrans k₁ (ktok s₁ (s₁.toks + 1))
    refine callWith_builtin1 (as h₀ P O A _ E _ p bo ao (T.kp k₂) fun vs s₃ k₃ r₃ => ?_) hstar hp
    exact f A s₃ E _ vs bo ao ((T.kp k₂).kp k₃).here r₃ fun v s₄ k₄ r₄ => q v s₄ (ktrans (ktrans k₂ k₃) k₄) (r₄ _ _)) he

theorem cmp_is_bool_ni {b : Bool} : Cmp B n .Is (.bool b) (.val .notImplemented) false := fun A s E Q va vb bo ao hh r r' q => by
  cases rp_val r; cases rp_val r'; exact wpAny_pure (a := Value.bool (Value.bool b == Value.notImplemented)) (q s (krefl s))
theorem cmp_is_ni_ni : Cmp B n .Is (.val .notImplemented) (.val .notImplemented) true := fun A s E Q va vb bo ao hh r r' q => by
  cases rp_val r; cases rp_val r'; exact wpAny_pure (a := Value.bool (Value.notImplemented == Value.notImplemented)) (q s (krefl s))

theorem findCls_int_le : findCls [] (.type "int") (.type "type") (S "__le__") = some (.val (.builtin "int.__le__")) := by kernel_rfl
theorem findCls_int_lt : findCls [] (.type "int") (.type "type") (S "__lt__") = some (.val (.builtin "int.__lt__")) := by kernel_rfl
theorem findCls_int_ge : findCls [] (.type "int") (.type "type") (S "__ge__") = some (.val (.builtin "int.__ge__")) := by kernel_rfl
theorem findCls_int_gt : findCls [] (.type "int") (.type "type") (S "__gt__") = some (.val (.builtin "int.__gt__")) := by kernel_rfl
theorem typeOf_int : typeOf (.type "int") = pure (.type "type") := by first | rfl | kernel_rfl
theorem bi_int_le {i j : Int} : Bi B n (.builtin "int.__le__") [.int i, .int j] (.bool (decide (i ≤ j))) := fun A s E Q vs bo ao hh r q => by
  cases r with | cons r rn =>
  cases rn with | cons r' rn =>
  cases rn
  obtain ⟨t, rfl⟩ := rp_int r; obtain ⟨u, rfl⟩ := rp_int r'
  exact wpAny_call_entry slot_int_le (typeIs_int s i t) entry_int_le (show wpAny _ _ (ret (.bool (decide (i ≤ j)))) _ _ s from wpAny_pure ⟨_, rfl, q _ _ (krefl s) fun _ _ => .val _ rfl⟩) (args_int_le _ _)
theorem bi_int_ge {i j : Int} : Bi B n (.builtin "int.__ge__") [.int i, .int j] (.bool (decide (j ≤ i))) := fun A s E Q vs bo ao hh r q => by
  cases r with | cons r rn =>
  cases rn with | cons r' rn =>
  cases rn
  obtain ⟨t, rfl⟩ := rp_int r; obtain ⟨u, rfl⟩ := rp_int r'
  exact wpAny_call_entry slot_int_ge (typeIs_int s i t) entry_int_ge (show wpAny _ _ (ret (.bool (decide (i ≥ j)))) _ _ s from wpAny_pure ⟨_, rfl, q _ _ (krefl s) fun _ _ => .val _ rfl⟩) (args_int_ge _ _)
end

section
variable {B : Bas} {n : Nat} {env : Env} {σ : Sto} {e l r : Expr} {p p' : Pos}

theorem wp_addList {A : Around} {s : Shared} {E : Value → Shared → Prop} {a b : Addr} {vs ws : List Value} {Q : Value → Shared → Prop} (hl : s.heap.IsList a vs.toArray) (hb : s.heap.IsList b ws.toArray)
    (h : Q (.ref s.heap.objs.size) { s with heap := s.heap.push { cls := .type "list", data := .seq (vs ++ ws).toArray } }) (hsz : vs.length + ws.length ≤ 1000000) :
    wpAny (model B.prog B.w) A (binaryOp .Add (.ref a) (.ref b)) Q E s := by
  obtain ⟨⟨cls, dd, data, sl⟩, ho, hc, k, hd⟩ := id hl
  obtain ⟨⟨cls2, dd2, data2, sl2⟩, ho2, hc2, k2, hd2⟩ := id hb
  simp only at hc hd hc2 hd2; subst hc hd hc2 hd2
  have e : vs.toArray ++ ws.toArray = (vs ++ ws).toArray := by simp
  refine concat_meets ⟨_, ho, rfl⟩ ⟨_, ho2, rfl⟩ noFill_list_add seq_list_add PySem.F.slot_list_add PySem.F.entry_list_add (PySem.F.args_list_add_2 _ _) (list_addW a b vs.toArray ws.toArray k k2 dd dd2 sl sl2 (by simp only [List.size_toArray]; exact szLine hsz)) ⟨ho, ho2, ?_⟩
  rw [e]; exact h
theorem evn_add {ds es : List D} (x : Ev B n env σ l (.list ds)) (y : Ev B n env σ r (.list es)) (hsz : ds.length + es.length ≤ 1000000) : EvN B n env σ (.BinOp l .Add r p) (ds ++ es) :=
  fun h₀ P O A s E Q bo ao T q => wpAny_BinOp (x h₀ P O A s E _ bo ao T fun va s₁ k₁ r₁ => y h₀ P O A s₁ E _ bo ao (T.kp k₁) fun vb s₂ k₂ r₂ => by
    obtain ⟨a, vs, rfl, hl, _, rs⟩ := rp_list (r₁.keeps (kheap k₂))
    obtain ⟨b, ws, rfl, hb, _, qs⟩ := rp_list r₂
    have h1 := rs.length; have h2 := qs.length
    refine wp_addList hl hb (q _ (vs ++ ws) _ (ktrans (ktrans k₁ k₂) (kpush' _ _)) (fresh_kp (ktrans k₁ k₂)) ⟨_, Heap.get?_push_size _ rfl⟩ ((rs.append qs).beside _)) (by omega))

theorem flatten_replicate {α} (k : Nat) (items : Array α) : (List.foldl (fun x1 x2 => x1 ++ x2) #[] (List.replicate k items)).toList = (List.replicate k items.toList).flatten := by
  have : ∀ (acc : Array α), (List.foldl (fun x1 x2 => x1 ++ x2) acc (List.replicate k items)).toList = acc.toList ++ (List.replicate k items.toList).flatten := by
    induction k with
    | zero => intro acc; simp
    | succ k ih => intro acc; rw [List.replicate_succ, List.foldl_cons, ih, List.replicate_succ, List.flatten_cons]; simp
  simpa using this #[]
theorem RpAll.rep {h X vs ds} (r : RpAll h X vs ds) : ∀ k, RpAll h X (List.replicate k vs).flatten (List.replicate k ds).flatten
  | 0 => .nil
  | k + 1 => by rw [List.replicate_succ, List.replicate_succ, List.flatten_cons, List.flatten_cons]; exact r.append (r.rep k)
theorem evn_mul {ds : List D} {i : Int} (x : Ev B n env σ l (.list ds)) (y : EvW B n env σ r (.int i)) (h1 : -1000000 ≤ i) (h2 : i ≤ 1000000) (hsz : ds.length * i.toNat ≤ 1000000) (hne : ds ≠ []) : EvN B n env σ (.BinOp l .Mult r p) (List.replicate i.toNat ds).flatten :=
  fun h₀ P O A s E Q bo ao T q => wpAny_BinOp (x h₀ P O A s E _ bo ao T fun va s₁ k₁ r₁ => y h₀ P O A s₁ E _ bo ao (T.kp k₁) fun vb s₂ k₂ r₂ => by
    obtain ⟨a, vs, rfl, hl, _, rs⟩ := rp_list (r₁.keeps (kheap k₂))
    obtain ⟨u, rfl⟩ := rp_int r₂
    have hlen := rs.length
    obtain ⟨⟨cls, dd, data, sl⟩, ho, hc, k, hd⟩ := id hl
    simp only at hc hd; subst hc hd
    have hvs : vs ≠ [] := fun q => hne (by rw [q] at hlen; exact List.length_eq_zero_iff.mp hlen.symm)
    have hs2 : vs.toArray.size * i.toNat ≤ 1000000 := by rw [List.size_toArray, hlen]; exact hsz
    refine wpAny_binaryOp_repeat_ref (T := "list") (U := "int") (by decide) ⟨_, ho, rfl⟩ (fun s' => typeIs_int s' i u) noFill_list_mul F.fills_int_mul F.slot_int_rmul repeat_list F.slot_int_index.lookup
      (call_meets F.slot_int_rmul (typeIs_int s₂ i u) F.entry_int_rmul (F.args_int_rmul_2 _ _) (lm_int_rmul_list_any i u a vs.toArray k dd sl)
        ⟨ho, rfl, ⟨_, ho, rfl⟩, call_meets F.slot_list_mul ⟨_, ho, rfl⟩ F.entry_list_mul (F.args_list_mul_2 _ _)
          (lm_list_mul_any a vs.toArray k dd sl i u (by simp [Builtin.List.listFitsIndex]; omega) (by omega) (by simp [Builtin.List.listTooLong, sizeLine]; simp at hs2; omega)) ⟨ho, ?_⟩⟩)
    have e : (List.foldl (fun x1 x2 => x1 ++ x2) #[] (List.replicate (if vs.toArray.isEmpty = true then 0 else i.toNat) vs.toArray)) = ((List.replicate i.toNat vs).flatten).toArray := by
      rw [if_neg (by simpa using hvs)]
      apply Array.toList_inj.mp
      rw [flatten_replicate]
    rw [e]
    exact q _ _ _ (ktrans (ktrans k₁ k₂) (kpush' _ _)) (fresh_kp (ktrans k₁ k₂)) ⟨_, Heap.get?_push_size _ rfl⟩ ((rs.rep i.toNat).beside _))

/-- ranges -/
theorem ev_range1 {x : String} {i : Int} (hx : BootName B env x (.type "range")) (a : EvW B n env σ e (.int i))
    (he : starEach [e] env = (false, eval e env) :: starEach [] env := by rfl)
    (hc : eval (.Call (.Name (S x) p') [e] [] p) env = (do callWith p (← eval (.Name (S x) p') env) [] (backTo p (starEach [e] env)) (backToKw p (keywordEach [] env))) := by rfl) : Ev B n env σ (.Call (.Name (S x) p') [e] [] p) (.range 0 i) :=
  fun h₀ P O A s E Q bo ao T q => Call_ (wp_boot bo T hx.kind hx.miss hx.boot (PyProof.Rows.callWith_type1 (evasw_cons a evasw_nil he h₀ P O A s E _ p bo ao T fun vs s₁ k r => by
    cases r with | cons r rn =>
    cases rn
    obtain ⟨t, rfl⟩ := rp_int r
    exact call_range_1 (q _ _ (ktrans k (kpush _ _ _)) (.range (IsRange.new ..) ((T.kp k).notX' (Nat.le_refl _))))) he rfl) hx.d hx.n) hc
theorem ev_range2 {x : String} {i j : Int} {e' : Expr} (hx : BootName B env x (.type "range")) (a : EvW B n env σ e (.int i)) (b : EvW B n env σ e' (.int j))
    (he : starEach [e, e'] env = (false, eval e env) :: starEach [e'] env := by rfl) (he' : starEach [e'] env = (false, eval e' env) :: starEach [] env := by rfl) (hp : (backTo p (starEach [e'] env)).any (·.1) = false := by rfl)
    (hc : eval (.Call (.Name (S x) p') [e, e'] [] p) env = (do callWith p (← eval (.Name (S x) p') env) [] (backTo p (starEach [e, e'] env)) (backToKw p (keywordEach [] env))) := by rfl) : Ev B n env σ (.Call (.Name (S x) p') [e, e'] [] p) (.range i j) :=
  fun h₀ P O A s E Q bo ao T q => Call_ (wp_boot bo T hx.kind hx.miss hx.boot (PyProof.Rows.callWith_type1 (evasw_cons a (evasw_cons b evasw_nil he') he h₀ P O A s E _ p bo ao T fun vs s₁ k r => by
    cases r with | cons r rn =>
    cases rn with | cons r' rn =>
    cases rn
    obtain ⟨t, rfl⟩ := rp_int r
    obtain ⟨u, rfl⟩ := rp_int r'
    exact call_range_2 (q _ _ (ktrans k (kpush _ _ _)) (.range (IsRange.new ..) ((T.kp k).notX' (Nat.le_refl _))))) he hp) hx.d hx.n) hc

/-- sums -/
def sumI : List Int → Int
  | [] => 0
  | i :: r => i + sumI r
theorem sumI_append (l m : List Int) : sumI (l ++ m) = sumI l + sumI m := by
  induction l with
  | nil => simp [sumI]
  | cons a r ih => simp [sumI, ih]; omega
def D.ofInts (l : List Int) : List D := l.map D.int
theorem ofInts_length (l : List Int) : (D.ofInts l).length = l.length := by simp [D.ofInts]
theorem RpAll.intAt {h X vs l} (r : RpAll h X vs (D.ofInts l)) {i : Nat} {v : Value} (hv : vs[i]? = some v) : ∃ t, v = .int (l.getD i 0) t := by
  obtain ⟨d, hd, rd⟩ := r.get hv
  simp only [D.ofInts, List.getElem?_map, Option.map_eq_some_iff] at hd
  obtain ⟨k, hk, rfl⟩ := hd
  obtain ⟨t, e⟩ := rp_int rd
  exact ⟨t, by rw [e, List.getD_eq_getElem?_getD, hk]; rfl⟩
theorem preSum_eq (l : List Int) : ∀ k, k ≤ l.length → preSum (fun i => l.getD i 0) k = sumI (l.take k) := by
  intro k
  induction k with
  | zero => intro _; rfl
  | succ k ih =>
    intro hk
    have h : l[k]? = some (l.getD k 0) := by rw [List.getD_eq_getElem?_getD, List.getElem?_eq_getElem (by omega)]; rfl
    show preSum (fun i => l.getD i 0) k + l.getD k 0 = _
    rw [ih (by omega), List.take_add_one, h, Option.toList, sumI_append]
    simp [sumI]
theorem wp_iterNow {A : Around} {s : Shared} {E : Value → Shared → Prop} {Q : Value → Shared → Prop} {a : Addr} {vs : List Value} (hh : A.handled = none) (hl : s.heap.IsList a vs.toArray)
    (q : ∀ s₂ I, Keeps s s₂ → Walks B.prog B.w A I [I, a] [I] vs.length (fun i v => vs[i]? = some v) (fun i h => h.IsListIter I a i ∧ h.IsList a vs.toArray) → (s₂.heap.IsListIter I a 0 ∧ s₂.heap.IsList a vs.toArray) → (∀ b ∈ [I, a], b < s₂.heap.objs.size) → s.heap.get? I = none → Q (.ref I) s₂) :
    wpAny (model B.prog B.w) A (pyIter (.ref a)) Q E s := by
  have hne : a ≠ s.heap.objs.size := by obtain ⟨o, e, _⟩ := hl; exact Nat.ne_of_lt (Heap.lt_size e)
  have W := Walks.list (prog := B.prog) (w := B.w) hh s.heap.objs.size a hne vs.toArray
  simp only [List.size_toArray, List.getElem?_toArray] at W
  refine wpAny_pyIter_list hl (q _ _ (kpush' _ _) W ⟨⟨_, Heap.get?_push_size _ rfl, rfl, rfl⟩, hl.at fun o e => Heap.get?_push_of_some _ e⟩ ?_ (fresh_of (Nat.le_refl _)))
  intro b hb
  show b < (s.heap.push _).objs.size
  rw [Heap.size_push]
  rcases List.mem_cons.mp hb with rfl | hb
  · exact Nat.lt_succ_self _
  · rw [List.mem_singleton.mp hb]; obtain ⟨o, e, _⟩ := hl; exact Nat.lt_succ_of_lt (Heap.lt_size e)
theorem wp_iterNowT {A : Around} {s : Shared} {E : Value → Shared → Prop} {Q : Value → Shared → Prop} {a : Addr} {vs : List Value} (hh : A.handled = none) (hl : IsTup s.heap a vs.toArray)
    (q : ∀ s₂ I, Keeps s s₂ → Walks B.prog B.w A I [I, a] [I] vs.length (fun i v => vs[i]? = some v) (fun i h => h.IsTupleIter I a i ∧ h.IsTuple a vs.toArray) → (s₂.heap.IsTupleIter I a 0 ∧ s₂.heap.IsTuple a vs.toArray) → (∀ b ∈ [I, a], b < s₂.heap.objs.size) → s.heap.get? I = none → Q (.ref I) s₂) :
    wpAny (model B.prog B.w) A (pyIter (.ref a)) Q E s := by
  have hne : a ≠ s.heap.objs.size := by obtain ⟨o, e, _⟩ := hl; exact Nat.ne_of_lt (Heap.lt_size e)
  have W := Walks.tuple (prog := B.prog) (w := B.w) hh s.heap.objs.size a hne vs.toArray
  simp only [List.size_toArray, List.getElem?_toArray] at W
  have hl' : s.heap.IsTuple a vs.toArray := hl
  refine wpAny_pyIter_tuple hl' (q _ _ (kpush' _ _) W ⟨⟨_, Heap.get?_push_size _ rfl, rfl, rfl⟩, hl'.at fun o e => Heap.get?_push_of_some _ e⟩ ?_ (fresh_of (Nat.le_refl _)))
  intro b hb
  show b < (s.heap.push _).objs.size
  rw [Heap.size_push]
  rcases List.mem_cons.mp hb with rfl | hb
  · exact Nat.lt_succ_self _
  · rw [List.mem_singleton.mp hb]; obtain ⟨o, e, _⟩ := hl; exact Nat.lt_succ_of_lt (Heap.lt_size e)
/-- what a walk leaves -/
theorem kafter {s s₂ : Shared} {I : Addr} {h' : Heap} {tk : Nat} (k : Keeps s s₂) (hI : s.heap.get? I = none) (hk : ∀ b o, b ∉ [I] → s₂.heap.get? b = some o → h'.get? b = some o) : Keeps s { s₂ with heap := h', toks := tk } := by
  obtain ⟨h2, tk2, rfl, k2⟩ := k
  exact ⟨h', tk, rfl, fun b o e => hk b o (fun q => by rw [List.mem_singleton.mp q, hI] at e; cases e) (k2 b o e)⟩
theorem bi_sum {l : List Int} : Bi B n (.builtin "sum") [.list (D.ofInts l)] (.int (sumI l)) := fun A s E Q vs bo ao hh r q => by
  cases r with | cons r rn =>
  cases rn
  obtain ⟨a, ws, rfl, hl, _, rs⟩ := rp_list r
  have hlen : ws.length = l.length := by rw [rs.length, ofInts_length]
  refine call_sum_walkG (wp_iterNow ao.handled hl fun s₂ I k W st hb hI => ⟨I, _, _, ws.length, _, _, fun i => l.getD i 0, rfl, W, st, hb, fun i v hv => rs.intAt hv, fun h' tk t' hk => ?_⟩)
  rw [preSum_eq l _ (Nat.le_of_eq hlen), hlen, List.take_length]
  exact q _ _ (kafter k hI hk) fun _ _ => .int _ _

/-- greatest, least -/
def maxI : Int → List Int → Int
  | m, [] => m
  | m, i :: r => maxI (if i > m then i else m) r
def minI : Int → List Int → Int
  | m, [] => m
  | m, i :: r => minI (if i < m then i else m) r
theorem argBest_max (l : List Int) : ∀ k, k < l.length → l.getD (argBest (fun i j => decide (l.getD i 0 > l.getD j 0)) k) 0 = maxI (l.getD 0 0) ((l.drop 1).take k) := by
  have snoc : ∀ (r : List Int) (m i : Int), maxI m (r ++ [i]) = if i > maxI m r then i else maxI m r := by
    intro r
    induction r with
    | nil => intro m i; rfl
    | cons a r ih => intro m i; exact ih _ _
  intro k
  induction k with
  | zero => intro _; rfl
  | succ k ih =>
    intro hk
    have h : (l.drop 1)[k]? = some (l.getD (k + 1) 0) := by rw [List.getElem?_drop, List.getD_eq_getElem?_getD, Nat.add_comm 1 k, List.getElem?_eq_getElem hk]; rfl
    rw [List.take_add_one, h, Option.toList, snoc]
    unfold argBest
    rw [← ih (by omega)]
    simp only [decide_eq_true_eq]
    split <;> rfl
theorem argBest_min (l : List Int) : ∀ k, k < l.length → l.getD (argBest (fun i j => decide (l.getD i 0 < l.getD j 0)) k) 0 = minI (l.getD 0 0) ((l.drop 1).take k) := by
  have snoc : ∀ (r : List Int) (m i : Int), minI m (r ++ [i]) = if i < minI m r then i else minI m r := by
    intro r
    induction r with
    | nil => intro m i; rfl
    | cons a r ih => intro m i; exact ih _ _
  intro k
  induction k with
  | zero => intro _; rfl
  | succ k ih =>
    intro hk
    have h : (l.drop 1)[k]? = some (l.getD (k + 1) 0) := by rw [List.getElem?_drop, List.getD_eq_getElem?_getD, Nat.add_comm 1 k, List.getElem?_eq_getElem hk]; rfl
    rw [List.take_add_one, h, Option.toList, snoc]
    unfold argBest
    rw [← ih (by omega)]
    simp only [decide_eq_true_eq]
    split <;> rfl
theorem cmpOf_gt {A : Around} {h X ws l} (rs : RpAll h X ws (D.ofInts l)) : CmpOf B.prog B.w A .Gt (fun i v => ws[i]? = some v) (fun i j => decide (l.getD i 0 > l.getD j 0)) := by
  intro i j vi vj s Q E hi hj q
  obtain ⟨t, rfl⟩ := rs.intAt hi; obtain ⟨u, rfl⟩ := rs.intAt hj
  exact gt_int q
theorem cmpOf_lt {A : Around} {h X ws l} (rs : RpAll h X ws (D.ofInts l)) : CmpOf B.prog B.w A .Lt (fun i v => ws[i]? = some v) (fun i j => decide (l.getD i 0 < l.getD j 0)) := by
  intro i j vi vj s Q E hi hj q
  obtain ⟨t, rfl⟩ := rs.intAt hi; obtain ⟨u, rfl⟩ := rs.intAt hj
  exact lt_int q
theorem bi_max {i : Int} {l : List Int} : Bi B n (.builtin "max") [.list (D.ofInts (i :: l))] (.int (maxI i l)) := fun A s E Q vs bo ao hh r q => by
  cases r with | cons r rn =>
  cases rn
  obtain ⟨a, ws, rfl, hl, _, rs⟩ := rp_list r
  have hlen : ws.length = l.length + 1 := by rw [rs.length, ofInts_length]; rfl
  refine call_max_walk (wp_iterNow ao.handled hl fun s₂ I k W st hb hI => ⟨I, _, _, ws.length, _, _, _, rfl, W, st, hb, by omega, cmpOf_gt rs, fun v h' tk hv hk => ?_⟩)
  obtain ⟨t, rfl⟩ := rs.intAt hv
  rw [argBest_max _ _ (by rw [hlen]; simp), hlen]
  have : ((i :: l).drop 1).take (l.length + 1 - 1) = l := by simp
  rw [this]
  exact q _ _ (kafter k hI hk) fun _ _ => .int _ _
theorem bi_maxT {i : Int} {l : List Int} : Bi B n (.builtin "max") [.tuple (D.ofInts (i :: l))] (.int (maxI i l)) := fun A s E Q vs bo ao hh r q => by
  cases r with | cons r rn =>
  cases rn
  obtain ⟨a, ws, rfl, hl, _, rs⟩ := rp_tuple r
  have hlen : ws.length = l.length + 1 := by rw [rs.length, ofInts_length]; rfl
  refine call_max_walk (wp_iterNowT ao.handled hl fun s₂ I k W st hb hI => ⟨I, _, _, ws.length, _, _, _, rfl, W, st, hb, by omega, cmpOf_gt rs, fun v h' tk hv hk => ?_⟩)
  obtain ⟨t, rfl⟩ := rs.intAt hv
  rw [argBest_max _ _ (by rw [hlen]; simp), hlen]
  have : ((i :: l).drop 1).take (l.length + 1 - 1) = l := by simp
  rw [this]
  exact q _ _ (kafter k hI hk) fun _ _ => .int _ _
theorem bi_minT {i : Int} {l : List Int} : Bi B n (.builtin "min") [.tuple (D.ofInts (i :: l))] (.int (minI i l)) := fun A s E Q vs bo ao hh r q => by
  cases r with | cons r rn =>
  cases rn
  obtain ⟨a, ws, rfl, hl, _, rs⟩ := rp_tuple r
  have hlen : ws.length = l.length + 1 := by rw [rs.length, ofInts_length]; rfl
  refine call_min_walk (wp_iterNowT ao.handled hl fun s₂ I k W st hb hI => ⟨I, _, _, ws.length, _, _, _, rfl, W, st, hb, by omega, cmpOf_lt rs, fun v h' tk hv hk => ?_⟩)
  obtain ⟨t, rfl⟩ := rs.intAt hv
  rw [argBest_min _ _ (by rw [hlen]; simp), hlen]
  have : ((i :: l).drop 1).take (l.length + 1 - 1) = l := by simp
  rw [this]
  exact q _ _ (kafter k hI hk) fun _ _ => .int _ _
theorem bi_max2 {i j : Int} : Bi B n (.builtin "max") [.int i, .int j] (.int (maxI i [j])) := fun A s E Q vs bo ao hh r q => by
  cases r with | cons r rn =>
  cases rn with | cons r' rn =>
  cases rn
  obtain ⟨t, rfl⟩ := rp_int r; obtain ⟨u, rfl⟩ := rp_int r'
  have rs : RpAll s.heap NoX [Value.int i t, Value.int j u] (D.ofInts [i, j]) := .cons (.int _ _) (.cons (.int _ _) .nil)
  refine call_max_two (wp_iterNowT (vs := [Value.int i t, Value.int j u]) ao.handled ⟨_, Heap.get?_push_size _ rfl, rfl, 0, rfl⟩ fun s₂ I k W st hb hI => ⟨I, _, _, 2, _, _, _, rfl, W, st, hb, by omega, cmpOf_gt rs, fun v h' tk hv hk => ?_⟩)
  obtain ⟨w, rfl⟩ := rs.intAt hv
  rw [argBest_max _ _ (by simp)]
  exact q _ _ (ktrans (kpush' _ _) (kafter k hI hk)) fun _ _ => .int _ _
theorem bi_min2 {i j : Int} : Bi B n (.builtin "min") [.int i, .int j] (.int (minI i [j])) := fun A s E Q vs bo ao hh r q => by
  cases r with | cons r rn =>
  cases rn with | cons r' rn =>
  cases rn
  obtain ⟨t, rfl⟩ := rp_int r; obtain ⟨u, rfl⟩ := rp_int r'
  have rs : RpAll s.heap NoX [Value.int i t, Value.int j u] (D.ofInts [i, j]) := .cons (.int _ _) (.cons (.int _ _) .nil)
  refine call_min_two (wp_iterNowT (vs := [Value.int i t, Value.int j u]) ao.handled ⟨_, Heap.get?_push_size _ rfl, rfl, 0, rfl⟩ fun s₂ I k W st hb hI => ⟨I, _, _, 2, _, _, _, rfl, W, st, hb, by omega, cmpOf_lt rs, fun v h' tk hv hk => ?_⟩)
  obtain ⟨w, rfl⟩ := rs.intAt hv
  rw [argBest_min _ _ (by simp)]
  exact q _ _ (ktrans (kpush' _ _) (kafter k hI hk)) fun _ _ => .int _ _
end

section
variable {B : Bas} {n : Nat} {env : Env} {σ : Sto} {R : Fl → Sto → Prop} {h₀ h h' : Heap} {P O : Addr → Prop}

/-- an own list is changed -/
theorem St.mut (T : St B h₀ P env σ O h) {x : String} {ds ds' : List D} {a : Addr} {vs' : List Value} (hx : σ.get x = some (.own ds)) (hv : VarIs env h (S x) (.ref a)) (hO : O a) (hne : a ≠ env.locals) {its} (hp0 : h.PlainList a its)
    (hs : ∀ b o, b ≠ a → h.get? b = some o → h'.get? b = some o) (hp : h'.PlainList a vs'.toArray) (r : RpAll h (fun b => P b ∨ O b) vs' ds') : St B h₀ P env (σ.put x (.own ds')) O h' := by
  have hk : ∀ b o, ¬ (P b ∨ O b) → h.get? b = some o → h'.get? b = some o := fun b o nb e => hs b o (fun q => nb (.inr (q ▸ hO))) e
  have hcell : ∀ y k, env.cells.lookup y = some k → k ≠ a := fun y k l q => by obtain ⟨⟨v, e⟩, _⟩ := T.cells y k l; exact plain_ne_cell hp0.isList e q.symm
  have mvv : ∀ {x w}, VarIs env h x w → VarIs env h' x w := by
    rintro x w (⟨kd, m, nn, e⟩ | ⟨kd, k, l, e⟩)
    · exact .inl ⟨kd, m, nn.at' fun o e => hs _ o (Ne.symm hne) e, e⟩
    · obtain ⟨o, e, d⟩ := e
      exact .inr ⟨kd, k, l, o, hs _ o (hcell _ _ l) e, d⟩
  have bck : ∀ {x w}, (∃ b, σ.get x = some b) → VarIs env h' (S x) w → VarIs env h (S x) w := by
    rintro x w ⟨b, hb⟩ hw
    obtain ⟨w', hw'⟩ := (T.vars x b hb).var
    rw [hw.fn (mvv hw')]; exact hw'
  have mv : ∀ {v d}, Rp h (fun a => P a ∨ O a) v d → Rp h' (fun a => P a ∨ O a) v d := fun r => r.mono hk fun _ _ n _ => n
  have mva : ∀ {v d}, RpAll h (fun a => P a ∨ O a) v d → RpAll h' (fun a => P a ∨ O a) v d := fun r => r.mono hk fun _ _ n _ => n
  have same : ∀ y es, σ.get y = some (.own es) → VarIs env h (S y) (.ref a) → y = x := fun y es hy hw => by
    by_cases q : y = x
    · exact q
    · exact (T.apart y x es ds a q hy hx hw hv).elim
  refine ⟨T.base, fun b o e => hs b o (fun q => by rw [q, T.new _ hO] at e; cases e) (T.keep b o e), T.plive, fun b q => ?_, T.new, T.ok, T.loc, let ⟨m, nn⟩ := T.ns; ⟨m, nn.at' fun o e => hs _ o (Ne.symm hne) e⟩, fun y k e => ?_, fun y b' e => ?_, fun y z ds₁ es₁ c ne hy hz vy vz => ?_⟩
  · by_cases q' : b = a
    · subst q'; obtain ⟨o, e⟩ := hp; exact ⟨_, e⟩
    · obtain ⟨o, e⟩ := T.live b q; exact ⟨o, hs b o q' e⟩
  · obtain ⟨⟨v, o, q, d⟩, f⟩ := T.cells y k e
    exact ⟨⟨v, o, hs _ o (hcell _ _ e) q, d⟩, f⟩
  · rw [Sto.get_put] at e
    by_cases q : x = y
    · subst q; simp only [if_true] at e; cases e
      exact ⟨a, vs', mvv hv, hO, hne, hp, mva r⟩
    · rw [if_neg q] at e
      have := T.vars y b' e
      cases b' with
      | val d => obtain ⟨w, hw, r'⟩ := this; exact ⟨w, mvv hw, mv r'⟩
      | own es =>
        obtain ⟨c, ws, hw, h1, h2, h3, h4⟩ := this
        have hca : c ≠ a := fun q' => q (same y es e (q' ▸ hw)).symm
        exact ⟨c, ws, mvv hw, h1, h2, h3.at fun o e => hs _ o hca e, mva h4⟩
  · rw [Sto.get_put] at hy hz
    have gy : ∃ b, σ.get y = some b := by by_cases q : x = y; exact ⟨_, q ▸ hx⟩; rw [if_neg q] at hy; exact ⟨_, hy⟩
    have gz : ∃ b, σ.get z = some b := by by_cases q : x = z; exact ⟨_, q ▸ hx⟩; rw [if_neg q] at hz; exact ⟨_, hz⟩
    have gy' : ∃ es, σ.get y = some (.own es) := by by_cases q : x = y; exact ⟨_, q ▸ hx⟩; rw [if_neg q] at hy; exact ⟨_, hy⟩
    have gz' : ∃ es, σ.get z = some (.own es) := by by_cases q : x = z; exact ⟨_, q ▸ hx⟩; rw [if_neg q] at hz; exact ⟨_, hz⟩
    obtain ⟨e1, hy'⟩ := gy'; obtain ⟨e2, hz'⟩ := gz'
    exact T.apart y z e1 e2 c ne hy' hz' (bck gy vy) (bck gz vz)

/-- a method that changes its list -/
def MutS (B : Bas) (n : Nat) (id : String) (ds as ds' : List D) : Prop :=
  ∀ (X : Addr → Prop) (A : Around) (s : Shared) (E : Value → Shared → Prop) (Q : Value → Shared → Prop) (a : Addr) (vs ws : List Value), B.Ok → AOk n A → B.Here s.heap → s.heap.PlainList a vs.toArray → X a → RpAll s.heap X vs ds → RpAll s.heap X ws as →
    (∀ s' vs', Mov (fun b => b = a) s s' → s'.heap.PlainList a vs'.toArray → RpAll s.heap X vs' ds' → Q .none s') → wpAny (model B.prog B.w) A (call (.builtin id) (.ref a :: ws)) Q E s

theorem ex_meth {x meth id : String} {p1 p2 p3 p4 : Pos} {e : Expr} {es : List Expr} {ds as ds' : List D} {pl : Sem Bool} (hx : σ.get x = some (.own ds)) (sl : Slot "list" (S meth) id) (hty : typeOf (.builtin id) = pure (.type "method_descriptor")) (as' : EvAs B n env σ (e :: es) as) (f : MutS B n id ds as ds')
    (h : R .next (σ.put x (.own ds'))) (h1 : x ≠ "__debug__" := by decide) (h2 : x ≠ "__classdict__" := by decide)
    (hstar : starEach (e :: es) env = (false, eval e env) :: starEach es env := by rfl) (hp : (backTo p3 (starEach es env)).any (·.1) = false := by rfl)
    (he : eval (.Call (.Attribute (.Name (S x) p1) (S meth) p2) (e :: es) [] p3) env = (do
      let ov ← eval (.Name (S x) p1) env
      standAt p2.atName
      let (f, first) ← holding [ov] (getMethod ov (S meth) pl)
      callWith p3 f first (backTo p3 (starEach (e :: es) env)) (backToKw p3 (keywordEach [] env))) := by rfl)
    (hs : swapsWith (.Call (.Attribute (.Name (S x) p1) (S meth) p2) (e :: es) [] p3) none p4.line env = pure false := by rfl) : Ex1 B n env σ (.Expr (.Call (.Attribute (.Name (S x) p1) (S meth) p2) (e :: es) [] p3) p4) R := by
  intro h₀ P O A s E bo ao T
  refine wpAny_Expr ?_ (by unfold interactive; rw [T.ok.kind]; rfl) hs
  refine methodCall_KW ?_ he
  obtain ⟨a, vs, hv, hO, hne, hpl, rs⟩ := T.vars x _ hx
  refine wp_name T hv ?_ (plainName h1) (plainName h2)
  refine getMethod_builtin hpl.isList.typeIs F.plainAttrs_list sl hty (fun b e => by cases e; obtain ⟨k, e⟩ := hpl; exact ⟨_, e, rfl⟩) ?_
  refine PyProof.Rows.callWith_method1 (as' h₀ P O A s E _ p3 bo ao T fun ws s₁ k₁ r₁ => ?_) hstar hp
  have T₁ := T.kp k₁
  have hpl₁ : s₁.heap.PlainList a vs.toArray := hpl.at fun o e => kheap k₁ _ o e
  refine f (fun b => P b ∨ O b) A s₁ E _ a vs ws bo ao T₁.here hpl₁ (.inr hO) (rs.keeps (kheap k₁)) r₁ fun s₂ vs' m₂ hp₂ r₂ => ?_
  obtain ⟨h2', tk2, rfl, k2⟩ := m₂
  have T₂ := T₁.mut hx (hv.keeps (kheap k₁)) hO hne hpl₁ (fun b o nb e => k2 b o nb e) hp₂ r₂
  refine ⟨.next, _, O, (Mov.of_keeps k₁).trans (O' := O) ⟨h2', tk2, rfl, fun b o nb e => k2 b o (fun q => nb (q ▸ hO)) e⟩ (fun _ q => .inl q), trivial, h, fun _ q => .inl q, T₂⟩

theorem mut_append {ds : List D} {d : D} (hsz : ds.length ≤ 1000000) : MutS B n "list.append" ds [d] (ds ++ [d]) := fun X A s E Q a vs ws bo ao hh hp hX rs rw' q => by
  cases rw' with | cons r rn =>
  cases rn
  refine wpAny_list_append_plain hp (fun h' hp' hs => q _ _ ⟨h', s.toks, rfl, fun b o nb e => (hs.2 b nb).trans e⟩ (by simpa using hp') (rs.append (.one r))) (by rw [List.size_toArray, rs.length]; exact szLine hsz)

theorem ex_append {x : String} {p1 p2 p3 p4 : Pos} {e : Expr} {ds : List D} {d : D} {pl : Sem Bool} (hx : σ.get x = some (.own ds)) (v : Ev B n env σ e d) (hsz : ds.length ≤ 1000000)
    (h : R .next (σ.put x (.own (ds ++ [d])))) (h1 : x ≠ "__debug__" := by decide) (h2 : x ≠ "__classdict__" := by decide)
    (hstar : starEach [e] env = (false, eval e env) :: starEach [] env := by rfl)
    (he : eval (.Call (.Attribute (.Name (S x) p1) (S "append") p2) [e] [] p3) env = (do
      let ov ← eval (.Name (S x) p1) env
      standAt p2.atName
      let (f, first) ← holding [ov] (getMethod ov (S "append") pl)
      callWith p3 f first (backTo p3 (starEach [e] env)) (backToKw p3 (keywordEach [] env))) := by rfl)
    (hs : swapsWith (.Call (.Attribute (.Name (S x) p1) (S "append") p2) [e] [] p3) none p4.line env = pure false := by rfl) : Ex1 B n env σ (.Expr (.Call (.Attribute (.Name (S x) p1) (S "append") p2) [e] [] p3) p4) R :=
  ex_meth hx F.slot_list_append F.type_list_append (evas_cons v evas_nil hstar) (mut_append hsz) h h1 h2 hstar rfl he hs

/-- an item of an own list set -/
theorem wp_setItem {A : Around} {s : Shared} {E : Value → Shared → Prop} {l : Addr} {items : Array Value} {k : Int} {t : Tok} {v : Value} {Q : Unit → Shared → Prop} (hl : s.heap.PlainList l items)
    (h0 : 0 ≤ k) (hfit : k < 2 ^ 63) (hn : k < items.size)
    (hQ : ∀ h', h'.PlainList l (items.setIfInBounds k.toNat v) → Heap.SameBut l s.heap h' → Q () { s with heap := h' }) : wpAny (model B.prog B.w) A (setItem (.ref l) (.int k t) v) Q E s := by
  obtain ⟨ep, ho⟩ := id hl
  unfold setItem
  try with_reducible refine wpAny_holding ?_
  first | refine wpAny_bind (wpAny_pure ?_) | skip
  refine wpAny_bind (wpAny_sequenceKey hl.isList.typeIs (by decide) ?_)
  refine wpAny_bind (wpAny_callSpecial?_slot (name := Str.ofString "__setitem__") hl.isList.typeIs slot_list_setitem
    (wpAny_call_entry slot_list_setitem hl.isList.typeIs entry_list_setitem ?_ (args_list_setitem _ _ _)))
  show wpAny _ _ (Builtin.List.listSubscript? (.int k t) >>= _) _ _ s
  refine wpAny_bind (wpAny_listSubscript_int (fitsIndex_of h0 hfit) ?_)
  clear hfit
  obtain ⟨j, rfl⟩ := Int.eq_ofNat_of_zero_le h0
  have hj : j < items.size := by omega
  have hx' : items[j]? = some items[j] := Array.getElem?_eq_getElem hj
  show wpAny _ _ ((seqItemAt l j >>= fun r => pure (r.map (j, ·))) >>= _) _ _ s
  refine wpAny_bind (wpAny_bind (wpAny_seqItemAt ho rfl (wpAny_pure ?_)))
  rw [hx']
  show wpAny _ _ (setSeqItemAt l j v >>= _) _ _ s
  have e : Obj.mapSeq (·.setIfInBounds j v) { cls := .type "list", data := .seq items ep } = { cls := .type "list", data := .seq (items.setIfInBounds j v) ep } := by simp [Obj.mapSeq]
  have hfin : (s.heap.update l (Obj.mapSeq (·.setIfInBounds j v))).PlainList l (items.setIfInBounds j v) := ⟨ep, by rw [Heap.get?_update_self _ ho (by rw [e]; rfl), e]⟩
  refine wpAny_bind (wpAny_setSeqItemAt ho rfl ?_)
  first
    | exact wpAny_bind (wpAny_pure (wpAny_pure ⟨.none, rfl, wpAny_pure (hQ _ hfin (Heap.SameBut.update ..))⟩))
    | exact wpAny_pure ⟨.none, rfl, wpAny_pure (hQ _ hfin (Heap.SameBut.update ..))⟩

theorem RpAll.set {h X vs ds v d} (r : RpAll h X vs ds) (rv : Rp h X v d) : ∀ k, RpAll h X (vs.set k v) (ds.set k d) := by
  induction vs generalizing ds with
  | nil => intro k; cases r; exact .nil
  | cons w ws ih => cases r with | cons a b => intro k; cases k with
    | zero => exact .cons rv b
    | succ k => exact .cons a (ih b k)

/-- xs[i] += e of ints -/
theorem ex_augitem {x : String} {p1 p2 p3 : Pos} {i e : Expr} {l : List Int} {k j : Int} (hx : σ.get x = some (.own (D.ofInts l))) (vi : EvW B n env σ i (.int k)) (ve : EvW B n env σ e (.int j)) (h0 : 0 ≤ k) (hk : k < l.length) (hsz : l.length ≤ 1000000)
    (h : R .next (σ.put x (.own (D.ofInts (l.set k.toNat (l.getD k.toNat 0 + j)))))) (h1 : x ≠ "__debug__" := by decide) (h2 : x ≠ "__classdict__" := by decide)
    (hi : ∀ ov iv new, augStore i ov iv new = (do holding [new, ov, iv] (setItem ov iv new); release [new, ov, iv] []; pure .next) := by intros; rfl) : Ex1 B n env σ (.AugAssign (.Subscript (.Name (S x) p1) i p2) .Add e p3) R := by
  intro h₀ P O A s E bo ao T
  obtain ⟨a, vs, hv, hO, hne, hpl, rs⟩ := T.vars x _ hx
  have hlen : vs.length = l.length := by rw [rs.length, ofInts_length]
  refine wpAny_AugAssign_SubscriptAny (wp_name T hv (vi h₀ P O A s E _ bo ao T fun v₁ s₁ k₁ r₁ => ?_) (plainName h1) (plainName h2)) hi
  obtain ⟨t, rfl⟩ := rp_int r₁
  have hl₁ : s₁.heap.PlainList a vs.toArray := hpl.at fun o e => kheap k₁ _ o e
  have hkn : k.toNat < vs.length := by omega
  obtain ⟨t', ht'⟩ := rs.intAt (i := k.toNat) (v := vs[k.toNat]) (List.getElem?_eq_getElem hkn)
  refine wpAny_getItem_list hl₁.isList h0 (by omega) (x := vs[k.toNat]) (by simp [hkn]) ?_
  refine ve h₀ P O A s₁ E _ bo ao (T.kp k₁) fun v₂ s₂ k₂ r₂ => ?_
  obtain ⟨u, rfl⟩ := rp_int r₂
  rw [ht']
  refine iadd_int ?_
  have kk := ktrans (ktrans k₁ k₂) (ktok s₂ (s₂.toks + 1))
  have hl₂ : s₂.heap.PlainList a vs.toArray := hl₁.at fun o e => kheap k₂ _ o e
  refine wp_setItem (s := { s₂ with toks := s₂.toks + 1 }) hl₂ h0 (by omega) (by simp only [List.size_toArray]; omega) fun h' hp' hs' => ?_
  have T₂ : St B h₀ P env σ O ({ s₂ with toks := s₂.toks + 1 } : Shared).heap := T.kp kk
  have rset : RpAll s₂.heap (fun b => P b ∨ O b) (vs.set k.toNat (.int (l.getD k.toNat 0 + j) s₂.toks)) (D.ofInts (l.set k.toNat (l.getD k.toNat 0 + j))) := by
    have := (rs.keeps (kheap kk)).set (.int (l.getD k.toNat 0 + j) s₂.toks) k.toNat
    simpa [D.ofInts] using this
  refine ⟨.next, _, O, (Mov.of_keeps kk).trans (O' := O) ⟨h', _, rfl, fun b o nb e => (hs'.2 b (fun q => nb (q ▸ hO))).trans e⟩ (fun _ q => .inl q), trivial, h, fun _ q => .inl q, ?_⟩
  exact T₂.mut hx (hv.keeps (kheap kk)) hO hne hl₂ (fun b o nb e => (hs'.2 b nb).trans e) (by simpa using hp') rset

/-- x += e of ints -/
theorem ex_aug {x : String} {p1 p3 : Pos} {e : Expr} {i j : Int} (hx : σ.get x = some (.val (.int i))) (hst : Storable env x) (ve : EvW B n env σ e (.int j)) (h : R .next (σ.put x (.val (.int (i + j)))))
    (h2 : x ≠ "__classdict__" := by decide) : Ex1 B n env σ (.AugAssign (.Name (S x) p1) .Add e p3) R := by
  intro h₀ P O A s E bo ao T
  obtain ⟨v, hv, r⟩ := T.vars x _ hx
  have ld : ∀ {Q : Value → Shared → Prop}, Q v s → wpAny (model B.prog B.w) A (loadName env (S x)) Q E s := fun q => by
    rcases hv with ⟨k, m, n, e⟩ | ⟨k | k, c, l, e⟩
    · exact wpAny_loadName_local T.ok.kind k n e q
    · exact wpAny_loadName_cell T.ok.kind k l e q
    · exact wpAny_loadName_free T.ok.kind k l e q (plainName h2)
  refine wpAny_AugAssign_Name (ld (ve h₀ P O A s E _ bo ao T fun v₂ s₂ k₂ r₂ => ?_))
  obtain ⟨t, rfl⟩ := rp_int r; obtain ⟨u, rfl⟩ := rp_int r₂
  refine iadd_int ?_
  have kk := ktrans k₂ (ktok s₂ (s₂.toks + 1))
  refine wp_store (b := .val (.int (i + j))) (T.kp kk) hst (.int _ _) fun s₃ m₃ T₃ => ?_
  exact ⟨.next, _, O, (Mov.of_keeps kk).trans (m₃.names (T.kp kk)) (fun _ q => .inl q), trivial, h, fun _ q => .inl q, T₃⟩

/-- a, b = e -/
theorem ex_assignT {ts : List Expr} {k : Nat} {p1 p3 : Pos} {e : Expr} {d : D} {σ' : Sto} (v : Ev B n env σ e d) (a : Asg B n env σ (.Tuple ts k p1) d σ') (h : R .next σ')
    (hs : swapsWithSole [.Tuple ts k p1] e p3.line env = pure false := by rfl) (hw : swappedStores [.Tuple ts k p1] e env = pure none := by rfl) : Ex1 B n env σ (.Assign [.Tuple ts k p1] e p3) R := by
  intro h₀ P O A s E bo ao T
  refine Assign_Tuple (v h₀ P O A s E _ bo ao T fun v s₁ k₁ r₁ => a h₀ P O A s₁ E _ v bo ao (T.kp k₁) r₁ fun s₂ m₂ T₂ => ?_) hs hw
  exact ⟨.next, _, O, (Mov.of_keeps k₁).trans (m₂.names (T.kp k₁)) (fun _ q => .inl q), trivial, h, fun _ q => .inl q, T₂⟩
end

mutual
/-- plain data as data -/
def D.of : PyData → D
  | .none => .none
  | .bool b => .bool b
  | .int i => .int i
  | .str x => .str x
  | .list xs => .list (D.ofAll xs)
  | .tuple xs => .tuple (D.ofAll xs)
  | .dict _ => .val .ellipsis
def D.ofAll : List PyData → List D
  | [] => []
  | x :: r => D.of x :: D.ofAll r
end
mutual
theorem Rp.reads {h : Heap} {X : Addr → Prop} : ∀ {q : PyData} {v : Value}, q.canLay0 = true → Rp h X v (D.of q) → ∃ as, Reads h v q as
  | .none, v, _, r => by rw [rp_val r]; exact ⟨_, Reads.none⟩
  | .bool b, v, _, r => by rw [rp_val r]; exact ⟨_, Reads.bool b⟩
  | .int i, v, _, r => by obtain ⟨t, rfl⟩ := rp_int r; exact ⟨_, Reads.int i t⟩
  | .str x, v, _, r => by obtain ⟨t, rfl⟩ := rp_str r; exact ⟨_, Reads.str x t⟩
  | .list xs, v, c, r => by
    rw [D.of] at r
    obtain ⟨a, vs, rfl, ⟨o, ho, hc, k, hd⟩, _, rs⟩ := rp_list r
    obtain ⟨as, q⟩ := RpAll.reads (by simpa [PyData.canLay0] using c) rs
    exact ⟨_, reads_list_at ho hc hd (by simpa using q)⟩
  | .tuple xs, v, c, r => by
    rw [D.of] at r
    obtain ⟨a, vs, rfl, ⟨o, ho, hc, k, hd⟩, _, rs⟩ := rp_tuple r
    obtain ⟨as, q⟩ := RpAll.reads (by simpa [PyData.canLay0] using c) rs
    exact ⟨_, reads_tuple_at ho hc hd (by simpa using q)⟩
  | .dict _, v, c, r => by simp [PyData.canLay0] at c
theorem RpAll.reads {h : Heap} {X : Addr → Prop} : ∀ {qs : List PyData} {vs : List Value}, PyData.canLayAll0 qs = true → RpAll h X vs (D.ofAll qs) → ∃ as, ReadsAll h vs qs as
  | [], vs, _, r => by rw [D.ofAll] at r; cases r; exact ⟨_, ReadsAll.nil⟩
  | q :: qs, vs, c, r => by
    rw [D.ofAll] at r
    cases r with | cons r rs =>
    simp only [PyData.canLayAll0, Bool.and_eq_true] at c
    obtain ⟨as, p⟩ := Rp.reads c.1 r
    obtain ⟨bs, p'⟩ := RpAll.reads c.2 rs
    exact ⟨_, ReadsAll.cons p p'⟩
end
section
variable {B : Bas} {n : Nat} {env : Env} {σ : Sto}
theorem cmp_eq_data {q q' : PyData} (h : SeqAt.shaped q = true) (h' : SeqAt.shaped q' = true) : Cmp B n .Eq (D.of q) (D.of q') (PyData.eqv q q') := fun A s E Q va vb bo ao hh r r' k => by
  obtain ⟨as, ra⟩ := Rp.reads (SeqAt.canLay_of_shaped h) r
  obtain ⟨bs, rb⟩ := Rp.reads (SeqAt.canLay_of_shaped h') r'
  exact SeqAt.compareEq_shaped ra rb h h' (by have := ao.units; omega) (k s (krefl s))
theorem cmp_ne_data {q q' : PyData} (h : SeqAt.shaped q = true) (h' : SeqAt.shaped q' = true) : Cmp B n .NotEq (D.of q) (D.of q') (!PyData.eqv q q') := fun A s E Q va vb bo ao hh r r' k => by
  obtain ⟨as, ra⟩ := Rp.reads (SeqAt.canLay_of_shaped h) r
  obtain ⟨bs, rb⟩ := Rp.reads (SeqAt.canLay_of_shaped h') r'
  exact SeqAt.compareNe_shaped ra rb h h' (by have := ao.units; omega) (k s (krefl s))
end

/-- a tree of questions, each within bounds, answered by lt -/
def Good {α : Type} (m : Nat) (lt : Nat → Nat → Bool) (G : α → Prop) : KasT α → Prop
  | .ret a => G a
  | .ask i j k => i < m ∧ j < m ∧ Good m lt G (k (lt i j))
theorem Good.mono {α : Type} {m : Nat} {lt : Nat → Nat → Bool} {G G' : α → Prop} (h : ∀ a, G a → G' a) : ∀ {t : KasT α}, Good m lt G t → Good m lt G' t
  | .ret a, x => h a x
  | .ask i j k, x => ⟨x.1, x.2.1, Good.mono h x.2.2⟩
theorem Good.bind {α β : Type} {m : Nat} {lt : Nat → Nat → Bool} {G : β → Prop} {f : α → KasT β} : ∀ {t : KasT α}, Good m lt (fun a => Good m lt G (f a)) t → Good m lt G (t.bind f)
  | .ret a, x => x
  | .ask i j k, x => ⟨x.1, x.2.1, Good.bind x.2.2⟩

structure Ord (lt : Nat → Nat → Bool) : Prop where
  asym : ∀ i j, lt i j = true → lt j i = false
  trans : ∀ i j k, lt i j = false → lt j k = false → lt i k = false

section
variable {lt : Nat → Nat → Bool} {m : Nat}
abbrev g (p : Array Nat) (k : Nat) : Nat := p.getD k 0
def SortedTo (lt : Nat → Nat → Bool) (p : Array Nat) (k : Nat) : Prop := ∀ i j, i ≤ j → j < k → lt (g p j) (g p i) = false
def NonInc (lt : Nat → Nat → Bool) (p : Array Nat) (k : Nat) : Prop := ∀ i j, i ≤ j → j < k → lt (g p i) (g p j) = false
def Eqv (lt : Nat → Nat → Bool) (p : Array Nat) (lo hi : Nat) : Prop := ∀ i j, lo ≤ i → i < hi → lo ≤ j → j < hi → lt (g p i) (g p j) = false
structure InB (m : Nat) (p : Array Nat) : Prop where
  sz : p.size = m
  pm : p.Perm (List.range m).toArray
theorem InB.low {p : Array Nat} (h : InB m p) {k : Nat} (hk : k < m) : g p k < m := by
  have hm : p[k]'(by rw [h.sz]; exact hk) ∈ (List.range m).toArray := h.pm.mem_iff.mp (Array.getElem_mem _)
  have e : g p k = p[k]'(by rw [h.sz]; exact hk) := by unfold g; rw [Array.getD_eq_getD_getElem?, Array.getElem?_eq_getElem (by rw [h.sz]; exact hk)]; rfl
  rw [e]; simpa using hm
theorem InB.rev {p : Array Nat} (h : InB m p) (i j : Nat) : InB m (kas_rev p i j) := ⟨by unfold kas_rev; rw [mirror_size]; exact h.sz, (mirror_perm _ _ _ _).trans h.pm⟩
theorem InB.bub {p : Array Nat} (h : InB m p) (i j : Nat) : InB m (bubble p i j) := ⟨by rw [bubble_size]; exact h.sz, (bubble_perm _ _ _).trans h.pm⟩
theorem g_rev {p : Array Nat} {i j : Nat} (hj : j ≤ p.size) (k : Nat) : g (kas_rev p i j) k = if i ≤ k ∧ k < j then g p (i + j - 1 - k) else g p k := by
  unfold g kas_rev
  rw [Array.getD_eq_getD_getElem?, getElem?_mirror_all hj]
  split <;> rw [Array.getD_eq_getD_getElem?]
theorem g_bub {p : Array Nat} {src d : Nat} (hs : src < p.size) (hd : d ≤ src) (k : Nat) : g (bubble p src d) k = if k = src - d then g p src else if src - d < k ∧ k ≤ src then g p (k - 1) else g p k := by
  simp only [g, Array.getD_eq_getD_getElem?]
  rw [getElem?_bubble hs d hd]
  split
  · rfl
  · split <;> rfl

variable (O : Ord lt)
include O
theorem refl (i : Nat) : lt i i = false := by
  cases h : lt i i with
  | false => rfl
  | true => have := O.asym i i h; rw [h] at this; cases this

theorem good_asc {p : Array Nat} (hp : InB m p) : ∀ f n, 1 ≤ n → n + f ≤ m → SortedTo lt p n → Good m lt (fun k => n ≤ k ∧ k ≤ n + f ∧ SortedTo lt p k ∧ (k < n + f → lt (g p k) (g p (k - 1)) = true)) (kas_asc p f n) := by
  intro f
  induction f with
  | zero => intro n h1 h2 hs; exact ⟨Nat.le_refl _, Nat.le_refl _, hs, fun q => absurd q (by omega)⟩
  | succ f ih =>
    intro n h1 h2 hs
    refine ⟨hp.low (by omega), hp.low (by omega), ?_⟩
    cases hc : lt (p.getD n 0) (p.getD (n - 1) 0) with
    | true => simp only [if_true]; exact ⟨Nat.le_refl _, by omega, hs, fun _ => hc⟩
    | false =>
      simp only [Bool.false_eq_true, if_false]
      have hs' : SortedTo lt p (n + 1) := by
        intro i j hij hj
        by_cases e : j < n
        · exact hs i j hij e
        · have ej : j = n := by omega
          subst ej
          by_cases ei : i = j
          · subst ei; exact refl O _
          · exact O.trans _ _ _ hc (hs i (j - 1) (by omega) (by omega))
      exact Good.mono (fun k hk => ⟨by omega, by omega, hk.2.2.1, fun q => hk.2.2.2 (by omega)⟩) (ih (n + 1) (by omega) (by omega) hs')

theorem rev_sorted {p : Array Nat} {n : Nat} (hn : n ≤ p.size) (h : NonInc lt p n) : SortedTo lt (kas_rev p 0 n) n := by
  intro i j hij hj
  rw [g_rev hn, g_rev hn, if_pos ⟨Nat.zero_le _, hj⟩, if_pos ⟨Nat.zero_le _, by omega⟩]
  exact h _ _ (by omega) (by omega)
theorem rev_nonInc {p : Array Nat} {n lo : Nat} (hn : n ≤ p.size) (h : NonInc lt p n) (he : Eqv lt p lo n) : NonInc lt (kas_rev p lo n) n := by
  intro i j hij hj
  rw [g_rev hn, g_rev hn]
  by_cases hi : lo ≤ i
  · rw [if_pos ⟨hi, by omega⟩, if_pos ⟨by omega, hj⟩]
    exact he _ _ (by omega) (by omega) (by omega) (by omega)
  · rw [if_neg (fun q => hi q.1)]
    split
    · exact h _ _ (by omega) (by omega)
    · exact h _ _ hij hj

theorem good_desc : ∀ f (p : Array Nat) n q, InB m p → q + 1 ≤ n → n + f ≤ m → NonInc lt p n → Eqv lt p (n - (q + 1)) n →
    Good m lt (fun r => InB m r.1 ∧ n ≤ r.2.1 ∧ r.2.1 ≤ n + f ∧ r.2.2 + 1 ≤ r.2.1 ∧ NonInc lt r.1 r.2.1 ∧ Eqv lt r.1 (r.2.1 - (r.2.2 + 1)) r.2.1) (kas_desc f p n q) := by
  intro f
  induction f with
  | zero => intro p n q hp h1 h2 hn he; exact ⟨hp, Nat.le_refl _, Nat.le_refl _, h1, hn, he⟩
  | succ f ih =>
    intro p n q hp h1 h2 hn he
    have ext : ∀ p' : Array Nat, InB m p' → NonInc lt p' n → (∀ i, i < n → lt (g p' i) (g p' n) = false) → NonInc lt p' (n + 1) := by
      intro p' hp' h' hl i j hij hj
      by_cases e : j < n
      · exact h' i j hij e
      · have ej : j = n := by omega
        subst ej
        by_cases ei : i = j
        · subst ei; exact refl O _
        · exact hl i (by omega)
    have one : ∀ p' : Array Nat, Eqv lt p' (n + 1 - (0 + 1)) (n + 1) := by
      intro p' i j a b c d
      have : i = j := by omega
      subst this; exact refl O _
    refine ⟨hp.low (by omega), hp.low (by omega), ?_⟩
    cases hc : lt (p.getD n 0) (p.getD (n - 1) 0) with
    | true =>
      simp only [if_true]
      have hc' := O.asym _ _ hc
      have below : ∀ i, i < n → lt (g p i) (g p n) = false := fun i hi => O.trans _ _ _ (hn i (n - 1) (by omega) (by omega)) hc'
      split
      · have hp1 := hp.rev (n - (q + 1)) n
        have hsz : n ≤ p.size := by rw [hp.sz]; omega
        have hn1 : NonInc lt (kas_rev p (n - (q + 1)) n) n := rev_nonInc O hsz hn he
        refine Good.mono (fun r hr => ⟨hr.1, by omega, by omega, hr.2.2.2.1, hr.2.2.2.2.1, hr.2.2.2.2.2⟩) (ih _ (n + 1) 0 hp1 (by omega) (by omega) (ext _ hp1 hn1 ?_) (one _))
        intro i hi
        rw [g_rev hsz i, g_rev hsz n, if_neg (show ¬ (n - (q + 1) ≤ n ∧ n < n) by omega)]
        split
        · exact below _ (by omega)
        · exact below _ hi
      · exact Good.mono (fun r hr => ⟨hr.1, by omega, by omega, hr.2.2.2.1, hr.2.2.2.2.1, hr.2.2.2.2.2⟩) (ih _ (n + 1) 0 hp (by omega) (by omega) (ext _ hp hn below) (one _))
    | false =>
      simp only [Bool.false_eq_true, if_false]
      refine ⟨hp.low (by omega), hp.low (by omega), ?_⟩
      cases hd : lt (p.getD (n - 1) 0) (p.getD n 0) with
      | true => simp only [if_true]; exact ⟨hp, Nat.le_refl _, Nat.le_add_right _ _, h1, hn, he⟩
      | false =>
        simp only [Bool.false_eq_true, if_false]
        have below : ∀ i, i < n → lt (g p i) (g p n) = false := fun i hi => O.trans _ _ _ (hn i (n - 1) (by omega) (by omega)) hd
        refine Good.mono (fun r hr => ⟨hr.1, by omega, by omega, hr.2.2.2.1, hr.2.2.2.2.1, hr.2.2.2.2.2⟩) (ih _ (n + 1) (q + 1) hp (by omega) (by omega) (ext _ hp hn below) ?_)
        intro i j a b c d
        by_cases ei : i = n
        · subst ei
          by_cases ej : j = i
          · subst ej; exact refl O _
          · exact O.trans _ _ _ hc (he (i - 1) j (by omega) (by omega) (by omega) (by omega))
        · by_cases ej : j = n
          · subst ej; exact below i (by omega)
          · exact he i j (by omega) (by omega) (by omega) (by omega)

theorem good_tail3 {p : Array Nat} {n : Nat} (hp : InB m p) (h1 : 1 ≤ n) (hn : n ≤ m) (h : NonInc lt p n) : Good m lt (fun r => InB m r.2 ∧ 1 ≤ r.1 ∧ r.1 ≤ m ∧ SortedTo lt r.2 r.1) (kas_tail3 n m p) := by
  refine Good.bind (Good.mono (fun k hk => ?_) (good_asc O (hp.rev 0 n) (m - n) n h1 (by omega) (rev_sorted O (by rw [hp.sz]; exact hn) h)))
  exact ⟨hp.rev 0 n, by omega, by omega, hk.2.2.1⟩
theorem good_descPart {p : Array Nat} {n : Nat} (hp : InB m p) (h1 : 1 ≤ n) (hn : n + 1 ≤ m) (h : NonInc lt p (n + 1)) : Good m lt (fun r => InB m r.2 ∧ 1 ≤ r.1 ∧ r.1 ≤ m ∧ SortedTo lt r.2 r.1) (kas_descPart n m p) := by
  refine Good.bind (Good.mono (fun r hr => ?_) (good_desc O (m - (n + 1)) p (n + 1) 0 hp (by omega) (by omega) h ?_))
  · obtain ⟨a, b, c, d, e, f⟩ := hr
    split
    · exact good_tail3 O (a.rev _ _) (by omega) (by omega) (rev_nonInc O (by rw [a.sz]; omega) e f)
    · exact good_tail3 O a (by omega) (by omega) e
  · intro i j a b c d
    have : i = j := by omega
    subst this; exact refl O _

theorem good_count {p : Array Nat} (hp : InB m p) (h1 : 1 ≤ m) : Good m lt (fun r => InB m r.2 ∧ 1 ≤ r.1 ∧ r.1 ≤ m ∧ SortedTo lt r.2 r.1) (kas_count m p) := by
  have s1 : SortedTo lt p 1 := fun i j a b => by
    have : i = j := by omega
    subst this; exact refl O _
  refine Good.bind (Good.mono (fun n hn => ?_) (good_asc O hp (m - 1) 1 (Nat.le_refl _) (by omega) s1))
  obtain ⟨a, b, c, d⟩ := hn
  by_cases e : n = m
  · subst e
    rw [if_pos (by simp)]
    exact ⟨hp, a, by omega, c⟩
  · rw [if_neg (by simpa using e)]
    have hd := d (by omega)
    have hd' := O.asym _ _ hd
    split
    · refine ⟨hp.low (by omega), hp.low (by omega), ?_⟩
      cases hc : lt (p.getD 0 0) (p.getD (n - 1) 0) with
      | true => simp only [if_true]; exact ⟨hp, a, by omega, c⟩
      | false =>
        simp only [Bool.false_eq_true, if_false]
        refine good_descPart O (hp.rev 0 n) a (by omega) ?_
        have hsz : n ≤ p.size := by rw [hp.sz]; omega
        -- all alike up to n
        have alike : ∀ i j, i < n → j < n → lt (g p i) (g p j) = false := fun i j hi hj => by
          by_cases z : j ≤ i
          · exact c j i z hi
          · exact O.trans _ _ _ (O.trans _ _ _ (c 0 i (Nat.zero_le _) hi) hc) (c j (n - 1) (by omega) (by omega))
        intro i j hij hj
        by_cases ej : j = n
        · subst ej
          by_cases ei : i = j
          · subst ei; exact refl O _
          · rw [g_rev hsz i, g_rev hsz j, if_neg (show ¬ (0 ≤ j ∧ j < j) by omega), if_pos ⟨Nat.zero_le _, by omega⟩]
            exact O.trans _ _ _ (alike _ (j - 1) (by omega) (by omega)) hd'
        · rw [g_rev hsz i, g_rev hsz j, if_pos ⟨Nat.zero_le _, by omega⟩, if_pos ⟨Nat.zero_le _, by omega⟩]
          exact alike _ _ (by omega) (by omega)
    · refine good_descPart O hp a (by omega) ?_
      intro i j hij hj
      by_cases ei : i = j
      · subst ei; exact refl O _
      · have : n = 1 := by omega
        subst this
        have e0 : i = 0 := by omega
        have e1 : j = 1 := by omega
        subst e0; subst e1; exact hd'

theorem good_place {p : Array Nat} {k : Nat} (hp : InB m p) (hk : k < m) (hs : SortedTo lt p k) : ∀ f l r, l ≤ r → r ≤ k → r - l ≤ f → (∀ i, i < l → lt (g p k) (g p i) = false) → (∀ i, r ≤ i → i < k → lt (g p i) (g p k) = false) →
    Good m lt (fun l' => l' ≤ k ∧ (∀ i, i < l' → lt (g p k) (g p i) = false) ∧ (∀ i, l' ≤ i → i < k → lt (g p i) (g p k) = false)) (kas_place p k f l r) := by
  intro f
  induction f with
  | zero => intro l r h1 h2 h3 hl hr; have : l = r := by omega
            subst this; exact ⟨h2, hl, hr⟩
  | succ f ih =>
    intro l r h1 h2 h3 hl hr
    unfold kas_place
    split
    · have : l = r := by omega
      subst this; exact ⟨h2, hl, hr⟩
    · refine ⟨hp.low hk, hp.low (by omega), ?_⟩
      cases hc : lt (p.getD k 0) (p.getD ((l + r) / 2) 0) with
      | true =>
        simp only [if_true]
        refine ih l ((l + r) / 2) (by omega) (by omega) (by omega) hl fun i hi hik => ?_
        exact O.trans _ _ _ (hs ((l + r) / 2) i hi hik) (O.asym _ _ hc)
      | false =>
        simp only [Bool.false_eq_true, if_false]
        refine ih ((l + r) / 2 + 1) r (by omega) h2 (by omega) (fun i hi => ?_) hr
        exact O.trans _ _ _ hc (hs i ((l + r) / 2) (by omega) (by omega))
theorem good_bin : ∀ f (p : Array Nat) k, InB m p → k + f = m → SortedTo lt p k → Good m lt (fun q => InB m q ∧ SortedTo lt q m) (kas_bin f p k) := by
  intro f
  induction f with
  | zero => intro p k hp hk hs; have : k = m := by omega
            subst this; exact ⟨hp, hs⟩
  | succ f ih =>
    intro p k hp hk hs
    refine Good.bind (Good.mono (fun l hl => ?_) (good_place O hp (by omega) hs k 0 k (Nat.zero_le _) (Nat.le_refl _) (by omega) (fun i hi => absurd hi (by omega)) fun i hi hik => absurd hik (by omega)))
    obtain ⟨h1, h2, h3⟩ := hl
    refine ih _ (k + 1) (hp.bub k (k - l)) (by omega) ?_
    have hsz : k < p.size := by rw [hp.sz]; omega
    have e : k - (k - l) = l := by omega
    intro i j hij hj
    rw [g_bub hsz (by omega) i, g_bub hsz (by omega) j, e]
    by_cases ij : i = j
    · subst ij; exact refl O _
    · by_cases ei : i = l
      · subst ei
        rw [if_pos rfl, if_neg (by omega), if_pos ⟨by omega, by omega⟩]
        exact h3 (j - 1) (by omega) (by omega)
      · rw [if_neg ei]
        by_cases ej : j = l
        · subst ej
          rw [if_pos rfl, if_neg (by omega)]
          exact h2 i (by omega)
        · rw [if_neg ej]
          split <;> split
          · exact hs _ _ (by omega) (by omega)
          · exact hs _ _ (by omega) (by omega)
          · exact hs _ _ (by omega) (by omega)
          · exact hs _ _ (by omega) (by omega)
theorem good_sort (h1 : 1 ≤ m) : Good m lt (fun q => InB m q ∧ SortedTo lt q m) (kas_sort m) := by
  have hp : InB m (List.range m).toArray := ⟨by simp, Array.Perm.refl _⟩
  refine Good.bind (Good.mono (fun r hr => ?_) (good_count O hp h1))
  obtain ⟨a, b, c, d⟩ := hr
  split
  · have e : max r.1 1 = r.1 := by omega
    rw [e]
    exact good_bin O _ _ _ a (by omega) d
  · have : r.1 = m := by omega
    rw [this] at d
    exact ⟨a, d⟩
end

/-- the questions asked of the model -/
theorem good_wp {α : Type} {prog : Program} {w : World} {A : Around} {κ : SortKind} {vs : List Value} {lt : Nat → Nat → Bool} {m : Nat} {Q : α → Shared → Prop} {G : α → Prop} {s : Shared}
    (ask : ∀ i j s' (C : Bool → Shared → Prop), i < m → j < m → Keeps s s' → (∀ s'', Keeps s' s'' → C (lt i j) s'') → kas_ask prog w A κ vs i j C s') (q : ∀ a s', G a → Keeps s s' → Q a s') :
    ∀ (t : KasT α) (s' : Shared), Keeps s s' → Good m lt G t → t.kasWp (kas_ask prog w A κ vs) Q s'
  | .ret a, s', k, h => q a s' h k
  | .ask i j kk, s', k, h => ask i j s' _ h.1 h.2.1 k fun s'' k' => good_wp ask q (kk (lt i j)) s'' (ktrans k k') h.2.2

theorem wp_sortBody {B : Bas} {A : Around} {E : Value → Shared → Prop} {s : Shared} {a : Addr} {vs : List Value} {ep : Nat} {P : PySem.Fin → Shared → Prop} (ho : s.heap.get? a = some (seqObj "list" vs.toArray ep)) (h2 : 2 ≤ vs.length) (h64 : vs.length < 64)
    {lt : Nat → Nat → Bool} (O : Ord lt) {κ : SortKind}
    (kind : ∀ s' (Q' : SortKind → Shared → Prop), Mov (fun b => b = a) s s' → (∀ s'', Keeps s' s'' → Q' κ s'') → wpAny (model B.prog B.w) A (keyKind' vs.toArray) Q' (fun _ _ => False) s')
    (ask : ∀ i j s' (C : Bool → Shared → Prop), i < vs.length → j < vs.length → Mov (fun b => b = a) s s' → (∀ s'', Keeps s' s'' → C (lt i j) s'') → kas_ask B.prog B.w A κ vs i j C s')
    (q : ∀ (p : Array Nat) s', InB vs.length p → SortedTo lt p vs.length → Mov (fun b => b = a) s s' → s'.heap.PlainList a (p.toList.map fun i => vs.getD i Value.none).toArray → P (.done (.ret .none)) s') :
    wpAny (model B.prog B.w) A (Builtin.«list.sort» ⟨[.ref a], []⟩) P E s := by
  have ha : a < s.heap.objs.size := Heap.lt_size ho
  have s1 := Heap.SameBut.update s.heap a (Obj.mapSeq fun _ => (#[] : Array Value))
  obtain ⟨e1, ho1⟩ : ∃ e1, (s.heap.update a (Obj.mapSeq fun _ => (#[] : Array Value))).get? a = some (seqObj "list" #[] e1) := ⟨_, get?_update_seq ho fun _ => #[]⟩
  generalize hH1 : s.heap.update a (Obj.mapSeq fun _ => (#[] : Array Value)) = H1 at s1 ho1
  have m0 : ∀ tk, Mov (fun b => b = a) s { s with heap := (H1.push (seqObj "tuple" vs.toArray 0)).push (seqObj "list" #[] 0), toks := tk } := fun tk => ⟨_, _, rfl, fun b o nb e => Heap.get?_push_of_some _ (Heap.get?_push_of_some _ ((s1.2 b nb).trans e))⟩
  have hm0 : ((H1.push (seqObj "tuple" vs.toArray 0)).push (seqObj "list" #[] 0)).get? a = some (seqObj "list" #[] e1) := Heap.get?_push_of_some _ (Heap.get?_push_of_some _ ho1)
  rw [list_sort_plain]
  refine wpAny_bind (listItems_at ho rfl ?_)
  refine wpAny_bind (listUpdate_at ho rfl ?_ (by rw [List.size_toArray, sizeLine_eq]; omega) (Nat.zero_le _))
  rw [hH1]
  refine wpAny_bind (seqEpoch_at ho1 rfl ?_)
  refine wpAny_bind (wpAny_newTuple ?_ (by show vs.length ≤ _; rw [sizeLine_eq]; omega))
  refine wpAny_bind (wpAny_newList ?_ (Nat.zero_le _))
  refine wpAny_holding ?_
  dsimp only
  have hn2 : ¬ vs.toArray.size < 2 := by rw [List.size_toArray]; omega
  rw [if_neg hn2, if_neg hn2]
  refine wpAny_bind (wpAny_mono (kind _ (fun κ' s'' => κ' = κ ∧ Keeps _ s'') (m0 s.toks) fun s'' k => ⟨rfl, k⟩) (fun κ' s0 hk => ?_) fun _ _ x => x.elim)
  obtain ⟨rfl, k0⟩ := hk
  have T := good_wp (prog := B.prog) (w := B.w) (A := A) (κ := κ') (vs := vs) (lt := lt) (m := vs.length) (G := fun q => InB vs.length q ∧ SortedTo lt q vs.length) (Q := fun (p : Array Nat) s' => (InB vs.length p ∧ SortedTo lt p vs.length) ∧ Keeps s0 s') (s := s0)
    (fun i j s' C hi hj k hC => ask i j s' C hi hj ((m0 s.toks).trans (Mov.of_keeps (O := fun b => b = a) (ktrans k0 k)) fun b q => .inl q) hC) (fun p s' hp k => ⟨hp, k⟩) (kas_sort vs.length) s0 (krefl _) (good_sort O (by omega))
  refine wpAny_bind (wpAny_mono (kat_run (Q := fun st' s' => ∃ p : Array Nat, p.size = vs.length ∧ arrOf st' = p.map (kas_item (vs.toArray.zip vs.toArray)) ∧ failedOf st' = none ∧ (InB vs.length p ∧ SortedTo lt p vs.length) ∧ Keeps s0 s')
    rfl h2 h64 (fun p' st' s' a1 a2 a3 a4 => ⟨p', a1, a2, a3, a4⟩) T) ?_ fun _ _ e => e)
  rintro ⟨⟨⟩, st'⟩ s' ⟨p, hp, har, hf, ⟨hin, hso⟩, k1⟩
  dsimp only
  have kk := ktrans k0 k1
  have hna : s'.heap.get? a = some (seqObj "list" #[] e1) := kheap kk _ _ hm0
  have hout := kat_snds rfl har
  have hsz : (List.toArray (p.toList.map fun i => vs.getD i Value.none)).size = vs.length := by rw [List.size_toArray, List.length_map, Array.length_toList, hp]
  rw [hout]
  have s2 := Heap.SameBut.update s'.heap a (Obj.mapSeq fun _ => List.toArray (p.toList.map fun i => vs.getD i Value.none))
  obtain ⟨c2, hc2⟩ : ∃ c2, (s'.heap.update a (Obj.mapSeq fun _ => List.toArray (p.toList.map fun i => vs.getD i Value.none))).get? a = some (seqObj "list" (List.toArray (p.toList.map fun i => vs.getD i Value.none)) c2) := ⟨_, get?_update_seq hna fun _ => List.toArray (p.toList.map fun i => vs.getD i Value.none)⟩
  refine wpAny_bind (seqEpoch_at hna rfl ?_)
  refine wpAny_bind (listUpdate_at hna rfl ?_ (Nat.zero_le _) (Nat.le_trans (Nat.le_of_eq hsz) (by rw [sizeLine_eq]; omega)))
  rw [hf]
  simp only [bne_self_eq_false, Bool.false_eq_true, if_false]
  refine wpAny_pure (q p _ hin hso ?_ ⟨c2, hc2⟩)
  refine (m0 s.toks).trans (O' := fun b => b = a) ?_ fun b q => .inl q
  obtain ⟨h9, tk9, rfl, k9⟩ := kk
  exact ⟨_, _, rfl, fun b o nb e => (s2.2 b nb).trans (k9 b o e)⟩

/-- sorted(xs) -/
theorem wp_sorted {B : Bas} {A : Around} {E : Value → Shared → Prop} {s : Shared} {l : Addr} {vs : List Value} {Q : Value → Shared → Prop} (hl : s.heap.IsList l vs.toArray) (h2 : 2 ≤ vs.length) (h64 : vs.length < 64)
    {lt : Nat → Nat → Bool} (O : Ord lt) {κ : SortKind}
    (kind : ∀ s' (Q' : SortKind → Shared → Prop), Keeps s s' → (∀ s'', Keeps s' s'' → Q' κ s'') → wpAny (model B.prog B.w) A.in1.in1 (keyKind' vs.toArray) Q' (fun _ _ => False) s')
    (ask : ∀ i j s' (C : Bool → Shared → Prop), i < vs.length → j < vs.length → Keeps s s' → (∀ s'', Keeps s' s'' → C (lt i j) s'') → kas_ask B.prog B.w A.in1.in1 κ vs i j C s')
    (q : ∀ (p : Array Nat) a s', InB vs.length p → SortedTo lt p vs.length → Keeps s s' → s.heap.get? a = none → s'.heap.PlainList a (p.toList.map fun i => vs.getD i Value.none).toArray → Q (.ref a) s') :
    wpAny (model B.prog B.w) A (call (.builtin "sorted") [.ref l]) Q E s := by
  refine Calls.call_function_entry kind_sorted plain_sorted entry_sorted (args_sorted1 _) ?_
  unfold Builtin.«sorted»
  refine wpAny_bind (m := checkCount "sorted" 1 1 _) (wpAny_pure ?_)
  refine wpAny_bind (collect_list hl ?_ (by rw [sizeLine_eq]; omega))
  refine wpAny_bind (wpAny_newList ?_ (by rw [sizeLine_eq]; omega))
  have hsz : ((s.heap.push (seqObj "list" #[] 0)).update s.heap.objs.size (Obj.mapSeq (· ++ vs.toArray))).objs.size = s.heap.objs.size + 1 := by
    rw [Heap.size_update, size_push']
  have hoL : (((s.heap.push (seqObj "list" #[] 0)).update s.heap.objs.size (Obj.mapSeq (· ++ vs.toArray))).push (seqObj "list" vs.toArray 0)).get? (s.heap.objs.size + 1) = some (seqObj "list" vs.toArray 0) := by
    rw [← hsz]; exact Heap.get?_push_size _ rfl
  have keep : ∀ b o, s.heap.get? b = some o → (((s.heap.push (seqObj "list" #[] 0)).update s.heap.objs.size (Obj.mapSeq (· ++ vs.toArray))).push (seqObj "list" vs.toArray 0)).get? b = some o := fun b o q => by
    have hlt : b < s.heap.objs.size := Heap.lt_size q
    rw [Heap.get?_push_ne _ _ _ (by rw [hsz]; exact Nat.ne_of_lt (Nat.lt_succ_of_lt hlt)), Heap.get?_update_ne _ _ _ _ (Nat.ne_of_lt hlt), Heap.get?_push_ne _ _ _ (Nat.ne_of_lt hlt)]
    exact q
  show wpAny _ _ _ _ _ { s with heap := ((s.heap.push (seqObj "list" #[] 0)).update s.heap.objs.size (Obj.mapSeq (· ++ vs.toArray))).push (seqObj "list" vs.toArray 0) }
  rw [hsz]
  generalize ((s.heap.push (seqObj "list" #[] 0)).update s.heap.objs.size (Obj.mapSeq (· ++ vs.toArray))).push (seqObj "list" vs.toArray 0) = H at hoL keep
  have hfr : s.heap.get? (s.heap.objs.size + 1) = none := fresh_of (by omega)
  have kk : ∀ s', Mov (fun b => b = s.heap.objs.size + 1) { s with heap := H } s' → Keeps s s' := by
    rintro s' ⟨h', tk, rfl, k⟩
    exact ⟨h', tk, rfl, fun b o e => k b o (fun q => by rw [q, hfr] at e; cases e) (keep b o e)⟩
  refine wpAny_bind (wpAny_holding (wpAny_call_entry slot_list_sort ⟨_, hoL, rfl⟩ entry_list_sort ?body (args_list_sort _)))
  case body =>
    refine wp_sortBody (s := { s with heap := H }) hoL h2 h64 O (fun s' Q' m hq => kind s' Q' (kk s' m) hq) (fun i j s' C hi hj m hC => ask i j s' C hi hj (kk s' m) hC) fun p s' hp hs m hpl => ?_
    exact ⟨_, rfl, wpAny_pure ⟨_, rfl, q p _ s' hp hs (kk s' m) hfr hpl⟩⟩

def lexLt : List Int → List Int → Bool
  | [], [] => false
  | [], _ :: _ => true
  | _ :: _, [] => false
  | a :: r, b :: t => if a = b then lexLt r t else decide (a < b)
theorem lexLt_refl : ∀ l, lexLt l l = false
  | [] => rfl
  | a :: r => by simp [lexLt, lexLt_refl r]
theorem lexLt_asym : ∀ l m, lexLt l m = true → lexLt m l = false
  | [], [], h => rfl
  | [], _ :: _, h => rfl
  | _ :: _, [], h => by simp [lexLt] at h
  | a :: r, b :: t, h => by
    unfold lexLt at h ⊢
    by_cases e : a = b
    · subst e; simp only [if_true] at h ⊢; exact lexLt_asym r t h
    · rw [if_neg e] at h; rw [if_neg (Ne.symm e)]
      simp at h ⊢; omega
theorem lexLt_trans : ∀ l m k, lexLt l m = false → lexLt m k = false → lexLt l k = false
  | [], [], k, _, h => h
  | [], _ :: _, k, h, _ => by simp [lexLt] at h
  | _ :: _, m, [], _, _ => rfl
  | _ :: _, [], _ :: _, _, h => by simp [lexLt] at h
  | a :: r, b :: t, c :: u, h, h' => by
    unfold lexLt at h h' ⊢
    by_cases e : a = b
    · subst e
      simp only [if_true] at h
      by_cases e' : a = c
      · subst e'; simp only [if_true] at h' ⊢; exact lexLt_trans r t u h h'
      · rw [if_neg e'] at h' ⊢; exact h'
    · rw [if_neg e] at h
      by_cases e' : b = c
      · subst e'; rw [if_neg e]; exact h
      · rw [if_neg e'] at h'
        simp at h h'
        rw [if_neg (by omega)]; simp; omega
theorem lexLt_antisymm : ∀ l m, lexLt l m = false → lexLt m l = false → l = m
  | [], [], _, _ => rfl
  | [], _ :: _, h, _ => by simp [lexLt] at h
  | _ :: _, [], _, h => by simp [lexLt] at h
  | a :: r, b :: t, h, h' => by
    unfold lexLt at h h'
    by_cases e : a = b
    · subst e; simp only [if_true] at h h'; rw [lexLt_antisymm r t h h']
    · rw [if_neg e] at h; rw [if_neg (Ne.symm e)] at h'
      simp at h h'; omega
theorem ord_lex (ks : List (List Int)) : Ord (fun i j => lexLt (ks.getD i []) (ks.getD j [])) := ⟨fun i j h => lexLt_asym _ _ h, fun i j k h h' => lexLt_trans _ _ _ h h'⟩

def sortL (ks : List (List Int)) : List (List Int) := ks.mergeSort fun a b => !lexLt b a
theorem sortL_perm (ks : List (List Int)) : (sortL ks).Perm ks := List.mergeSort_perm _ _
theorem sortL_sorted (ks : List (List Int)) : (sortL ks).Pairwise fun a b => lexLt b a = false := by
  have := List.pairwise_mergeSort (le := fun a b => !lexLt b a) (fun a b c h h' => by simp at h h' ⊢; exact lexLt_trans _ _ _ h' h) (fun a b => by
    cases h : lexLt b a with
    | false => simp
    | true => simp [lexLt_asym _ _ h]) ks
  exact this.imp fun h => by simpa using h
theorem sorted_unique : ∀ {l m : List (List Int)}, l.Perm m → l.Pairwise (fun a b => lexLt b a = false) → m.Pairwise (fun a b => lexLt b a = false) → l = m
  | [], m, hp, _, _ => by rw [List.nil_perm.mp hp]
  | a :: l, m, hp, hl, hm => by
    cases m with
    | nil => exact absurd (List.perm_nil.mp hp) (by simp)
    | cons b m =>
      rw [List.pairwise_cons] at hl hm
      have e : a = b := by
        have ha : a ∈ b :: m := hp.mem_iff.mp (List.mem_cons_self ..)
        have hb : b ∈ a :: l := hp.mem_iff.mpr (List.mem_cons_self ..)
        rcases List.mem_cons.mp ha with e | ha
        · exact e
        · rcases List.mem_cons.mp hb with e | hb
          · exact e.symm
          · exact lexLt_antisymm _ _ (hm.1 a ha) (hl.1 b hb) 
      subst e
      rw [sorted_unique ((List.perm_cons a).mp hp) hl.2 hm.2]

theorem range_getD {α} (l : List α) (d : α) : (List.range l.length).map (fun i => l.getD i d) = l := by
  apply List.ext_getElem
  · simp
  · intro i h1 h2; simp [List.getD_eq_getElem?_getD, List.getElem?_eq_getElem h2]
theorem sort_result {ks : List (List Int)} {p : Array Nat} (hp : InB ks.length p) (hs : SortedTo (fun i j => lexLt (ks.getD i []) (ks.getD j [])) p ks.length) : p.toList.map (fun i => ks.getD i []) = sortL ks := by
  refine sorted_unique ?_ ?_ (sortL_sorted ks)
  · refine List.Perm.trans ?_ (sortL_perm ks).symm
    have h1 : p.toList.Perm (List.range ks.length) := by simpa using Array.perm_iff_toList_perm.mp hp.pm
    have h2 := h1.map (fun i => ks.getD i [])
    rw [range_getD] at h2
    exact h2
  · rw [List.pairwise_map, List.pairwise_iff_getElem]
    intro i j hi hj hij
    have hsz := hp.sz
    have e : ∀ k (hk : k < p.toList.length), p.toList[k] = g p k := fun k hk => by
      unfold g; rw [Array.getD_eq_getD_getElem?, Array.getElem?_eq_getElem (by simpa using hk)]; simp
    rw [e, e]
    exact hs i j (by omega) (by simpa [hsz] using hj)

def tupI (l : List Int) : D := .tuple (D.ofInts l)

section
variable {B : Bas} {n : Nat} {env : Env} {σ : Sto} {p p' : Pos}
theorem RpAll.tupAt {h : Heap} {X : Addr → Prop} {vs : List Value} {ks : List (List Int)} (r : RpAll h X vs (ks.map tupI)) {i : Nat} (hi : i < ks.length) : ∃ a ws, vs.getD i Value.none = .ref a ∧ IsTup h a ws.toArray ∧ RpAll h X ws (D.ofInts (ks.getD i [])) := by
  obtain ⟨v, hv, rv⟩ := r.get' (k := i) (d := tupI (ks.getD i [])) (by rw [List.getElem?_map, List.getD_eq_getElem?_getD, List.getElem?_eq_getElem hi]; rfl)
  obtain ⟨a, ws, rfl, ht, _, rs⟩ := rp_tuple rv
  exact ⟨a, ws, by rw [List.getD_eq_getElem?_getD, hv]; rfl, ht, rs⟩

theorem katLex_ints {A : Around} {s : Shared} {b : Bool} {Q : Bool → Shared → Prop} {h : Heap} {X : Addr → Prop} : ∀ {l m : List Int} {vs ws : List Value} (fin : Bool) (i : Nat), RpAll h X vs (D.ofInts l) → RpAll h X ws (D.ofInts m) → fin = decide (l.length < m.length) → Q (lexLt l m) s → KatLex B.prog B.w A b fin Q (vs.zip ws) i s
  | [], [], vs, ws, fin, i, r, r', hf, q => by cases r; cases r'; subst hf; exact q
  | [], _ :: _, vs, ws, fin, i, r, r', hf, q => by cases r; subst hf; simp; exact q
  | _ :: _, [], vs, ws, fin, i, r, r', hf, q => by cases r'; subst hf; simp; exact q
  | a :: l, c :: m, vs, ws, fin, i, r, r', hf, q => by
    cases r with | cons r rs =>
    cases r' with | cons r' rs' =>
    obtain ⟨t, rfl⟩ := rp_int r; obtain ⟨u, rfl⟩ := rp_int r'
    rw [List.zip_cons_cons]
    refine kat_cons (wpAny_eqBool_int ?_)
    unfold lexLt at q
    by_cases e : a = c
    · subst e
      rw [if_pos rfl] at q
      simp only [beq_self_eq_true]
      exact kat_yes (katLex_ints fin (i + 1) rs rs' (by rw [hf]; simp) q)
    · rw [if_neg e] at q
      have : (a == c) = false := by simpa using e
      rw [this]
      refine kat_no ?_
      cases hb : (b && i == 0) with
      | true => exact oneLt_int q
      | false => exact kat_one _ _ (lt_int (show W.BoolBack Q (.bool _) s from q))

theorem katTups_of {h : Heap} {X : Addr → Prop} : ∀ {ks : List (List Int)} {vs : List Value}, RpAll h X vs (ks.map tupI) → (∀ l ∈ ks, l ≠ []) → ∃ fs, KatTups h vs fs ∧ fs.length = ks.length ∧ ∀ v ∈ fs, ∃ i t, v = .int i t
  | [], vs, r, _ => by cases r; exact ⟨[], KatTups.nil, rfl, fun _ h => nomatch h⟩
  | l :: ks, vs, r, hne => by
    cases r with | cons r rs =>
    obtain ⟨fs, k, e, hf⟩ := katTups_of rs fun m hm => hne m (List.mem_cons_of_mem _ hm)
    obtain ⟨a, ws, rfl, ⟨o, ho, hc, nn, hd⟩, _, rw'⟩ := rp_tuple r
    cases l with
    | nil => exact absurd rfl (hne [] (List.mem_cons_self ..))
    | cons i l =>
      cases rw' with | cons r1 r2 =>
      obtain ⟨t, rfl⟩ := rp_int r1
      exact ⟨_, KatTups.cons ho hc hd rfl k, by simp [e], fun v hv => by rcases List.mem_cons.mp hv with rfl | hv; exact ⟨_, _, rfl⟩; exact hf v hv⟩

theorem RpAll.pick {h X vs ds} (r : RpAll h X vs ds) (d0 : D) : ∀ (q : List Nat), (∀ i ∈ q, i < ds.length) → RpAll h X (q.map fun i => vs.getD i Value.none) (q.map fun i => ds.getD i d0)
  | [], _ => .nil
  | i :: q, hq => by
    have hi := hq i (List.mem_cons_self ..)
    obtain ⟨v, hv, rv⟩ := r.get' (k := i) (d := ds.getD i d0) (by rw [List.getD_eq_getElem?_getD, List.getElem?_eq_getElem hi]; rfl)
    refine .cons ?_ (r.pick d0 q fun j hj => hq j (List.mem_cons_of_mem _ hj))
    dsimp only; rw [List.getD_eq_getElem?_getD, hv]; exact rv

/-- sorted(xs) of tuples of ints -/
theorem evn_sorted {x : String} {e : Expr} {ks : List (List Int)} (hx : BootName B env x (.builtin "sorted")) (v : Ev B n env σ e (.list (ks.map tupI))) (h2 : 2 ≤ ks.length) (h64 : ks.length < 64) (hne : ∀ l ∈ ks, l ≠ [])
    (he : starEach [e] env = (false, eval e env) :: starEach [] env := by rfl)
    (hc : eval (.Call (.Name (S x) p') [e] [] p) env = (do callWith p (← eval (.Name (S x) p') env) [] (backTo p (starEach [e] env)) (backToKw p (keywordEach [] env))) := by rfl) : EvN B n env σ (.Call (.Name (S x) p') [e] [] p) ((sortL ks).map tupI) :=
  fun h₀ P O A s E Q bo ao T q => Call_ (wp_boot bo T hx.kind hx.miss hx.boot (callWith_builtin1 (evas_cons v evas_nil he h₀ P O A s E _ p bo ao T fun vs s₁ k₁ r => by
    cases r with | cons r rn =>
    cases rn
    obtain ⟨l, ws, rfl, hl, hnX, rs⟩ := rp_list r
    have hlen : ws.length = ks.length := by rw [rs.length, List.length_map]
    refine wp_sorted hl (by omega) (by omega) (ord_lex ks) (κ := tuples' true) ?_ ?_ ?_
    · intro s' Q' k' hq
      obtain ⟨fs, kt, hfl, hfi⟩ := katTups_of (rs.keeps (kheap k')) hne
      exact kat_kind (T := .type "int") kt (by omega) (fun v hv => by obtain ⟨i, t, rfl⟩ := hfi v hv; exact Looks.of_pure rfl) (by decide) (hq s' (krefl s'))
    · intro i j s' C hi hj k' hC
      obtain ⟨a, us, ea, ⟨oa, hoa, _, na, hda⟩, ra⟩ := (rs.keeps (kheap k')).tupAt (i := i) (by omega)
      obtain ⟨b, us', eb, ⟨ob, hob, _, nb, hdb⟩, rb⟩ := (rs.keeps (kheap k')).tupAt (i := j) (by omega)
      unfold kas_ask
      rw [ea, eb]
      refine kat_lt hoa hda hob hdb ?_
      have l1 := ra.length; have l2 := rb.length
      rw [ofInts_length] at l1 l2
      exact katLex_ints _ 0 ra rb (by simp [l1, l2]) (hC s' (krefl s'))
    · intro pm a s' hin hso k' hfr hpl
      rw [hlen] at hin hso
      have kk := ktrans k₁ k'
      have hres := sort_result hin hso
      have hidx : ∀ i ∈ pm.toList, i < (ks.map tupI).length := fun i hi => by
        have := hin.pm.mem_iff.mp (Array.mem_toList_iff.mp hi)
        simpa using this
      have hpick := rs.pick (tupI []) pm.toList hidx
      have hmap : (pm.toList.map fun i => (ks.map tupI).getD i (tupI [])) = (sortL ks).map tupI := by
        rw [← hres, List.map_map]
        refine List.map_congr_left fun i hi => ?_
        have := hidx i hi
        rw [List.length_map] at this
        simp [List.getD_eq_getElem?_getD, List.getElem?_eq_getElem this]
      rw [hmap] at hpick
      refine q a _ s' kk ?_ hpl (hpick.mono (fun b o _ e => kheap k' b o e) fun b o nb e z => ?_)
      · cases e : s.heap.get? a with
        | none => rfl
        | some o => rw [kheap k₁ _ _ e] at hfr; cases hfr
      · rcases z with z | z | z
        · exact nb (.inl z)
        · exact nb (.inr z)
        · rw [z, hfr] at e; cases e) he rfl) hx.d hx.n) hc
end

def bnames : List String := ["type", "NotImplemented", "len", "range", "min", "max", "sum", "sorted", "abs", "chr", "isinstance", "bool", "list", "zip", "str", "TypeError"]
def Free (B : Bas) : Prop := ∀ x ∈ bnames, B.mg (S x) = none

theorem boot_type : bootBuiltins (S "type") = some (.type "type") := by decide +kernel
theorem boot_ni : bootBuiltins (S "NotImplemented") = some .notImplemented := by decide +kernel
theorem boot_len : bootBuiltins (S "len") = some (.builtin "len") := by decide +kernel
theorem boot_range : bootBuiltins (S "range") = some (.type "range") := by decide +kernel
theorem boot_min : bootBuiltins (S "min") = some (.builtin "min") := by decide +kernel
theorem boot_max : bootBuiltins (S "max") = some (.builtin "max") := by decide +kernel
theorem boot_sum : bootBuiltins (S "sum") = some (.builtin "sum") := by decide +kernel
theorem boot_sorted : bootBuiltins (S "sorted") = some (.builtin "sorted") := by decide +kernel
theorem boot_abs : bootBuiltins (S "abs") = some (.builtin "abs") := by decide +kernel
theorem boot_chr : bootBuiltins (S "chr") = some (.builtin "chr") := by decide +kernel
theorem boot_isinstance : bootBuiltins (S "isinstance") = some (.builtin "isinstance") := by decide +kernel
theorem boot_bool : bootBuiltins (S "bool") = some (.type "bool") := by decide +kernel

section
variable {B : Bas} {n : Nat} {env : Env} {σ : Sto} {e e' : Expr} {p p' : Pos} (fr : Free B)
include fr
theorem bn {x : String} {v : Value} (hk : env.kindOf (S x) = some .globalImplicit) (hb : bootBuiltins (S x) = some v) (h1 : x ∈ bnames := by decide) (h2 : x ≠ "__debug__" := by decide) (h3 : x ≠ "__name__" := by decide) : BootName B env x v := ⟨hk, fr x h1, hb, h2, h3⟩
theorem ev_ni (hk : env.kindOf (S "NotImplemented") = some .globalImplicit) : Ev B n env σ (.Name (S "NotImplemented") p) (.val .notImplemented) := ev_boot (bn fr hk boot_ni) rfl
theorem ev_type {d : D} {T : String} (hk : env.kindOf (S "type") = some .globalImplicit) (v : EvW B n env σ e d) (t : Ty d T) (hnb : (Value.type T == Value.type "builtin_function_or_method") = false := by decide)
    (he : starEach [e] env = (false, eval e env) :: starEach [] env := by rfl) : Ev B n env σ (.Call (.Name (S "type") p') [e] [] p) (.val (.type T)) :=
  ev_typecall (bn fr hk boot_type) (evasw_cons v evasw_nil he) (bi_type t hnb) he
theorem ev_len {ds : List D} (hk : env.kindOf (S "len") = some .globalImplicit) (v : EvW B n env σ e (.list ds)) (hsz : ds.length ≤ 1000000) (he : starEach [e] env = (false, eval e env) :: starEach [] env := by rfl) : Ev B n env σ (.Call (.Name (S "len") p') [e] [] p) (.int ds.length) :=
  ev_builtin (bn fr hk boot_len) (evasw_cons v evasw_nil he) (bi_len hsz) he
theorem ev_abs {i : Int} (hk : env.kindOf (S "abs") = some .globalImplicit) (v : EvW B n env σ e (.int i)) (he : starEach [e] env = (false, eval e env) :: starEach [] env := by rfl) : Ev B n env σ (.Call (.Name (S "abs") p') [e] [] p) (.int (if i < 0 then -i else i)) :=
  ev_builtin (bn fr hk boot_abs) (evasw_cons v evasw_nil he) bi_abs he
theorem ev_sum {l : List Int} (hk : env.kindOf (S "sum") = some .globalImplicit) (v : EvW B n env σ e (.list (D.ofInts l))) (he : starEach [e] env = (false, eval e env) :: starEach [] env := by rfl) : Ev B n env σ (.Call (.Name (S "sum") p') [e] [] p) (.int (sumI l)) :=
  ev_builtin (bn fr hk boot_sum) (evasw_cons v evasw_nil he) bi_sum he
theorem ev_max1 {i : Int} {l : List Int} (hk : env.kindOf (S "max") = some .globalImplicit) (v : EvW B n env σ e (.list (D.ofInts (i :: l)))) (he : starEach [e] env = (false, eval e env) :: starEach [] env := by rfl) : Ev B n env σ (.Call (.Name (S "max") p') [e] [] p) (.int (maxI i l)) :=
  ev_builtin (bn fr hk boot_max) (evasw_cons v evasw_nil he) bi_max he
theorem ev_max1T {i : Int} {l : List Int} (hk : env.kindOf (S "max") = some .globalImplicit) (v : EvW B n env σ e (.tuple (D.ofInts (i :: l)))) (he : starEach [e] env = (false, eval e env) :: starEach [] env := by rfl) : Ev B n env σ (.Call (.Name (S "max") p') [e] [] p) (.int (maxI i l)) :=
  ev_builtin (bn fr hk boot_max) (evasw_cons v evasw_nil he) bi_maxT he
theorem ev_min1T {i : Int} {l : List Int} (hk : env.kindOf (S "min") = some .globalImplicit) (v : EvW B n env σ e (.tuple (D.ofInts (i :: l)))) (he : starEach [e] env = (false, eval e env) :: starEach [] env := by rfl) : Ev B n env σ (.Call (.Name (S "min") p') [e] [] p) (.int (minI i l)) :=
  ev_builtin (bn fr hk boot_min) (evasw_cons v evasw_nil he) bi_minT he
theorem ev_max2 {i j : Int} (hk : env.kindOf (S "max") = some .globalImplicit) (v : EvW B n env σ e (.int i)) (v' : EvW B n env σ e' (.int j)) (he : starEach [e, e'] env = (false, eval e env) :: starEach [e'] env := by rfl) (he' : starEach [e'] env = (false, eval e' env) :: starEach [] env := by rfl)
    (hp : (backTo p (starEach [e'] env)).any (·.1) = false := by rfl) : Ev B n env σ (.Call (.Name (S "max") p') [e, e'] [] p) (.int (maxI i [j])) :=
  ev_builtin (bn fr hk boot_max) (evasw_cons v (evasw_cons v' evasw_nil he') he) bi_max2 he hp
theorem ev_min2 {i j : Int} (hk : env.kindOf (S "min") = some .globalImplicit) (v : EvW B n env σ e (.int i)) (v' : EvW B n env σ e' (.int j)) (he : starEach [e, e'] env = (false, eval e env) :: starEach [e'] env := by rfl) (he' : starEach [e'] env = (false, eval e' env) :: starEach [] env := by rfl)
    (hp : (backTo p (starEach [e'] env)).any (·.1) = false := by rfl) : Ev B n env σ (.Call (.Name (S "min") p') [e, e'] [] p) (.int (minI i [j])) :=
  ev_builtin (bn fr hk boot_min) (evasw_cons v (evasw_cons v' evasw_nil he') he) bi_min2 he hp
theorem ev_rng1 {i : Int} (hk : env.kindOf (S "range") = some .globalImplicit) (v : EvW B n env σ e (.int i)) (he : starEach [e] env = (false, eval e env) :: starEach [] env := by rfl) : Ev B n env σ (.Call (.Name (S "range") p') [e] [] p) (.range 0 i) :=
  ev_range1 (bn fr hk boot_range) v he
theorem ev_rng2 {i j : Int} (hk : env.kindOf (S "range") = some .globalImplicit) (v : EvW B n env σ e (.int i)) (v' : EvW B n env σ e' (.int j)) (he : starEach [e, e'] env = (false, eval e env) :: starEach [e'] env := by rfl) (he' : starEach [e'] env = (false, eval e' env) :: starEach [] env := by rfl)
    (hp : (backTo p (starEach [e'] env)).any (·.1) = false := by rfl) : Ev B n env σ (.Call (.Name (S "range") p') [e, e'] [] p) (.range i j) :=
  ev_range2 (bn fr hk boot_range) v v' he he' hp
theorem evn_srt {ks : List (List Int)} (hk : env.kindOf (S "sorted") = some .globalImplicit) (v : Ev B n env σ e (.list (ks.map tupI))) (h2 : 2 ≤ ks.length) (h64 : ks.length < 64) (hne : ∀ l ∈ ks, l ≠ [])
    (he : starEach [e] env = (false, eval e env) :: starEach [] env := by rfl) : EvN B n env σ (.Call (.Name (S "sorted") p') [e] [] p) ((sortL ks).map tupI) :=
  evn_sorted (bn fr hk boot_sorted) v h2 h64 hne he
end

/-- definitions of the text -/
structure Def where
  name : Str
  params : Arguments
  body : List Stmt
  scope : Scope
def defOfStmt : Stmt → Def
  | .FunctionDef name args body _ _ _ scope _ _ _ => ⟨name, args, body, scope⟩
  | _ => ⟨S "", ⟨[], [], none, [], [], none, []⟩, [], ⟨.function, [], false, false, []⟩⟩
def defAt (p : Program) (i : Nat) : Def := match p.main.body[i]? with
  | some s => defOfStmt s
  | none => defOfStmt (.Pass default)

structure HasDef (B : Bas) (x : String) (a : Addr) (d : Def) : Prop where
  mg : B.mg (S x) = some (.ref a)
  fn : FnAt B a d.name d.params d.body d.scope

theorem FEnv.glob {sc env x} (fe : FEnv sc env) (h : sc.names.lookup x = some .globalImplicit) : env.kindOf x = some .globalImplicit := by unfold Env.kindOf; rw [fe.scope]; exact h
theorem FEnv.loc {sc env x} (fe : FEnv sc env) (h : sc.names.lookup x = some .local) : env.kindOf x = some .local := by unfold Env.kindOf; rw [fe.scope]; exact h
theorem FEnv.sl {sc : Scope} {env : Env} {x : String} (fe : FEnv sc env) (h : sc.names.lookup (S x) = some .local) : Storable env x := .inl (fe.loc h)
theorem FEnv.sc {sc : Scope} {env : Env} {x : String} (fe : FEnv sc env) (h : sc.names.lookup (S x) = some .cell) : Storable env x := .inr ⟨by unfold Env.kindOf; rw [fe.scope]; exact h, fe.func, fe.cells _ h⟩
theorem CEnv.sl {sc : Scope} {env : Env} {x : String} (ce : CEnv sc env) (h : sc.names.lookup (S x) = some .local) : Storable env x := .inl (ce.loc _ h)

theorem ev_calld {B : Bas} {n : Nat} {env : Env} {σ : Sto} {e : Expr} {p p' : Pos} {x : String} {a : Addr} {d : Def} {es : List Expr} {ds : List D} {r : D} (F : HasDef B x a d) (hk : env.kindOf (S x) = some .globalImplicit)
    (as : EvAs B n env σ (e :: es) ds) (f : FnS B n a ds r) (hn : x ≠ "__debug__" := by decide) (he : starEach (e :: es) env = (false, eval e env) :: starEach es env := by rfl)
    (hc : eval (.Call (.Name (S x) p') (e :: es) [] p) env = (do callWith p (← eval (.Name (S x) p') env) [] (backTo p (starEach (e :: es) env)) (backToKw p (keywordEach [] env))) := by rfl) : Ev B n env σ (.Call (.Name (S x) p') (e :: es) [] p) r :=
  let ⟨_, _, _, _, ho, hd, _⟩ := F.fn.at_; ev_call hk F.mg ho hd as f hn he hc

def SubL : Sto → Sto → Prop
  | [], _ => True
  | (x, b) :: r, τ => τ.get x = some b ∧ SubL r τ
theorem SubL.get : ∀ {τ σ : Sto}, SubL τ σ → ∀ x b, τ.get x = some b → σ.get x = some b
  | [], _, _, x, b, h => by cases h
  | (y, c) :: r, σ, ⟨h1, h2⟩, x, b, h => by
    unfold Sto.get at h
    by_cases e : y = x
    · subst e; rw [if_pos rfl] at h; cases h; exact h1
    · rw [if_neg e] at h; exact h2.get x b h

section
variable {B : Bas} {n : Nat} {env : Env} {σ τ : Sto} {R : Fl → Sto → Prop}
theorem ex_sub {ss} (hs : SubL τ σ) (h : Ex B n env τ ss R) : Ex B n env σ ss R := fun h₀ P O A s E b a T => h h₀ P O A s E b a (T.forget hs.get)
theorem ex1_sub {ss} (hs : SubL τ σ) (h : Ex1 B n env τ ss R) : Ex1 B n env σ ss R := fun h₀ P O A s E b a T => h h₀ P O A s E b a (T.forget hs.get)
theorem asg_sub {t d τ'} (hs : SubL τ σ) (h : Asg B n env τ t d τ') : Asg B n env σ t d τ' := fun h₀ P O A s E Q v b a T => h h₀ P O A s E Q v b a (T.forget hs.get)

theorem ex_forS {target iter : Expr} {body : List Stmt} {p : Pos} {ds : List D} (τ : List D → Sto) (x : EvIt true B n env σ iter ds) (h0 : SubL (τ []) σ)
    (turn : ∀ pre d post, ds = pre ++ d :: post → ∃ τ', Asg B n env (τ pre) target d τ' ∧
      Ex B n env τ' body (fun fl υ => match fl with | .next => SubL (τ (pre ++ [d])) υ | .cont => SubL (τ (pre ++ [d])) υ | .brk => R .next υ | .ret v => R (.ret v) υ))
    (done : ∀ υ, SubL (τ ds) υ → R .next υ) (hs : ∀ x, foldedSetIterable iter env x = pure x := by intro _; rfl) : Ex1 B n env σ (.For target iter body [] p) R :=
  ex_for (fun pre υ => SubL (τ pre) υ) x h0 (fun pre d post σ' e hs' => by
    obtain ⟨τ', ha, hex⟩ := turn pre d post e
    exact ⟨τ', asg_sub hs' ha, hex⟩) done hs

/-- the same, what holds beside told by a word -/
theorem ex_forP {γ : Type} {target iter : Expr} {body : List Stmt} {p : Pos} {ds : List D} (τ : γ → Sto) (P : List D → γ → Prop) (c₀ : γ) (x : EvIt true B n env σ iter ds) (h0 : SubL (τ c₀) σ) (hp : P [] c₀)
    (turn : ∀ pre d post c, ds = pre ++ d :: post → P pre c → ∃ τ', Asg B n env (τ c) target d τ' ∧
      Ex B n env τ' body (fun fl υ => match fl with | .next => ∃ c', SubL (τ c') υ ∧ P (pre ++ [d]) c' | .cont => ∃ c', SubL (τ c') υ ∧ P (pre ++ [d]) c' | .brk => R .next υ | .ret v => R (.ret v) υ))
    (done : ∀ c υ, P ds c → SubL (τ c) υ → R .next υ) (hs : ∀ x, foldedSetIterable iter env x = pure x := by intro _; rfl) : Ex1 B n env σ (.For target iter body [] p) R :=
  ex_for (fun pre υ => ∃ c, SubL (τ c) υ ∧ P pre c) x ⟨c₀, h0, hp⟩ (fun pre d post σ' e ⟨c, hs', hp'⟩ => by
    obtain ⟨τ', ha, hex⟩ := turn pre d post c e hp'
    exact ⟨τ', asg_sub hs' ha, hex⟩) (fun υ ⟨c, a, b⟩ => done c υ b a) hs
end

/-- the items of a range -/
theorem rngD_split {a b : Int} {pre post : List D} {d : D} (h : rngD a b = pre ++ d :: post) : d = .int (a + pre.length) ∧ (pre.length : Int) < b - a := by
  have hl : (rngD a b)[pre.length]? = some d := by rw [h]; simp
  have hlen : pre.length < (rngD a b).length := by rw [h]; simp
  simp only [rngD, List.length_map, List.length_range] at hlen
  simp only [rngD, List.getElem?_map, List.getElem?_range hlen, Option.map_some, Option.some.injEq] at hl
  exact ⟨hl.symm, by omega⟩
theorem rngD_length (a b : Int) : (rngD a b).length = (b - a).toNat := by simp [rngD]

/-- the heaps -/
def heapStep (m : Nat) (l : List Int) (h : List Int) (i : Nat) : List Int := h.set (i % m) (h.getD (i % m) 0 + l.getD i 0)
def heapsTo (m : Nat) (l : List Int) : Nat → List Int
  | 0 => List.replicate (min l.length m) 0
  | k + 1 => heapStep m l (heapsTo m l k) k
def heapsI (m : Nat) (l : List Int) : List Int := heapsTo m l l.length
theorem heapsTo_length (m : Nat) (l : List Int) : ∀ k, (heapsTo m l k).length = min l.length m
  | 0 => by simp [heapsTo]
  | k + 1 => by simp [heapsTo, heapStep, heapsTo_length m l k]
theorem heapsI_length (m : Nat) (l : List Int) : (heapsI m l).length = min l.length m := heapsTo_length m l _

theorem ofInts_get {l : List Int} {k : Nat} (h : k < l.length) : (D.ofInts l)[k]? = some (.int (l.getD k 0)) := by
  simp [D.ofInts, List.getElem?_map, List.getD_eq_getElem?_getD, List.getElem?_eq_getElem h]
theorem place_nat {k : Nat} {m : Nat} : place (k : Int) m = k := by unfold place; rw [if_neg (by omega)]; omega
theorem evit_eq {f B n env σ e ds es} (x : EvIt f B n env σ e ds) (h : ds = es) : EvIt f B n env σ e es := h ▸ x
theorem evn_eq {B n env σ e ds es} (x : EvN B n env σ e ds) (h : ds = es) : EvN B n env σ e es := h ▸ x
theorem evw_eq {B n env σ e d d'} (x : EvW B n env σ e d) (h : d = d') : EvW B n env σ e d' := h ▸ x
theorem cmp_p {B n op a b t u} (x : Cmp B n op a b t) (h : t = u) : Cmp B n op a b u := h ▸ x
theorem fmod_nat (k m : Nat) : ((k : Int)).fmod (m : Int) = ((k % m : Nat) : Int) := by
  rw [Int.fmod_eq_emod_of_nonneg _ (by omega)]; rfl

theorem swaps_true {env : Env} {x : String} {px : Pos} {elt : Expr} {gens : List Comprehension} {sc : Scope} {pos : Pos} {line : Nat} (hk : env.scope.kind = .function) (hx : env.kindOf (S x) = some .local) (hl : (px.line == pos.line) = true)
    (hn : (sc.names.any fun (n, k) => n == S x && (k == .local || k == .cell)) = false) : swapsWith (.ListComp elt gens sc pos) (some (.Name (S x) px)) line env = pure true := by
  unfold swapsWith
  simp only [Env.blockKind, hk, hx]
  have hl' : (px.line == (Expr.ListComp elt gens sc pos).pos.line) = true := hl
  simp only [hl', hn]
  try rfl
theorem swaps_false {env : Env} {x : String} {px : Pos} {elt : Expr} {gens : List Comprehension} {sc : Scope} {pos : Pos} {line : Nat} (hx : env.kindOf (S x) = some .cell) : swapsWith (.ListComp elt gens sc pos) (some (.Name (S x) px)) line env = pure false := by
  unfold swapsWith
  simp only [hx]
  have : (some NameKind.cell == some NameKind.local) = false := rfl
  simp only [this, Bool.and_false, Bool.false_and]
  try rfl
theorem FEnv.cell {sc env x} (fe : FEnv sc env) (h : sc.names.lookup x = some .cell) : env.kindOf x = some .cell := by unfold Env.kindOf; rw [fe.scope]; exact h
/-- the conditions of a comprehension within a def -/
theorem compOk_of {sc0 sc : Scope} {env : Env} {caps : List String} (fe : FEnv sc0 env) (hk : sc.kind = .function) (h1 : ∀ y ∈ sc.names, y.2 ≠ .cell) (h2 : ∀ y ∈ sc.names, y.2 = .local → sc.names.lookup y.1 = some .local)
    (h3 : ∀ y ∈ sc.names, y.2 = .free → sc0.names.lookup y.1 = some .cell) (h4 : ∀ x ∈ caps, sc.names.lookup (S x) = some .free ∧ sc0.names.lookup (S x) = some .cell) : CompOk sc env caps :=
  ⟨hk, h1, h2, fun y hy e => fe.cells _ (h3 y hy e), fun x hx => ⟨(h4 x hx).1, .inl (fe.cell (h4 x hx).2)⟩⟩
theorem map_split {α : Type} {l : List α} {f : α → D} {pre post : List D} {d : D} (h : l.map f = pre ++ d :: post) : ∃ q, l[pre.length]? = some q ∧ d = f q ∧ l.take (pre.length + 1) = l.take pre.length ++ [q] := by
  have h1 : (l.map f)[pre.length]? = some d := by rw [h]; simp
  rw [List.getElem?_map] at h1
  obtain ⟨q, hq, e⟩ := Option.map_eq_some_iff.mp h1
  exact ⟨q, hq, e.symm, by simp [List.take_add_one, hq]⟩
/-- two comparisons in a row, of ints -/
theorem tst_chain2 {B n env σ} {l r₁ r₂ : Expr} {p : Pos} {i j k : Int} (x : EvW B n env σ l (.int i)) (y : EvW B n env σ r₁ (.int j)) (z : EvW B n env σ r₂ (.int k)) (hm : lastMarks [.LtE, .LtE] [r₁, r₂] = false := by with_unfolding_all rfl) :
    Tst B n env σ (.Compare l [.LtE, .LtE] [r₁, r₂] p) (decide (i ≤ j) && decide (j ≤ k)) := fun h₀ P O A s E Q bo ao T q =>
  isTrue_chain (x h₀ P O A s E _ bo ao T fun va s₁ k₁ r₁ => test_link (y h₀ P O A s₁ E _ bo ao (T.kp k₁) fun vb s₂ k₂ r₂ => by
    obtain ⟨t, rfl⟩ := rp_int r₁; obtain ⟨u, rfl⟩ := rp_int r₂
    refine le_int (wpAny_truthy_bool ?_)
    cases h : decide (i ≤ j) with
    | false => simp only [Bool.false_eq_true, if_false]; have := q s₂ (ktrans k₁ k₂); rwa [h] at this
    | true =>
      simp only [if_true]
      refine test_last (z h₀ P O A s₂ E _ bo ao ((T.kp k₁).kp k₂) fun vc s₃ k₃ r₃ => ?_)
      obtain ⟨w, rfl⟩ := rp_int r₃
      refine le_int (wpAny_truthy_bool ?_)
      have := q s₃ (ktrans (ktrans k₁ k₂) k₃); rwa [h, Bool.true_and] at this)) hm

theorem filt_true {α : Type} (l : List α) : (l.filter fun _ => true) = l := List.filter_eq_self.mpr (by simp)
theorem ofAll_ints (l : List Int) : D.ofAll (l.map PyData.int) = D.ofInts l := by
  induction l with
  | nil => simp [D.ofAll, D.ofInts]
  | cons a r ih => simp only [List.map_cons, D.ofAll, D.of, ih]; rfl
theorem of_ints (l : List Int) : D.of (.list (l.map PyData.int)) = .list (D.ofInts l) := by rw [D.of, ofAll_ints]
theorem canLay_ints (l : List Int) : PyData.canLayAll0 (l.map PyData.int) = true := by
  induction l with
  | nil => rfl
  | cons a r ih => simp [PyData.canLayAll0, PyData.canLay0, ih]
theorem shaped_ints (l : List Int) : SeqAt.shaped (.list (l.map PyData.int)) = true := by
  have hd : ∀ l : List Int, PyData.depthAll (l.map PyData.int) ≤ 1 := by
    intro l
    induction l with
    | nil => simp [PyData.depthAll]
    | cons a r ih => simp only [List.map_cons, PyData.depthAll, PyData.depth]; omega
  unfold SeqAt.shaped
  rw [show PyData.canLay0 (.list (l.map PyData.int)) = true from canLay_ints l, Bool.true_and]
  have := hd l
  refine decide_eq_true ?_
  simp only [PyData.depth]; omega
theorem eqv_ints (l m : List Int) : PyData.eqv (.list (l.map .int)) (.list (m.map .int)) = (l == m) := by
  show PyData.eqvAll _ _ = _
  induction l generalizing m with
  | nil => cases m <;> rfl
  | cons a r ih => cases m with
    | nil => rfl
    | cons b t => simp only [List.map_cons, PyData.eqvAll, PyData.eqv, ih]; rfl
theorem cmp_eq_ints {B n} (l m : List Int) : Cmp B n .Eq (.list (D.ofInts l)) (.list (D.ofInts m)) (l == m) := by
  have := cmp_eq_data (B := B) (n := n) (shaped_ints l) (shaped_ints m)
  rwa [of_ints, of_ints, eqv_ints] at this
theorem cmp_ne_ints {B n} (l m : List Int) : Cmp B n .NotEq (.list (D.ofInts l)) (.list (D.ofInts m)) (!(l == m)) := by
  have := cmp_ne_data (B := B) (n := n) (shaped_ints l) (shaped_ints m)
  rwa [of_ints, of_ints, eqv_ints] at this

section
variable {B : Bas} {n : Nat} {env : Env} {σ : Sto} {R : Fl → Sto → Prop}
/-- a method without arguments that changes its list -/
theorem ex_meth0 {x meth id : String} {p1 p2 p3 p4 : Pos} {ds ds' : List D} {pl : Sem Bool} (hx : σ.get x = some (.own ds)) (sl : Slot "list" (S meth) id) (hty : typeOf (.builtin id) = pure (.type "method_descriptor")) (f : MutS B n id ds [] ds')
    (h : R .next (σ.put x (.own ds'))) (h1 : x ≠ "__debug__" := by decide) (h2 : x ≠ "__classdict__" := by decide)
    (he : eval (.Call (.Attribute (.Name (S x) p1) (S meth) p2) [] [] p3) env = (do
      let ov ← eval (.Name (S x) p1) env
      standAt p2.atName
      let (f, first) ← holding [ov] (getMethod ov (S meth) pl)
      callWith p3 f first (backTo p3 (starEach [] env)) (backToKw p3 (keywordEach [] env))) := by rfl)
    (hs : swapsWith (.Call (.Attribute (.Name (S x) p1) (S meth) p2) [] [] p3) none p4.line env = pure false := by rfl) : Ex1 B n env σ (.Expr (.Call (.Attribute (.Name (S x) p1) (S meth) p2) [] [] p3) p4) R := by
  intro h₀ P O A s E bo ao T
  refine wpAny_Expr ?_ (by unfold interactive; rw [T.ok.kind]; rfl) hs
  refine methodCall_KW ?_ he
  obtain ⟨a, vs, hv, hO, hne, hpl, rs⟩ := T.vars x _ hx
  refine wp_name T hv ?_ (plainName h1) (plainName h2)
  refine getMethod_builtin hpl.isList.typeIs F.plainAttrs_list sl hty (fun b e => by cases e; obtain ⟨k, e⟩ := hpl; exact ⟨_, e, rfl⟩) ?_
  refine PyProof.Rows.callWith_method0 ?_
  refine f (fun b => P b ∨ O b) A s E _ a vs [] bo ao T.here hpl (.inr hO) rs .nil fun s₂ vs' m₂ hp₂ r₂ => ?_
  obtain ⟨h2', tk2, rfl, k2⟩ := m₂
  have T₂ := T.mut hx hv hO hne hpl (fun b o nb e => k2 b o nb e) hp₂ r₂
  exact ⟨.next, _, O, ⟨h2', tk2, rfl, fun b o nb e => k2 b o (fun q => nb (q ▸ hO)) e⟩, trivial, h, fun _ q => .inl q, T₂⟩

theorem mut_sort {ks : List (List Int)} (h2 : 2 ≤ ks.length) (h64 : ks.length < 64) (hne : ∀ l ∈ ks, l ≠ []) : MutS B n "list.sort" (ks.map tupI) [] ((sortL ks).map tupI) := fun X A s E Q a vs ws bo ao hh hp hX rs rw' q => by
  cases rw'
  obtain ⟨ep, ho⟩ := id hp
  have hlen : vs.length = ks.length := by rw [rs.length, List.length_map]
  have up : ∀ s', Mov (fun b => b = a) s s' → RpAll s'.heap X vs (ks.map tupI) := fun s' m => by
    obtain ⟨h', tk, rfl, k⟩ := m
    exact rs.mono (fun b o nb e => k b o (fun z => nb (z ▸ hX)) e) fun _ _ n _ => n
  refine wpAny_call_entry slot_list_sort ⟨_, ho, rfl⟩ entry_list_sort ?_ (args_list_sort _)
  refine wp_sortBody ho (by omega) (by omega) (ord_lex ks) (κ := tuples' true) ?_ ?_ ?_
  · intro s' Q' m hq
    obtain ⟨fs, kt, hfl, hfi⟩ := katTups_of (up s' m) hne
    exact kat_kind (T := .type "int") kt (by omega) (fun v hv => by obtain ⟨i, t, rfl⟩ := hfi v hv; exact Looks.of_pure rfl) (by decide) (hq s' (krefl s'))
  · intro i j s' C hi hj m hC
    obtain ⟨c, us, ea, ⟨oa, hoa, _, na, hda⟩, ra⟩ := (up s' m).tupAt (i := i) (by omega)
    obtain ⟨b, us', eb, ⟨ob, hob, _, nb, hdb⟩, rb⟩ := (up s' m).tupAt (i := j) (by omega)
    unfold kas_ask
    rw [ea, eb]
    refine kat_lt hoa hda hob hdb ?_
    have l1 := ra.length; have l2 := rb.length
    rw [ofInts_length] at l1 l2
    exact katLex_ints _ 0 ra rb (by simp [l1, l2]) (hC s' (krefl s'))
  · intro pm s' hin hso m hpl
    rw [hlen] at hin hso
    have hidx : ∀ i ∈ pm.toList, i < (ks.map tupI).length := fun i hi => by
      have := hin.pm.mem_iff.mp (Array.mem_toList_iff.mp hi)
      simpa using this
    have hmap : (pm.toList.map fun i => (ks.map tupI).getD i (tupI [])) = (sortL ks).map tupI := by
      rw [← sort_result hin hso, List.map_map]
      refine List.map_congr_left fun i hi => ?_
      have := hidx i hi
      rw [List.length_map] at this
      simp [List.getD_eq_getElem?_getD, List.getElem?_eq_getElem this]
    exact ⟨_, rfl, q s' _ m hpl (hmap ▸ rs.pick (tupI []) pm.toList hidx)⟩

/-- the first item that is i, struck -/
theorem erase_idx (l : List Int) (i : Int) (h : i ∈ l) : ∃ j, j < l.length ∧ l.getD j 0 = i ∧ (∀ k, k < j → l.getD k 0 ≠ i) ∧ l.erase i = l.eraseIdx j := by
  induction l with
  | nil => cases h
  | cons a r ih =>
    by_cases e : a = i
    · subst e
      exact ⟨0, by simp, rfl, fun k hk => absurd hk (by omega), by simp⟩
    · have h' : i ∈ r := by rcases List.mem_cons.mp h with q | q; exact absurd q.symm e; exact q
      obtain ⟨j, h1, h2, h3, h4⟩ := ih h'
      refine ⟨j + 1, by simp; omega, by simpa using h2, fun k hk => ?_, ?_⟩
      · cases k with
        | zero => simpa using e
        | succ k => simpa using h3 k (by omega)
      · rw [List.erase_cons_tail (by simpa using e), h4]; rfl

theorem mut_remove {l : List Int} {i : Int} (hi : i ∈ l) (hsz : l.length ≤ 1000000) : MutS B n "list.remove" (D.ofInts l) [.int i] (D.ofInts (l.erase i)) := fun X A s E Q a vs ws bo ao hh hp hX rs rw' q => by
  cases rw' with | cons r rn =>
  cases rn
  obtain ⟨t, rfl⟩ := rp_int r
  obtain ⟨ep, ho⟩ := id hp
  have hlen : vs.length = l.length := by rw [rs.length, ofInts_length]
  obtain ⟨j, h1, h2, h3, h4⟩ := erase_idx l i hi
  have hval : ∀ k (hk : k < vs.length), ∃ t, vs[k] = .int (l.getD k 0) t := fun k hk => rs.intAt (List.getElem?_eq_getElem hk)
  refine call_meets F.slot_list_remove ⟨_, ho, rfl⟩ F.entry_list_remove (F.args_list_remove_2 _ _) (MeetsSeq.list_remove a vs.toArray ep (.int i t) (fun y => match y with | .int k _ => k == i | _ => false) ?_ j (by simp only [List.size_toArray]; omega) ?_ ?_ (by simp only [List.size_toArray]; exact szLine (by omega))) ⟨ho, ?_⟩
  · intro y hy
    obtain ⟨k, hk, rfl⟩ := List.mem_iff_getElem.mp (by simpa using hy)
    obtain ⟨t', e⟩ := hval k hk
    rw [e]; exact MeetsSeq.EqGives.int _ _ _ _
  · obtain ⟨t', e⟩ := hval j (by omega)
    simp only [List.getElem_toArray, e, h2, beq_self_eq_true]
  · intro m hm hmj
    obtain ⟨t', e⟩ := hval m (by simpa using hm)
    simp only [List.getElem_toArray, e]
    simpa using h3 m hmj
  · have e : Obj.mapSeq (fun xs => xs.eraseIdxIfInBounds j) { cls := .type "list", data := .seq vs.toArray ep } = { cls := .type "list", data := .seq (vs.eraseIdx j).toArray (if (vs.eraseIdx j).length == vs.length then ep else ep + 1) } := by
      simp [Obj.mapSeq, Array.eraseIdxIfInBounds, hlen, h1]
    refine q _ (vs.eraseIdx j) ⟨_, s.toks, rfl, fun b o nb e' => (Heap.get?_update_ne _ _ _ _ nb).trans e'⟩ ⟨_, by rw [Heap.get?_update_self _ ho (by rw [e]; rfl), e]⟩ ?_
    rw [h4]
    have : ∀ (vs : List Value) (l : List Int) (j : Nat), RpAll s.heap X vs (D.ofInts l) → RpAll s.heap X (vs.eraseIdx j) (D.ofInts (l.eraseIdx j)) := by
      intro vs
      induction vs with
      | nil => intro l j r; cases l with
        | nil => simpa using r
        | cons a t => cases r
      | cons v vs ih => intro l j r; cases l with
        | nil => cases r
        | cons a t =>
          cases r with | cons r rs =>
          cases j with
          | zero => exact rs
          | succ j => exact .cons r (ih t j rs)
    exact this _ _ _ rs
def maxL : List Int → Int
  | [] => 0
  | i :: r => maxI i r
theorem ev_maxL {e : Expr} {p p' : Pos} {l : List Int} (fr : Free B) (hk : env.kindOf (S "max") = some .globalImplicit) (hl : l ≠ []) (v : EvW B n env σ e (.list (D.ofInts l))) (he : starEach [e] env = (false, eval e env) :: starEach [] env := by rfl) : Ev B n env σ (.Call (.Name (S "max") p') [e] [] p) (.int (maxL l)) := by
  cases l with
  | nil => exact absurd rfl hl
  | cons i r => exact ev_max1 fr hk v he
end

/-- a list, whoever holds it -/
def EvL (B : Bas) (n : Nat) (env : Env) (σ : Sto) (e : Expr) (ds : List D) : Prop :=
  ∀ (h₀ : Heap) (P O : Addr → Prop) (A : Around) (s : Shared) (E : Value → Shared → Prop) (Q : Value → Shared → Prop), B.Ok → AOk n A → St B h₀ P env σ O s.heap →
    (∀ a vs s', Keeps s s' → s'.heap.IsList a vs.toArray → RpAll s'.heap (fun b => P b ∨ O b) vs ds → Q (.ref a) s') → wpAny (model B.prog B.w) A (eval e env) Q E s
/-- a bound of a slice -/
def EvP (B : Bas) (n : Nat) (env : Env) (σ : Sto) (x : Option Expr) (o : Option Int) : Prop :=
  ∀ (h₀ : Heap) (P O : Addr → Prop) (A : Around) (s : Shared) (E : Value → Shared → Prop) (Q : Value → Shared → Prop), B.Ok → AOk n A → St B h₀ P env σ O s.heap →
    (∀ v s', Keeps s s' → IsPart v o → Q v s') → wpAny (model B.prog B.w) A (evalPart x env) Q E s
section
variable {B : Bas} {n : Nat} {env : Env} {σ : Sto} {l e : Expr} {ds : List D} {p p' : Pos}
theorem evl_ev (x : Ev B n env σ l (.list ds)) : EvL B n env σ l ds := fun h₀ P O A s E Q bo ao T q => x h₀ P O A s E _ bo ao T fun v s' k r => by
  obtain ⟨a, vs, rfl, hl, _, rs⟩ := rp_list r
  exact q a vs s' k hl rs
theorem evl_own {z : String} (h : σ.get z = some (.own ds)) (h1 : z ≠ "__debug__" := by decide) (h2 : z ≠ "__classdict__" := by decide) : EvL B n env σ (.Name (S z) p) ds := fun h₀ P O A s E Q bo ao T q => by
  obtain ⟨a, vs, hv, ho, hl, hp, r⟩ := T.vars z _ h
  exact wp_name T hv (q _ _ s (krefl s) hp.isList r) (plainName h1) (plainName h2)
theorem evp_none : EvP B n env σ none none := fun h₀ P O A s E Q _ _ _ q => wpAny_pure (q _ _ (krefl s) .none)
theorem evp_some {i : Int} (x : EvW B n env σ e (.int i)) : EvP B n env σ (some e) (some i) := fun h₀ P O A s E Q bo ao T q => x h₀ P O A s E _ bo ao T fun v s' k r => by
  obtain ⟨t, rfl⟩ := rp_int r
  exact q _ _ k (.int _ _)
theorem evn_slice {lower upper step : Option Expr} {lo hi st : Option Int} {es : List D} (x : EvL B n env σ l ds) (a : EvP B n env σ lower lo) (b : EvP B n env σ upper hi) (c : EvP B n env σ step st) (h0 : st ≠ some 0) (hsz : ds.length ≤ 1000000)
    (hes : ∀ (h : Heap) X (vs : List Value), RpAll h X vs ds → RpAll h X (slicePick vs.toArray lo hi st).toList es)
    (hs : ∀ a i, ∃ ops, subscripted (.Slice lower upper step p') false (.ref a) (.ref i) = operate ops (getItem (.ref a) (.ref i)) := by intro a i; exact ⟨_, by with_unfolding_all rfl⟩) : EvN B n env σ (.Subscript l (.Slice lower upper step p') p) es :=
  fun h₀ P O A s E Q bo ao T q => Subscript_ (x h₀ P O A s E _ bo ao T fun la vs s₁ k₁ hl rs => wpAny_Slice (a h₀ P O A s₁ E _ bo ao (T.kp k₁) fun vl s₂ k₂ pl => b h₀ P O A s₂ E _ bo ao ((T.kp k₁).kp k₂) fun vu s₃ k₃ pu => c h₀ P O A s₃ E _ bo ao (((T.kp k₁).kp k₂).kp k₃) fun vk s₄ k₄ pk => by
    have kk := ktrans (ktrans k₂ k₃) k₄
    have hl' : s₄.heap.IsList la vs.toArray := hl.at fun o e => kheap kk _ o e
    have rs' := rs.keeps (kheap kk)
    have hlen := rs.length
    obtain ⟨ops, hs⟩ := hs la s₄.heap.objs.size
    refine tail_any (Heap.IsList.typeIs (s := { s₄ with heap := s₄.heap.push { cls := .type "slice", data := .fields #[vl, vu, vk] } }) (hl'.push _)) list_getitem_lookup
      (wpAny_getItem_list_slice (hl'.push _) (Heap.IsSliceOf.new ..) pl pu pk h0 ?_ (by rw [sizeLine_eq, List.size_toArray]; omega)) hs
    have k5 : Keeps s { s₄ with heap := s₄.heap.push { cls := .type "slice", data := .fields #[vl, vu, vk] } } := ktrans (ktrans k₁ kk) (kpush' _ _)
    refine q _ (slicePick vs.toArray lo hi st).toList _ (ktrans k5 (kpush' _ _)) (fresh_kp k5) ⟨0, ?_⟩ (RpAll.beside (h := s₄.heap.push _) (hes _ _ _ (rs'.keeps fun b o e => Heap.get?_push_of_some _ e)) _)
    rw [Array.toArray_toList]
    exact Heap.get?_push_size _ rfl))
theorem evn_cut {lower upper : Option Expr} {lo hi : Option Int} (x : EvL B n env σ l ds) (a : EvP B n env σ lower lo) (b : EvP B n env σ upper hi) (hsz : ds.length ≤ 1000000)
    (hs : ∀ a i, ∃ ops, subscripted (.Slice lower upper none p') false (.ref a) (.ref i) = operate ops (getItem (.ref a) (.ref i)) := by intro a i; exact ⟨_, by with_unfolding_all rfl⟩) : EvN B n env σ (.Subscript l (.Slice lower upper none p') p) ((ds.drop (lo.elim 0 (clipAt ds.length))).take (hi.elim ds.length (clipAt ds.length) - lo.elim 0 (clipAt ds.length))) :=
  evn_slice x a b evp_none (by simp) hsz (fun h X vs r => by
    rw [slicePick_plain]
    have e : vs.toArray.size = ds.length := by rw [List.size_toArray, r.length]
    rw [e]
    exact (r.drop _).take _) hs
theorem RpAll.rev {h : Heap} {X : Addr → Prop} : ∀ {vs : List Value} {ds : List D}, RpAll h X vs ds → RpAll h X vs.reverse ds.reverse
  | [], _, r => by cases r; exact .nil
  | v :: vs, _, r => by
    cases r with | cons r rs =>
    rw [List.reverse_cons, List.reverse_cons]
    exact rs.rev.append (.cons r .nil)
theorem evn_rev {step : Expr} (x : EvL B n env σ l ds) (c : EvW B n env σ step (.int (-1))) (hsz : ds.length ≤ 1000000)
    (hs : ∀ a i, ∃ ops, subscripted (.Slice none none (some step) p') false (.ref a) (.ref i) = operate ops (getItem (.ref a) (.ref i)) := by intro a i; exact ⟨_, by with_unfolding_all rfl⟩) : EvN B n env σ (.Subscript l (.Slice none none (some step) p') p) ds.reverse :=
  evn_slice x evp_none evp_none (evp_some c) (by simp) hsz (fun h X vs r => by
    rw [krv_pick]
    exact r.rev) hs

/-- sorted(xs, reverse=True) of ints -/
def sortD (l : List Int) : List Int := l.mergeSort fun a b => decide (b ≤ a)
theorem sortD_perm (l : List Int) : (sortD l).Perm l := List.mergeSort_perm _ _
theorem sortD_desc (l : List Int) : (sortD l).Pairwise (· ≥ ·) := by
  have := List.pairwise_mergeSort (le := fun a b : Int => decide (b ≤ a)) (fun a b c h h' => by simp at h h' ⊢; omega) (fun a b => by simp; omega) l
  exact this.imp fun h => by simpa using h
theorem desc_unique : ∀ {l m : List Int}, l.Perm m → l.Pairwise (· ≥ ·) → m.Pairwise (· ≥ ·) → l = m
  | [], m, hp, _, _ => by rw [List.nil_perm.mp hp]
  | a :: l, m, hp, hl, hm => by
    cases m with
    | nil => exact absurd (List.perm_nil.mp hp) (by simp)
    | cons b m =>
      have h1 : a ≥ b := by
        have : b ∈ a :: l := hp.mem_iff.mpr (List.mem_cons_self ..)
        rcases List.mem_cons.mp this with rfl | h
        · exact Int.le_refl _
        · exact (List.pairwise_cons.mp hl).1 b h
      have h2 : b ≥ a := by
        have : a ∈ b :: m := hp.mem_iff.mp (List.mem_cons_self ..)
        rcases List.mem_cons.mp this with rfl | h
        · exact Int.le_refl _
        · exact (List.pairwise_cons.mp hm).1 a h
      have e : a = b := by omega
      subst e
      rw [desc_unique ((List.perm_cons a).mp hp) (List.pairwise_cons.mp hl).2 (List.pairwise_cons.mp hm).2]
theorem rp_ints {h : Heap} {X : Addr → Prop} : ∀ {vs : List Value} {l : List Int}, RpAll h X vs (D.ofInts l) → IntsAre vs l
  | [], [], _ => .nil
  | [], _ :: _, r => by cases r
  | _ :: _, [], r => by cases r
  | v :: vs, i :: l, r => by
    cases r with | cons r rs =>
    obtain ⟨t, rfl⟩ := rp_int r
    exact .cons i t (rp_ints rs)
theorem ints_rp' {h : Heap} {X : Addr → Prop} : ∀ {vs : List Value} {ns : List Int}, IntsAre vs ns → RpAll h X vs (D.ofInts ns)
  | _, _, .nil => .nil
  | _, _, .cons n t r => .cons (.int n t) (ints_rp' r)
theorem evn_sortR {l : List Int} {e : Expr} {k : Nat} {p1 p2 : Pos} (fr : Free B) (hk : env.kindOf (S "sorted") = some .globalImplicit) (v : Ev B n env σ e (.list (D.ofInts l))) (h64 : l.length < 64)
    (he : starEach [e] env = (false, eval e env) :: starEach [] env := by rfl)
    (he' : backTo p (starEach [e] env) = (false, eval e env) :: backTo p (starEach [] env) := by rfl) (hpl : (backTo p (starEach [e] env)).any (·.1) = false := by rfl)
    (hc : eval (.Call (.Name (S "sorted") p') [e] [⟨some (S "reverse"), .Constant (.bool true) k p1, p2⟩] p) env = (do callWith p (← eval (.Name (S "sorted") p') env) [] (backTo p (starEach [e] env)) (backToKw p (keywordEach [⟨some (S "reverse"), .Constant (.bool true) k p1, p2⟩] env))) := by rfl) :
    EvN B n env σ (.Call (.Name (S "sorted") p') [e] [⟨some (S "reverse"), .Constant (.bool true) k p1, p2⟩] p) (D.ofInts (sortD l)) := fun h₀ P O A s E Q bo ao T q => by
  have hx := bn (B := B) (env := env) fr hk boot_sorted
  rw [hc]
  refine wpAny_bind (wp_boot bo T hx.kind hx.miss hx.boot ?_ hx.d hx.n)
  refine callWith_kw (evas_cons v evas_nil he h₀ P O A s E _ p bo ao T fun vs s₁ k₁ r => ?_) he' hpl
  cases r with | cons r rn =>
  cases rn
  obtain ⟨la, ws, rfl, hl, hnX, rs⟩ := rp_list r
  have hI := rp_ints rs
  refine kws_cons (ev_bool h₀ P O A s₁ E _ bo ao (T.kp k₁) fun v s₂ k₂ r₂ => ?_)
  cases rp_val r₂
  refine kws_nil ?_
  have hl' : s₂.heap.IsList la ws.toArray := hl.at fun o e => kheap k₂ _ o e
  show wpAny _ _ (call (.builtin "sorted") [.ref la] [(Str.ofString "reverse", .bool true)]) _ _ _
  refine sorted_ints_rev hl' hI (by rw [hI.length]; exact h64) fun out ns' a1 a2 a3 => ?_
  have e1 : ns' = sortD l := desc_unique (a2.trans (sortD_perm l).symm) a3 (sortD_desc l)
  subst e1
  obtain ⟨ep, hat⟩ := sortedAll_at s₂.heap ws out
  have k3 : Keeps s₂ { s₂ with heap := sortedAll s₂.heap ws out } := ⟨_, _, rfl, fun _ _ e => sortedAll_old e⟩
  have kk := ktrans (ktrans k₁ k₂) k3
  refine q _ out.toList _ kk ?_ ⟨ep, by rw [Array.toArray_toList]; exact hat⟩ (ints_rp' a1)
  have := fresh_of (h := s₂.heap) (a := s₂.heap.objs.size + 1) (by omega)
  cases e : s.heap.get? (s₂.heap.objs.size + 1) with
  | none => rfl
  | some o => rw [kheap (ktrans k₁ k₂) _ _ e] at this; cases this
end
section
variable {B : Bas} {n : Nat}
theorem cmp_ne_bool {a b : Bool} : Cmp B n .NotEq (.bool a) (.bool b) (a != b) := by
  have := cmp_ne_data (B := B) (n := n) (q := .bool a) (q' := .bool b) rfl rfl
  have e : (!PyData.eqv (.bool a) (.bool b)) = (a != b) := by cases a <;> cases b <;> rfl
  rw [e] at this
  exact this
end

section
variable {B : Bas} {n : Nat} {env : Env} {σ : Sto} {R : Fl → Sto → Prop}
/-- a def of the text as a value -/
theorem ev_gfn {x : String} {a : Addr} {d : Def} {p : Pos} (F : HasDef B x a d) (hk : env.kindOf (S x) = some .globalImplicit) (hn : x ≠ "__debug__" := by decide) : Ev B n env σ (.Name (S x) p) (.val (.ref a)) :=
  fun h₀ P O A s E Q bo ao T q => wp_glob bo T hk F.mg (by
    obtain ⟨o, pm, cd, doc, ho, hd, _⟩ := F.fn.at_
    refine q _ s (krefl s) (.fn a o _ (T.here _ _ ho) hd fun z => ?_)
    have := (T.xlive z).2
    rw [ho] at this; cases this) hn
/-- x -= e of ints -/
theorem ex_augSub {x : String} {p1 p3 : Pos} {e : Expr} {i j : Int} (hx : σ.get x = some (.val (.int i))) (hst : Storable env x) (ve : EvW B n env σ e (.int j)) (h : R .next (σ.put x (.val (.int (i - j)))))
    (h2 : x ≠ "__classdict__" := by decide) : Ex1 B n env σ (.AugAssign (.Name (S x) p1) .Sub e p3) R := by
  intro h₀ P O A s E bo ao T
  obtain ⟨v, hv, r⟩ := T.vars x _ hx
  have ld : ∀ {Q : Value → Shared → Prop}, Q v s → wpAny (model B.prog B.w) A (loadName env (S x)) Q E s := fun q => by
    rcases hv with ⟨k, m, n, e⟩ | ⟨k | k, c, l, e⟩
    · exact wpAny_loadName_local T.ok.kind k n e q
    · exact wpAny_loadName_cell T.ok.kind k l e q
    · exact wpAny_loadName_free T.ok.kind k l e q (plainName h2)
  refine wpAny_AugAssign_Name (ld (ve h₀ P O A s E _ bo ao T fun v₂ s₂ k₂ r₂ => ?_))
  obtain ⟨t, rfl⟩ := rp_int r; obtain ⟨u, rfl⟩ := rp_int r₂
  refine PyProof.Rows.isub_int ?_
  have kk := ktrans k₂ (ktok s₂ (s₂.toks + 1))
  refine wp_store (b := .val (.int (i - j))) (T.kp kk) hst (.int _ _) fun s₃ m₃ T₃ => ?_
  exact ⟨.next, _, O, (Mov.of_keeps kk).trans (m₃.names (T.kp kk)) (fun _ q => .inl q), trivial, h, fun _ q => .inl q, T₃⟩
theorem bi_int_lt {i j : Int} : Bi B n (.builtin "int.__lt__") [.int i, .int j] (.bool (decide (i < j))) := fun A s E Q vs bo ao hh r q => by
  cases r with | cons r rn =>
  cases rn with | cons r' rn =>
  cases rn
  obtain ⟨t, rfl⟩ := rp_int r; obtain ⟨u, rfl⟩ := rp_int r'
  exact wpAny_call_entry slot_int_lt (typeIs_int s i t) entry_int_lt (show wpAny _ _ (ret (.bool (decide (i < j)))) _ _ s from wpAny_pure ⟨_, rfl, q _ _ (krefl s) fun _ _ => .val _ rfl⟩) (args_int_lt _ _)
theorem tst_sub {τ : Sto} {e : Expr} {t : Bool} (hs : SubL τ σ) (h : Tst B n env τ e t) : Tst B n env σ e t := fun h₀ P O A s E Q b a T => h h₀ P O A s E Q b a (T.forget hs.get)
theorem cut_last (l : List Int) : ((D.ofInts l).drop ((some (-1 : Int)).elim 0 (clipAt (D.ofInts l).length))).take ((none : Option Int).elim (D.ofInts l).length (clipAt (D.ofInts l).length) - (some (-1 : Int)).elim 0 (clipAt (D.ofInts l).length)) = D.ofInts (l.drop (l.length - 1)) := by
  show ((D.ofInts l).drop (clipAt (D.ofInts l).length (-1))).take ((D.ofInts l).length - clipAt (D.ofInts l).length (-1)) = _
  have e2 : clipAt l.length (-1) = l.length - 1 := clipAt_neg l.length 1 (by decide)
  rw [ofInts_length, e2]
  unfold D.ofInts
  rw [← List.map_drop, List.take_of_length_le (by simp)]
theorem cut_upto (l : List Int) (c : Nat) (i : Int) (hi : i = (c : Int)) : ((D.ofInts l).drop ((none : Option Int).elim 0 (clipAt (D.ofInts l).length))).take ((some i).elim (D.ofInts l).length (clipAt (D.ofInts l).length) - (none : Option Int).elim 0 (clipAt (D.ofInts l).length)) = D.ofInts (l.take c) := by
  subst hi
  show ((D.ofInts l).drop 0).take (clipAt (D.ofInts l).length (c : Int) - 0) = _
  rw [clipAt_nat, ofInts_length, List.drop_zero, Nat.sub_zero]
  unfold D.ofInts
  rw [← List.map_take]
  congr 1
  rcases Nat.le_total c l.length with h | h
  · rw [Nat.min_eq_left h]
  · rw [Nat.min_eq_right h, List.take_length, List.take_of_length_le h]
end

def prs (nb : List Int) : List (Int × Int) := (List.range nb.length).map fun k => (nb.getD k 0, nb.getD (place ((k : Int) - 1) nb.length) 0)
def tp (q : Int × Int) : D := tupI [q.1, q.2]
def mm (q : Int × Int) : Int × Int := (maxI q.1 [q.2], minI q.1 [q.2])
def toL (q : Int × Int) : List Int := [q.1, q.2]
def sortP (qs : List (Int × Int)) : List (Int × Int) := (sortL (qs.map toL)).map fun l => (l.getD 0 0, l.getD 1 0)
theorem sortP_toL (qs : List (Int × Int)) : (sortP qs).map toL = sortL (qs.map toL) := by
  unfold sortP
  rw [List.map_map]
  conv => rhs; rw [← List.map_id (sortL (qs.map toL))]
  refine List.map_congr_left fun l hl => ?_
  have := (sortL_perm _).mem_iff.mp hl
  obtain ⟨q, _, rfl⟩ := List.mem_map.mp this
  rfl
theorem sortP_D (qs : List (Int × Int)) : (sortL (qs.map toL)).map tupI = (sortP qs).map tp := by
  rw [← sortP_toL, List.map_map]; rfl
theorem sortP_perm (qs : List (Int × Int)) : (sortP qs).Perm qs := by
  have h := (sortL_perm (qs.map toL)).map (fun l : List Int => (l.getD 0 0, l.getD 1 0))
  rw [List.map_map] at h
  have e : ((fun l : List Int => (l.getD 0 0, l.getD 1 0)) ∘ toL) = id := by funext q; rfl
  rw [e, List.map_id] at h
  exact h
theorem sortP_length (qs : List (Int × Int)) : (sortP qs).length = qs.length := (sortP_perm qs).length_eq

def ptsStep (ps : List Int) (q : Int × Int) : List Int := if ps == [] || !decide (q.2 ≤ ps.getD (place (-1) ps.length) 0) then ps ++ [q.1] else ps
def pts (st : List (Int × Int)) : List Int := st.foldl ptsStep []
def bitc (c k : Nat) : Bool := (((0 + (c : Int)).fdiv (2 ^ (0 + (k : Int)).toNat)).fmod 2 == 1)
def few (st : List (Int × Int)) (c : Nat) : List (Int × Int) := ((List.range st.length).filter (bitc c)).map fun k => st.getD k (0, 0)
def clash (f : List (Int × Int)) : List Nat := (List.range ((f.length : Int) - 1).toNat).filter fun k => decide ((f.getD (k + 1) (0, 0)).2 ≤ (f.getD k (0, 0)).1)
def mostTo (st : List (Int × Int)) : Nat → Int
  | 0 => 0
  | c + 1 => if clash (few st c) = [] then maxI (mostTo st c) [((few st c).length : Int)] else mostTo st c

theorem pts_length (st : List (Int × Int)) : (pts st).length ≤ st.length := by
  have : ∀ (st : List (Int × Int)) (ps : List Int), (st.foldl ptsStep ps).length ≤ ps.length + st.length := by
    intro st
    induction st with
    | nil => intro ps; simp
    | cons q r ih =>
      intro ps
      rw [List.foldl_cons]
      refine Nat.le_trans (ih _) ?_
      unfold ptsStep
      split <;> simp <;> omega
  simpa [pts] using this st []

theorem bitc_eq (c k : Nat) : bitc c k = (c / 2 ^ k % 2 == 1) := by
  unfold bitc
  rw [Int.zero_add, Int.zero_add, Int.toNat_natCast]
  have h1 : (c : Int).fdiv (2 ^ k) = ((c / 2 ^ k : Nat) : Int) := by
    rw [Int.fdiv_eq_ediv_of_nonneg _ (Int.pow_nonneg (by decide))]
    push_cast; rfl
  rw [h1, show (2 : Int) = ((2 : Nat) : Int) from rfl, fmod_nat]
  rw [Bool.eq_iff_iff]; simp only [beq_iff_eq]; omega
theorem bitc_zero (c b : Nat) (hb : b < 2) : bitc (2 * c + b) 0 = (b == 1) := by
  rw [bitc_eq, Bool.eq_iff_iff]; simp only [beq_iff_eq, Nat.pow_zero, Nat.div_one]; omega
theorem bitc_succ (c b k : Nat) (hb : b < 2) : bitc (2 * c + b) (k + 1) = bitc c k := by
  rw [bitc_eq, bitc_eq, Nat.pow_succ, Nat.mul_comm (2 ^ k) 2, ← Nat.div_div_eq_div_mul]
  have : (2 * c + b) / 2 = c := by omega
  rw [this]

/-- what a choice picks out of any list -/
def pick {α : Type} (d : α) (st : List α) (c : Nat) : List α := ((List.range st.length).filter (bitc c)).map fun k => st.getD k d
theorem pick_cons {α : Type} (d q : α) (st : List α) (c b : Nat) (hb : b < 2) : pick d (q :: st) (2 * c + b) = (if b = 1 then [q] else []) ++ pick d st c := by
  unfold pick
  rw [List.length_cons, List.range_succ_eq_map, List.filter_cons, bitc_zero c b hb, List.filter_map]
  have e : (bitc (2 * c + b) ∘ Nat.succ) = bitc c := by funext k; exact bitc_succ c b k hb
  rw [e]
  by_cases h : b = 1
  · subst h; simp [List.map_map, Function.comp_def]
  · have : (b == 1) = false := by simpa using h
    rw [this, if_neg h]; simp [List.map_map, Function.comp_def]
theorem pick_nil {α : Type} (d : α) (c : Nat) : pick d ([] : List α) c = [] := by simp [pick]
theorem pick_sublist {α : Type} (d : α) (st : List α) (c : Nat) : (pick d st c).Sublist st := by
  have h := (List.filter_sublist (l := List.range st.length) (p := bitc c)).map fun k => st.getD k d
  rwa [range_getD] at h
theorem pick_exists {α : Type} (d : α) : ∀ {st gs : List α}, gs.Sublist st → ∃ c, c < 2 ^ st.length ∧ pick d st c = gs
  | [], gs, h => ⟨0, by simp, by rw [pick_nil]; exact (List.sublist_nil.mp h).symm⟩
  | q :: st, gs, h => by
    cases h with
    | cons _ h =>
      obtain ⟨c, hc, e⟩ := pick_exists d h
      refine ⟨2 * c + 0, by rw [List.length_cons, Nat.pow_succ]; omega, ?_⟩
      rw [pick_cons d q st c 0 (by decide), e]; simp
    | cons_cons _ h =>
      obtain ⟨c, hc, e⟩ := pick_exists d h
      refine ⟨2 * c + 1, by rw [List.length_cons, Nat.pow_succ]; omega, ?_⟩
      rw [pick_cons d q st c 1 (by decide), e]; simp
theorem few_pick (st : List (Int × Int)) (c : Nat) : few st c = pick (0, 0) st c := rfl

theorem clash_nil {f : List (Int × Int)} : clash f = [] ↔ ∀ k, k + 1 < f.length → (f.getD k (0, 0)).1 < (f.getD (k + 1) (0, 0)).2 := by
  unfold clash
  rw [List.filter_eq_nil_iff]
  constructor
  · intro h k hk
    have := h k (by simp; omega)
    simp at this; simp; omega
  · intro h k hk
    have := h k (by simp at hk; omega)
    simp at this ⊢; omega

theorem maxI_one (a b : Int) : maxI a [b] = max a b := by unfold maxI maxI; split <;> omega
theorem most_ge (st : List (Int × Int)) : ∀ N c, c < N → clash (few st c) = [] → ((few st c).length : Int) ≤ mostTo st N := by
  intro N
  induction N with
  | zero => intro c h; omega
  | succ N ih =>
    intro c hc hcl
    unfold mostTo
    rw [maxI_one]
    by_cases e : c = N
    · subst e; rw [if_pos hcl]; omega
    · have := ih c (by omega) hcl
      split <;> omega
theorem most_le (st : List (Int × Int)) (L : Int) (h0 : 0 ≤ L) : ∀ N, (∀ c, c < N → clash (few st c) = [] → ((few st c).length : Int) ≤ L) → mostTo st N ≤ L := by
  intro N
  induction N with
  | zero => intro _; exact h0
  | succ N ih =>
    intro h
    unfold mostTo
    rw [maxI_one]
    have := ih fun c hc => h c (by omega)
    split
    · have := h N (by omega) ‹_›; omega
    · exact this

theorem lastI {ps : List Int} (h : ps ≠ []) : ps.getD (place (-1) ps.length) 0 = ps.getD (ps.length - 1) 0 := by
  have : 0 < ps.length := List.length_pos_iff.mpr h
  unfold place; rw [if_pos (by decide)]; congr 1; omega

/-- ends that do not fall -/
def Asc (st : List (Int × Int)) : Prop := st.Pairwise fun a b => a.1 ≤ b.1

theorem getD_append_l {α : Type} {a b : List α} {k : Nat} {d : α} (h : k < a.length) : (a ++ b).getD k d = a.getD k d := by
  simp [List.getD_eq_getElem?_getD, List.getElem?_append_left h]
theorem getD_append_last {α : Type} {a : List α} {x d : α} : (a ++ [x]).getD a.length d = x := by
  simp [List.getD_eq_getElem?_getD]

/-- what the greedy way keeps -/
structure Inv2 (st : List (Int × Int)) (ps : List Int) : Prop where
  ends : ∀ p ∈ ps, ∃ q ∈ st, p = q.1
  holds : ∀ q ∈ st, ∃ p ∈ ps, q.2 ≤ p ∧ p ≤ q.1
  ahead : ∀ f : List (Int × Int), f.Sublist st → (∀ k, k + 1 < f.length → (f.getD k (0, 0)).1 < (f.getD (k + 1) (0, 0)).2) → f.length ≤ ps.length ∧ ∀ k, k < f.length → ps.getD k 0 ≤ (f.getD k (0, 0)).1
  chosen : ∃ f : List (Int × Int), f.Sublist st ∧ (∀ k, k + 1 < f.length → (f.getD k (0, 0)).1 < (f.getD (k + 1) (0, 0)).2) ∧ f.map (·.1) = ps

theorem inv2_step {st : List (Int × Int)} {ps : List Int} {q : Int × Int} (hq : q.2 ≤ q.1) (hasc : ∀ r ∈ st, r.1 ≤ q.1) (I : Inv2 st ps) : Inv2 (st ++ [q]) (ptsStep ps q) := by
  have below : ∀ p ∈ ps, p ≤ q.1 := fun p hp => by obtain ⟨r, hr, rfl⟩ := I.ends p hp; exact hasc r hr
  have getm : ∀ k, k < ps.length → ps.getD k 0 ∈ ps := fun k hk => by
    rw [List.getD_eq_getElem?_getD, List.getElem?_eq_getElem hk]; exact List.getElem_mem hk
  by_cases hc : (ps == [] || !decide (q.2 ≤ ps.getD (place (-1) ps.length) 0)) = true
  · have e : ptsStep ps q = ps ++ [q.1] := by unfold ptsStep; rw [if_pos hc]
    rw [e]
    refine ⟨?_, ?_, ?_, ?_⟩
    · intro p hp
      rcases List.mem_append.mp hp with hp | hp
      · obtain ⟨r, hr, e⟩ := I.ends p hp; exact ⟨r, List.mem_append_left _ hr, e⟩
      · exact ⟨q, by simp, by simpa using hp⟩
    · intro r hr
      rcases List.mem_append.mp hr with hr | hr
      · obtain ⟨p, hp, h⟩ := I.holds r hr; exact ⟨p, List.mem_append_left _ hp, h⟩
      · have : r = q := by simpa using hr
        subst this; exact ⟨r.1, by simp, hq, by omega⟩
    · intro f hf hv
      rcases List.sublist_append_iff.mp hf with ⟨f1, f2, rfl, h1, h2⟩
      have hf2 : f2 = [] ∨ f2 = [q] := by
        cases h2 with
        | cons _ h => exact .inl (List.sublist_nil.mp h)
        | cons_cons _ h => right; rw [List.sublist_nil.mp h]
      have hv1 : ∀ k, k + 1 < f1.length → (f1.getD k (0, 0)).1 < (f1.getD (k + 1) (0, 0)).2 := fun k hk => by
        have := hv k (by simp; omega)
        rwa [getD_append_l (by omega), getD_append_l hk] at this
      obtain ⟨a1, a2⟩ := I.ahead f1 h1 hv1
      rcases hf2 with rfl | rfl
      · rw [List.append_nil] at *
        refine ⟨by simp; omega, fun k hk => ?_⟩
        rw [getD_append_l (by omega)]; exact a2 k hk
      · refine ⟨by simp; omega, fun k hk => ?_⟩
        by_cases hk1 : k < f1.length
        · rw [getD_append_l (by omega), getD_append_l hk1]; exact a2 k hk1
        · have ek : k = f1.length := by simp at hk; omega
          subst ek
          rw [getD_append_last]
          by_cases hp : f1.length < ps.length
          · rw [getD_append_l hp]; exact below _ (getm _ hp)
          · have : f1.length = ps.length := by omega
            rw [this, getD_append_last]; exact Int.le_refl _
    · obtain ⟨f, hf, hv, he⟩ := I.chosen
      refine ⟨f ++ [q], hf.append (List.Sublist.refl _), fun k hk => ?_, by simp [he]⟩
      have hfl : f.length = ps.length := by rw [← he, List.length_map]
      by_cases hk1 : k + 1 < f.length
      · rw [getD_append_l (by omega), getD_append_l hk1]; exact hv k hk1
      · have ek : k + 1 = f.length := by simp at hk; omega
        rw [getD_append_l (by omega), ek, getD_append_last]
        have hne : ps ≠ [] := by
          intro h
          have h0 : ps.length = 0 := by rw [h]; rfl
          omega
        have hne' : (ps == []) = false := by simpa using hne
        rw [hne', Bool.false_or, lastI hne] at hc
        have hx : (f.getD k (0, 0)).1 = ps.getD (ps.length - 1) 0 := by
          rw [← he, List.length_map, ← ek]
          simp only [List.getD_eq_getElem?_getD, List.getElem?_map, Nat.add_sub_cancel]
          rw [List.getElem?_eq_getElem (by omega)]; rfl
        rw [hx]; simp at hc; simp; omega
  · have e : ptsStep ps q = ps := by unfold ptsStep; rw [if_neg hc]
    rw [e]
    have hc' : ps ≠ [] ∧ q.2 ≤ ps.getD (place (-1) ps.length) 0 := by
      simp only [Bool.or_eq_true, not_or, Bool.not_eq_true] at hc
      exact ⟨by simpa using hc.1, by simpa using hc.2⟩
    obtain ⟨hne, hle⟩ := hc'
    rw [lastI hne] at hle
    have hpos : 0 < ps.length := List.length_pos_iff.mpr hne
    refine ⟨?_, ?_, ?_, ?_⟩
    · intro p hp; obtain ⟨r, hr, e⟩ := I.ends p hp; exact ⟨r, List.mem_append_left _ hr, e⟩
    · intro r hr
      rcases List.mem_append.mp hr with hr | hr
      · exact I.holds r hr
      · have : r = q := by simpa using hr
        subst this
        exact ⟨_, getm _ (by omega), hle, below _ (getm _ (by omega))⟩
    · intro f hf hv
      rcases List.sublist_append_iff.mp hf with ⟨f1, f2, rfl, h1, h2⟩
      have hf2 : f2 = [] ∨ f2 = [q] := by
        cases h2 with
        | cons _ h => exact .inl (List.sublist_nil.mp h)
        | cons_cons _ h => right; rw [List.sublist_nil.mp h]
      have hv1 : ∀ k, k + 1 < f1.length → (f1.getD k (0, 0)).1 < (f1.getD (k + 1) (0, 0)).2 := fun k hk => by
        have := hv k (by simp; omega)
        rwa [getD_append_l (by omega), getD_append_l hk] at this
      obtain ⟨a1, a2⟩ := I.ahead f1 h1 hv1
      rcases hf2 with rfl | rfl
      · rw [List.append_nil] at *
        exact ⟨a1, a2⟩
      · have hlt : f1.length < ps.length := by
          by_cases h : f1.length < ps.length
          · exact h
          · exfalso
            have el : f1.length = ps.length := by omega
            have h3 := a2 (ps.length - 1) (by omega)
            have h4 := hv (ps.length - 1) (by simp; omega)
            rw [getD_append_l (by omega), show ps.length - 1 + 1 = f1.length by omega, getD_append_last] at h4
            omega
        refine ⟨by simp; omega, fun k hk => ?_⟩
        by_cases hk1 : k < f1.length
        · rw [getD_append_l hk1]; exact a2 k hk1
        · have ek : k = f1.length := by simp at hk; omega
          subst ek
          rw [getD_append_last]; exact below _ (getm _ hlt)
    · obtain ⟨f, hf, hv, he⟩ := I.chosen
      exact ⟨f, hf.trans (List.sublist_append_left _ _), hv, he⟩

theorem inv2_all (st : List (Int × Int)) (hasc : Asc st) (hq : ∀ q ∈ st, q.2 ≤ q.1) : Inv2 st (pts st) := by
  have key : ∀ (done rest : List (Int × Int)) (ps : List Int), Asc (done ++ rest) → (∀ q ∈ rest, q.2 ≤ q.1) → Inv2 done ps → Inv2 (done ++ rest) (rest.foldl ptsStep ps) := by
    intro done rest
    induction rest generalizing done with
    | nil => intro ps _ _ I; simpa using I
    | cons q r ih =>
      intro ps ha hq I
      rw [List.foldl_cons]
      have := ih (done ++ [q]) (ptsStep ps q) (by simpa using ha) (fun x hx => hq x (List.mem_cons_of_mem _ hx)) (inv2_step (hq q (List.mem_cons_self ..)) (fun x hx => (List.pairwise_append.mp ha).2.2 x hx q (List.mem_cons_self ..)) I)
      simpa using this
  have I0 : Inv2 [] [] := ⟨fun _ h => (nomatch h), fun _ h => (nomatch h), fun f hf hv => by rw [List.sublist_nil.mp hf]; exact ⟨Nat.le_refl _, fun k hk => absurd hk (by simp)⟩, ⟨[], List.Sublist.refl _, fun k hk => absurd hk (by simp), rfl⟩⟩
  simpa [pts] using key [] st [] hasc hq I0

theorem law02_pure (nb : List Int) (st : List (Int × Int)) (hst : st = sortP ((prs nb).map mm)) : (∀ q ∈ st, ((pts st).filter fun p => decide (q.2 ≤ p) && decide (p ≤ q.1)) ≠ []) ∧ ((pts st).length : Int) = mostTo st (2 ^ st.length) := by
  have hasc : Asc st := by
    have hs := sortL_sorted (((prs nb).map mm).map toL)
    rw [← sortP_toL, ← hst, List.pairwise_map] at hs
    refine hs.imp fun {a b} h => ?_
    unfold toL lexLt at h
    split at h
    · rename_i e; omega
    · simp at h; omega
  have hq : ∀ q ∈ st, q.2 ≤ q.1 := by
    intro q hq
    rw [hst] at hq
    have := (sortP_perm _).mem_iff.mp hq
    obtain ⟨r, _, rfl⟩ := List.mem_map.mp this
    unfold mm maxI minI maxI minI
    split <;> split <;> omega
  have I := inv2_all st hasc hq
  refine ⟨fun q hq' => ?_, ?_⟩
  · obtain ⟨p, hp, h1, h2⟩ := I.holds q hq'
    refine List.ne_nil_of_mem (List.mem_filter.mpr ⟨hp, ?_⟩) (a := p)
    simp [h1, h2]
  · apply Int.le_antisymm
    · obtain ⟨f, hf, hv, he⟩ := I.chosen
      obtain ⟨c, hc, e⟩ := pick_exists (0, 0) hf
      have := most_ge st (2 ^ st.length) c hc (by rw [few_pick, e]; exact clash_nil.mpr hv)
      rw [few_pick, e] at this
      rw [← he, List.length_map]; exact this
    · refine most_le st _ (by omega) _ fun c hc hcl => ?_
      have := (I.ahead (few st c) (by rw [few_pick]; exact pick_sublist _ _ _) (clash_nil.mp hcl)).1
      omega

def rowF : Nat → Int → Int → Int → List (Int × Int)
  | 0, g, _, _ => [(g, 0)]
  | n + 1, g, p, q => if q = 0 then [(g, 0)] else (0, g * p.fdiv q) :: rowF n (-g) q (p.fmod q)
def pairLt (x y : Int × Int) : Bool := if x.1 == y.1 then decide (x.2 < y.2) else decide (x.1 < y.1)
def lexPP : List (Int × Int) → List (Int × Int) → Bool
  | [], [] => false
  | [], _ :: _ => true
  | _ :: _, [] => false
  | x :: xs, y :: ys => if x == y then lexPP xs ys else pairLt x y
theorem rowF_zero (n : Nat) (g p : Int) : rowF n g p 0 = [(g, 0)] := by cases n <;> simp [rowF]
theorem rowF_pos {n : Nat} {g p q : Int} (hq : 0 < q) (hn : q.toNat ≤ n) : ∃ m, n = m + 1 ∧ rowF n g p q = (0, g * p.fdiv q) :: rowF m (-g) q (p.fmod q) ∧ (p.fmod q).toNat ≤ m ∧ 0 ≤ p.fmod q ∧ p.fmod q < q := by
  obtain ⟨m, rfl⟩ : ∃ m, n = m + 1 := ⟨n - 1, by omega⟩
  have h1 := Int.fmod_nonneg_of_pos p hq
  have h2 := Int.fmod_lt_of_pos p hq
  exact ⟨m, rfl, by rw [rowF, if_neg (by omega)], by omega, h1, h2⟩
theorem cross_lt {a b q s u v : Int} (h : a < b) (hq : 0 < q) (hs : 0 < s) (hu : u < q) (hv : 0 ≤ v) : (q * a + u) * s - (s * b + v) * q < 0 := by
  have e : (q * a + u) * s - (s * b + v) * q = q * s * (a - b) + u * s - v * q := by
    rw [Int.add_mul, Int.add_mul, Int.mul_sub]
    have e1 : q * a * s = q * s * a := by rw [Int.mul_assoc, Int.mul_comm a s, ← Int.mul_assoc]
    have e2 : s * b * q = q * s * b := by rw [Int.mul_comm (s * b) q, ← Int.mul_assoc]
    rw [e1, e2]; omega
  rw [e]
  have h1 : q * s * (a - b) ≤ q * s * (-1) := Int.mul_le_mul_of_nonneg_left (by omega) (Int.mul_nonneg (by omega) (by omega))
  have h2 : u * s < q * s := Int.mul_lt_mul_of_pos_right hu hs
  have h3 : 0 ≤ v * q := Int.mul_nonneg hv (by omega)
  rw [Int.mul_neg, Int.mul_one] at h1
  omega
theorem head_ne {a b c : Int} {xs ys : List (Int × Int)} (hc : ¬ (a = b)) : lexPP ((0, a) :: xs) ((0, b) :: ys) = decide (a < b) ∧ ¬ ((0, a) :: xs = (0, b) :: ys) := by
  have hne : ¬ (((0, a) : Int × Int) == (0, b)) = true := by
    intro h; have := eq_of_beq h; injection this with _ h2; exact hc h2
  refine ⟨by rw [lexPP, if_neg hne]; rfl, fun h => ?_⟩
  injection h with h1 _; injection h1 with _ h2; exact hc h2
theorem row_cmp : ∀ (n m : Nat) (g p q r s : Int), (g = 1 ∨ g = -1) → 0 ≤ q → 0 ≤ s → (q = 0 → 0 < p) → (s = 0 → 0 < r) → q.toNat ≤ n → s.toNat ≤ m →
    lexPP (rowF n g p q) (rowF m g r s) = decide (g * (p * s - r * q) < 0) ∧ (rowF n g p q = rowF m g r s ↔ p * s - r * q = 0) := by
  intro n
  induction n with
  | zero =>
    intro m g p q r s hg hq hs hp hr hn hm
    have hq0 : q = 0 := by omega
    subst hq0
    by_cases hs0 : s = 0
    · subst hs0
      rw [rowF_zero, rowF_zero]
      simp [lexPP]
    · obtain ⟨k, rfl, e, _⟩ := rowF_pos (g := g) (p := r) (q := s) (by omega) hm
      rw [rowF_zero, e]
      have hps : 0 < p * s := Int.mul_pos (hp rfl) (by omega)
      rcases hg with rfl | rfl <;> simp [lexPP, pairLt] <;> omega
  | succ n ih =>
    intro m g p q r s hg hq hs hp hr hn hm
    by_cases hq0 : q = 0
    · subst hq0
      by_cases hs0 : s = 0
      · subst hs0
        rw [rowF_zero, rowF_zero]
        simp [lexPP]
      · obtain ⟨k, rfl, e, _⟩ := rowF_pos (g := g) (p := r) (q := s) (by omega) hm
        rw [rowF_zero, e]
        have hps : 0 < p * s := Int.mul_pos (hp rfl) (by omega)
        rcases hg with rfl | rfl <;> simp [lexPP, pairLt] <;> omega
    · have hqp : 0 < q := by omega
      obtain ⟨n', hn', e, hf, u0, u1⟩ := rowF_pos (g := g) (p := p) (q := q) hqp hn
      have : n' = n := by omega
      subst this
      rw [e]
      by_cases hs0 : s = 0
      · subst hs0
        rw [rowF_zero]
        have hps : 0 < r * q := Int.mul_pos (hr rfl) hqp
        rcases hg with rfl | rfl <;> simp [lexPP, pairLt] <;> omega
      · have hsp : 0 < s := by omega
        obtain ⟨k, rfl, e', hf', v0, v1⟩ := rowF_pos (g := g) (p := r) (q := s) hsp hm
        rw [e']
        have d1 : q * p.fdiv q + p.fmod q = p := Int.mul_fdiv_add_fmod p q
        have d2 : s * r.fdiv s + r.fmod s = r := Int.mul_fdiv_add_fmod r s
        generalize p.fdiv q = a at d1 ⊢
        generalize r.fdiv s = b at d2 ⊢
        generalize p.fmod q = u at d1 hf u0 u1 ⊢
        generalize r.fmod s = v at d2 hf' v0 v1 ⊢
        rcases Int.lt_trichotomy a b with h | h | h
        · have hc := cross_lt h hqp hsp u1 v0
          rw [d1, d2] at hc
          have hne : ¬ (g * a = g * b) := by rcases hg with rfl | rfl <;> omega
          obtain ⟨k1, k2⟩ := head_ne (c := 0) (xs := rowF n' (-g) q u) (ys := rowF k (-g) s v) hne
          refine ⟨k1.trans (decide_eq_decide.mpr ?_), ⟨fun h => absurd h k2, fun h => ?_⟩⟩
          · rcases hg with rfl | rfl <;> omega
          · omega
        · subst h
          obtain ⟨i1, i2⟩ := ih k (-g) q u s v (by omega) u0 v0 (fun _ => hqp) (fun _ => hsp) hf hf'
          have ec : q * v - s * u = -(p * s - r * q) := by
            rw [← d1, ← d2, Int.add_mul, Int.add_mul]
            have e1 : q * a * s = s * a * q := by rw [Int.mul_comm q a, Int.mul_comm s a, Int.mul_assoc, Int.mul_assoc, Int.mul_comm q s]
            have e2 : u * s = s * u := Int.mul_comm ..
            have e3 : v * q = q * v := Int.mul_comm ..
            omega
          rw [ec] at i1 i2
          refine ⟨?_, ?_⟩
          · rw [lexPP, if_pos (by simp), i1, Int.neg_mul_neg]
          · rw [List.cons.injEq]
            constructor
            · rintro ⟨_, h⟩
              have := i2.mp h; omega
            · intro h
              exact ⟨rfl, i2.mpr (by omega)⟩
        · have hc := cross_lt h hsp hqp v1 u0
          rw [d1, d2] at hc
          have hne : ¬ (g * a = g * b) := by rcases hg with rfl | rfl <;> omega
          obtain ⟨k1, k2⟩ := head_ne (c := 0) (xs := rowF n' (-g) q u) (ys := rowF k (-g) s v) hne
          refine ⟨k1.trans (decide_eq_decide.mpr ?_), ⟨fun h => absurd h k2, fun h => ?_⟩⟩
          · rcases hg with rfl | rfl <;> omega
          · omega

section
variable {prog : Program} {w : World} {A : Around} {E : Value → Shared → Prop} {s : Shared}
theorem wp_tupLt {a b : Addr} {x1 x2 y1 y2 : Int} {t1 t2 u1 u2 : Tok} {Q : Value → Shared → Prop} (ha : IsTup s.heap a #[.int x1 t1, .int x2 t2]) (hb : IsTup s.heap b #[.int y1 u1, .int y2 u2]) (hu : A.units < cLine)
    (q : Q (.bool (pairLt (x1, x2) (y1, y2))) s) : wpAny (model prog w) A (richCompare .Lt (.ref a) (.ref b)) Q E s := by
  obtain ⟨oa, hoa, hca, na, hda⟩ := ha
  obtain ⟨ob, hob, hcb, nb, hdb⟩ := hb
  have hTa : s.TypeIs (.ref a) "tuple" := ⟨oa, hoa, hca⟩
  have hTb : s.TypeIs (.ref b) "tuple" := ⟨ob, hob, hcb⟩
  refine wpAny_richCompare_same_room (op := .Lt) hTa hTb PySem.F.slot_tuple_lt (wpAny_call_entry PySem.F.slot_tuple_lt hTa PySem.F.entry_tuple_lt ?_ (PySem.F.args_tuple_lt_2 _ _)) hu
  show wpAny _ _ (isInstance (.ref b) (.type "tuple") >>= _) _ _ s
  refine wpAny_bind (wpAny_isInstance hTb isSubtype_tuple_tuple ?_)
  simp only [Bool.not_true, Bool.false_eq_true, if_false]
  refine wpAny_bind (wpAny_tupleItemsOf hoa hda ?_)
  refine wpAny_bind (wpAny_tupleItemsOf hob hdb ?_)
  refine wpAny_bind ?_
  show wpAny _ _ (forIn [(Value.int x1 t1, Value.int y1 u1), (Value.int x2 t2, Value.int y2 u2)] _ _) _ _ s
  rw [List.forIn_cons]
  refine wpAny_bind (wpAny_bind (wpAny_eqBool_int ?_))
  by_cases h1 : x1 = y1
  · subst h1
    simp only [beq_self_eq_true, Bool.not_true, Bool.false_eq_true, if_false]
    refine wpAny_pure ?_
    dsimp only
    rw [List.forIn_cons]
    refine wpAny_bind (wpAny_bind (wpAny_eqBool_int ?_))
    by_cases h2 : x2 = y2
    · subst h2
      simp only [beq_self_eq_true, Bool.not_true, Bool.false_eq_true, if_false]
      refine wpAny_pure ?_
      dsimp only
      rw [List.forIn_nil]
      refine wpAny_pure (wpAny_pure ⟨_, rfl, (fun e => nomatch e), ?_⟩)
      have e : pairLt (x1, x2) (x1, x2) = false := by simp [pairLt]
      rw [e] at q
      exact q
    · have e : (x2 == y2) = false := by simpa using h2
      rw [e]
      simp only [Bool.not_false, if_true]
      refine wpAny_bind (wpAny_rule (wpAny_bind ?_))
      have ep : pairLt (x1, x2) (x1, y2) = decide (x2 < y2) := by simp [pairLt]
      rw [ep] at q
      refine lt_int (wpAny_bind (wpAny_pure (wpAny_pure (wpAny_pure ?_))))
      exact wpAny_pure ⟨_, rfl, (fun e => nomatch e), q⟩
  · have e : (x1 == y1) = false := by simpa using h1
    rw [e]
    simp only [Bool.not_false, if_true]
    refine wpAny_bind (wpAny_rule (wpAny_bind ?_))
    have ep : pairLt (x1, x2) (y1, y2) = decide (x1 < y1) := by simp [pairLt, e]
    rw [ep] at q
    refine lt_int (wpAny_bind (wpAny_pure (wpAny_pure (wpAny_pure ?_))))
    exact wpAny_pure ⟨_, rfl, (fun e => nomatch e), q⟩
/-- the data of a list of pairs -/
def pdP (q : Int × Int) : PyData := .tuple [.int q.1, .int q.2]
theorem of_pairs (l : List (Int × Int)) : D.of (.list (l.map pdP)) = .list (l.map tp) := by
  have : ∀ l : List (Int × Int), D.ofAll (l.map pdP) = l.map tp := by
    intro l
    induction l with
    | nil => rfl
    | cons q r ih => rw [List.map_cons, D.ofAll, ih]; rfl
  rw [D.of, this]
theorem eqv_pair (x y : Int × Int) : PyData.eqv (pdP x) (pdP y) = (x == y) := by
  obtain ⟨a, b⟩ := x; obtain ⟨c, d⟩ := y
  simp [pdP, PyData.eqv, PyData.eqvAll]
  rfl
set_option maxHeartbeats 2000000 in
theorem lt_loop {l b : Addr} {vs ws : List Value} {n m : Nat} {dd dd2 : Option Addr} {sl sl2 : Array (Option Value)} (hl : s.heap.get? l = some { cls := .type "list", dict := dd, data := .seq vs.toArray n, slots := sl }) (hb : s.heap.get? b = some { cls := .type "list", dict := dd2, data := .seq ws.toArray m, slots := sl2 }) (hu : A.units + 10 < cLine) :
    ∀ (xs ys : List (Int × Int)) (i : Nat) (R : Result → Shared → Prop), i ≤ vs.length → i ≤ ws.length → RpAll s.heap NoX (vs.drop i) (xs.map tp) → RpAll s.heap NoX (ws.drop i) (ys.map tp) → R (.ok (.ret (.bool (lexPP xs ys)))) s →
      wpAny (model prog w) A.in1 (Builtin.«list.__eq__.loop» ⟨[.ref l, .ref b, rawInt i, rawInt 0], []⟩) (fun fin s' => match fin with | .done f => R (.ok f) s' | .again c' => c'.quiet = true ∧ codeAny (model prog w) A c' R s') (fun e s' => R (.error e) s') s := by
  intro xs
  induction xs with
  | nil =>
    intro ys i R h1 h2 r1 r2 q
    have e1 : vs.length = i := by have := r1.length; simp at this; omega
    have e2 : ws.length = i + ys.length := by have := r2.length; simp at this; omega
    obtain ⟨hp, g, d, tk, os⟩ := s
    have hi1 : vs.toArray[((i : Nat) : Int).toNat]? = none := by simp; omega
    wp_walk using AutoSeq1.wpAny_loadPart' hl, AutoSeq1.wpAny_loadPart' hb
    rw [hi1]
    wp_walk using AutoSeq1.wpAny_loadPart' hl, AutoSeq1.wpAny_loadPart' hb
    show R (.ok (.ret (.bool (decide (vs.toArray.size < ws.toArray.size))))) _
    have e : decide (vs.toArray.size < ws.toArray.size) = lexPP [] ys := by
      cases ys with
      | nil => simp [lexPP, e1, e2]
      | cons _ _ => simp [lexPP, e1, e2]
    rw [e]; exact q
  | cons x xs ih =>
    intro ys i R h1 h2 r1 r2 q
    have e1 : vs.length = i + (xs.length + 1) := by have := r1.length; simp at this; omega
    have e2 : ws.length = i + ys.length := by have := r2.length; simp at this; omega
    have hc : ((i : Int) + 1) = ((i + 1 : Nat) : Int) := by push_cast; rfl
    have hi1 : vs.toArray[((i : Nat) : Int).toNat]? = some vs[i] := by simp
    cases ys with
    | nil =>
      have hi2 : ws.toArray[((i : Nat) : Int).toNat]? = none := by simp at e2 ⊢; omega
      obtain ⟨hp, g, d, tk, os⟩ := s
      wp_walk using AutoSeq1.wpAny_loadPart' hl, AutoSeq1.wpAny_loadPart' hb
      rw [hi1, hi2]
      wp_walk using AutoSeq1.wpAny_loadPart' hl, AutoSeq1.wpAny_loadPart' hb
      show R (.ok (.ret (.bool (decide (vs.toArray.size < ws.toArray.size))))) _
      have e : decide (vs.toArray.size < ws.toArray.size) = lexPP (x :: xs) [] := by
        simp [lexPP, e1, e2]
      rw [e]; exact q
    | cons y ys =>
      simp only [List.length_cons] at e2
      have hi2 : ws.toArray[((i : Nat) : Int).toNat]? = some ws[i] := by simp
      rw [List.drop_eq_getElem_cons (by omega)] at r1 r2
      rw [List.map_cons] at r1 r2
      cases r1 with | cons rx rxs =>
      cases r2 with | cons ry rys =>
      obtain ⟨ax, us, ex, hx, _, rux⟩ := rp_tuple rx
      obtain ⟨ay, us', ey, hy, _, ruy⟩ := rp_tuple ry
      cases rux with | cons a1 rux =>
      cases rux with | cons a2 rux =>
      cases rux
      cases ruy with | cons b1 ruy =>
      cases ruy with | cons b2 ruy =>
      cases ruy
      obtain ⟨t1, rfl⟩ := rp_int a1; obtain ⟨t2, rfl⟩ := rp_int a2; obtain ⟨u1, rfl⟩ := rp_int b1; obtain ⟨u2, rfl⟩ := rp_int b2
      obtain ⟨as, ra⟩ := Rp.reads (q := pdP x) rfl rx
      obtain ⟨bs, rb⟩ := Rp.reads (q := pdP y) rfl ry
      have eqb : ∀ {Q' : Bool → Shared → Prop} {E' : Value → Shared → Prop}, Q' (x == y) s → wpAny (model prog w) A.in1 (eqBool vs[i] ws[i]) Q' E' s := fun {Q' E'} hq => SeqAt.eqBoolOverData prog w A.in1 E' s _ _ (pdP x) (pdP y) as bs Q' ra rb rfl rfl (by show A.units + 1 + min (max 0 (max 0 0) + 1) (max 0 (max 0 0) + 1) < cLine; simp; omega) (by rw [eqv_pair]; exact hq)
      obtain ⟨hp, g, d, tk, os⟩ := s
      wp_walk using AutoSeq1.wpAny_loadPart' hl, AutoSeq1.wpAny_loadPart' hb
      rw [hi1, hi2]
      refine wpAny_bind (eqb ?_)
      cases hxy : x == y with
      | true =>
        rw [lexPP, if_pos hxy] at q
        wp_walk
        rw [hc]
        exact ⟨plainId_quiet MeetsSeq3.plain_eq_loop _, codeAny_builtin MeetsSeq3.entry_eq_loop (by
          rw [Around.under_plainId MeetsSeq3.plain_eq_loop _]
          exact ih ys (i + 1) R (by omega) (by omega) rxs rys q)⟩
      | false =>
        rw [lexPP, if_neg (by rw [hxy]; decide)] at q
        wp_walk using AutoSeq1.wpAny_loadPart' hl, AutoSeq1.wpAny_loadPart' hb
        rw [hi1, hi2]
        dsimp only
        rw [ex, ey]
        refine wpAny_bind (wp_tupLt hx hy (by show A.units + 1 < cLine; omega) (wpAny_pure ?_))
        exact q
end

section
variable {B : Bas} {n : Nat}
theorem findCls_list_lt : findCls [] (.type "list") (.type "type") (S "__lt__") = some (.val (.builtin "list.__lt__")) := by kernel_rfl
theorem typeOf_list : typeOf (.type "list") = pure (.type "type") := by first | rfl | kernel_rfl
set_option maxHeartbeats 2000000 in
theorem bi_list_lt {xs ys : List (Int × Int)} : Bi B n (.builtin "list.__lt__") [.list (xs.map tp), .list (ys.map tp)] (.bool (lexPP xs ys)) := fun A s E Q vs bo ao hh r q => by
  cases r with | cons r rn =>
  cases rn with | cons r' rn =>
  cases rn
  obtain ⟨l, us, rfl, hl, _, rs⟩ := rp_list r
  obtain ⟨b, ws, rfl, hb, _, rs'⟩ := rp_list r'
  obtain ⟨⟨cls, dd, data, sl⟩, ho, hc, k, hd⟩ := id hl
  simp only at hc hd; subst hc hd
  obtain ⟨⟨cls2, dd2, data2, sl2⟩, ho2, hc2, k2, hd2⟩ := id hb
  simp only at hc2 hd2; subst hc2 hd2
  refine call_meets PySem.F.slot_list_lt ⟨_, ho, rfl⟩ PySem.F.entry_list_lt (PySem.F.args_list_lt_2 _ _) (S := fun A' R s' => A' = A ∧ s' = s ∧ R (.ok (.ret (.bool (lexPP xs ys)))) s) ?_ ⟨rfl, rfl, q _ s (krefl s) fun _ _ => .val _ rfl⟩
  rintro prog w A' R s' ⟨rfl, rfl, h⟩
  have hu : A'.units + 10 < cLine := by have := ao.units; omega
  obtain ⟨hp, g, d, tk, os⟩ := s'
  have f3 := AutoSeq1.sub_list_list
  wp_walk using AutoSeq1.wpAny_loadPart' ho, AutoSeq1.wpAny_loadPart' ho2
  exact ⟨plainId_quiet MeetsSeq3.plain_eq_loop _, codeAny_builtin MeetsSeq3.entry_eq_loop (by
    rw [Around.under_plainId MeetsSeq3.plain_eq_loop _]
    exact lt_loop (i := 0) ho ho2 hu xs ys R (Nat.zero_le _) (Nat.zero_le _) rs rs' h)⟩
end

section
variable {B : Bas} {n : Nat} {env : Env} {σ : Sto} {R : Fl → Sto → Prop}
theorem ex_swapI {x y : String} {ts : List Expr} {k : Nat} {p1 p3 : Pos} {e : Expr} {i j : Int} (v : Ev B n env σ e (.tuple [.int i, .int j])) (hx : Storable env x) (hy : Storable env y) (h : R .next ((σ.put y (.val (.int j))).put x (.val (.int i))))
    (hw : swappedStores [.Tuple ts k p1] e env = pure (some [S x, S y])) (hs : swapsWithSole [.Tuple ts k p1] e p3.line env = pure false := by rfl) : Ex1 B n env σ (.Assign [.Tuple ts k p1] e p3) R := by
  intro h₀ P O A s E bo ao T
  refine Assign_Tuple_swapped (v h₀ P O A s E _ bo ao T fun v s₁ k₁ r₁ => ?_) hs hw
  obtain ⟨a, vs, rfl, ht, ha, rs⟩ := rp_tuple r₁
  cases rs with | cons a1 rs =>
  cases rs with | cons a2 rs =>
  cases rs
  obtain ⟨t1, rfl⟩ := rp_int a1; obtain ⟨t2, rfl⟩ := rp_int a2
  have en : [S x, S y].length = ([Value.int i t1, Value.int j t2].toArray).size := rfl
  rw [en]
  refine unpackItems_tuple ao.handled ht (fun h' he => ?_)
  have k2 : Keeps s₁ { s₁ with heap := h' } := ⟨h', s₁.toks, rfl, fun b o e => he b o (Nat.ne_of_lt (Heap.lt_size e)) e⟩
  have T2 := (T.kp k₁).kp k2
  show wpAny _ _ (assignInOrder [bindName env (S y), bindName env (S x)] [.int j t2, .int i t1]) _ _ _
  refine wpAny_bind (wpAny_holding (bindName_ (wp_store (b := .val (.int j)) T2 hy (.int _ _) fun s₃ m₃ T₃ => ?_)))
  refine wpAny_bind (wpAny_holding (bindName_ (wp_store (b := .val (.int i)) T₃ hx (.int _ _) fun s₄ m₄ T₄ => wpAny_pure ?_)))
  exact ⟨.next, _, O, (Mov.of_keeps (ktrans k₁ k2)).trans ((m₃.names T2).trans (m₄.names T₃) fun _ q => .inl q) (fun _ q => .inl q), trivial, h, fun _ q => .inl q, T₄⟩
theorem cmp_ne_bools (l m : List Bool) : Cmp B n .NotEq (.list (l.map D.bool)) (.list (m.map D.bool)) (!(l == m)) := by
  have e0 : ∀ l : List Bool, D.of (.list (l.map PyData.bool)) = .list (l.map D.bool) := by
    intro l
    rw [D.of]
    congr 1
    induction l with
    | nil => rfl
    | cons a r ih => simp only [List.map_cons, D.ofAll, D.of, ih]
  have cl : ∀ l : List Bool, PyData.canLayAll0 (l.map PyData.bool) = true := by
    intro l
    induction l with
    | nil => rfl
    | cons a r ih => simp [PyData.canLayAll0, PyData.canLay0, ih]
  have sh : ∀ l : List Bool, SeqAt.shaped (.list (l.map PyData.bool)) = true := by
    intro l
    have hd : ∀ l : List Bool, PyData.depthAll (l.map PyData.bool) ≤ 1 := by
      intro l
      induction l with
      | nil => simp [PyData.depthAll]
      | cons a r ih => simp only [List.map_cons, PyData.depthAll, PyData.depth]; omega
    unfold SeqAt.shaped
    rw [show PyData.canLay0 (.list (l.map PyData.bool)) = true from cl l, Bool.true_and]
    have := hd l
    refine decide_eq_true ?_
    simp only [PyData.depth]; omega
  have ev : ∀ l m : List Bool, PyData.eqv (.list (l.map .bool)) (.list (m.map .bool)) = (l == m) := by
    intro l
    show ∀ m : List Bool, PyData.eqvAll _ _ = _
    induction l with
    | nil => intro m; cases m <;> rfl
    | cons a r ih => intro m; cases m with
      | nil => rfl
      | cons b t => simp only [List.map_cons, PyData.eqvAll, PyData.eqv, ih]; rfl
  have := cmp_ne_data (B := B) (n := n) (sh l) (sh m)
  rwa [e0, e0, ev] at this
theorem pairs_shaped (l : List (Int × Int)) : SeqAt.shaped (.list (l.map pdP)) = true := by
  have cl : ∀ l : List (Int × Int), PyData.canLayAll0 (l.map pdP) = true := by
    intro l
    induction l with
    | nil => rfl
    | cons a r ih => rw [List.map_cons, PyData.canLayAll0, ih]; rfl
  have hd : ∀ l : List (Int × Int), PyData.depthAll (l.map pdP) ≤ 1 := by
    intro l
    induction l with
    | nil => simp [PyData.depthAll]
    | cons a r ih =>
      rw [List.map_cons, PyData.depthAll]
      have : (pdP a).depth = 1 := rfl
      omega
  unfold SeqAt.shaped
  rw [show PyData.canLay0 (.list (l.map pdP)) = true from cl l, Bool.true_and]
  have := hd l
  refine decide_eq_true ?_
  simp only [PyData.depth]; omega
theorem pairs_eqv (l m : List (Int × Int)) : PyData.eqv (.list (l.map pdP)) (.list (m.map pdP)) = (l == m) := by
  show PyData.eqvAll _ _ = _
  induction l generalizing m with
  | nil => cases m <;> rfl
  | cons a r ih => cases m with
    | nil => rfl
    | cons b t => simp only [List.map_cons, PyData.eqvAll, eqv_pair, ih]; rfl
theorem cmp_eq_pairs (l m : List (Int × Int)) : Cmp B n .Eq (.list (l.map tp)) (.list (m.map tp)) (l == m) := by
  have := cmp_eq_data (B := B) (n := n) (pairs_shaped l) (pairs_shaped m)
  rwa [of_pairs, of_pairs, pairs_eqv] at this
theorem cmp_ne_pairs (l m : List (Int × Int)) : Cmp B n .NotEq (.list (l.map tp)) (.list (m.map tp)) (!(l == m)) := by
  have := cmp_ne_data (B := B) (n := n) (pairs_shaped l) (pairs_shaped m)
  rwa [of_pairs, of_pairs, pairs_eqv] at this
end

/-- what type(self).__op__(self, other) tells -/
def Dun (B : Bas) (n : Nat) (attr : String) (dS dO : D) (v : Value) : Prop :=
  ∃ T id, Ty dS T ∧ (Value.type T == Value.type "builtin_function_or_method") = false ∧ typeOf (.type T) = pure (.type "type") ∧ Manifest.isStub T = false ∧ findCls [] (.type T) (.type "type") (S attr) = some (.val (.builtin id)) ∧ handedIn (.builtin id) = true ∧ Bi B n (.builtin id) [dS, dO] (.val v)
theorem ev_dun {B : Bas} (fr : Free B) {n : Nat} {env : Env} {σ : Sto} {attr : String} {dS dO : D} {v : Value} {p1 p2 p3 p4 p5 p5' p6 : Pos} {pl : Sem Bool} (hk : env.kindOf (S "type") = some .globalImplicit) (hs : σ.get "self" = some (.val dS)) (ho : σ.get "other" = some (.val dO)) (x : Dun B n attr dS dO v)
    (he : eval (.Call (.Attribute (.Call (.Name (S "type") p1) [.Name (S "self") p2] [] p3) (S attr) p4) [.Name (S "self") p5, .Name (S "other") p5'] [] p6) env = (do
      let ov ← eval (.Call (.Name (S "type") p1) [.Name (S "self") p2] [] p3) env
      standAt p4.atName
      let (f, first) ← holding [ov] (getMethod ov (S attr) pl)
      callWith p6 f first (backTo p6 (starEach [.Name (S "self") p5, .Name (S "other") p5'] env)) (backToKw p6 (keywordEach [] env))) := by rfl) :
    Ev B n env σ (.Call (.Attribute (.Call (.Name (S "type") p1) [.Name (S "self") p2] [] p3) (S attr) p4) [.Name (S "self") p5, .Name (S "other") p5'] [] p6) (.val v) := by
  obtain ⟨T, id, h1, h2, h3, h4, h5, h6, h7⟩ := x
  exact ev_dunder (T := T) (Ev.weak (ev_type fr hk (Ev.weak (ev_name hs)) h1 h2)) h3 h4 h5 h6 (ds := [dS, dO]) (evasw_cons (Ev.weak (ev_name hs)) (evasw_cons (Ev.weak (ev_name ho)) evasw_nil)) h7 rfl rfl he
section
variable {B : Bas} {n : Nat}
theorem cmp_isnot_type {T U : String} : Cmp B n .IsNot (.val (.type T)) (.val (.type U)) (!(Value.type T == Value.type U)) := fun A s E Q va vb bo ao hh r r' q => by
  cases rp_val r; cases rp_val r'; exact wpAny_pure (a := Value.bool (!(Value.type T == Value.type U))) (q s (krefl s))
theorem cmp_isnot_ni_ni : Cmp B n .IsNot (.val .notImplemented) (.val .notImplemented) false := fun A s E Q va vb bo ao hh r r' q => by
  cases rp_val r; cases rp_val r'; exact wpAny_pure (a := Value.bool (!(Value.notImplemented == Value.notImplemented))) (q s (krefl s))
theorem cmp_isnot_bool_ni {b : Bool} : Cmp B n .IsNot (.bool b) (.val .notImplemented) true := fun A s E Q va vb bo ao hh r r' q => by
  cases rp_val r; cases rp_val r'; exact wpAny_pure (a := Value.bool (!(Value.bool b == Value.notImplemented))) (q s (krefl s))
end

theorem rp_flt {h X v b} (r : Rp h X v (.flt b)) : ∃ t, v = .float b t := by cases r; exact ⟨_, rfl⟩
theorem rp_obj' {h X v p} (r : Rp h X v (.obj p)) : ∃ a o, v = .ref a ∧ h.get? a = some o ∧ p o := by cases r with | obj a b c d => exact ⟨_, _, rfl, a, b⟩
theorem ty_flt {b : UInt64} : Ty (.flt b) "float" := fun s X v r => by obtain ⟨t, rfl⟩ := rp_flt r; exact typeIs_float s b t
theorem ty_none : Ty .none "NoneType" := fun s X v r => by cases rp_val r; rfl
theorem ty_obj {p : Obj → Prop} {T : String} (hp : ∀ o, p o → o.cls = .type T) : Ty (.obj p) T := fun s X v r => by
  obtain ⟨a, o, rfl, ho, h⟩ := rp_obj' r
  exact ⟨o, ho, hp o h⟩
/-- what asInt? finds none in -/
def NonI (d : D) : Prop := ∀ (prog : Program) (w : World) (A : Around) (s : Shared) (E : Value → Shared → Prop) (Q : Option Int → Shared → Prop) (v : Value), Rp s.heap NoX v d → Q none s → wpAny (model prog w) A (asInt? v) Q E s
theorem nonI_none : NonI .none := fun prog w A s E Q v r q => by cases rp_val r; exact wpAny_pure q
theorem nonI_obj {p : Obj → Prop} (hp : ∀ o, p o → ∀ x, o.data ≠ .prim x) : NonI (.obj p) := fun prog w A s E Q v r q => by
  obtain ⟨a, o, rfl, ho, h⟩ := rp_obj' r
  refine wpAny_bind (wpAny_load ho ?_)
  have := hp o h
  obtain ⟨cls, dd, data, sl⟩ := o
  cases data <;> first | exact absurd rfl (this _) | exact wpAny_pure q
theorem nonI_list {ds : List D} : NonI (.list ds) := fun prog w A s E Q v r q => by
  obtain ⟨a, vs, rfl, ⟨o, ho, hc, n, hd⟩, _⟩ := rp_list r
  refine wpAny_bind (wpAny_load ho ?_)
  rw [hd]; exact wpAny_pure q
theorem nonI_tuple {ds : List D} : NonI (.tuple ds) := fun prog w A s E Q v r q => by
  obtain ⟨a, vs, rfl, ⟨o, ho, hc, n, hd⟩, _⟩ := rp_tuple r
  refine wpAny_bind (wpAny_load ho ?_)
  rw [hd]; exact wpAny_pure q
theorem nonI_str {i : Str} : NonI (.str i) := fun prog w A s E Q v r q => by obtain ⟨t, rfl⟩ := rp_str r; exact wpAny_pure q
theorem nonI_flt {i : UInt64} : NonI (.flt i) := fun prog w A s E Q v r q => by obtain ⟨t, rfl⟩ := rp_flt r; exact wpAny_pure q
/-- what asStr? finds none in -/
def NonS (d : D) : Prop := ∀ (prog : Program) (w : World) (A : Around) (s : Shared) (E : Value → Shared → Prop) (Q : Option Str → Shared → Prop) (v : Value), Rp s.heap NoX v d → Q none s → wpAny (model prog w) A (asStr? v) Q E s
theorem nonS_none : NonS .none := fun prog w A s E Q v r q => by cases rp_val r; exact wpAny_pure q
theorem nonS_obj {p : Obj → Prop} (hp : ∀ o, p o → ∀ x, o.data ≠ .prim x) : NonS (.obj p) := fun prog w A s E Q v r q => by
  obtain ⟨a, o, rfl, ho, h⟩ := rp_obj' r
  refine wpAny_bind (wpAny_load ho ?_)
  have := hp o h
  obtain ⟨cls, dd, data, sl⟩ := o
  cases data <;> first | exact absurd rfl (this _) | exact wpAny_pure q
theorem nonS_list {ds : List D} : NonS (.list ds) := fun prog w A s E Q v r q => by
  obtain ⟨a, vs, rfl, ⟨o, ho, hc, n, hd⟩, _⟩ := rp_list r
  refine wpAny_bind (wpAny_load ho ?_)
  rw [hd]; exact wpAny_pure q
theorem nonS_tuple {ds : List D} : NonS (.tuple ds) := fun prog w A s E Q v r q => by
  obtain ⟨a, vs, rfl, ⟨o, ho, hc, n, hd⟩, _⟩ := rp_tuple r
  refine wpAny_bind (wpAny_load ho ?_)
  rw [hd]; exact wpAny_pure q
theorem nonS_int {i : Int} : NonS (.int i) := fun prog w A s E Q v r q => by obtain ⟨t, rfl⟩ := rp_int r; exact wpAny_pure q
theorem nonS_flt {i : UInt64} : NonS (.flt i) := fun prog w A s E Q v r q => by obtain ⟨t, rfl⟩ := rp_flt r; exact wpAny_pure q
/-- what Builtin.Float.asFloat? finds none in -/
def NonF (d : D) : Prop := ∀ (prog : Program) (w : World) (A : Around) (s : Shared) (E : Value → Shared → Prop) (Q : Option UInt64 → Shared → Prop) (v : Value), Rp s.heap NoX v d → Q none s → wpAny (model prog w) A (Builtin.Float.asFloat? v) Q E s
theorem nonF_none : NonF .none := fun prog w A s E Q v r q => by cases rp_val r; exact wpAny_pure q
theorem nonF_obj {p : Obj → Prop} (hp : ∀ o, p o → ∀ x, o.data ≠ .prim x) : NonF (.obj p) := fun prog w A s E Q v r q => by
  obtain ⟨a, o, rfl, ho, h⟩ := rp_obj' r
  refine wpAny_bind (wpAny_load ho ?_)
  have := hp o h
  obtain ⟨cls, dd, data, sl⟩ := o
  cases data <;> first | exact absurd rfl (this _) | exact wpAny_pure q
theorem nonF_list {ds : List D} : NonF (.list ds) := fun prog w A s E Q v r q => by
  obtain ⟨a, vs, rfl, ⟨o, ho, hc, n, hd⟩, _⟩ := rp_list r
  refine wpAny_bind (wpAny_load ho ?_)
  rw [hd]; exact wpAny_pure q
theorem nonF_tuple {ds : List D} : NonF (.tuple ds) := fun prog w A s E Q v r q => by
  obtain ⟨a, vs, rfl, ⟨o, ho, hc, n, hd⟩, _⟩ := rp_tuple r
  refine wpAny_bind (wpAny_load ho ?_)
  rw [hd]; exact wpAny_pure q
theorem nonF_int {i : Int} : NonF (.int i) := fun prog w A s E Q v r q => by obtain ⟨t, rfl⟩ := rp_int r; exact wpAny_pure q
theorem nonF_str {i : Str} : NonF (.str i) := fun prog w A s E Q v r q => by obtain ⟨t, rfl⟩ := rp_str r; exact wpAny_pure q
section
variable {B : Bas} {n : Nat}
theorem bi_int_lt_ni {i : Int} {d : D} (hd : NonI d) : Bi B n (.builtin "int.__lt__") [.int i, d] (.val .notImplemented) := fun A s E Q vs bo ao hh r q => by
  cases r with | cons r rn =>
  cases rn with | cons r' rn =>
  cases rn
  obtain ⟨t, rfl⟩ := rp_int r
  refine wpAny_call_entry PySem.F.slot_int_lt (typeIs_int s i t) PySem.F.entry_int_lt ?_ (PySem.F.args_int_lt_2 _ _)
  show wpAny _ _ (asInt? _ >>= _) _ _ _
  refine wpAny_bind (hd _ _ _ _ _ _ _ r' ?_)
  refine wpAny_bind (wpAny_rule ?_)
  exact wpAny_pure ⟨_, rfl, q _ _ (krefl s) fun _ _ => .val _ rfl⟩
theorem bi_str_lt_ni {i : Str} {d : D} (hd : NonS d) : Bi B n (.builtin "str.__lt__") [.str i, d] (.val .notImplemented) := fun A s E Q vs bo ao hh r q => by
  cases r with | cons r rn =>
  cases rn with | cons r' rn =>
  cases rn
  obtain ⟨t, rfl⟩ := rp_str r
  refine wpAny_call_entry PySem.F.slot_str_lt (typeIs_str s i t) PySem.F.entry_str_lt ?_ (PySem.F.args_str_lt_2 _ _)
  show wpAny _ _ (asStr? _ >>= _) _ _ _
  refine wpAny_bind (hd _ _ _ _ _ _ _ r' ?_)
  refine wpAny_bind (wpAny_rule ?_)
  exact wpAny_pure ⟨_, rfl, q _ _ (krefl s) fun _ _ => .val _ rfl⟩
theorem bi_float_lt_ni {i : UInt64} {d : D} (hd : NonF d) (hd' : NonI d) : Bi B n (.builtin "float.__lt__") [.flt i, d] (.val .notImplemented) := fun A s E Q vs bo ao hh r q => by
  cases r with | cons r rn =>
  cases rn with | cons r' rn =>
  cases rn
  obtain ⟨t, rfl⟩ := rp_flt r
  refine wpAny_call_entry PySem.F.slot_float_lt (typeIs_float s i t) PySem.F.entry_float_lt ?_ (PySem.F.args_float_lt_2 _ _)
  show wpAny _ _ (Builtin.Float.asFloat? _ >>= _) _ _ _
  refine wpAny_bind (hd _ _ _ _ _ _ _ r' ?_)
  refine wpAny_bind (hd' _ _ _ _ _ _ _ r' ?_)
  exact wpAny_pure ⟨_, rfl, q _ _ (krefl s) fun _ _ => .val _ rfl⟩
theorem bi_dict_lt_ni {p : Obj → Prop} {d : D} (hp : ∀ o, p o → o.cls = .type "dict") : Bi B n (.builtin "dict.__lt__") [.obj p, d] (.val .notImplemented) := fun A s E Q vs bo ao hh r q => by
  cases r with | cons r rn =>
  cases rn with | cons r' rn =>
  cases rn
  have ta := ty_obj hp s _ _ r
  refine wpAny_call_entry PySem.F.slot_dict_lt ta PySem.F.entry_dict_lt ?_ (PySem.F.args_dict_lt_2 _ _)
  exact wpAny_pure ⟨_, rfl, q _ _ (krefl s) fun _ _ => .val _ rfl⟩
theorem bi_none_lt_ni {d : D} : Bi B n (.builtin "NoneType.__lt__") [.none, d] (.val .notImplemented) := fun A s E Q vs bo ao hh r q => by
  cases r with | cons r rn =>
  cases rn with | cons r' rn =>
  cases rn
  cases rp_val r
  refine wpAny_call_entry PySem.F.slot_NoneType_lt (T := "NoneType") (by rfl) PySem.F.entry_NoneType_lt ?_ (PySem.F.args_NoneType_lt_2 _ _)
  exact wpAny_pure ⟨_, rfl, q _ _ (krefl s) fun _ _ => .val _ rfl⟩
theorem fc_float_lt : findCls [] (.type "float") (.type "type") (S "__lt__") = some (.val (.builtin "float.__lt__")) := by kernel_rfl
theorem fc_str_lt : findCls [] (.type "str") (.type "type") (S "__lt__") = some (.val (.builtin "str.__lt__")) := by kernel_rfl
theorem fc_NoneType_lt : findCls [] (.type "NoneType") (.type "type") (S "__lt__") = some (.val (.builtin "NoneType.__lt__")) := by kernel_rfl
theorem fc_dict_lt : findCls [] (.type "dict") (.type "type") (S "__lt__") = some (.val (.builtin "dict.__lt__")) := by kernel_rfl
theorem bi_int_le_ni {i : Int} {d : D} (hd : NonI d) : Bi B n (.builtin "int.__le__") [.int i, d] (.val .notImplemented) := fun A s E Q vs bo ao hh r q => by
  cases r with | cons r rn =>
  cases rn with | cons r' rn =>
  cases rn
  obtain ⟨t, rfl⟩ := rp_int r
  refine wpAny_call_entry PySem.F.slot_int_le (typeIs_int s i t) PySem.F.entry_int_le ?_ (PySem.F.args_int_le_2 _ _)
  show wpAny _ _ (asInt? _ >>= _) _ _ _
  refine wpAny_bind (hd _ _ _ _ _ _ _ r' ?_)
  refine wpAny_bind (wpAny_rule ?_)
  exact wpAny_pure ⟨_, rfl, q _ _ (krefl s) fun _ _ => .val _ rfl⟩
theorem bi_str_le_ni {i : Str} {d : D} (hd : NonS d) : Bi B n (.builtin "str.__le__") [.str i, d] (.val .notImplemented) := fun A s E Q vs bo ao hh r q => by
  cases r with | cons r rn =>
  cases rn with | cons r' rn =>
  cases rn
  obtain ⟨t, rfl⟩ := rp_str r
  refine wpAny_call_entry PySem.F.slot_str_le (typeIs_str s i t) PySem.F.entry_str_le ?_ (PySem.F.args_str_le_2 _ _)
  show wpAny _ _ (asStr? _ >>= _) _ _ _
  refine wpAny_bind (hd _ _ _ _ _ _ _ r' ?_)
  refine wpAny_bind (wpAny_rule ?_)
  exact wpAny_pure ⟨_, rfl, q _ _ (krefl s) fun _ _ => .val _ rfl⟩
theorem bi_float_le_ni {i : UInt64} {d : D} (hd : NonF d) (hd' : NonI d) : Bi B n (.builtin "float.__le__") [.flt i, d] (.val .notImplemented) := fun A s E Q vs bo ao hh r q => by
  cases r with | cons r rn =>
  cases rn with | cons r' rn =>
  cases rn
  obtain ⟨t, rfl⟩ := rp_flt r
  refine wpAny_call_entry PySem.F.slot_float_le (typeIs_float s i t) PySem.F.entry_float_le ?_ (PySem.F.args_float_le_2 _ _)
  show wpAny _ _ (Builtin.Float.asFloat? _ >>= _) _ _ _
  refine wpAny_bind (hd _ _ _ _ _ _ _ r' ?_)
  refine wpAny_bind (hd' _ _ _ _ _ _ _ r' ?_)
  exact wpAny_pure ⟨_, rfl, q _ _ (krefl s) fun _ _ => .val _ rfl⟩
theorem bi_dict_le_ni {p : Obj → Prop} {d : D} (hp : ∀ o, p o → o.cls = .type "dict") : Bi B n (.builtin "dict.__le__") [.obj p, d] (.val .notImplemented) := fun A s E Q vs bo ao hh r q => by
  cases r with | cons r rn =>
  cases rn with | cons r' rn =>
  cases rn
  have ta := ty_obj hp s _ _ r
  refine wpAny_call_entry PySem.F.slot_dict_le ta PySem.F.entry_dict_le ?_ (PySem.F.args_dict_le_2 _ _)
  exact wpAny_pure ⟨_, rfl, q _ _ (krefl s) fun _ _ => .val _ rfl⟩
theorem bi_none_le_ni {d : D} : Bi B n (.builtin "NoneType.__le__") [.none, d] (.val .notImplemented) := fun A s E Q vs bo ao hh r q => by
  cases r with | cons r rn =>
  cases rn with | cons r' rn =>
  cases rn
  cases rp_val r
  refine wpAny_call_entry PySem.F.slot_NoneType_le (T := "NoneType") (by rfl) PySem.F.entry_NoneType_le ?_ (PySem.F.args_NoneType_le_2 _ _)
  exact wpAny_pure ⟨_, rfl, q _ _ (krefl s) fun _ _ => .val _ rfl⟩
theorem fc_float_le : findCls [] (.type "float") (.type "type") (S "__le__") = some (.val (.builtin "float.__le__")) := by kernel_rfl
theorem fc_str_le : findCls [] (.type "str") (.type "type") (S "__le__") = some (.val (.builtin "str.__le__")) := by kernel_rfl
theorem fc_NoneType_le : findCls [] (.type "NoneType") (.type "type") (S "__le__") = some (.val (.builtin "NoneType.__le__")) := by kernel_rfl
theorem fc_dict_le : findCls [] (.type "dict") (.type "type") (S "__le__") = some (.val (.builtin "dict.__le__")) := by kernel_rfl
theorem bi_int_gt_ni {i : Int} {d : D} (hd : NonI d) : Bi B n (.builtin "int.__gt__") [.int i, d] (.val .notImplemented) := fun A s E Q vs bo ao hh r q => by
  cases r with | cons r rn =>
  cases rn with | cons r' rn =>
  cases rn
  obtain ⟨t, rfl⟩ := rp_int r
  refine wpAny_call_entry PySem.F.slot_int_gt (typeIs_int s i t) PySem.F.entry_int_gt ?_ (PySem.F.args_int_gt_2 _ _)
  show wpAny _ _ (asInt? _ >>= _) _ _ _
  refine wpAny_bind (hd _ _ _ _ _ _ _ r' ?_)
  refine wpAny_bind (wpAny_rule ?_)
  exact wpAny_pure ⟨_, rfl, q _ _ (krefl s) fun _ _ => .val _ rfl⟩
theorem bi_str_gt_ni {i : Str} {d : D} (hd : NonS d) : Bi B n (.builtin "str.__gt__") [.str i, d] (.val .notImplemented) := fun A s E Q vs bo ao hh r q => by
  cases r with | cons r rn =>
  cases rn with | cons r' rn =>
  cases rn
  obtain ⟨t, rfl⟩ := rp_str r
  refine wpAny_call_entry PySem.F.slot_str_gt (typeIs_str s i t) PySem.F.entry_str_gt ?_ (PySem.F.args_str_gt_2 _ _)
  show wpAny _ _ (asStr? _ >>= _) _ _ _
  refine wpAny_bind (hd _ _ _ _ _ _ _ r' ?_)
  refine wpAny_bind (wpAny_rule ?_)
  exact wpAny_pure ⟨_, rfl, q _ _ (krefl s) fun _ _ => .val _ rfl⟩
theorem bi_float_gt_ni {i : UInt64} {d : D} (hd : NonF d) (hd' : NonI d) : Bi B n (.builtin "float.__gt__") [.flt i, d] (.val .notImplemented) := fun A s E Q vs bo ao hh r q => by
  cases r with | cons r rn =>
  cases rn with | cons r' rn =>
  cases rn
  obtain ⟨t, rfl⟩ := rp_flt r
  refine wpAny_call_entry PySem.F.slot_float_gt (typeIs_float s i t) PySem.F.entry_float_gt ?_ (PySem.F.args_float_gt_2 _ _)
  show wpAny _ _ (Builtin.Float.asFloat? _ >>= _) _ _ _
  refine wpAny_bind (hd _ _ _ _ _ _ _ r' ?_)
  refine wpAny_bind (hd' _ _ _ _ _ _ _ r' ?_)
  exact wpAny_pure ⟨_, rfl, q _ _ (krefl s) fun _ _ => .val _ rfl⟩
theorem bi_dict_gt_ni {p : Obj → Prop} {d : D} (hp : ∀ o, p o → o.cls = .type "dict") : Bi B n (.builtin "dict.__gt__") [.obj p, d] (.val .notImplemented) := fun A s E Q vs bo ao hh r q => by
  cases r with | cons r rn =>
  cases rn with | cons r' rn =>
  cases rn
  have ta := ty_obj hp s _ _ r
  refine wpAny_call_entry PySem.F.slot_dict_gt ta PySem.F.entry_dict_gt ?_ (PySem.F.args_dict_gt_2 _ _)
  exact wpAny_pure ⟨_, rfl, q _ _ (krefl s) fun _ _ => .val _ rfl⟩
theorem bi_none_gt_ni {d : D} : Bi B n (.builtin "NoneType.__gt__") [.none, d] (.val .notImplemented) := fun A s E Q vs bo ao hh r q => by
  cases r with | cons r rn =>
  cases rn with | cons r' rn =>
  cases rn
  cases rp_val r
  refine wpAny_call_entry PySem.F.slot_NoneType_gt (T := "NoneType") (by rfl) PySem.F.entry_NoneType_gt ?_ (PySem.F.args_NoneType_gt_2 _ _)
  exact wpAny_pure ⟨_, rfl, q _ _ (krefl s) fun _ _ => .val _ rfl⟩
theorem fc_float_gt : findCls [] (.type "float") (.type "type") (S "__gt__") = some (.val (.builtin "float.__gt__")) := by kernel_rfl
theorem fc_str_gt : findCls [] (.type "str") (.type "type") (S "__gt__") = some (.val (.builtin "str.__gt__")) := by kernel_rfl
theorem fc_NoneType_gt : findCls [] (.type "NoneType") (.type "type") (S "__gt__") = some (.val (.builtin "NoneType.__gt__")) := by kernel_rfl
theorem fc_dict_gt : findCls [] (.type "dict") (.type "type") (S "__gt__") = some (.val (.builtin "dict.__gt__")) := by kernel_rfl
theorem bi_int_ge_ni {i : Int} {d : D} (hd : NonI d) : Bi B n (.builtin "int.__ge__") [.int i, d] (.val .notImplemented) := fun A s E Q vs bo ao hh r q => by
  cases r with | cons r rn =>
  cases rn with | cons r' rn =>
  cases rn
  obtain ⟨t, rfl⟩ := rp_int r
  refine wpAny_call_entry PySem.F.slot_int_ge (typeIs_int s i t) PySem.F.entry_int_ge ?_ (PySem.F.args_int_ge_2 _ _)
  show wpAny _ _ (asInt? _ >>= _) _ _ _
  refine wpAny_bind (hd _ _ _ _ _ _ _ r' ?_)
  refine wpAny_bind (wpAny_rule ?_)
  exact wpAny_pure ⟨_, rfl, q _ _ (krefl s) fun _ _ => .val _ rfl⟩
theorem bi_str_ge_ni {i : Str} {d : D} (hd : NonS d) : Bi B n (.builtin "str.__ge__") [.str i, d] (.val .notImplemented) := fun A s E Q vs bo ao hh r q => by
  cases r with | cons r rn =>
  cases rn with | cons r' rn =>
  cases rn
  obtain ⟨t, rfl⟩ := rp_str r
  refine wpAny_call_entry PySem.F.slot_str_ge (typeIs_str s i t) PySem.F.entry_str_ge ?_ (PySem.F.args_str_ge_2 _ _)
  show wpAny _ _ (asStr? _ >>= _) _ _ _
  refine wpAny_bind (hd _ _ _ _ _ _ _ r' ?_)
  refine wpAny_bind (wpAny_rule ?_)
  exact wpAny_pure ⟨_, rfl, q _ _ (krefl s) fun _ _ => .val _ rfl⟩
theorem bi_float_ge_ni {i : UInt64} {d : D} (hd : NonF d) (hd' : NonI d) : Bi B n (.builtin "float.__ge__") [.flt i, d] (.val .notImplemented) := fun A s E Q vs bo ao hh r q => by
  cases r with | cons r rn =>
  cases rn with | cons r' rn =>
  cases rn
  obtain ⟨t, rfl⟩ := rp_flt r
  refine wpAny_call_entry PySem.F.slot_float_ge (typeIs_float s i t) PySem.F.entry_float_ge ?_ (PySem.F.args_float_ge_2 _ _)
  show wpAny _ _ (Builtin.Float.asFloat? _ >>= _) _ _ _
  refine wpAny_bind (hd _ _ _ _ _ _ _ r' ?_)
  refine wpAny_bind (hd' _ _ _ _ _ _ _ r' ?_)
  exact wpAny_pure ⟨_, rfl, q _ _ (krefl s) fun _ _ => .val _ rfl⟩
theorem bi_dict_ge_ni {p : Obj → Prop} {d : D} (hp : ∀ o, p o → o.cls = .type "dict") : Bi B n (.builtin "dict.__ge__") [.obj p, d] (.val .notImplemented) := fun A s E Q vs bo ao hh r q => by
  cases r with | cons r rn =>
  cases rn with | cons r' rn =>
  cases rn
  have ta := ty_obj hp s _ _ r
  refine wpAny_call_entry PySem.F.slot_dict_ge ta PySem.F.entry_dict_ge ?_ (PySem.F.args_dict_ge_2 _ _)
  exact wpAny_pure ⟨_, rfl, q _ _ (krefl s) fun _ _ => .val _ rfl⟩
theorem bi_none_ge_ni {d : D} : Bi B n (.builtin "NoneType.__ge__") [.none, d] (.val .notImplemented) := fun A s E Q vs bo ao hh r q => by
  cases r with | cons r rn =>
  cases rn with | cons r' rn =>
  cases rn
  cases rp_val r
  refine wpAny_call_entry PySem.F.slot_NoneType_ge (T := "NoneType") (by rfl) PySem.F.entry_NoneType_ge ?_ (PySem.F.args_NoneType_ge_2 _ _)
  exact wpAny_pure ⟨_, rfl, q _ _ (krefl s) fun _ _ => .val _ rfl⟩
theorem fc_float_ge : findCls [] (.type "float") (.type "type") (S "__ge__") = some (.val (.builtin "float.__ge__")) := by kernel_rfl
theorem fc_str_ge : findCls [] (.type "str") (.type "type") (S "__ge__") = some (.val (.builtin "str.__ge__")) := by kernel_rfl
theorem fc_NoneType_ge : findCls [] (.type "NoneType") (.type "type") (S "__ge__") = some (.val (.builtin "NoneType.__ge__")) := by kernel_rfl
theorem fc_dict_ge : findCls [] (.type "dict") (.type "type") (S "__ge__") = some (.val (.builtin "dict.__ge__")) := by kernel_rfl
theorem typeOf_float : typeOf (.type "float") = pure (.type "type") := by first | rfl | kernel_rfl
theorem typeOf_str : typeOf (.type "str") = pure (.type "type") := by first | rfl | kernel_rfl
theorem typeOf_NoneType : typeOf (.type "NoneType") = pure (.type "type") := by first | rfl | kernel_rfl
theorem typeOf_dict : typeOf (.type "dict") = pure (.type "type") := by first | rfl | kernel_rfl
end

/-- the half of a whole number as a float -/
def hf (s : Int) : UInt64 := Float64.ofFrac (decide (s < 0) != decide ((2 : Int) < 0)) s.natAbs (2 : Int).natAbs
theorem hf_cmpF : ∀ a b : Fin 64, Float64.cmp (hf ((a.val : Nat) : Int)) (hf ((b.val : Nat) : Int)) = some (compare ((a.val : Nat) : Int) ((b.val : Nat) : Int)) := by decide +kernel
theorem hf_cmpI : ∀ a b : Fin 64, Float64.cmpInt (hf ((a.val : Nat) : Int)) ((b.val : Nat) : Int) = some (compare ((a.val : Nat) : Int) (2 * ((b.val : Nat) : Int))) := by decide +kernel
theorem hf_fin : ∀ a : Fin 64, Float64.isInf (hf ((a.val : Nat) : Int)) = false := by decide +kernel
theorem ord_lt (i j : Int) : (compare i j == Ordering.lt) = decide (i < j) := by
  show (compareOfLessAndEq i j == _) = _
  unfold compareOfLessAndEq; split
  · simp_all
  · split
    · simp_all
    · simp_all
theorem ord_eq (i j : Int) : (compare i j == Ordering.eq) = (i == j) := by
  show (compareOfLessAndEq i j == _) = _
  unfold compareOfLessAndEq; split
  · rename_i h
    have : i ≠ j := by omega
    simp [this]
  · split
    · simp_all
    · simp_all
theorem ord_gt (i j : Int) : (compare i j == Ordering.gt) = decide (j < i) := by
  show (compareOfLessAndEq i j == _) = _
  unfold compareOfLessAndEq; split
  · rename_i h
    have : ¬ j < i := by omega
    simp [this]
  · split
    · rename_i h e
      have : ¬ j < i := by omega
      simp [this]
    · rename_i h e
      have : j < i := by omega
      simp [this]
theorem rp_bool_eq {h : Heap} {X : Addr → Prop} {b c : Bool} (e : b = c) : Rp h X (.bool b) (.bool c) := by subst e; exact .val _ rfl
theorem some_beq (a b : Ordering) : (some a == some b) = (a == b) := rfl
theorem ord_le (i j : Int) : (some (compare i j) == some Ordering.lt || some (compare i j) == some Ordering.eq) = decide (i ≤ j) := by
  rw [some_beq, some_beq, ord_lt, ord_eq, Bool.eq_iff_iff]; simp; omega
theorem ord_ge (i j : Int) : (some (compare i j) == some Ordering.gt || some (compare i j) == some Ordering.eq) = decide (j ≤ i) := by
  rw [some_beq, some_beq, ord_gt, ord_eq, Bool.eq_iff_iff]; simp; omega
section
variable {B : Bas} {n : Nat} {i j : Int}
theorem hcmpF (h1 : 0 ≤ i) (h2 : i < 64) (h3 : 0 ≤ j) (h4 : j < 64) : Float64.cmp (hf i) (hf j) = some (compare i j) := by
  have := hf_cmpF ⟨i.toNat, by omega⟩ ⟨j.toNat, by omega⟩
  simp only [Int.toNat_of_nonneg h1, Int.toNat_of_nonneg h3] at this
  exact this
theorem hcmpI (h1 : 0 ≤ i) (h2 : i < 64) (h3 : 0 ≤ j) (h4 : j < 64) : Float64.cmpInt (hf i) j = some (compare i (2 * j)) := by
  have := hf_cmpI ⟨i.toNat, by omega⟩ ⟨j.toNat, by omega⟩
  simp only [Int.toNat_of_nonneg h1, Int.toNat_of_nonneg h3] at this
  exact this
theorem bi_ff_lt (h1 : 0 ≤ i) (h2 : i < 64) (h3 : 0 ≤ j) (h4 : j < 64) : Bi B n (.builtin "float.__lt__") [.flt (hf i), .flt (hf j)] (.bool (decide (i < j))) := fun A s E Q vs bo ao hh r q => by
  cases r with | cons r rn =>
  cases rn with | cons r' rn =>
  cases rn
  obtain ⟨t, rfl⟩ := rp_flt r
  obtain ⟨u, rfl⟩ := rp_flt r'
  refine call_gives PySem.F.slot_float_lt (typeIs_float s (hf i) t) PySem.F.entry_float_lt (PySem.F.args_float_lt_2 _ _) (AutoFloatG5.float___lt___float_float_0 _ t _ u) (q _ _ (krefl s) fun _ _ => ?_)
  exact rp_bool_eq (by dsimp only; rw [hcmpF h1 h2 h3 h4]; show (some (compare i j) == some Ordering.lt) = _; rw [some_beq, ord_lt])
theorem bi_fi_lt (h1 : 0 ≤ i) (h2 : i < 64) (h3 : 0 ≤ j) (h4 : j < 64) : Bi B n (.builtin "float.__lt__") [.flt (hf i), .int j] (.bool (decide (i < (2 * j)))) := fun A s E Q vs bo ao hh r q => by
  cases r with | cons r rn =>
  cases rn with | cons r' rn =>
  cases rn
  obtain ⟨t, rfl⟩ := rp_flt r
  obtain ⟨u, rfl⟩ := rp_int r'
  refine call_gives PySem.F.slot_float_lt (typeIs_float s (hf i) t) PySem.F.entry_float_lt (PySem.F.args_float_lt_2 _ _) (AutoFloatG2.float___lt___float_int_0 _ t _ u) (q _ _ (krefl s) fun _ _ => ?_)
  exact rp_bool_eq (by dsimp only; rw [hcmpI h1 h2 h3 h4]; show (some (compare i (2 * j)) == some Ordering.lt) = _; rw [some_beq, ord_lt])
theorem bi_ff_le (h1 : 0 ≤ i) (h2 : i < 64) (h3 : 0 ≤ j) (h4 : j < 64) : Bi B n (.builtin "float.__le__") [.flt (hf i), .flt (hf j)] (.bool (decide (i ≤ j))) := fun A s E Q vs bo ao hh r q => by
  cases r with | cons r rn =>
  cases rn with | cons r' rn =>
  cases rn
  obtain ⟨t, rfl⟩ := rp_flt r
  obtain ⟨u, rfl⟩ := rp_flt r'
  refine call_gives PySem.F.slot_float_le (typeIs_float s (hf i) t) PySem.F.entry_float_le (PySem.F.args_float_le_2 _ _) (AutoFloatG3.float___le___float_float_0 _ t _ u) (q _ _ (krefl s) fun _ _ => ?_)
  exact rp_bool_eq (by dsimp only; rw [hcmpF h1 h2 h3 h4]; exact ord_le _ _)
theorem bi_fi_le (h1 : 0 ≤ i) (h2 : i < 64) (h3 : 0 ≤ j) (h4 : j < 64) : Bi B n (.builtin "float.__le__") [.flt (hf i), .int j] (.bool (decide (i ≤ (2 * j)))) := fun A s E Q vs bo ao hh r q => by
  cases r with | cons r rn =>
  cases rn with | cons r' rn =>
  cases rn
  obtain ⟨t, rfl⟩ := rp_flt r
  obtain ⟨u, rfl⟩ := rp_int r'
  refine call_gives PySem.F.slot_float_le (typeIs_float s (hf i) t) PySem.F.entry_float_le (PySem.F.args_float_le_2 _ _) (AutoFloatG6.float___le___float_int_0 _ t _ u) (q _ _ (krefl s) fun _ _ => ?_)
  exact rp_bool_eq (by dsimp only; rw [hcmpI h1 h2 h3 h4]; exact ord_le _ _)
theorem bi_ff_gt (h1 : 0 ≤ i) (h2 : i < 64) (h3 : 0 ≤ j) (h4 : j < 64) : Bi B n (.builtin "float.__gt__") [.flt (hf i), .flt (hf j)] (.bool (decide (j < i))) := fun A s E Q vs bo ao hh r q => by
  cases r with | cons r rn =>
  cases rn with | cons r' rn =>
  cases rn
  obtain ⟨t, rfl⟩ := rp_flt r
  obtain ⟨u, rfl⟩ := rp_flt r'
  refine call_gives PySem.F.slot_float_gt (typeIs_float s (hf i) t) PySem.F.entry_float_gt (PySem.F.args_float_gt_2 _ _) (AutoFloatG4.float___gt___float_float_0 _ t _ u) (q _ _ (krefl s) fun _ _ => ?_)
  exact rp_bool_eq (by dsimp only; rw [hcmpF h1 h2 h3 h4]; show (some (compare i j) == some Ordering.gt) = _; rw [some_beq, ord_gt])
theorem bi_fi_gt (h1 : 0 ≤ i) (h2 : i < 64) (h3 : 0 ≤ j) (h4 : j < 64) : Bi B n (.builtin "float.__gt__") [.flt (hf i), .int j] (.bool (decide ((2 * j) < i))) := fun A s E Q vs bo ao hh r q => by
  cases r with | cons r rn =>
  cases rn with | cons r' rn =>
  cases rn
  obtain ⟨t, rfl⟩ := rp_flt r
  obtain ⟨u, rfl⟩ := rp_int r'
  refine call_gives PySem.F.slot_float_gt (typeIs_float s (hf i) t) PySem.F.entry_float_gt (PySem.F.args_float_gt_2 _ _) (AutoFloatG1.float___gt___float_int_0 _ t _ u) (q _ _ (krefl s) fun _ _ => ?_)
  exact rp_bool_eq (by dsimp only; rw [hcmpI h1 h2 h3 h4]; show (some (compare i (2 * j)) == some Ordering.gt) = _; rw [some_beq, ord_gt])
theorem bi_ff_ge (h1 : 0 ≤ i) (h2 : i < 64) (h3 : 0 ≤ j) (h4 : j < 64) : Bi B n (.builtin "float.__ge__") [.flt (hf i), .flt (hf j)] (.bool (decide (j ≤ i))) := fun A s E Q vs bo ao hh r q => by
  cases r with | cons r rn =>
  cases rn with | cons r' rn =>
  cases rn
  obtain ⟨t, rfl⟩ := rp_flt r
  obtain ⟨u, rfl⟩ := rp_flt r'
  refine call_gives PySem.F.slot_float_ge (typeIs_float s (hf i) t) PySem.F.entry_float_ge (PySem.F.args_float_ge_2 _ _) (AutoFloatG0.float___ge___float_float_0 _ t _ u) (q _ _ (krefl s) fun _ _ => ?_)
  exact rp_bool_eq (by dsimp only; rw [hcmpF h1 h2 h3 h4]; exact ord_ge _ _)
theorem bi_fi_ge (h1 : 0 ≤ i) (h2 : i < 64) (h3 : 0 ≤ j) (h4 : j < 64) : Bi B n (.builtin "float.__ge__") [.flt (hf i), .int j] (.bool (decide ((2 * j) ≤ i))) := fun A s E Q vs bo ao hh r q => by
  cases r with | cons r rn =>
  cases rn with | cons r' rn =>
  cases rn
  obtain ⟨t, rfl⟩ := rp_flt r
  obtain ⟨u, rfl⟩ := rp_int r'
  refine call_gives PySem.F.slot_float_ge (typeIs_float s (hf i) t) PySem.F.entry_float_ge (PySem.F.args_float_ge_2 _ _) (AutoFloatG4.float___ge___float_int_0 _ t _ u) (q _ _ (krefl s) fun _ _ => ?_)
  exact rp_bool_eq (by dsimp only; rw [hcmpI h1 h2 h3 h4]; exact ord_ge _ _)
theorem cmp_ff_eq (h1 : 0 ≤ i) (h2 : i < 64) (h3 : 0 ≤ j) (h4 : j < 64) : Cmp B n .Eq (.flt (hf i)) (.flt (hf j)) ((i == j)) := fun A s E Q va vb bo ao hh r r' q => by
  obtain ⟨t, rfl⟩ := rp_flt r
  obtain ⟨u, rfl⟩ := rp_flt r'
  refine AutoFloatOps.eq_0 ?_
  have e : (Float64.cmp (hf i) (hf j) == some Ordering.eq) = ((i == j)) := by rw [hcmpF h1 h2 h3 h4, ← ord_eq]; rfl
  rw [e]; exact q s (krefl s)
theorem cmp_fi_eq (h1 : 0 ≤ i) (h2 : i < 64) (h3 : 0 ≤ j) (h4 : j < 64) : Cmp B n .Eq (.flt (hf i)) (.int j) ((i == 2 * j)) := fun A s E Q va vb bo ao hh r r' q => by
  obtain ⟨t, rfl⟩ := rp_flt r
  obtain ⟨u, rfl⟩ := rp_int r'
  refine PyProof.Rows.eq_fi ?_
  have e : (Float64.cmpInt (hf i) j == some Ordering.eq) = ((i == 2 * j)) := by rw [hcmpI h1 h2 h3 h4, ← ord_eq]; rfl
  rw [e]; exact q s (krefl s)
theorem cmp_ff_ne (h1 : 0 ≤ i) (h2 : i < 64) (h3 : 0 ≤ j) (h4 : j < 64) : Cmp B n .NotEq (.flt (hf i)) (.flt (hf j)) (!(i == j)) := fun A s E Q va vb bo ao hh r r' q => by
  obtain ⟨t, rfl⟩ := rp_flt r
  obtain ⟨u, rfl⟩ := rp_flt r'
  refine AutoFloatOps.ne_0 ?_
  have e : (Float64.cmp (hf i) (hf j) != some Ordering.eq) = (!(i == j)) := by rw [hcmpF h1 h2 h3 h4, ← ord_eq]; rfl
  rw [e]; exact q s (krefl s)
theorem cmp_fi_ne (h1 : 0 ≤ i) (h2 : i < 64) (h3 : 0 ≤ j) (h4 : j < 64) : Cmp B n .NotEq (.flt (hf i)) (.int j) (!(i == 2 * j)) := fun A s E Q va vb bo ao hh r r' q => by
  obtain ⟨t, rfl⟩ := rp_flt r
  obtain ⟨u, rfl⟩ := rp_int r'
  refine PyProof.Rows.ne_fi ?_
  have e : (Float64.cmpInt (hf i) j != some Ordering.eq) = (!(i == 2 * j)) := by rw [hcmpI h1 h2 h3 h4, ← ord_eq]; rfl
  rw [e]; exact q s (krefl s)
theorem bin_half (h1 : 0 ≤ i) (h2 : i < 64) : Bin B n .Div (.int i) (.int 2) (.flt (hf i)) := fun A s E Q va vb bo ao hh r r' q => by
  obtain ⟨t, rfl⟩ := rp_int r; obtain ⟨u, rfl⟩ := rp_int r'
  have := hf_fin ⟨i.toNat, by omega⟩
  simp only [Int.toNat_of_nonneg h1] at this
  exact AutoIntOps.truediv_2 (by decide) (by intro h; change Float64.isInf (hf i) = true at h; rw [this] at h; cases h) (q _ _ (ktok _ _) fun _ _ => .flt _ _)
/-- a letter -/
def ltr (c : Int) : Str := ⟨#[c.toNat]⟩
theorem bi_chr (h0 : 0 ≤ i) (h1 : i ≤ 1114111) : Bi B n (.builtin "chr") [.int i] (.str (ltr i)) := fun A s E Q vs bo ao hh r q => by
  cases r with | cons r rn =>
  cases rn
  obtain ⟨t, rfl⟩ := rp_int r
  exact PyProof.Rows.chr_of_range h0 h1 (q _ _ (ktok _ _) fun _ _ => .str _ _)
theorem ltr_lt (h0 : 0 ≤ i) (h1 : 0 ≤ j) : decide ((ltr i).cps.toList < (ltr j).cps.toList) = decide (i < j) := by
  have : ((ltr i).cps.toList < (ltr j).cps.toList) ↔ i < j := by
    show [i.toNat] < [j.toNat] ↔ _
    simp only [List.cons_lt_cons_iff, List.lt_irrefl, and_false, or_false]
    omega
  exact decide_eq_decide.mpr this
theorem ltr_eq (h0 : 0 ≤ i) (h1 : 0 ≤ j) : ((ltr i).cps.toList == (ltr j).cps.toList) = (i == j) := by
  show ([i.toNat] == [j.toNat]) = _
  rw [Bool.eq_iff_iff]; simp; omega
theorem bi_ss_lt (h0 : 0 ≤ i) (h1 : 0 ≤ j) : Bi B n (.builtin "str.__lt__") [.str (ltr i), .str (ltr j)] (.bool (decide (i < j))) := fun A s E Q vs bo ao hh r q => by
  cases r with | cons r rn =>
  cases rn with | cons r' rn =>
  cases rn
  obtain ⟨t, rfl⟩ := rp_str r
  obtain ⟨u, rfl⟩ := rp_str r'
  have e : decide ((ltr i).cps.toList < (ltr j).cps.toList) = decide (i < j) := ltr_lt h0 h1
  rw [← e] at q
  exact wpAny_call_entry PySem.F.slot_str_lt (typeIs_str s (ltr i) t) PySem.F.entry_str_lt (show wpAny _ _ (ret (.bool _)) _ _ s from wpAny_pure ⟨_, rfl, q _ _ (krefl s) fun _ _ => .val _ rfl⟩) (PySem.F.args_str_lt_2 _ _)
theorem bi_ss_le (h0 : 0 ≤ i) (h1 : 0 ≤ j) : Bi B n (.builtin "str.__le__") [.str (ltr i), .str (ltr j)] (.bool (decide (i ≤ j))) := fun A s E Q vs bo ao hh r q => by
  cases r with | cons r rn =>
  cases rn with | cons r' rn =>
  cases rn
  obtain ⟨t, rfl⟩ := rp_str r
  obtain ⟨u, rfl⟩ := rp_str r'
  have e : (!decide ((ltr j).cps.toList < (ltr i).cps.toList)) = decide (i ≤ j) := by rw [ltr_lt h1 h0, Bool.eq_iff_iff]; simp
  rw [← e] at q
  exact wpAny_call_entry PySem.F.slot_str_le (typeIs_str s (ltr i) t) PySem.F.entry_str_le (show wpAny _ _ (ret (.bool _)) _ _ s from wpAny_pure ⟨_, rfl, q _ _ (krefl s) fun _ _ => .val _ rfl⟩) (PySem.F.args_str_le_2 _ _)
theorem bi_ss_gt (h0 : 0 ≤ i) (h1 : 0 ≤ j) : Bi B n (.builtin "str.__gt__") [.str (ltr i), .str (ltr j)] (.bool (decide (j < i))) := fun A s E Q vs bo ao hh r q => by
  cases r with | cons r rn =>
  cases rn with | cons r' rn =>
  cases rn
  obtain ⟨t, rfl⟩ := rp_str r
  obtain ⟨u, rfl⟩ := rp_str r'
  have e : decide ((ltr j).cps.toList < (ltr i).cps.toList) = decide (j < i) := ltr_lt h1 h0
  rw [← e] at q
  exact wpAny_call_entry PySem.F.slot_str_gt (typeIs_str s (ltr i) t) PySem.F.entry_str_gt (show wpAny _ _ (ret (.bool _)) _ _ s from wpAny_pure ⟨_, rfl, q _ _ (krefl s) fun _ _ => .val _ rfl⟩) (PySem.F.args_str_gt_2 _ _)
theorem bi_ss_ge (h0 : 0 ≤ i) (h1 : 0 ≤ j) : Bi B n (.builtin "str.__ge__") [.str (ltr i), .str (ltr j)] (.bool (decide (j ≤ i))) := fun A s E Q vs bo ao hh r q => by
  cases r with | cons r rn =>
  cases rn with | cons r' rn =>
  cases rn
  obtain ⟨t, rfl⟩ := rp_str r
  obtain ⟨u, rfl⟩ := rp_str r'
  have e : (!decide ((ltr i).cps.toList < (ltr j).cps.toList)) = decide (j ≤ i) := by rw [ltr_lt h0 h1, Bool.eq_iff_iff]; simp
  rw [← e] at q
  exact wpAny_call_entry PySem.F.slot_str_ge (typeIs_str s (ltr i) t) PySem.F.entry_str_ge (show wpAny _ _ (ret (.bool _)) _ _ s from wpAny_pure ⟨_, rfl, q _ _ (krefl s) fun _ _ => .val _ rfl⟩) (PySem.F.args_str_ge_2 _ _)
theorem cmp_ss_eq (h0 : 0 ≤ i) (h1 : 0 ≤ j) : Cmp B n .Eq (.str (ltr i)) (.str (ltr j)) (i == j) := fun A s E Q va vb bo ao hh r r' q => by
  obtain ⟨t, rfl⟩ := rp_str r; obtain ⟨u, rfl⟩ := rp_str r'
  refine P.eq_str ?_
  rw [ltr_eq h0 h1]; exact q s (krefl s)
theorem cmp_ss_ne (h0 : 0 ≤ i) (h1 : 0 ≤ j) : Cmp B n .NotEq (.str (ltr i)) (.str (ltr j)) (!(i == j)) := fun A s E Q va vb bo ao hh r r' q => by
  obtain ⟨t, rfl⟩ := rp_str r; obtain ⟨u, rfl⟩ := rp_str r'
  refine P.ne_str ?_
  have e : ((ltr i).cps.toList != (ltr j).cps.toList) = (!(i == j)) := by rw [← ltr_eq h0 h1]; rfl
  rw [e]; exact q s (krefl s)
/-- a dictionary, whatever it holds -/
def IsDict (o : Obj) : Prop := o.cls = .type "dict" ∧ ∃ es ep, o.data = .dict es ep
theorem IsDict.noIter {o : Obj} (h : IsDict o) : ¬ IterObj o := by
  rintro ⟨nm, vs, _, e, _⟩
  obtain ⟨_, es, ep, hd⟩ := h
  rw [hd] at e; cases e
theorem ev_dict1 {env : Env} {σ : Sto} {k v : Expr} {pos : Pos} {a : Int} {d : D} (x : EvW B n env σ k (.int a)) (y : EvW B n env σ v d) : Ev B n env σ (.Dict [some k] [v] pos) (.obj IsDict) := fun h₀ P O A s E Q bo ao T q => by
  refine wpAny_Dict_walk (knd := intKind B.prog B.w) rfl rfl (by simp) (by show 1 ≤ 15; decide) ?_
  have k0 : Keeps s { s with heap := s.heap.push { cls := .type "dict", data := .dict #[] } } := kpush' _ _
  have hnew : s.heap.get? s.heap.objs.size = none := fresh_of (Nat.le_refl _)
  refine pairTrees_cons_walk (x h₀ P O A _ E _ bo ao (T.kp k0) fun kv s₁ k₁ r₁ => y h₀ P O A s₁ E _ bo ao ((T.kp k0).kp k₁) fun vv s₂ k₂ r₂ => ?_)
  obtain ⟨t, rfl⟩ := rp_int r₁
  refine pairTrees_nil_walk ⟨[(a, vv)], ⟨intKind_is _ _ _ _, rfl, trivial⟩, ?_, fun h' hd hs => ?_⟩
  · exact Heap.DictOf.at (Heap.DictOf.new (knd := intKind B.prog B.w) s.heap) fun o e => kheap (ktrans k₁ k₂) _ o e
  · obtain ⟨o, es, ep, ho, hx, hdd, _⟩ := hd
    have hp : IsDict o := ⟨hx.1, es, ep, hdd⟩
    have kk := ktrans k0 (ktrans k₁ k₂)
    refine q _ _ ?_ (.obj ho hp hp.noIter (T.notX hnew))
    obtain ⟨h2, tk2, rfl, k2⟩ := kk
    exact ⟨h', _, rfl, fun b o e => (hs.2 b (fun z => by rw [z, hnew] at e; cases e)).trans (k2 b o e)⟩
end

/-- a pair of a pair of ints and an int -/
def tupN (q : (Int × Int) × Int) : D := .tuple [tp q.1, .int q.2]
def keyN (q : (Int × Int) × Int) : List Int := [q.1.1, q.1.2, q.2]
def unN : List Int → (Int × Int) × Int
  | [a, b, c] => ((a, b), c)
  | _ => ((0, 0), 0)
theorem unN_key (q : (Int × Int) × Int) : unN (keyN q) = q := rfl
def sortN (ks : List ((Int × Int) × Int)) : List ((Int × Int) × Int) := (sortL (ks.map keyN)).map unN
theorem sortN_perm (ks : List ((Int × Int) × Int)) : (sortN ks).Perm ks := by
  have := (sortL_perm (ks.map keyN)).map unN
  rw [List.map_map] at this
  have e : (unN ∘ keyN) = id := by funext q; exact unN_key q
  rw [e, List.map_id] at this
  exact this
theorem keyN_sortN (ks : List ((Int × Int) × Int)) : (sortN ks).map keyN = sortL (ks.map keyN) := by
  unfold sortN
  rw [List.map_map]
  have : ∀ l ∈ sortL (ks.map keyN), (keyN ∘ unN) l = l := fun l hl => by
    obtain ⟨q, _, rfl⟩ := List.mem_map.mp ((sortL_perm _).mem_iff.mp hl)
    rfl
  rw [List.map_congr_left this]; simp
theorem lexLt_key (p q : (Int × Int) × Int) : lexLt (keyN p) (keyN q) = if p.1 == q.1 then decide (p.2 < q.2) else pairLt p.1 q.1 := by
  obtain ⟨⟨a, b⟩, c⟩ := p; obtain ⟨⟨d, e⟩, f⟩ := q
  simp only [keyN, lexLt, pairLt]
  by_cases h1 : a = d
  · subst h1
    by_cases h2 : b = e
    · subst h2
      by_cases h3 : c = f
      · subst h3; simp
      · simp [h3]
    · simp [h2]
  · simp [h1]
section
variable {B : Bas} {n : Nat} {env : Env} {σ : Sto} {p p' : Pos}
theorem RpAll.nAt {h : Heap} {X : Addr → Prop} {vs : List Value} {ks : List ((Int × Int) × Int)} (r : RpAll h X vs (ks.map tupN)) {i : Nat} (hi : i < ks.length) : ∃ a ws, vs.getD i Value.none = .ref a ∧ IsTup h a ws.toArray ∧ RpAll h X ws [tp (ks.getD i ((0, 0), 0)).1, .int (ks.getD i ((0, 0), 0)).2] := by
  obtain ⟨v, hv, rv⟩ := r.get' (k := i) (d := tupN (ks.getD i ((0, 0), 0))) (by rw [List.getElem?_map, List.getD_eq_getElem?_getD, List.getElem?_eq_getElem hi]; rfl)
  obtain ⟨a, ws, rfl, ht, _, rs⟩ := rp_tuple rv
  exact ⟨a, ws, by rw [List.getD_eq_getElem?_getD, hv]; rfl, ht, rs⟩
theorem eqB_pair {prog : Program} {w : World} {A : Around} {s : Shared} {X : Addr → Prop} {va vb : Value} {x y : Int × Int} {Q' : Bool → Shared → Prop} {E' : Value → Shared → Prop} (rx : Rp s.heap X va (tp x)) (ry : Rp s.heap X vb (tp y)) (hu : A.units + 10 < cLine) (hq : Q' (x == y) s) : wpAny (model prog w) A (eqBool va vb) Q' E' s := by
  obtain ⟨as, ra⟩ := Rp.reads (q := pdP x) rfl rx
  obtain ⟨bs, rb⟩ := Rp.reads (q := pdP y) rfl ry
  exact SeqAt.eqBoolOverData prog w A E' s _ _ (pdP x) (pdP y) as bs Q' ra rb rfl rfl (by show A.units + min (max 0 (max 0 0) + 1) (max 0 (max 0 0) + 1) < cLine; simp; omega) (by rw [eqv_pair]; exact hq)
theorem katLex_N {A : Around} {s : Shared} {Q : Bool → Shared → Prop} {X : Addr → Prop} {x y : (Int × Int) × Int} {vs ws : List Value} (r : RpAll s.heap X vs [tp x.1, .int x.2]) (r' : RpAll s.heap X ws [tp y.1, .int y.2]) (hu : A.units + 10 < cLine) (fin : Bool) (hf : fin = false) (q : Q (lexLt (keyN x) (keyN y)) s) :
    KatLex B.prog B.w A false fin Q (vs.zip ws) 0 s := by
  rw [lexLt_key] at q
  cases r with | cons r1 r =>
  cases r with | cons r2 r =>
  cases r
  cases r' with | cons s1 r' =>
  cases r' with | cons s2 r' =>
  cases r'
  rw [List.zip_cons_cons, List.zip_cons_cons]
  refine kat_cons (eqB_pair r1 s1 hu ?_)
  cases h1 : x.1 == y.1 with
  | true =>
    rw [h1, if_pos rfl] at q
    obtain ⟨t, rfl⟩ := rp_int r2; obtain ⟨u, rfl⟩ := rp_int s2
    refine kat_yes (kat_cons (wpAny_eqBool_int ?_))
    by_cases h2 : x.2 = y.2
    · rw [h2, beq_self_eq_true]
      refine kat_yes (kat_nil ?_)
      have e : decide (x.2 < y.2) = false := decide_eq_false (by omega)
      rw [e] at q; rw [hf]; exact q
    · have e : (x.2 == y.2) = false := by simpa using h2
      rw [e]
      exact kat_no (kat_one _ _ (lt_int (show W.BoolBack Q (.bool _) s from q)))
  | false =>
    rw [h1, if_neg (by decide)] at q
    refine kat_no ?_
    obtain ⟨ax, us, rfl, hx, _, rux⟩ := rp_tuple r1
    obtain ⟨ay, us', rfl, hy, _, ruy⟩ := rp_tuple s1
    cases rux with | cons a1 rux =>
    cases rux with | cons a2 rux =>
    cases rux
    cases ruy with | cons b1 ruy =>
    cases ruy with | cons b2 ruy =>
    cases ruy
    obtain ⟨t1, rfl⟩ := rp_int a1; obtain ⟨t2, rfl⟩ := rp_int a2; obtain ⟨u1, rfl⟩ := rp_int b1; obtain ⟨u2, rfl⟩ := rp_int b2
    exact kat_one _ _ (show wpAny _ _ (richCompare .Lt (.ref ax) (.ref ay)) _ _ _ from wp_tupLt hx hy (by omega) (show W.BoolBack Q (.bool _) s from q))
theorem katTups_N {h : Heap} {X : Addr → Prop} : ∀ {ks : List ((Int × Int) × Int)} {vs : List Value}, RpAll h X vs (ks.map tupN) → ∃ fs, KatTups h vs fs ∧ fs.length = ks.length ∧ ∀ v ∈ fs, ∃ q : Int × Int, Rp h X v (tp q)
  | [], vs, r => by cases r; exact ⟨[], KatTups.nil, rfl, fun _ h => nomatch h⟩
  | l :: ks, vs, r => by
    cases r with | cons r rs =>
    obtain ⟨fs, k, e, hf⟩ := katTups_N rs
    obtain ⟨a, ws, rfl, ⟨o, ho, hc, nn, hd⟩, _, rw'⟩ := rp_tuple r
    cases rw' with | cons r1 r2 =>
    exact ⟨_, KatTups.cons ho hc hd rfl k, by simp [e], fun v hv => by rcases List.mem_cons.mp hv with rfl | hv; exact ⟨_, r1⟩; exact hf v hv⟩
theorem evn_sortedN {x : String} {e : Expr} {ks : List ((Int × Int) × Int)} (hx : BootName B env x (.builtin "sorted")) (v : Ev B n env σ e (.list (ks.map tupN))) (h2 : 2 ≤ ks.length) (h64 : ks.length < 64)
    (he : starEach [e] env = (false, eval e env) :: starEach [] env := by rfl)
    (hc : eval (.Call (.Name (S x) p') [e] [] p) env = (do callWith p (← eval (.Name (S x) p') env) [] (backTo p (starEach [e] env)) (backToKw p (keywordEach [] env))) := by rfl) : EvN B n env σ (.Call (.Name (S x) p') [e] [] p) ((sortN ks).map tupN) :=
  fun h₀ P O A s E Q bo ao T q => Call_ (wp_boot bo T hx.kind hx.miss hx.boot (callWith_builtin1 (evas_cons v evas_nil he h₀ P O A s E _ p bo ao T fun vs s₁ k₁ r => by
    cases r with | cons r rn =>
    cases rn
    obtain ⟨l, ws, rfl, hl, hnX, rs⟩ := rp_list r
    have hlen : ws.length = ks.length := by rw [rs.length, List.length_map]
    have hu : A.units + 10 < cLine := by have := ao.units; omega
    have hkey : ∀ i, i < ks.length → (ks.map keyN).getD i [] = keyN (ks.getD i ((0, 0), 0)) := fun i hi => by
      simp [List.getD_eq_getElem?_getD, List.getElem?_eq_getElem hi]
    refine wp_sorted hl (by omega) (by omega) (ord_lex (ks.map keyN)) (κ := tuples' false) ?_ ?_ ?_
    · intro s' Q' k' hq
      obtain ⟨fs, kt, hfl, hfi⟩ := katTups_N (rs.keeps (kheap k'))
      refine kat_kind (T := .type "tuple") kt (by omega) (fun v hv => ?_) (by decide) (hq s' (krefl s'))
      obtain ⟨q, rq⟩ := hfi v hv
      intro A' Q'' E' s'' kk qq
      exact wpAny_typeOf (ty_tuple s'' _ _ (rq.keeps kk)) qq
    · intro i j s' C hi hj k' hC
      obtain ⟨a, us, ea, ⟨oa, hoa, _, na, hda⟩, ra⟩ := (rs.keeps (kheap k')).nAt (i := i) (by omega)
      obtain ⟨b, us', eb, ⟨ob, hob, _, nb, hdb⟩, rb⟩ := (rs.keeps (kheap k')).nAt (i := j) (by omega)
      unfold kas_ask
      rw [ea, eb]
      refine kat_lt hoa hda hob hdb ?_
      have l1 := ra.length; have l2 := rb.length
      have hC' := hC s' (krefl s')
      rw [hkey i (by omega), hkey j (by omega)] at hC'
      have hf : decide (us.toArray.size < us'.toArray.size) = false := decide_eq_false (by rw [List.size_toArray, List.size_toArray, l1, l2]; exact Nat.lt_irrefl _)
      exact katLex_N (B := B) (A := A.in1.in1) ra rb (by show A.units + 1 + 1 + 10 < cLine; have := ao.units; omega) _ hf hC'
    · intro pm a s' hin hso k' hfr hpl
      rw [hlen] at hin hso
      have kk := ktrans k₁ k'
      have hres := sort_result (ks := ks.map keyN) (by simpa using hin) (by simpa using hso)
      have hidx : ∀ i ∈ pm.toList, i < (ks.map tupN).length := fun i hi => by
        have := hin.pm.mem_iff.mp (Array.mem_toList_iff.mp hi)
        simpa using this
      have hpick := rs.pick (tupN ((0, 0), 0)) pm.toList hidx
      have hmap : (pm.toList.map fun i => (ks.map tupN).getD i (tupN ((0, 0), 0))) = (sortN ks).map tupN := by
        unfold sortN
        rw [← hres, List.map_map, List.map_map]
        refine List.map_congr_left fun i hi => ?_
        have := hidx i hi
        rw [List.length_map] at this
        simp only [Function.comp_apply]
        rw [hkey i this, unN_key]
        simp [List.getD_eq_getElem?_getD, List.getElem?_eq_getElem this]
      rw [hmap] at hpick
      refine q a _ s' kk ?_ hpl (hpick.mono (fun b o _ e => kheap k' b o e) fun b o nb e z => ?_)
      · cases e : s.heap.get? a with
        | none => rfl
        | some o => rw [kheap k₁ _ _ e] at hfr; cases hfr
      · rcases z with z | z | z
        · exact nb (.inl z)
        · exact nb (.inr z)
        · rw [z, hfr] at e; cases e) he rfl) hx.d hx.n) hc
/-- row.insert(k, v) -/
theorem mut_insert {ds : List D} {k : Int} {d : D} (h0 : 0 ≤ k) (h1 : k ≤ 1000000) (hsz : ds.length ≤ 1000000) : MutS B n "list.insert" ds [.int k, d] (ds.take k.toNat ++ d :: ds.drop k.toNat) := fun X A s E Q a vs ws bo ao hh hp hX rs rw' q => by
  cases rw' with | cons r1 rn =>
  cases rn with | cons r2 rn =>
  cases rn
  obtain ⟨t, rfl⟩ := rp_int r1
  obtain ⟨ep, ho⟩ := id hp
  have hlen := rs.length
  refine call_meets PySem.F.slot_list_insert ⟨_, ho, rfl⟩ PySem.F.entry_list_insert (PySem.F.args_list_insert_3 _ _ _) (AutoSeq1.list_insert_list_int_val_1 a vs.toArray ep k t _ (by simp [Builtin.List.listFitsIndex]; omega) (by rw [List.size_toArray, hlen]; exact szLine hsz)) ⟨ho, ?_⟩
  rename_i v
  have e : (have k' := if k < 0 then (k + (vs.toArray.size : Int)).toNat else min k.toNat vs.toArray.size; (vs.toArray.extract 0 k').push v ++ vs.toArray.extract k') = (vs.take k.toNat ++ v :: vs.drop k.toNat).toArray := by
    rw [if_neg (by omega)]
    apply Array.toList_inj.mp
    simp only [Array.toList_append, Array.toList_push, Array.toList_extract, List.size_toArray]
    rcases Nat.le_total k.toNat vs.length with h | h
    · simp [Nat.min_eq_left h]
      exact List.take_of_length_le (by simp)
    · simp [Nat.min_eq_right h, List.take_of_length_le h, List.drop_of_length_le h]
  have eo : Obj.mapSeq (fun xs => have k' := if k < 0 then (k + (xs.size : Int)).toNat else min k.toNat xs.size; (xs.extract 0 k').push v ++ xs.extract k') { cls := .type "list", data := .seq vs.toArray ep } = { cls := .type "list", data := .seq (vs.take k.toNat ++ v :: vs.drop k.toNat).toArray (if (vs.take k.toNat ++ v :: vs.drop k.toNat).toArray.size == vs.toArray.size then ep else ep + 1) } := by
    unfold Obj.mapSeq
    dsimp only
    rw [← e]
  refine q _ (vs.take k.toNat ++ v :: vs.drop k.toNat) ⟨_, s.toks, rfl, fun b o nb e' => (Heap.get?_update_ne _ _ _ _ nb).trans e'⟩ ⟨_, by rw [Heap.get?_update_self _ ho (by rw [eo]; rfl), eo]⟩ ?_
  exact (rs.take _).append (.cons r2 (rs.drop _))
end

section
variable {B : Bas} {n : Nat} {env : Env} {σ τ : Sto} {R : Fl → Sto → Prop} {e : Expr} {p : Pos}
/-- an if whose ways meet again -/
theorem ex_ifJ {t : Bool} {body orelse rest : List Stmt} (τ : Sto) (x : Tst B n env σ e t) (y : t = true → Ex B n env σ body fun fl σ' => match fl with | .next => SubL τ σ' | f => R f σ') (z : t = false → Ex B n env σ orelse fun fl σ' => match fl with | .next => SubL τ σ' | f => R f σ')
    (h : Ex B n env τ rest R) : Ex B n env σ (.If e body orelse p :: rest) R := by
  refine ex_cons (ex_if x (fun q => (y q).mono ?_) fun q => (z q).mono ?_)
  all_goals
    intro fl σ' hR
    cases fl with
    | next => exact ex_sub hR h
    | _ => exact hR
theorem tst_or3 {e₁ e₂ e₃ : Expr} {t u v : Bool} (x : Tst B n env σ e₁ t) (y : Tst B n env σ e₂ u) (z : Tst B n env σ e₃ v) : Tst B n env σ (.BoolOp .Or [e₁, e₂, e₃] p) (t || u || v) :=
  fun h₀ P O A s E Q bo ao T q => isTrue_or (x h₀ P O A s E _ bo ao T fun s' k => by
    cases t with
    | true => exact q s' k
    | false => exact isTrue_or (y h₀ P O A s' E _ bo ao (T.kp k) fun s'' k' => by
        cases u with
        | true => exact q s'' (ktrans k k')
        | false => exact isTrue_or (z h₀ P O A s'' E _ bo ao ((T.kp k).kp k') fun s₃ k₃ => by
            cases v with
            | true => exact q s₃ (ktrans (ktrans k k') k₃)
            | false => exact isTrue_or_nil (q s₃ (ktrans (ktrans k k') k₃)))))
theorem cmp_isnot_self {v : Value} (hp : PySem.plainIs v v = true) : Cmp B n .IsNot (.val v) (.val v) false := fun A s E Q va vb bo ao hh r r' q => by
  cases rp_val r; cases rp_val r'; exact wpAny_isNot_self hp (q s (krefl s))
end

def szI (n : Int) : Int := (n.fdiv 5).fmod 64
theorem szI_in (n : Int) : 0 ≤ szI n ∧ szI n < 64 := ⟨Int.fmod_nonneg_of_pos _ (by decide), Int.fmod_lt_of_pos _ (by decide)⟩
def thingK : Nat → Int → D
  | 0, s => .int s
  | 1, s => .flt (hf s)
  | 2, s => .str (ltr (97 + s.fmod 26))
  | 3, _ => .none
  | _, _ => .obj IsDict
def sizeK : Nat → Int → Int × Int
  | 0, s => (0, 2 * s)
  | 1, s => (0, s)
  | 2, s => (1, s.fmod 26)
  | 3, _ => (3, 0)
  | _, _ => (4, 0)
def okK : Nat → Nat → Bool
  | 0, 0 => true
  | 1, 1 => true
  | 1, 0 => true
  | 2, 2 => true
  | _, _ => false
def kd (n : Int) : Nat := (n.fmod 5).toNat
theorem kd_lt (n : Int) : kd n < 5 := by
  have h1 := Int.fmod_nonneg_of_pos n (b := 5) (by decide)
  have h2 := Int.fmod_lt_of_pos n (b := 5) (by decide)
  unfold kd; omega
theorem kd_eq (n : Int) : n.fmod 5 = (kd n : Int) := by
  have h1 := Int.fmod_nonneg_of_pos n (b := 5) (by decide)
  unfold kd; omega
def thing (n : Int) : D := thingK (kd n) (szI n)
def sizeP (n : Int) : Int × Int := sizeK (kd n) (szI n)
theorem dict_prim : ∀ o, IsDict o → ∀ x, o.data ≠ .prim x := fun o h x e => by obtain ⟨_, es, ep, hd⟩ := h; rw [hd] at e; cases e
theorem bi_int_gt {B : Bas} {n : Nat} {i j : Int} : Bi B n (.builtin "int.__gt__") [.int i, .int j] (.bool (decide (j < i))) := fun A s E Q vs bo ao hh r q => by
  cases r with | cons r rn =>
  cases rn with | cons r' rn =>
  cases rn
  obtain ⟨t, rfl⟩ := rp_int r; obtain ⟨u, rfl⟩ := rp_int r'
  exact wpAny_call_entry PySem.F.slot_int_gt (typeIs_int s i t) PySem.F.entry_int_gt (show wpAny _ _ (ret (.bool (decide (i > j)))) _ _ s from wpAny_pure ⟨_, rfl, q _ _ (krefl s) fun _ _ => .val _ rfl⟩) (PySem.F.args_int_gt_2 _ _)
def v9 (ok b : Bool) : Value := if ok then .bool b else .notImplemented
theorem bi_val_eq {B n f ds} {v v' : Value} (x : Bi B n f ds (.val v)) (h : v = v') : Bi B n f ds (.val v') := h ▸ x
theorem mod26 (s : Int) : 0 ≤ 97 + s.fmod 26 := by have := Int.fmod_nonneg_of_pos s (b := 26) (by decide); omega
section
variable {B : Bas} {n : Nat}
theorem dunK_lt : ∀ (k j : Nat) (hk : k < 5) (hj : j < 5) {s t : Int} (hs : 0 ≤ s ∧ s < 64) (ht : 0 ≤ t ∧ t < 64), Dun B n "__lt__" (thingK k s) (thingK j t) (v9 (okK k j) (decide ((sizeK k s).2 < (sizeK j t).2)))
  | 0, 0, _, _, s, t, hs, ht => ⟨"int", "int.__lt__", ty_int, by decide, typeOf_int, by decide +kernel, findCls_int_lt, rfl, bi_val_eq bi_int_lt (by show Value.bool _ = Value.bool _; congr 1; rw [Bool.eq_iff_iff]; simp [sizeK] <;> omega)⟩
  | 0, 1, _, _, s, t, hs, ht => ⟨"int", "int.__lt__", ty_int, by decide, typeOf_int, by decide +kernel, findCls_int_lt, rfl, bi_int_lt_ni nonI_flt⟩
  | 0, 2, _, _, s, t, hs, ht => ⟨"int", "int.__lt__", ty_int, by decide, typeOf_int, by decide +kernel, findCls_int_lt, rfl, bi_int_lt_ni nonI_str⟩
  | 0, 3, _, _, s, t, hs, ht => ⟨"int", "int.__lt__", ty_int, by decide, typeOf_int, by decide +kernel, findCls_int_lt, rfl, bi_int_lt_ni nonI_none⟩
  | 0, 4, _, _, s, t, hs, ht => ⟨"int", "int.__lt__", ty_int, by decide, typeOf_int, by decide +kernel, findCls_int_lt, rfl, bi_int_lt_ni (nonI_obj dict_prim)⟩
  | 1, 0, _, _, s, t, hs, ht => ⟨"float", "float.__lt__", ty_flt, by decide, typeOf_float, by decide +kernel, fc_float_lt, rfl, bi_val_eq (bi_fi_lt hs.1 hs.2 ht.1 ht.2) rfl⟩
  | 1, 1, _, _, s, t, hs, ht => ⟨"float", "float.__lt__", ty_flt, by decide, typeOf_float, by decide +kernel, fc_float_lt, rfl, bi_val_eq (bi_ff_lt hs.1 hs.2 ht.1 ht.2) rfl⟩
  | 1, 2, _, _, s, t, hs, ht => ⟨"float", "float.__lt__", ty_flt, by decide, typeOf_float, by decide +kernel, fc_float_lt, rfl, bi_float_lt_ni nonF_str nonI_str⟩
  | 1, 3, _, _, s, t, hs, ht => ⟨"float", "float.__lt__", ty_flt, by decide, typeOf_float, by decide +kernel, fc_float_lt, rfl, bi_float_lt_ni nonF_none nonI_none⟩
  | 1, 4, _, _, s, t, hs, ht => ⟨"float", "float.__lt__", ty_flt, by decide, typeOf_float, by decide +kernel, fc_float_lt, rfl, bi_float_lt_ni (nonF_obj dict_prim) (nonI_obj dict_prim)⟩
  | 2, 0, _, _, s, t, hs, ht => ⟨"str", "str.__lt__", ty_str, by decide, typeOf_str, by decide +kernel, fc_str_lt, rfl, bi_str_lt_ni nonS_int⟩
  | 2, 1, _, _, s, t, hs, ht => ⟨"str", "str.__lt__", ty_str, by decide, typeOf_str, by decide +kernel, fc_str_lt, rfl, bi_str_lt_ni nonS_flt⟩
  | 2, 2, _, _, s, t, hs, ht => ⟨"str", "str.__lt__", ty_str, by decide, typeOf_str, by decide +kernel, fc_str_lt, rfl, bi_val_eq (bi_ss_lt (mod26 s) (mod26 t)) (by show Value.bool _ = Value.bool _; congr 1; rw [Bool.eq_iff_iff]; simp [sizeK] <;> omega)⟩
  | 2, 3, _, _, s, t, hs, ht => ⟨"str", "str.__lt__", ty_str, by decide, typeOf_str, by decide +kernel, fc_str_lt, rfl, bi_str_lt_ni nonS_none⟩
  | 2, 4, _, _, s, t, hs, ht => ⟨"str", "str.__lt__", ty_str, by decide, typeOf_str, by decide +kernel, fc_str_lt, rfl, bi_str_lt_ni (nonS_obj dict_prim)⟩
  | 3, 0, _, _, s, t, hs, ht => ⟨"NoneType", "NoneType.__lt__", ty_none, by decide, typeOf_NoneType, by decide +kernel, fc_NoneType_lt, rfl, bi_none_lt_ni⟩
  | 3, 1, _, _, s, t, hs, ht => ⟨"NoneType", "NoneType.__lt__", ty_none, by decide, typeOf_NoneType, by decide +kernel, fc_NoneType_lt, rfl, bi_none_lt_ni⟩
  | 3, 2, _, _, s, t, hs, ht => ⟨"NoneType", "NoneType.__lt__", ty_none, by decide, typeOf_NoneType, by decide +kernel, fc_NoneType_lt, rfl, bi_none_lt_ni⟩
  | 3, 3, _, _, s, t, hs, ht => ⟨"NoneType", "NoneType.__lt__", ty_none, by decide, typeOf_NoneType, by decide +kernel, fc_NoneType_lt, rfl, bi_none_lt_ni⟩
  | 3, 4, _, _, s, t, hs, ht => ⟨"NoneType", "NoneType.__lt__", ty_none, by decide, typeOf_NoneType, by decide +kernel, fc_NoneType_lt, rfl, bi_none_lt_ni⟩
  | 4, 0, _, _, s, t, hs, ht => ⟨"dict", "dict.__lt__", (ty_obj fun o h => h.1), by decide, typeOf_dict, by decide +kernel, fc_dict_lt, rfl, bi_dict_lt_ni fun o h => h.1⟩
  | 4, 1, _, _, s, t, hs, ht => ⟨"dict", "dict.__lt__", (ty_obj fun o h => h.1), by decide, typeOf_dict, by decide +kernel, fc_dict_lt, rfl, bi_dict_lt_ni fun o h => h.1⟩
  | 4, 2, _, _, s, t, hs, ht => ⟨"dict", "dict.__lt__", (ty_obj fun o h => h.1), by decide, typeOf_dict, by decide +kernel, fc_dict_lt, rfl, bi_dict_lt_ni fun o h => h.1⟩
  | 4, 3, _, _, s, t, hs, ht => ⟨"dict", "dict.__lt__", (ty_obj fun o h => h.1), by decide, typeOf_dict, by decide +kernel, fc_dict_lt, rfl, bi_dict_lt_ni fun o h => h.1⟩
  | 4, 4, _, _, s, t, hs, ht => ⟨"dict", "dict.__lt__", (ty_obj fun o h => h.1), by decide, typeOf_dict, by decide +kernel, fc_dict_lt, rfl, bi_dict_lt_ni fun o h => h.1⟩
  | _ + 5, _, h, _, _, _, _, _ => absurd h (by omega)
  | _, _ + 5, _, h, _, _, _, _ => absurd h (by omega)
theorem dunK_le : ∀ (k j : Nat) (hk : k < 5) (hj : j < 5) {s t : Int} (hs : 0 ≤ s ∧ s < 64) (ht : 0 ≤ t ∧ t < 64), Dun B n "__le__" (thingK k s) (thingK j t) (v9 (okK k j) (decide ((sizeK k s).2 ≤ (sizeK j t).2)))
  | 0, 0, _, _, s, t, hs, ht => ⟨"int", "int.__le__", ty_int, by decide, typeOf_int, by decide +kernel, findCls_int_le, rfl, bi_val_eq bi_int_le (by show Value.bool _ = Value.bool _; congr 1; rw [Bool.eq_iff_iff]; simp [sizeK] <;> omega)⟩
  | 0, 1, _, _, s, t, hs, ht => ⟨"int", "int.__le__", ty_int, by decide, typeOf_int, by decide +kernel, findCls_int_le, rfl, bi_int_le_ni nonI_flt⟩
  | 0, 2, _, _, s, t, hs, ht => ⟨"int", "int.__le__", ty_int, by decide, typeOf_int, by decide +kernel, findCls_int_le, rfl, bi_int_le_ni nonI_str⟩
  | 0, 3, _, _, s, t, hs, ht => ⟨"int", "int.__le__", ty_int, by decide, typeOf_int, by decide +kernel, findCls_int_le, rfl, bi_int_le_ni nonI_none⟩
  | 0, 4, _, _, s, t, hs, ht => ⟨"int", "int.__le__", ty_int, by decide, typeOf_int, by decide +kernel, findCls_int_le, rfl, bi_int_le_ni (nonI_obj dict_prim)⟩
  | 1, 0, _, _, s, t, hs, ht => ⟨"float", "float.__le__", ty_flt, by decide, typeOf_float, by decide +kernel, fc_float_le, rfl, bi_val_eq (bi_fi_le hs.1 hs.2 ht.1 ht.2) rfl⟩
  | 1, 1, _, _, s, t, hs, ht => ⟨"float", "float.__le__", ty_flt, by decide, typeOf_float, by decide +kernel, fc_float_le, rfl, bi_val_eq (bi_ff_le hs.1 hs.2 ht.1 ht.2) rfl⟩
  | 1, 2, _, _, s, t, hs, ht => ⟨"float", "float.__le__", ty_flt, by decide, typeOf_float, by decide +kernel, fc_float_le, rfl, bi_float_le_ni nonF_str nonI_str⟩
  | 1, 3, _, _, s, t, hs, ht => ⟨"float", "float.__le__", ty_flt, by decide, typeOf_float, by decide +kernel, fc_float_le, rfl, bi_float_le_ni nonF_none nonI_none⟩
  | 1, 4, _, _, s, t, hs, ht => ⟨"float", "float.__le__", ty_flt, by decide, typeOf_float, by decide +kernel, fc_float_le, rfl, bi_float_le_ni (nonF_obj dict_prim) (nonI_obj dict_prim)⟩
  | 2, 0, _, _, s, t, hs, ht => ⟨"str", "str.__le__", ty_str, by decide, typeOf_str, by decide +kernel, fc_str_le, rfl, bi_str_le_ni nonS_int⟩
  | 2, 1, _, _, s, t, hs, ht => ⟨"str", "str.__le__", ty_str, by decide, typeOf_str, by decide +kernel, fc_str_le, rfl, bi_str_le_ni nonS_flt⟩
  | 2, 2, _, _, s, t, hs, ht => ⟨"str", "str.__le__", ty_str, by decide, typeOf_str, by decide +kernel, fc_str_le, rfl, bi_val_eq (bi_ss_le (mod26 s) (mod26 t)) (by show Value.bool _ = Value.bool _; congr 1; rw [Bool.eq_iff_iff]; simp [sizeK] <;> omega)⟩
  | 2, 3, _, _, s, t, hs, ht => ⟨"str", "str.__le__", ty_str, by decide, typeOf_str, by decide +kernel, fc_str_le, rfl, bi_str_le_ni nonS_none⟩
  | 2, 4, _, _, s, t, hs, ht => ⟨"str", "str.__le__", ty_str, by decide, typeOf_str, by decide +kernel, fc_str_le, rfl, bi_str_le_ni (nonS_obj dict_prim)⟩
  | 3, 0, _, _, s, t, hs, ht => ⟨"NoneType", "NoneType.__le__", ty_none, by decide, typeOf_NoneType, by decide +kernel, fc_NoneType_le, rfl, bi_none_le_ni⟩
  | 3, 1, _, _, s, t, hs, ht => ⟨"NoneType", "NoneType.__le__", ty_none, by decide, typeOf_NoneType, by decide +kernel, fc_NoneType_le, rfl, bi_none_le_ni⟩
  | 3, 2, _, _, s, t, hs, ht => ⟨"NoneType", "NoneType.__le__", ty_none, by decide, typeOf_NoneType, by decide +kernel, fc_NoneType_le, rfl, bi_none_le_ni⟩
  | 3, 3, _, _, s, t, hs, ht => ⟨"NoneType", "NoneType.__le__", ty_none, by decide, typeOf_NoneType, by decide +kernel, fc_NoneType_le, rfl, bi_none_le_ni⟩
  | 3, 4, _, _, s, t, hs, ht => ⟨"NoneType", "NoneType.__le__", ty_none, by decide, typeOf_NoneType, by decide +kernel, fc_NoneType_le, rfl, bi_none_le_ni⟩
  | 4, 0, _, _, s, t, hs, ht => ⟨"dict", "dict.__le__", (ty_obj fun o h => h.1), by decide, typeOf_dict, by decide +kernel, fc_dict_le, rfl, bi_dict_le_ni fun o h => h.1⟩
  | 4, 1, _, _, s, t, hs, ht => ⟨"dict", "dict.__le__", (ty_obj fun o h => h.1), by decide, typeOf_dict, by decide +kernel, fc_dict_le, rfl, bi_dict_le_ni fun o h => h.1⟩
  | 4, 2, _, _, s, t, hs, ht => ⟨"dict", "dict.__le__", (ty_obj fun o h => h.1), by decide, typeOf_dict, by decide +kernel, fc_dict_le, rfl, bi_dict_le_ni fun o h => h.1⟩
  | 4, 3, _, _, s, t, hs, ht => ⟨"dict", "dict.__le__", (ty_obj fun o h => h.1), by decide, typeOf_dict, by decide +kernel, fc_dict_le, rfl, bi_dict_le_ni fun o h => h.1⟩
  | 4, 4, _, _, s, t, hs, ht => ⟨"dict", "dict.__le__", (ty_obj fun o h => h.1), by decide, typeOf_dict, by decide +kernel, fc_dict_le, rfl, bi_dict_le_ni fun o h => h.1⟩
  | _ + 5, _, h, _, _, _, _, _ => absurd h (by omega)
  | _, _ + 5, _, h, _, _, _, _ => absurd h (by omega)
theorem dunK_gt : ∀ (k j : Nat) (hk : k < 5) (hj : j < 5) {s t : Int} (hs : 0 ≤ s ∧ s < 64) (ht : 0 ≤ t ∧ t < 64), Dun B n "__gt__" (thingK k s) (thingK j t) (v9 (okK k j) (decide ((sizeK k s).2 > (sizeK j t).2)))
  | 0, 0, _, _, s, t, hs, ht => ⟨"int", "int.__gt__", ty_int, by decide, typeOf_int, by decide +kernel, findCls_int_gt, rfl, bi_val_eq bi_int_gt (by show Value.bool _ = Value.bool _; congr 1; rw [Bool.eq_iff_iff]; simp [sizeK] <;> omega)⟩
  | 0, 1, _, _, s, t, hs, ht => ⟨"int", "int.__gt__", ty_int, by decide, typeOf_int, by decide +kernel, findCls_int_gt, rfl, bi_int_gt_ni nonI_flt⟩
  | 0, 2, _, _, s, t, hs, ht => ⟨"int", "int.__gt__", ty_int, by decide, typeOf_int, by decide +kernel, findCls_int_gt, rfl, bi_int_gt_ni nonI_str⟩
  | 0, 3, _, _, s, t, hs, ht => ⟨"int", "int.__gt__", ty_int, by decide, typeOf_int, by decide +kernel, findCls_int_gt, rfl, bi_int_gt_ni nonI_none⟩
  | 0, 4, _, _, s, t, hs, ht => ⟨"int", "int.__gt__", ty_int, by decide, typeOf_int, by decide +kernel, findCls_int_gt, rfl, bi_int_gt_ni (nonI_obj dict_prim)⟩
  | 1, 0, _, _, s, t, hs, ht => ⟨"float", "float.__gt__", ty_flt, by decide, typeOf_float, by decide +kernel, fc_float_gt, rfl, bi_val_eq (bi_fi_gt hs.1 hs.2 ht.1 ht.2) rfl⟩
  | 1, 1, _, _, s, t, hs, ht => ⟨"float", "float.__gt__", ty_flt, by decide, typeOf_float, by decide +kernel, fc_float_gt, rfl, bi_val_eq (bi_ff_gt hs.1 hs.2 ht.1 ht.2) rfl⟩
  | 1, 2, _, _, s, t, hs, ht => ⟨"float", "float.__gt__", ty_flt, by decide, typeOf_float, by decide +kernel, fc_float_gt, rfl, bi_float_gt_ni nonF_str nonI_str⟩
  | 1, 3, _, _, s, t, hs, ht => ⟨"float", "float.__gt__", ty_flt, by decide, typeOf_float, by decide +kernel, fc_float_gt, rfl, bi_float_gt_ni nonF_none nonI_none⟩
  | 1, 4, _, _, s, t, hs, ht => ⟨"float", "float.__gt__", ty_flt, by decide, typeOf_float, by decide +kernel, fc_float_gt, rfl, bi_float_gt_ni (nonF_obj dict_prim) (nonI_obj dict_prim)⟩
  | 2, 0, _, _, s, t, hs, ht => ⟨"str", "str.__gt__", ty_str, by decide, typeOf_str, by decide +kernel, fc_str_gt, rfl, bi_str_gt_ni nonS_int⟩
  | 2, 1, _, _, s, t, hs, ht => ⟨"str", "str.__gt__", ty_str, by decide, typeOf_str, by decide +kernel, fc_str_gt, rfl, bi_str_gt_ni nonS_flt⟩
  | 2, 2, _, _, s, t, hs, ht => ⟨"str", "str.__gt__", ty_str, by decide, typeOf_str, by decide +kernel, fc_str_gt, rfl, bi_val_eq (bi_ss_gt (mod26 s) (mod26 t)) (by show Value.bool _ = Value.bool _; congr 1; rw [Bool.eq_iff_iff]; simp [sizeK] <;> omega)⟩
  | 2, 3, _, _, s, t, hs, ht => ⟨"str", "str.__gt__", ty_str, by decide, typeOf_str, by decide +kernel, fc_str_gt, rfl, bi_str_gt_ni nonS_none⟩
  | 2, 4, _, _, s, t, hs, ht => ⟨"str", "str.__gt__", ty_str, by decide, typeOf_str, by decide +kernel, fc_str_gt, rfl, bi_str_gt_ni (nonS_obj dict_prim)⟩
  | 3, 0, _, _, s, t, hs, ht => ⟨"NoneType", "NoneType.__gt__", ty_none, by decide, typeOf_NoneType, by decide +kernel, fc_NoneType_gt, rfl, bi_none_gt_ni⟩
  | 3, 1, _, _, s, t, hs, ht => ⟨"NoneType", "NoneType.__gt__", ty_none, by decide, typeOf_NoneType, by decide +kernel, fc_NoneType_gt, rfl, bi_none_gt_ni⟩
  | 3, 2, _, _, s, t, hs, ht => ⟨"NoneType", "NoneType.__gt__", ty_none, by decide, typeOf_NoneType, by decide +kernel, fc_NoneType_gt, rfl, bi_none_gt_ni⟩
  | 3, 3, _, _, s, t, hs, ht => ⟨"NoneType", "NoneType.__gt__", ty_none, by decide, typeOf_NoneType, by decide +kernel, fc_NoneType_gt, rfl, bi_none_gt_ni⟩
  | 3, 4, _, _, s, t, hs, ht => ⟨"NoneType", "NoneType.__gt__", ty_none, by decide, typeOf_NoneType, by decide +kernel, fc_NoneType_gt, rfl, bi_none_gt_ni⟩
  | 4, 0, _, _, s, t, hs, ht => ⟨"dict", "dict.__gt__", (ty_obj fun o h => h.1), by decide, typeOf_dict, by decide +kernel, fc_dict_gt, rfl, bi_dict_gt_ni fun o h => h.1⟩
  | 4, 1, _, _, s, t, hs, ht => ⟨"dict", "dict.__gt__", (ty_obj fun o h => h.1), by decide, typeOf_dict, by decide +kernel, fc_dict_gt, rfl, bi_dict_gt_ni fun o h => h.1⟩
  | 4, 2, _, _, s, t, hs, ht => ⟨"dict", "dict.__gt__", (ty_obj fun o h => h.1), by decide, typeOf_dict, by decide +kernel, fc_dict_gt, rfl, bi_dict_gt_ni fun o h => h.1⟩
  | 4, 3, _, _, s, t, hs, ht => ⟨"dict", "dict.__gt__", (ty_obj fun o h => h.1), by decide, typeOf_dict, by decide +kernel, fc_dict_gt, rfl, bi_dict_gt_ni fun o h => h.1⟩
  | 4, 4, _, _, s, t, hs, ht => ⟨"dict", "dict.__gt__", (ty_obj fun o h => h.1), by decide, typeOf_dict, by decide +kernel, fc_dict_gt, rfl, bi_dict_gt_ni fun o h => h.1⟩
  | _ + 5, _, h, _, _, _, _, _ => absurd h (by omega)
  | _, _ + 5, _, h, _, _, _, _ => absurd h (by omega)
theorem dunK_ge : ∀ (k j : Nat) (hk : k < 5) (hj : j < 5) {s t : Int} (hs : 0 ≤ s ∧ s < 64) (ht : 0 ≤ t ∧ t < 64), Dun B n "__ge__" (thingK k s) (thingK j t) (v9 (okK k j) (decide ((sizeK k s).2 ≥ (sizeK j t).2)))
  | 0, 0, _, _, s, t, hs, ht => ⟨"int", "int.__ge__", ty_int, by decide, typeOf_int, by decide +kernel, findCls_int_ge, rfl, bi_val_eq bi_int_ge (by show Value.bool _ = Value.bool _; congr 1; rw [Bool.eq_iff_iff]; simp [sizeK] <;> omega)⟩
  | 0, 1, _, _, s, t, hs, ht => ⟨"int", "int.__ge__", ty_int, by decide, typeOf_int, by decide +kernel, findCls_int_ge, rfl, bi_int_ge_ni nonI_flt⟩
  | 0, 2, _, _, s, t, hs, ht => ⟨"int", "int.__ge__", ty_int, by decide, typeOf_int, by decide +kernel, findCls_int_ge, rfl, bi_int_ge_ni nonI_str⟩
  | 0, 3, _, _, s, t, hs, ht => ⟨"int", "int.__ge__", ty_int, by decide, typeOf_int, by decide +kernel, findCls_int_ge, rfl, bi_int_ge_ni nonI_none⟩
  | 0, 4, _, _, s, t, hs, ht => ⟨"int", "int.__ge__", ty_int, by decide, typeOf_int, by decide +kernel, findCls_int_ge, rfl, bi_int_ge_ni (nonI_obj dict_prim)⟩
  | 1, 0, _, _, s, t, hs, ht => ⟨"float", "float.__ge__", ty_flt, by decide, typeOf_float, by decide +kernel, fc_float_ge, rfl, bi_val_eq (bi_fi_ge hs.1 hs.2 ht.1 ht.2) rfl⟩
  | 1, 1, _, _, s, t, hs, ht => ⟨"float", "float.__ge__", ty_flt, by decide, typeOf_float, by decide +kernel, fc_float_ge, rfl, bi_val_eq (bi_ff_ge hs.1 hs.2 ht.1 ht.2) rfl⟩
  | 1, 2, _, _, s, t, hs, ht => ⟨"float", "float.__ge__", ty_flt, by decide, typeOf_float, by decide +kernel, fc_float_ge, rfl, bi_float_ge_ni nonF_str nonI_str⟩
  | 1, 3, _, _, s, t, hs, ht => ⟨"float", "float.__ge__", ty_flt, by decide, typeOf_float, by decide +kernel, fc_float_ge, rfl, bi_float_ge_ni nonF_none nonI_none⟩
  | 1, 4, _, _, s, t, hs, ht => ⟨"float", "float.__ge__", ty_flt, by decide, typeOf_float, by decide +kernel, fc_float_ge, rfl, bi_float_ge_ni (nonF_obj dict_prim) (nonI_obj dict_prim)⟩
  | 2, 0, _, _, s, t, hs, ht => ⟨"str", "str.__ge__", ty_str, by decide, typeOf_str, by decide +kernel, fc_str_ge, rfl, bi_str_ge_ni nonS_int⟩
  | 2, 1, _, _, s, t, hs, ht => ⟨"str", "str.__ge__", ty_str, by decide, typeOf_str, by decide +kernel, fc_str_ge, rfl, bi_str_ge_ni nonS_flt⟩
  | 2, 2, _, _, s, t, hs, ht => ⟨"str", "str.__ge__", ty_str, by decide, typeOf_str, by decide +kernel, fc_str_ge, rfl, bi_val_eq (bi_ss_ge (mod26 s) (mod26 t)) (by show Value.bool _ = Value.bool _; congr 1; rw [Bool.eq_iff_iff]; simp [sizeK] <;> omega)⟩
  | 2, 3, _, _, s, t, hs, ht => ⟨"str", "str.__ge__", ty_str, by decide, typeOf_str, by decide +kernel, fc_str_ge, rfl, bi_str_ge_ni nonS_none⟩
  | 2, 4, _, _, s, t, hs, ht => ⟨"str", "str.__ge__", ty_str, by decide, typeOf_str, by decide +kernel, fc_str_ge, rfl, bi_str_ge_ni (nonS_obj dict_prim)⟩
  | 3, 0, _, _, s, t, hs, ht => ⟨"NoneType", "NoneType.__ge__", ty_none, by decide, typeOf_NoneType, by decide +kernel, fc_NoneType_ge, rfl, bi_none_ge_ni⟩
  | 3, 1, _, _, s, t, hs, ht => ⟨"NoneType", "NoneType.__ge__", ty_none, by decide, typeOf_NoneType, by decide +kernel, fc_NoneType_ge, rfl, bi_none_ge_ni⟩
  | 3, 2, _, _, s, t, hs, ht => ⟨"NoneType", "NoneType.__ge__", ty_none, by decide, typeOf_NoneType, by decide +kernel, fc_NoneType_ge, rfl, bi_none_ge_ni⟩
  | 3, 3, _, _, s, t, hs, ht => ⟨"NoneType", "NoneType.__ge__", ty_none, by decide, typeOf_NoneType, by decide +kernel, fc_NoneType_ge, rfl, bi_none_ge_ni⟩
  | 3, 4, _, _, s, t, hs, ht => ⟨"NoneType", "NoneType.__ge__", ty_none, by decide, typeOf_NoneType, by decide +kernel, fc_NoneType_ge, rfl, bi_none_ge_ni⟩
  | 4, 0, _, _, s, t, hs, ht => ⟨"dict", "dict.__ge__", (ty_obj fun o h => h.1), by decide, typeOf_dict, by decide +kernel, fc_dict_ge, rfl, bi_dict_ge_ni fun o h => h.1⟩
  | 4, 1, _, _, s, t, hs, ht => ⟨"dict", "dict.__ge__", (ty_obj fun o h => h.1), by decide, typeOf_dict, by decide +kernel, fc_dict_ge, rfl, bi_dict_ge_ni fun o h => h.1⟩
  | 4, 2, _, _, s, t, hs, ht => ⟨"dict", "dict.__ge__", (ty_obj fun o h => h.1), by decide, typeOf_dict, by decide +kernel, fc_dict_ge, rfl, bi_dict_ge_ni fun o h => h.1⟩
  | 4, 3, _, _, s, t, hs, ht => ⟨"dict", "dict.__ge__", (ty_obj fun o h => h.1), by decide, typeOf_dict, by decide +kernel, fc_dict_ge, rfl, bi_dict_ge_ni fun o h => h.1⟩
  | 4, 4, _, _, s, t, hs, ht => ⟨"dict", "dict.__ge__", (ty_obj fun o h => h.1), by decide, typeOf_dict, by decide +kernel, fc_dict_ge, rfl, bi_dict_ge_ni fun o h => h.1⟩
  | _ + 5, _, h, _, _, _, _, _ => absurd h (by omega)
  | _, _ + 5, _, h, _, _, _, _ => absurd h (by omega)
theorem cmpK_eq : ∀ (k j : Nat) (hk : okK k j = true) {s t : Int} (hs : 0 ≤ s ∧ s < 64) (ht : 0 ≤ t ∧ t < 64), Cmp B n .Eq (thingK k s) (thingK j t) (((sizeK k s).2 == (sizeK j t).2))
  | 0, 0, _, s, t, hs, ht => cmp_p cmp_eq (by show (s == t) = ((2 * s == 2 * t)); rw [Bool.eq_iff_iff]; simp <;> omega)
  | 1, 1, _, s, t, hs, ht => cmp_ff_eq hs.1 hs.2 ht.1 ht.2
  | 1, 0, _, s, t, hs, ht => cmp_fi_eq hs.1 hs.2 ht.1 ht.2
  | 2, 2, _, s, t, hs, ht => cmp_p (cmp_ss_eq (mod26 s) (mod26 t)) (by show ((97 + s.fmod 26 == 97 + t.fmod 26)) = ((s.fmod 26 == t.fmod 26)); rw [Bool.eq_iff_iff]; simp <;> omega)
theorem cmpK_ne : ∀ (k j : Nat) (hk : okK k j = true) {s t : Int} (hs : 0 ≤ s ∧ s < 64) (ht : 0 ≤ t ∧ t < 64), Cmp B n .NotEq (thingK k s) (thingK j t) (!((sizeK k s).2 == (sizeK j t).2))
  | 0, 0, _, s, t, hs, ht => cmp_p cmp_ne (by show (s != t) = (!(2 * s == 2 * t)); rw [Bool.eq_iff_iff]; simp <;> omega)
  | 1, 1, _, s, t, hs, ht => cmp_ff_ne hs.1 hs.2 ht.1 ht.2
  | 1, 0, _, s, t, hs, ht => cmp_fi_ne hs.1 hs.2 ht.1 ht.2
  | 2, 2, _, s, t, hs, ht => cmp_p (cmp_ss_ne (mod26 s) (mod26 t)) (by show (!(97 + s.fmod 26 == 97 + t.fmod 26)) = (!(s.fmod 26 == t.fmod 26)); rw [Bool.eq_iff_iff]; simp <;> omega)
end

def ahead (m n : Int) : Bool := pairLt (sizeP m) (sizeP n)
theorem ahead_ok {k j : Nat} (h : okK k j = true) (s t : Int) : decide ((sizeK k s).2 < (sizeK j t).2) = pairLt (sizeK k s) (sizeK j t) := by
  match k, j, h with
  | 0, 0, _ => simp [sizeK, pairLt]
  | 1, 1, _ => simp [sizeK, pairLt]
  | 1, 0, _ => simp [sizeK, pairLt]
  | 2, 2, _ => simp [sizeK, pairLt]
theorem ahead_ko {k j : Nat} (hk : k < 5) (hj : j < 5) (h : okK k j = false) (h' : okK j k = false) (s t : Int) : decide ((sizeK k s).1 < (sizeK j t).1) = pairLt (sizeK k s) (sizeK j t) := by
  have hk' : k = 0 ∨ k = 1 ∨ k = 2 ∨ k = 3 ∨ k = 4 := by omega
  have hj' : j = 0 ∨ j = 1 ∨ j = 2 ∨ j = 3 ∨ j = 4 := by omega
  rcases hk' with rfl | rfl | rfl | rfl | rfl <;> rcases hj' with rfl | rfl | rfl | rfl | rfl <;> first | (exact absurd h (by decide)) | (exact absurd h' (by decide)) | (simp [sizeK, pairLt])
theorem ahead_rev {k j : Nat} (h : okK k j = false) (h' : okK j k = true) (s t : Int) : (!decide ((sizeK j t).2 ≤ (sizeK k s).2)) = pairLt (sizeK k s) (sizeK j t) := by
  match j, k, h', h with
  | 0, 0, _, h => exact absurd h (by decide)
  | 1, 1, _, h => exact absurd h (by decide)
  | 2, 2, _, h => exact absurd h (by decide)
  | 1, 0, _, _ =>
    simp only [sizeK, pairLt, beq_self_eq_true, if_true]
    rw [Bool.eq_iff_iff]; simp
/-- where a number is laid in -/
def insPos (f : Int → Bool) (row : List Int) : Nat → Nat
  | 0 => 0
  | k + 1 => if f (row.getD k 0) then insPos f row k else k + 1
theorem insPos_le (f : Int → Bool) (row : List Int) : ∀ k, insPos f row k ≤ k
  | 0 => Nat.le_refl _
  | k + 1 => by unfold insPos; split; exact Nat.le_trans (insPos_le f row k) (Nat.le_succ k); exact Nat.le_refl _
theorem insPos_above (f : Int → Bool) (row : List Int) : ∀ k j, insPos f row k ≤ j → j < k → f (row.getD j 0) = true
  | 0, j, _, h => absurd h (by omega)
  | k + 1, j, h1, h2 => by
    unfold insPos at h1
    split at h1
    · rename_i hf
      by_cases e : j = k
      · subst e; exact hf
      · exact insPos_above f row k j h1 (by omega)
    · omega
theorem insPos_below (f : Int → Bool) (row : List Int) : ∀ k, 0 < insPos f row k → f (row.getD (insPos f row k - 1) 0) = false
  | 0, h => absurd h (by simp [insPos])
  | k + 1, h => by
    unfold insPos at h ⊢
    split
    · rename_i hf
      rw [if_pos hf] at h
      exact insPos_below f row k h
    · rename_i hf
      simpa using hf
def insAt (row : List Int) (k : Nat) (c : Int) : List Int := row.take k ++ c :: row.drop k
def num (nb : List Int) (i : Int) : Int := nb.getD i.toNat 0
def rowTo (nb : List Int) : Nat → List Int
  | 0 => []
  | c + 1 => insAt (rowTo nb c) (insPos (fun r => ahead (num nb c) (num nb r)) (rowTo nb c) (rowTo nb c).length) c
def keyI (nb : List Int) (i : Int) : List Int := keyN (sizeP (num nb i), i)
theorem rowTo_perm (nb : List Int) : ∀ c, (rowTo nb c).Perm ((List.range c).map fun (k : Nat) => (k : Int))
  | 0 => List.Perm.refl _
  | c + 1 => by
    rw [List.range_succ, List.map_append]
    unfold rowTo insAt
    refine List.Perm.trans List.perm_middle ?_
    rw [List.take_append_drop]
    exact (List.Perm.cons _ (rowTo_perm nb c)).trans (List.perm_append_singleton _ _).symm
theorem rowTo_length (nb : List Int) (c : Nat) : (rowTo nb c).length = c := by rw [(rowTo_perm nb c).length_eq]; simp
theorem rowTo_in (nb : List Int) (c : Nat) : ∀ i ∈ rowTo nb c, 0 ≤ i ∧ i < c := by
  intro i hi
  have := (rowTo_perm nb c).mem_iff.mp hi
  simp only [List.mem_map, List.mem_range] at this
  obtain ⟨k, hk, rfl⟩ := this
  omega
theorem key_ahead {nb : List Int} {i j : Int} (h : ahead (num nb i) (num nb j) = true) : lexLt (keyI nb j) (keyI nb i) = false := by
  have : lexLt (keyI nb i) (keyI nb j) = true := by
    unfold keyI
    rw [lexLt_key]
    unfold ahead at h
    have : (sizeP (num nb i) == sizeP (num nb j)) = false := by
      rw [beq_eq_false_iff_ne]; intro e
      rw [e] at h
      simp [pairLt] at h
    rw [this]; exact h
  exact lexLt_asym _ _ this
theorem key_behind {nb : List Int} {i j : Int} (h : ahead (num nb i) (num nb j) = false) (hij : j < i) : lexLt (keyI nb i) (keyI nb j) = false := by
  unfold keyI
  rw [lexLt_key]
  unfold ahead at h
  dsimp only
  split
  · exact decide_eq_false (by omega)
  · exact h
theorem rowTo_sorted (nb : List Int) : ∀ c, ((rowTo nb c).map (keyI nb)).Pairwise fun a b => lexLt b a = false
  | 0 => List.Pairwise.nil
  | c + 1 => by
    have ih := rowTo_sorted nb c
    have hin := rowTo_in nb c
    rw [List.pairwise_map] at ih ⊢
    unfold rowTo insAt
    generalize hf : (fun r => ahead (num nb c) (num nb r)) = f
    generalize hk : insPos f (rowTo nb c) (rowTo nb c).length = k
    have hkl : k ≤ (rowTo nb c).length := hk ▸ insPos_le _ _ _
    generalize rowTo nb c = row at *
    have ih2 := ih
    rw [← List.take_append_drop k row, List.pairwise_append] at ih2
    obtain ⟨p1, p2, p3⟩ := ih2
    rw [List.pairwise_append]
    refine ⟨p1, List.pairwise_cons.mpr ⟨fun b hb => ?_, p2⟩, fun a ha b hb => ?_⟩
    · -- those behind
      obtain ⟨m, hm, rfl⟩ := List.mem_iff_getElem.mp hb
      rw [List.getElem_drop]
      rw [List.length_drop] at hm
      have := insPos_above f row row.length (k + m) (by omega) (by omega)
      rw [List.getD_eq_getElem?_getD, List.getElem?_eq_getElem (by omega)] at this
      rw [← hf] at this
      exact key_ahead this
    · rcases List.mem_cons.mp hb with rfl | hb
      · obtain ⟨m, hm, rfl⟩ := List.mem_iff_getElem.mp ha
        rw [List.length_take] at hm
        rw [List.getElem_take]
        have h0 : 0 < k := by omega
        have hb := insPos_below f row row.length (by omega)
        rw [hk, List.getD_eq_getElem?_getD, List.getElem?_eq_getElem (by omega), ← hf] at hb
        have hlast := key_behind (i := (c : Int)) hb (hin _ (List.getElem_mem _)).2
        by_cases e : m = k - 1
        · subst e; exact hlast
        · have := List.pairwise_iff_getElem.mp ih m (k - 1) (by omega) (by omega) (by omega)
          exact lexLt_trans _ _ _ hlast this
      · exact p3 a ha b hb
def pairsOf (nb : List Int) : List ((Int × Int) × Int) := (List.range nb.length).map fun (k : Nat) => (sizeP (nb.getD k 0), (k : Int))
theorem row_law (nb : List Int) : rowTo nb nb.length = (sortN (pairsOf nb)).map (·.2) := by
  have h1 : ((rowTo nb nb.length).map (keyI nb)).Perm ((pairsOf nb).map keyN) := by
    have := (rowTo_perm nb nb.length).map (keyI nb)
    refine this.trans ?_
    unfold pairsOf
    rw [List.map_map, List.map_map]
    refine List.Perm.of_eq (List.map_congr_left fun k _ => ?_)
    simp [keyI, num]
  have h2 := sorted_unique (h1.trans (sortL_perm ((pairsOf nb).map keyN)).symm) (rowTo_sorted nb nb.length) (sortL_sorted _)
  rw [← keyN_sortN] at h2
  have h3 := congrArg (List.map fun l : List Int => l.getD 2 0) h2
  rw [List.map_map, List.map_map] at h3
  have e1 : ((fun l : List Int => l.getD 2 0) ∘ keyI nb) = id := by funext i; rfl
  have e2 : ((fun l : List Int => l.getD 2 0) ∘ keyN) = fun q => q.2 := by funext q; rfl
  rw [e1, e2, List.map_id] at h3
  exact h3

abbrev pw := PySem.Challenge.pw_dm0115_09
local macro_rules | `(tactic| walk_at "lk") => `(tactic| rfl)
local macro_rules | `(tactic| walk_at "gk") => `(tactic| first | exact FEnv.glob (by assumption) (by decide +kernel) | exact CEnv.glob (by assumption) _ (by decide +kernel))
local macro_rules | `(tactic| walk_at "st") => `(tactic| first | exact FEnv.sl (by assumption) (by decide +kernel) | exact FEnv.sc (by assumption) (by decide +kernel) | exact CEnv.sl (by assumption) (by decide +kernel))
local macro_rules | `(tactic| walk_at "ty") => `(tactic| first | exact ty_int | exact ty_bool | exact ty_list | exact ty_tuple | exact ty_str)
local macro_rules | `(tactic| walk_at "w") => `(tactic| first | ((with_reducible show EvW _ _ _ _ (Expr.Name _ _) _); exact Ev.weak (ev_name (by walk_at "lk"))) | ((with_reducible show EvW _ _ _ _ (Expr.Name _ _) _); exact evw_own (by walk_at "lk")) | exact Ev.weak (by walk_at "ev"))
local macro_rules | `(tactic| walk_at "aw") => `(tactic| first | ((with_reducible show EvAsW _ _ _ _ [] _); exact evasw_nil) | exact evasw_cons (by walk_at "w") (by walk_at "aw"))
local macro_rules | `(tactic| walk_at "as") => `(tactic| first | ((with_reducible show EvAs _ _ _ _ [] _); exact evas_nil) | exact evas_cons (by walk_at "ev") (by walk_at "as"))
local macro_rules | `(tactic| walk_at "ar") => `(tactic| first | assumption | decide | omega | (simp; done) | (simp; omega))
local macro_rules | `(tactic| walk_at "n") => `(tactic| first | ((with_reducible show EvN _ _ _ _ (Expr.List _ _) _); exact evn_list (by walk_at "as") (by walk_at "ar")) | ((with_reducible show EvN _ _ _ _ (Expr.BinOp _ Operator.Add _ _) _); exact evn_add (by walk_at "ev") (by walk_at "ev") (by walk_at "ar")))
local macro_rules | `(tactic| walk_at "tr") => `(tactic| first | exact tru_bool | exact tru_int)
local macro_rules | `(tactic| walk_at "t") => `(tactic| first | ((with_reducible show Tst _ _ _ _ (Expr.Compare _ [_] [_] _) _); exact tst_cmp (by walk_at "w") (by walk_at "w") (by walk_at "cmp")) | ((with_reducible show Tst _ _ _ _ (Expr.UnaryOp UnaryOp.Not _ _) _); exact tst_not (by walk_at "t")) | exact tst_ev (by walk_at "w") (by walk_at "tr"))
local macro_rules | `(tactic| walk_at "cmp") => `(tactic| first | ((with_reducible show Cmp _ _ CmpOp.Eq _ _ _); exact cmp_eq) | ((with_reducible show Cmp _ _ CmpOp.NotEq _ _ _); exact cmp_ne) | ((with_reducible show Cmp _ _ CmpOp.Lt _ _ _); exact cmp_lt) | ((with_reducible show Cmp _ _ CmpOp.LtE _ _ _); exact cmp_le) | ((with_reducible show Cmp _ _ CmpOp.Gt _ _ _); exact cmp_gt) | ((with_reducible show Cmp _ _ CmpOp.GtE _ _ _); exact cmp_ge) | ((with_reducible show Cmp _ _ CmpOp.Is _ _ _); exact cmp_is_bool_ni) | ((with_reducible show Cmp _ _ CmpOp.Is _ _ _); exact cmp_is_ni_ni))
local macro_rules | `(tactic| walk_at "ev") => `(tactic| first
  | ((with_reducible show Ev _ _ _ _ (Expr.Constant (Const.int _) _ _) _); exact ev_int)
  | ((with_reducible show Ev _ _ _ _ (Expr.Constant (Const.bool _) _ _) _); exact ev_bool)
  | ((with_reducible show Ev _ _ _ _ (Expr.Constant Const.none _ _) _); exact ev_none)
  | ((with_reducible show Ev _ _ _ _ (Expr.Constant (Const.str _) _ _) _); exact ev_str)
  | ((with_reducible show Ev _ _ _ _ (Expr.Name (S "NotImplemented") _) _); exact ev_ni (by assumption) (by walk_at "gk"))
  | ((with_reducible show Ev _ _ _ _ (Expr.Name _ _) _); exact ev_name (by walk_at "lk"))
  | ((with_reducible show Ev _ _ _ _ (Expr.Call (Expr.Name (S "type") _) _ _ _) _); exact ev_type (by assumption) (by walk_at "gk") (by walk_at "w") (by walk_at "ty"))
  | ((with_reducible show Ev _ _ _ _ (Expr.Call (Expr.Name (S "len") _) _ _ _) _); exact ev_len (by assumption) (by walk_at "gk") (by walk_at "w") (by walk_at "ar"))
  | ((with_reducible show Ev _ _ _ _ (Expr.Call (Expr.Name (S "abs") _) _ _ _) _); exact ev_abs (by assumption) (by walk_at "gk") (by walk_at "w"))
  | ((with_reducible show Ev _ _ _ _ (Expr.Call (Expr.Name (S "range") _) [_] _ _) _); exact ev_rng1 (by assumption) (by walk_at "gk") (by walk_at "w"))
  | ((with_reducible show Ev _ _ _ _ (Expr.Call (Expr.Name (S "range") _) [_, _] _ _) _); exact ev_rng2 (by assumption) (by walk_at "gk") (by walk_at "w") (by walk_at "w"))
  | ((with_reducible show Ev _ _ _ _ (Expr.Call (Expr.Name (S "min") _) [_, _] _ _) _); exact ev_min2 (by assumption) (by walk_at "gk") (by walk_at "w") (by walk_at "w"))
  | ((with_reducible show Ev _ _ _ _ (Expr.Call (Expr.Name (S "max") _) [_, _] _ _) _); exact ev_max2 (by assumption) (by walk_at "gk") (by walk_at "w") (by walk_at "w"))
  | ((with_reducible show Ev _ _ _ _ (Expr.UnaryOp UnaryOp.USub _ _) _); exact ev_neg (by walk_at "w"))
  | ((with_reducible show Ev _ _ _ _ (Expr.UnaryOp UnaryOp.Not _ _) _); exact ev_not (by walk_at "w") (by walk_at "tr"))
  | ((with_reducible show Ev _ _ _ _ (Expr.BinOp _ Operator.Add _ _) _); exact ev_bin (by walk_at "w") (by walk_at "w") bin_add)
  | ((with_reducible show Ev _ _ _ _ (Expr.BinOp _ Operator.Sub _ _) _); exact ev_bin (by walk_at "w") (by walk_at "w") bin_sub)
  | ((with_reducible show Ev _ _ _ _ (Expr.BinOp _ Operator.BitAnd _ _) _); exact ev_bin (by walk_at "w") (by walk_at "w") bin_and)
  | ((with_reducible show Ev _ _ _ _ (Expr.BinOp _ Operator.FloorDiv _ _) _); exact ev_bin (by walk_at "w") (by walk_at "w") (bin_div (by walk_at "ar") (by walk_at "ar")))
  | ((with_reducible show Ev _ _ _ _ (Expr.UnaryOp UnaryOp.Invert _ _) _); exact ev_inv (by walk_at "w"))
  | ((with_reducible show Ev _ _ _ _ (Expr.BinOp _ Operator.Mod _ _) _); exact ev_bin (by walk_at "w") (by walk_at "w") (bin_mod (by walk_at "ar")))
  | ((with_reducible show Ev _ _ _ _ (Expr.BinOp _ Operator.RShift _ _) _); exact ev_bin (by walk_at "w") (by walk_at "w") (bin_shr (by walk_at "ar")))
  | ((with_reducible show Ev _ _ _ _ (Expr.BinOp _ Operator.Pow _ _) _); exact ev_bin (by walk_at "w") (by walk_at "w") (bin_pow (by walk_at "ar") (by walk_at "ar") (by walk_at "ar")))
  | ((with_reducible show Ev _ _ _ _ (Expr.Compare _ [_] [_] _) _); exact ev_cmp (by walk_at "w") (by walk_at "w") (by walk_at "cmp"))
  | ((with_reducible show Ev _ _ _ _ (Expr.Tuple _ _ _) _); exact ev_tuple (by walk_at "as") (by walk_at "ar"))
  | exact EvN.ev (by walk_at "n"))
theorem made_gt_lt {B : Bas} (fr : Free B) {n : Nat} {a : Addr} (F : HasDef B "_gt_from_lt" a (defAt pw 1)) {dS dO : D} {t u : Bool} (x : Dun B n "__lt__" dS dO (.bool t)) (c : Cmp B n .NotEq dS dO u) : FnS B (n + 1) a [dS, dO] (.bool (!t && u)) := by
  refine fns_of (xs := ["self", "other"]) F.fn rfl (fun pm cd doc vs hvs => ?_) rfl (by decide) (by decide +kernel) fun env fe => ?_
  · match vs, hvs with
    | [v, w], _ => rfl
  · show Ex B n env [("self", .val dS), ("other", .val dO)] _ _
    refine ex_cons (ex_assign (d := .val (.bool t)) (by walk_at "st") (ev_dun fr (by walk_at "gk") rfl rfl x) ?_ (by rfl))
    refine ex_cons (ex_if (t := false) (tst_cmp (by walk_at "w") (by walk_at "w") cmp_is_bool_ni) (fun h => nomatch h) fun _ => ex_nil ?_)
    refine ex_cons (ex_return (Ev.ret (ev_and (ev_not (by walk_at "w") tru_bool) fun _ => ev_cmp (by walk_at "w") (by walk_at "w") c)) ?_)
    rfl
theorem made_gt_lt_ni {B : Bas} (fr : Free B) {n : Nat} {a : Addr} (F : HasDef B "_gt_from_lt" a (defAt pw 1)) {dS dO : D} (x : Dun B n "__lt__" dS dO .notImplemented) : FnS B (n + 1) a [dS, dO] (.val .notImplemented) := by
  refine fns_of (xs := ["self", "other"]) F.fn rfl (fun pm cd doc vs hvs => ?_) rfl (by decide) (by decide +kernel) fun env fe => ?_
  · match vs, hvs with
    | [v, w], _ => rfl
  · show Ex B n env [("self", .val dS), ("other", .val dO)] _ _
    refine ex_cons (ex_assign (d := .val .notImplemented) (by walk_at "st") (ev_dun fr (by walk_at "gk") rfl rfl x) ?_ (by rfl))
    refine ex_cons (ex_if (t := true) (tst_cmp (by walk_at "w") (by walk_at "w") cmp_is_ni_ni) (fun _ => ex_cons (ex_return (Ev.ret (by walk_at "ev")) ?_)) fun h => nomatch h)
    rfl
theorem made_le_lt {B : Bas} (fr : Free B) {n : Nat} {a : Addr} (F : HasDef B "_le_from_lt" a (defAt pw 2)) {dS dO : D} {t u : Bool} (x : Dun B n "__lt__" dS dO (.bool t)) (c : Cmp B n .Eq dS dO u) : FnS B (n + 1) a [dS, dO] (.bool (t || u)) := by
  refine fns_of (xs := ["self", "other"]) F.fn rfl (fun pm cd doc vs hvs => ?_) rfl (by decide) (by decide +kernel) fun env fe => ?_
  · match vs, hvs with
    | [v, w], _ => rfl
  · show Ex B n env [("self", .val dS), ("other", .val dO)] _ _
    refine ex_cons (ex_assign (d := .val (.bool t)) (by walk_at "st") (ev_dun fr (by walk_at "gk") rfl rfl x) ?_ (by rfl))
    refine ex_cons (ex_if (t := false) (tst_cmp (by walk_at "w") (by walk_at "w") cmp_is_bool_ni) (fun h => nomatch h) fun _ => ex_nil ?_)
    refine ex_cons (ex_return (Ev.ret (ev_or (by walk_at "ev") fun _ => ev_cmp (by walk_at "w") (by walk_at "w") c)) ?_)
    rfl
theorem made_le_lt_ni {B : Bas} (fr : Free B) {n : Nat} {a : Addr} (F : HasDef B "_le_from_lt" a (defAt pw 2)) {dS dO : D} (x : Dun B n "__lt__" dS dO .notImplemented) : FnS B (n + 1) a [dS, dO] (.val .notImplemented) := by
  refine fns_of (xs := ["self", "other"]) F.fn rfl (fun pm cd doc vs hvs => ?_) rfl (by decide) (by decide +kernel) fun env fe => ?_
  · match vs, hvs with
    | [v, w], _ => rfl
  · show Ex B n env [("self", .val dS), ("other", .val dO)] _ _
    refine ex_cons (ex_assign (d := .val .notImplemented) (by walk_at "st") (ev_dun fr (by walk_at "gk") rfl rfl x) ?_ (by rfl))
    refine ex_cons (ex_if (t := true) (tst_cmp (by walk_at "w") (by walk_at "w") cmp_is_ni_ni) (fun _ => ex_cons (ex_return (Ev.ret (by walk_at "ev")) ?_)) fun h => nomatch h)
    rfl
theorem made_ge_lt {B : Bas} (fr : Free B) {n : Nat} {a : Addr} (F : HasDef B "_ge_from_lt" a (defAt pw 3)) {dS dO : D} {t : Bool} (x : Dun B n "__lt__" dS dO (.bool t)) : FnS B (n + 1) a [dS, dO] (.bool (!t)) := by
  refine fns_of (xs := ["self", "other"]) F.fn rfl (fun pm cd doc vs hvs => ?_) rfl (by decide) (by decide +kernel) fun env fe => ?_
  · match vs, hvs with
    | [v, w], _ => rfl
  · show Ex B n env [("self", .val dS), ("other", .val dO)] _ _
    refine ex_cons (ex_assign (d := .val (.bool t)) (by walk_at "st") (ev_dun fr (by walk_at "gk") rfl rfl x) ?_ (by rfl))
    refine ex_cons (ex_if (t := false) (tst_cmp (by walk_at "w") (by walk_at "w") cmp_is_bool_ni) (fun h => nomatch h) fun _ => ex_nil ?_)
    refine ex_cons (ex_return (Ev.ret (ev_not (by walk_at "w") tru_bool)) ?_)
    rfl
theorem made_ge_lt_ni {B : Bas} (fr : Free B) {n : Nat} {a : Addr} (F : HasDef B "_ge_from_lt" a (defAt pw 3)) {dS dO : D} (x : Dun B n "__lt__" dS dO .notImplemented) : FnS B (n + 1) a [dS, dO] (.val .notImplemented) := by
  refine fns_of (xs := ["self", "other"]) F.fn rfl (fun pm cd doc vs hvs => ?_) rfl (by decide) (by decide +kernel) fun env fe => ?_
  · match vs, hvs with
    | [v, w], _ => rfl
  · show Ex B n env [("self", .val dS), ("other", .val dO)] _ _
    refine ex_cons (ex_assign (d := .val .notImplemented) (by walk_at "st") (ev_dun fr (by walk_at "gk") rfl rfl x) ?_ (by rfl))
    refine ex_cons (ex_if (t := true) (tst_cmp (by walk_at "w") (by walk_at "w") cmp_is_ni_ni) (fun _ => ex_cons (ex_return (Ev.ret (by walk_at "ev")) ?_)) fun h => nomatch h)
    rfl
theorem made_ge_le {B : Bas} (fr : Free B) {n : Nat} {a : Addr} (F : HasDef B "_ge_from_le" a (defAt pw 4)) {dS dO : D} {t u : Bool} (x : Dun B n "__le__" dS dO (.bool t)) (c : Cmp B n .Eq dS dO u) : FnS B (n + 1) a [dS, dO] (.bool (!t || u)) := by
  refine fns_of (xs := ["self", "other"]) F.fn rfl (fun pm cd doc vs hvs => ?_) rfl (by decide) (by decide +kernel) fun env fe => ?_
  · match vs, hvs with
    | [v, w], _ => rfl
  · show Ex B n env [("self", .val dS), ("other", .val dO)] _ _
    refine ex_cons (ex_assign (d := .val (.bool t)) (by walk_at "st") (ev_dun fr (by walk_at "gk") rfl rfl x) ?_ (by rfl))
    refine ex_cons (ex_if (t := false) (tst_cmp (by walk_at "w") (by walk_at "w") cmp_is_bool_ni) (fun h => nomatch h) fun _ => ex_nil ?_)
    refine ex_cons (ex_return (Ev.ret (ev_or (ev_not (by walk_at "w") tru_bool) fun _ => ev_cmp (by walk_at "w") (by walk_at "w") c)) ?_)
    rfl
theorem made_ge_le_ni {B : Bas} (fr : Free B) {n : Nat} {a : Addr} (F : HasDef B "_ge_from_le" a (defAt pw 4)) {dS dO : D} (x : Dun B n "__le__" dS dO .notImplemented) : FnS B (n + 1) a [dS, dO] (.val .notImplemented) := by
  refine fns_of (xs := ["self", "other"]) F.fn rfl (fun pm cd doc vs hvs => ?_) rfl (by decide) (by decide +kernel) fun env fe => ?_
  · match vs, hvs with
    | [v, w], _ => rfl
  · show Ex B n env [("self", .val dS), ("other", .val dO)] _ _
    refine ex_cons (ex_assign (d := .val .notImplemented) (by walk_at "st") (ev_dun fr (by walk_at "gk") rfl rfl x) ?_ (by rfl))
    refine ex_cons (ex_if (t := true) (tst_cmp (by walk_at "w") (by walk_at "w") cmp_is_ni_ni) (fun _ => ex_cons (ex_return (Ev.ret (by walk_at "ev")) ?_)) fun h => nomatch h)
    rfl
theorem made_lt_le {B : Bas} (fr : Free B) {n : Nat} {a : Addr} (F : HasDef B "_lt_from_le" a (defAt pw 5)) {dS dO : D} {t u : Bool} (x : Dun B n "__le__" dS dO (.bool t)) (c : Cmp B n .NotEq dS dO u) : FnS B (n + 1) a [dS, dO] (.bool (t && u)) := by
  refine fns_of (xs := ["self", "other"]) F.fn rfl (fun pm cd doc vs hvs => ?_) rfl (by decide) (by decide +kernel) fun env fe => ?_
  · match vs, hvs with
    | [v, w], _ => rfl
  · show Ex B n env [("self", .val dS), ("other", .val dO)] _ _
    refine ex_cons (ex_assign (d := .val (.bool t)) (by walk_at "st") (ev_dun fr (by walk_at "gk") rfl rfl x) ?_ (by rfl))
    refine ex_cons (ex_if (t := false) (tst_cmp (by walk_at "w") (by walk_at "w") cmp_is_bool_ni) (fun h => nomatch h) fun _ => ex_nil ?_)
    refine ex_cons (ex_return (Ev.ret (ev_and (by walk_at "ev") fun _ => ev_cmp (by walk_at "w") (by walk_at "w") c)) ?_)
    rfl
theorem made_lt_le_ni {B : Bas} (fr : Free B) {n : Nat} {a : Addr} (F : HasDef B "_lt_from_le" a (defAt pw 5)) {dS dO : D} (x : Dun B n "__le__" dS dO .notImplemented) : FnS B (n + 1) a [dS, dO] (.val .notImplemented) := by
  refine fns_of (xs := ["self", "other"]) F.fn rfl (fun pm cd doc vs hvs => ?_) rfl (by decide) (by decide +kernel) fun env fe => ?_
  · match vs, hvs with
    | [v, w], _ => rfl
  · show Ex B n env [("self", .val dS), ("other", .val dO)] _ _
    refine ex_cons (ex_assign (d := .val .notImplemented) (by walk_at "st") (ev_dun fr (by walk_at "gk") rfl rfl x) ?_ (by rfl))
    refine ex_cons (ex_if (t := true) (tst_cmp (by walk_at "w") (by walk_at "w") cmp_is_ni_ni) (fun _ => ex_cons (ex_return (Ev.ret (by walk_at "ev")) ?_)) fun h => nomatch h)
    rfl
theorem made_gt_le {B : Bas} (fr : Free B) {n : Nat} {a : Addr} (F : HasDef B "_gt_from_le" a (defAt pw 6)) {dS dO : D} {t : Bool} (x : Dun B n "__le__" dS dO (.bool t)) : FnS B (n + 1) a [dS, dO] (.bool (!t)) := by
  refine fns_of (xs := ["self", "other"]) F.fn rfl (fun pm cd doc vs hvs => ?_) rfl (by decide) (by decide +kernel) fun env fe => ?_
  · match vs, hvs with
    | [v, w], _ => rfl
  · show Ex B n env [("self", .val dS), ("other", .val dO)] _ _
    refine ex_cons (ex_assign (d := .val (.bool t)) (by walk_at "st") (ev_dun fr (by walk_at "gk") rfl rfl x) ?_ (by rfl))
    refine ex_cons (ex_if (t := false) (tst_cmp (by walk_at "w") (by walk_at "w") cmp_is_bool_ni) (fun h => nomatch h) fun _ => ex_nil ?_)
    refine ex_cons (ex_return (Ev.ret (ev_not (by walk_at "w") tru_bool)) ?_)
    rfl
theorem made_gt_le_ni {B : Bas} (fr : Free B) {n : Nat} {a : Addr} (F : HasDef B "_gt_from_le" a (defAt pw 6)) {dS dO : D} (x : Dun B n "__le__" dS dO .notImplemented) : FnS B (n + 1) a [dS, dO] (.val .notImplemented) := by
  refine fns_of (xs := ["self", "other"]) F.fn rfl (fun pm cd doc vs hvs => ?_) rfl (by decide) (by decide +kernel) fun env fe => ?_
  · match vs, hvs with
    | [v, w], _ => rfl
  · show Ex B n env [("self", .val dS), ("other", .val dO)] _ _
    refine ex_cons (ex_assign (d := .val .notImplemented) (by walk_at "st") (ev_dun fr (by walk_at "gk") rfl rfl x) ?_ (by rfl))
    refine ex_cons (ex_if (t := true) (tst_cmp (by walk_at "w") (by walk_at "w") cmp_is_ni_ni) (fun _ => ex_cons (ex_return (Ev.ret (by walk_at "ev")) ?_)) fun h => nomatch h)
    rfl
theorem made_lt_gt {B : Bas} (fr : Free B) {n : Nat} {a : Addr} (F : HasDef B "_lt_from_gt" a (defAt pw 7)) {dS dO : D} {t u : Bool} (x : Dun B n "__gt__" dS dO (.bool t)) (c : Cmp B n .NotEq dS dO u) : FnS B (n + 1) a [dS, dO] (.bool (!t && u)) := by
  refine fns_of (xs := ["self", "other"]) F.fn rfl (fun pm cd doc vs hvs => ?_) rfl (by decide) (by decide +kernel) fun env fe => ?_
  · match vs, hvs with
    | [v, w], _ => rfl
  · show Ex B n env [("self", .val dS), ("other", .val dO)] _ _
    refine ex_cons (ex_assign (d := .val (.bool t)) (by walk_at "st") (ev_dun fr (by walk_at "gk") rfl rfl x) ?_ (by rfl))
    refine ex_cons (ex_if (t := false) (tst_cmp (by walk_at "w") (by walk_at "w") cmp_is_bool_ni) (fun h => nomatch h) fun _ => ex_nil ?_)
    refine ex_cons (ex_return (Ev.ret (ev_and (ev_not (by walk_at "w") tru_bool) fun _ => ev_cmp (by walk_at "w") (by walk_at "w") c)) ?_)
    rfl
theorem made_lt_gt_ni {B : Bas} (fr : Free B) {n : Nat} {a : Addr} (F : HasDef B "_lt_from_gt" a (defAt pw 7)) {dS dO : D} (x : Dun B n "__gt__" dS dO .notImplemented) : FnS B (n + 1) a [dS, dO] (.val .notImplemented) := by
  refine fns_of (xs := ["self", "other"]) F.fn rfl (fun pm cd doc vs hvs => ?_) rfl (by decide) (by decide +kernel) fun env fe => ?_
  · match vs, hvs with
    | [v, w], _ => rfl
  · show Ex B n env [("self", .val dS), ("other", .val dO)] _ _
    refine ex_cons (ex_assign (d := .val .notImplemented) (by walk_at "st") (ev_dun fr (by walk_at "gk") rfl rfl x) ?_ (by rfl))
    refine ex_cons (ex_if (t := true) (tst_cmp (by walk_at "w") (by walk_at "w") cmp_is_ni_ni) (fun _ => ex_cons (ex_return (Ev.ret (by walk_at "ev")) ?_)) fun h => nomatch h)
    rfl
theorem made_ge_gt {B : Bas} (fr : Free B) {n : Nat} {a : Addr} (F : HasDef B "_ge_from_gt" a (defAt pw 8)) {dS dO : D} {t u : Bool} (x : Dun B n "__gt__" dS dO (.bool t)) (c : Cmp B n .Eq dS dO u) : FnS B (n + 1) a [dS, dO] (.bool (t || u)) := by
  refine fns_of (xs := ["self", "other"]) F.fn rfl (fun pm cd doc vs hvs => ?_) rfl (by decide) (by decide +kernel) fun env fe => ?_
  · match vs, hvs with
    | [v, w], _ => rfl
  · show Ex B n env [("self", .val dS), ("other", .val dO)] _ _
    refine ex_cons (ex_assign (d := .val (.bool t)) (by walk_at "st") (ev_dun fr (by walk_at "gk") rfl rfl x) ?_ (by rfl))
    refine ex_cons (ex_if (t := false) (tst_cmp (by walk_at "w") (by walk_at "w") cmp_is_bool_ni) (fun h => nomatch h) fun _ => ex_nil ?_)
    refine ex_cons (ex_return (Ev.ret (ev_or (by walk_at "ev") fun _ => ev_cmp (by walk_at "w") (by walk_at "w") c)) ?_)
    rfl
theorem made_ge_gt_ni {B : Bas} (fr : Free B) {n : Nat} {a : Addr} (F : HasDef B "_ge_from_gt" a (defAt pw 8)) {dS dO : D} (x : Dun B n "__gt__" dS dO .notImplemented) : FnS B (n + 1) a [dS, dO] (.val .notImplemented) := by
  refine fns_of (xs := ["self", "other"]) F.fn rfl (fun pm cd doc vs hvs => ?_) rfl (by decide) (by decide +kernel) fun env fe => ?_
  · match vs, hvs with
    | [v, w], _ => rfl
  · show Ex B n env [("self", .val dS), ("other", .val dO)] _ _
    refine ex_cons (ex_assign (d := .val .notImplemented) (by walk_at "st") (ev_dun fr (by walk_at "gk") rfl rfl x) ?_ (by rfl))
    refine ex_cons (ex_if (t := true) (tst_cmp (by walk_at "w") (by walk_at "w") cmp_is_ni_ni) (fun _ => ex_cons (ex_return (Ev.ret (by walk_at "ev")) ?_)) fun h => nomatch h)
    rfl
theorem made_le_gt {B : Bas} (fr : Free B) {n : Nat} {a : Addr} (F : HasDef B "_le_from_gt" a (defAt pw 9)) {dS dO : D} {t : Bool} (x : Dun B n "__gt__" dS dO (.bool t)) : FnS B (n + 1) a [dS, dO] (.bool (!t)) := by
  refine fns_of (xs := ["self", "other"]) F.fn rfl (fun pm cd doc vs hvs => ?_) rfl (by decide) (by decide +kernel) fun env fe => ?_
  · match vs, hvs with
    | [v, w], _ => rfl
  · show Ex B n env [("self", .val dS), ("other", .val dO)] _ _
    refine ex_cons (ex_assign (d := .val (.bool t)) (by walk_at "st") (ev_dun fr (by walk_at "gk") rfl rfl x) ?_ (by rfl))
    refine ex_cons (ex_if (t := false) (tst_cmp (by walk_at "w") (by walk_at "w") cmp_is_bool_ni) (fun h => nomatch h) fun _ => ex_nil ?_)
    refine ex_cons (ex_return (Ev.ret (ev_not (by walk_at "w") tru_bool)) ?_)
    rfl
theorem made_le_gt_ni {B : Bas} (fr : Free B) {n : Nat} {a : Addr} (F : HasDef B "_le_from_gt" a (defAt pw 9)) {dS dO : D} (x : Dun B n "__gt__" dS dO .notImplemented) : FnS B (n + 1) a [dS, dO] (.val .notImplemented) := by
  refine fns_of (xs := ["self", "other"]) F.fn rfl (fun pm cd doc vs hvs => ?_) rfl (by decide) (by decide +kernel) fun env fe => ?_
  · match vs, hvs with
    | [v, w], _ => rfl
  · show Ex B n env [("self", .val dS), ("other", .val dO)] _ _
    refine ex_cons (ex_assign (d := .val .notImplemented) (by walk_at "st") (ev_dun fr (by walk_at "gk") rfl rfl x) ?_ (by rfl))
    refine ex_cons (ex_if (t := true) (tst_cmp (by walk_at "w") (by walk_at "w") cmp_is_ni_ni) (fun _ => ex_cons (ex_return (Ev.ret (by walk_at "ev")) ?_)) fun h => nomatch h)
    rfl
theorem made_le_ge {B : Bas} (fr : Free B) {n : Nat} {a : Addr} (F : HasDef B "_le_from_ge" a (defAt pw 10)) {dS dO : D} {t u : Bool} (x : Dun B n "__ge__" dS dO (.bool t)) (c : Cmp B n .Eq dS dO u) : FnS B (n + 1) a [dS, dO] (.bool (!t || u)) := by
  refine fns_of (xs := ["self", "other"]) F.fn rfl (fun pm cd doc vs hvs => ?_) rfl (by decide) (by decide +kernel) fun env fe => ?_
  · match vs, hvs with
    | [v, w], _ => rfl
  · show Ex B n env [("self", .val dS), ("other", .val dO)] _ _
    refine ex_cons (ex_assign (d := .val (.bool t)) (by walk_at "st") (ev_dun fr (by walk_at "gk") rfl rfl x) ?_ (by rfl))
    refine ex_cons (ex_if (t := false) (tst_cmp (by walk_at "w") (by walk_at "w") cmp_is_bool_ni) (fun h => nomatch h) fun _ => ex_nil ?_)
    refine ex_cons (ex_return (Ev.ret (ev_or (ev_not (by walk_at "w") tru_bool) fun _ => ev_cmp (by walk_at "w") (by walk_at "w") c)) ?_)
    rfl
theorem made_le_ge_ni {B : Bas} (fr : Free B) {n : Nat} {a : Addr} (F : HasDef B "_le_from_ge" a (defAt pw 10)) {dS dO : D} (x : Dun B n "__ge__" dS dO .notImplemented) : FnS B (n + 1) a [dS, dO] (.val .notImplemented) := by
  refine fns_of (xs := ["self", "other"]) F.fn rfl (fun pm cd doc vs hvs => ?_) rfl (by decide) (by decide +kernel) fun env fe => ?_
  · match vs, hvs with
    | [v, w], _ => rfl
  · show Ex B n env [("self", .val dS), ("other", .val dO)] _ _
    refine ex_cons (ex_assign (d := .val .notImplemented) (by walk_at "st") (ev_dun fr (by walk_at "gk") rfl rfl x) ?_ (by rfl))
    refine ex_cons (ex_if (t := true) (tst_cmp (by walk_at "w") (by walk_at "w") cmp_is_ni_ni) (fun _ => ex_cons (ex_return (Ev.ret (by walk_at "ev")) ?_)) fun h => nomatch h)
    rfl
theorem made_gt_ge {B : Bas} (fr : Free B) {n : Nat} {a : Addr} (F : HasDef B "_gt_from_ge" a (defAt pw 11)) {dS dO : D} {t u : Bool} (x : Dun B n "__ge__" dS dO (.bool t)) (c : Cmp B n .NotEq dS dO u) : FnS B (n + 1) a [dS, dO] (.bool (t && u)) := by
  refine fns_of (xs := ["self", "other"]) F.fn rfl (fun pm cd doc vs hvs => ?_) rfl (by decide) (by decide +kernel) fun env fe => ?_
  · match vs, hvs with
    | [v, w], _ => rfl
  · show Ex B n env [("self", .val dS), ("other", .val dO)] _ _
    refine ex_cons (ex_assign (d := .val (.bool t)) (by walk_at "st") (ev_dun fr (by walk_at "gk") rfl rfl x) ?_ (by rfl))
    refine ex_cons (ex_if (t := false) (tst_cmp (by walk_at "w") (by walk_at "w") cmp_is_bool_ni) (fun h => nomatch h) fun _ => ex_nil ?_)
    refine ex_cons (ex_return (Ev.ret (ev_and (by walk_at "ev") fun _ => ev_cmp (by walk_at "w") (by walk_at "w") c)) ?_)
    rfl
theorem made_gt_ge_ni {B : Bas} (fr : Free B) {n : Nat} {a : Addr} (F : HasDef B "_gt_from_ge" a (defAt pw 11)) {dS dO : D} (x : Dun B n "__ge__" dS dO .notImplemented) : FnS B (n + 1) a [dS, dO] (.val .notImplemented) := by
  refine fns_of (xs := ["self", "other"]) F.fn rfl (fun pm cd doc vs hvs => ?_) rfl (by decide) (by decide +kernel) fun env fe => ?_
  · match vs, hvs with
    | [v, w], _ => rfl
  · show Ex B n env [("self", .val dS), ("other", .val dO)] _ _
    refine ex_cons (ex_assign (d := .val .notImplemented) (by walk_at "st") (ev_dun fr (by walk_at "gk") rfl rfl x) ?_ (by rfl))
    refine ex_cons (ex_if (t := true) (tst_cmp (by walk_at "w") (by walk_at "w") cmp_is_ni_ni) (fun _ => ex_cons (ex_return (Ev.ret (by walk_at "ev")) ?_)) fun h => nomatch h)
    rfl
theorem made_lt_ge {B : Bas} (fr : Free B) {n : Nat} {a : Addr} (F : HasDef B "_lt_from_ge" a (defAt pw 12)) {dS dO : D} {t : Bool} (x : Dun B n "__ge__" dS dO (.bool t)) : FnS B (n + 1) a [dS, dO] (.bool (!t)) := by
  refine fns_of (xs := ["self", "other"]) F.fn rfl (fun pm cd doc vs hvs => ?_) rfl (by decide) (by decide +kernel) fun env fe => ?_
  · match vs, hvs with
    | [v, w], _ => rfl
  · show Ex B n env [("self", .val dS), ("other", .val dO)] _ _
    refine ex_cons (ex_assign (d := .val (.bool t)) (by walk_at "st") (ev_dun fr (by walk_at "gk") rfl rfl x) ?_ (by rfl))
    refine ex_cons (ex_if (t := false) (tst_cmp (by walk_at "w") (by walk_at "w") cmp_is_bool_ni) (fun h => nomatch h) fun _ => ex_nil ?_)
    refine ex_cons (ex_return (Ev.ret (ev_not (by walk_at "w") tru_bool)) ?_)
    rfl
theorem made_lt_ge_ni {B : Bas} (fr : Free B) {n : Nat} {a : Addr} (F : HasDef B "_lt_from_ge" a (defAt pw 12)) {dS dO : D} (x : Dun B n "__ge__" dS dO .notImplemented) : FnS B (n + 1) a [dS, dO] (.val .notImplemented) := by
  refine fns_of (xs := ["self", "other"]) F.fn rfl (fun pm cd doc vs hvs => ?_) rfl (by decide) (by decide +kernel) fun env fe => ?_
  · match vs, hvs with
    | [v, w], _ => rfl
  · show Ex B n env [("self", .val dS), ("other", .val dO)] _ _
    refine ex_cons (ex_assign (d := .val .notImplemented) (by walk_at "st") (ev_dun fr (by walk_at "gk") rfl rfl x) ?_ (by rfl))
    refine ex_cons (ex_if (t := true) (tst_cmp (by walk_at "w") (by walk_at "w") cmp_is_ni_ni) (fun _ => ex_cons (ex_return (Ev.ret (by walk_at "ev")) ?_)) fun h => nomatch h)
    rfl
/-- the twelve, by their addresses -/
structure Twelve (B : Bas) (a1 a2 a3 a4 a5 a6 a7 a8 a9 a10 a11 a12 : Addr) : Prop where
  f1 : HasDef B "_gt_from_lt" a1 (defAt pw 1)
  f2 : HasDef B "_le_from_lt" a2 (defAt pw 2)
  f3 : HasDef B "_ge_from_lt" a3 (defAt pw 3)
  f4 : HasDef B "_ge_from_le" a4 (defAt pw 4)
  f5 : HasDef B "_lt_from_le" a5 (defAt pw 5)
  f6 : HasDef B "_gt_from_le" a6 (defAt pw 6)
  f7 : HasDef B "_lt_from_gt" a7 (defAt pw 7)
  f8 : HasDef B "_ge_from_gt" a8 (defAt pw 8)
  f9 : HasDef B "_le_from_gt" a9 (defAt pw 9)
  f10 : HasDef B "_le_from_ge" a10 (defAt pw 10)
  f11 : HasDef B "_gt_from_ge" a11 (defAt pw 11)
  f12 : HasDef B "_lt_from_ge" a12 (defAt pw 12)

theorem heaps_spec {B : Bas} (fr : Free B) {n : Nat} {a : Addr} (F : HasDef B "_law_heaps" a (defAt pw 14)) {l : List Int} (hl : l.length ≤ 63) : FnS B (n + 1) a [.list (D.ofInts l)] (.list (D.ofInts (heapsI 5 l))) := by
  refine fns_of (xs := ["script"]) F.fn rfl (fun pm cd doc vs hvs => ?_) rfl (by decide) (by decide +kernel) fun env fe => ?_
  · match vs, hvs with
    | [v], _ => rfl
  · show Ex B n env [("script", .val (.list (D.ofInts l)))] _ _
    have hlen : (D.ofInts l).length = l.length := ofInts_length l
    have hmin : minI (((D.ofInts l).length : Nat) : Int) [5] = ((min l.length 5 : Nat) : Int) := by rw [hlen]; unfold minI minI; split <;> omega
    refine ex_cons (ex_assignN (by walk_at "st") (evn_mul (ds := [.int 0]) (i := minI (((D.ofInts l).length : Nat) : Int) [5]) (by walk_at "ev") (Ev.weak (ev_min2 fr (by walk_at "gk") (by walk_at "w") (by walk_at "w"))) (by rw [hmin]; omega) (by rw [hmin]; omega) (by rw [hmin]; simp; omega) (by simp)) ?_ (by rfl))
    have e0 : (List.replicate (minI (((D.ofInts l).length : Nat) : Int) [5]).toNat [D.int 0]).flatten = D.ofInts (heapsTo 5 l 0) := by
      rw [hmin]; simp [heapsTo, D.ofInts]
    show Ex B n env [("script", .val (.list (D.ofInts l))), ("heaps", .own (List.replicate (minI (((D.ofInts l).length : Nat) : Int) [5]).toNat [D.int 0]).flatten)] _ _
    rw [e0]
    refine ex_cons (ex_forS (fun pre => [("script", .val (.list (D.ofInts l))), ("heaps", .own (D.ofInts (heapsTo 5 l pre.length)))]) (evit_range (ev_rng1 fr (by walk_at "gk") (by walk_at "w")) (by omega) (by omega) (by omega) (by omega)) ⟨rfl, rfl, trivial⟩ ?_ ?_)
    · intro pre d post e
      obtain ⟨rfl, hk⟩ := rngD_split e
      refine ⟨_, asg_name (by walk_at "st"), ?_⟩
      have hk' : pre.length < l.length := by rw [hlen] at hk; omega
      refine ex_cons (ex_augitem (k := ((pre.length % 5 : Nat) : Int)) (j := l.getD pre.length 0) rfl (evw_eq (by walk_at "w") ?_) (Ev.weak (ev_item (k := 0 + (pre.length : Int)) (by walk_at "ev") (by walk_at "w") ?_ ?_ ?_ ?_)) ?_ ?_ ?_ (ex_nil ?_))
      · rw [Int.zero_add, show (5 : Int) = ((5 : Nat) : Int) from rfl, fmod_nat]
      · rw [hlen]; omega
      · rw [hlen]; omega
      · rw [hlen]; omega
      · rw [Int.zero_add, place_nat]; exact ofInts_get hk'
      · omega
      · rw [heapsTo_length]; omega
      · rw [heapsTo_length]; omega
      · refine ⟨rfl, ?_, trivial⟩
        show some (Bnd.own (D.ofInts _)) = _
        simp only [Int.toNat_natCast, heapsTo, heapStep, List.length_append, List.length_cons, List.length_nil]
    · intro υ hυ
      refine ex_sub hυ (ex_cons (ex_return (evr_own rfl) ?_))
      show D.list _ = _
      rw [rngD_length, hlen]; simp [heapsI]

theorem ofInts_append (a b : List Int) : D.ofInts a ++ D.ofInts b = D.ofInts (a ++ b) := by simp [D.ofInts]
theorem rngD0 (m : Nat) : rngD 0 (m : Int) = (List.range m).map fun (k : Nat) => D.int (0 + (k : Int)) := by
  unfold rngD; rw [show ((m : Int) - 0).toNat = m by omega]
theorem fns_eq {B n a ds d d'} (x : FnS B n a ds d) (h : d = d') : FnS B n a ds d' := h ▸ x
theorem kdb (n : Int) (k : Nat) : (n.fmod 5 == (k : Int)) = (kd n == k) := by
  rw [kd_eq, Bool.eq_iff_iff, beq_iff_eq, beq_iff_eq]; omega
theorem ev_chr {B : Bas} {n : Nat} {env : Env} {σ : Sto} {e : Expr} {p p' : Pos} {i : Int} (fr : Free B) (hk : env.kindOf (S "chr") = some .globalImplicit) (v : EvW B n env σ e (.int i)) (h0 : 0 ≤ i) (h1 : i ≤ 1114111) (he : starEach [e] env = (false, eval e env) :: starEach [] env := by rfl) : Ev B n env σ (.Call (.Name (S "chr") p') [e] [] p) (.str (ltr i)) :=
  ev_builtin (bn fr hk boot_chr) (evasw_cons v evasw_nil he) (bi_chr h0 h1) he
theorem if5 (n : Int) : kd n = 0 ∨ kd n = 1 ∨ kd n = 2 ∨ kd n = 3 ∨ kd n = 4 := by have := kd_lt n; omega
theorem thing_spec {B : Bas} (fr : Free B) {n : Nat} {a : Addr} (F : HasDef B "_law_thing" a (defAt pw 15)) {m : Int} : FnS B (n + 1) a [.int m] (thing m) := by
  refine fns_of (xs := ["n"]) F.fn rfl (fun pm cd doc vs hvs => ?_) rfl (by decide) (by decide +kernel) fun env fe => ?_
  · match vs, hvs with
    | [v], _ => rfl
  · show Ex B n env [("n", .val (.int m))] _ _
    obtain ⟨s1, s2⟩ := szI_in m
    refine ex_cons (ex_assign (d := .int (szI m)) (by walk_at "st") (by walk_at "ev") ?_ (by rfl))
    unfold thing
    have hm := kd_eq m
    generalize szI m = s at *
    have h26 := Int.fmod_nonneg_of_pos s (b := 26) (by decide)
    have h26' := Int.fmod_lt_of_pos s (b := 26) (by decide)
    rcases if5 m with h | h | h | h | h <;> rw [h] at hm ⊢
    · refine ex_cons (ex_if (t := true) (tst_eq (tst_cmp (by walk_at "w") (by walk_at "w") cmp_eq) (by rw [hm]; rfl)) (fun _ => ex_cons (ex_return (Ev.ret (by walk_at "ev")) ?_)) fun h => nomatch h)
      rfl
    · refine ex_cons (ex_if (t := false) (tst_eq (tst_cmp (by walk_at "w") (by walk_at "w") cmp_eq) (by rw [hm]; rfl)) (fun h => nomatch h) fun _ => ex_nil ?_)
      refine ex_cons (ex_if (t := true) (tst_eq (tst_cmp (by walk_at "w") (by walk_at "w") cmp_eq) (by rw [hm]; rfl)) (fun _ => ex_cons (ex_return (Ev.ret (ev_bin (by walk_at "w") (by walk_at "w") (bin_half s1 s2))) ?_)) fun h => nomatch h)
      rfl
    · refine ex_cons (ex_if (t := false) (tst_eq (tst_cmp (by walk_at "w") (by walk_at "w") cmp_eq) (by rw [hm]; rfl)) (fun h => nomatch h) fun _ => ex_nil ?_)
      refine ex_cons (ex_if (t := false) (tst_eq (tst_cmp (by walk_at "w") (by walk_at "w") cmp_eq) (by rw [hm]; rfl)) (fun h => nomatch h) fun _ => ex_nil ?_)
      refine ex_cons (ex_if (t := true) (tst_eq (tst_cmp (by walk_at "w") (by walk_at "w") cmp_eq) (by rw [hm]; rfl)) (fun _ => ex_cons (ex_return (Ev.ret (ev_chr fr (by walk_at "gk") (by walk_at "w") (by omega) (by omega))) ?_)) fun h => nomatch h)
      rfl
    · refine ex_cons (ex_if (t := false) (tst_eq (tst_cmp (by walk_at "w") (by walk_at "w") cmp_eq) (by rw [hm]; rfl)) (fun h => nomatch h) fun _ => ex_nil ?_)
      refine ex_cons (ex_if (t := false) (tst_eq (tst_cmp (by walk_at "w") (by walk_at "w") cmp_eq) (by rw [hm]; rfl)) (fun h => nomatch h) fun _ => ex_nil ?_)
      refine ex_cons (ex_if (t := false) (tst_eq (tst_cmp (by walk_at "w") (by walk_at "w") cmp_eq) (by rw [hm]; rfl)) (fun h => nomatch h) fun _ => ex_nil ?_)
      refine ex_cons (ex_if (t := true) (tst_eq (tst_cmp (by walk_at "w") (by walk_at "w") cmp_eq) (by rw [hm]; rfl)) (fun _ => ex_cons (ex_return (Ev.ret (by walk_at "ev")) ?_)) fun h => nomatch h)
      rfl
    · refine ex_cons (ex_if (t := false) (tst_eq (tst_cmp (by walk_at "w") (by walk_at "w") cmp_eq) (by rw [hm]; rfl)) (fun h => nomatch h) fun _ => ex_nil ?_)
      refine ex_cons (ex_if (t := false) (tst_eq (tst_cmp (by walk_at "w") (by walk_at "w") cmp_eq) (by rw [hm]; rfl)) (fun h => nomatch h) fun _ => ex_nil ?_)
      refine ex_cons (ex_if (t := false) (tst_eq (tst_cmp (by walk_at "w") (by walk_at "w") cmp_eq) (by rw [hm]; rfl)) (fun h => nomatch h) fun _ => ex_nil ?_)
      refine ex_cons (ex_if (t := false) (tst_eq (tst_cmp (by walk_at "w") (by walk_at "w") cmp_eq) (by rw [hm]; rfl)) (fun h => nomatch h) fun _ => ex_nil ?_)
      refine ex_cons (ex_return (Ev.ret (ev_dict1 (d := .int (s.fmod 2)) (by walk_at "w") (by walk_at "w"))) ?_)
      rfl
theorem size_spec {B : Bas} (fr : Free B) {n : Nat} {a : Addr} (F : HasDef B "_law_size" a (defAt pw 16)) {m : Int} : FnS B (n + 1) a [.int m] (tp (sizeP m)) := by
  refine fns_of (xs := ["n"]) F.fn rfl (fun pm cd doc vs hvs => ?_) rfl (by decide) (by decide +kernel) fun env fe => ?_
  · match vs, hvs with
    | [v], _ => rfl
  · show Ex B n env [("n", .val (.int m))] _ _
    refine ex_cons (ex_assign (d := .int (szI m)) (by walk_at "st") (by walk_at "ev") ?_ (by rfl))
    unfold sizeP
    have hm := kd_eq m
    generalize szI m = s at *
    rcases if5 m with h | h | h | h | h <;> rw [h] at hm ⊢
    · refine ex_cons (ex_if (t := true) (tst_eq (tst_cmp (by walk_at "w") (by walk_at "w") cmp_eq) (by rw [hm]; rfl)) (fun _ => ex_cons (ex_return (Ev.ret (ev_tuple (ds := [.int 0, .int (2 * s)]) (evas_cons (by walk_at "ev") (evas_cons (ev_bin (by walk_at "w") (by walk_at "w") (bin_mul (IntMulOk.of_left (by decide)))) evas_nil)) (by simp))) ?_)) fun h => nomatch h)
      rfl
    · refine ex_cons (ex_if (t := false) (tst_eq (tst_cmp (by walk_at "w") (by walk_at "w") cmp_eq) (by rw [hm]; rfl)) (fun h => nomatch h) fun _ => ex_nil ?_)
      refine ex_cons (ex_if (t := true) (tst_eq (tst_cmp (by walk_at "w") (by walk_at "w") cmp_eq) (by rw [hm]; rfl)) (fun _ => ex_cons (ex_return (Ev.ret (ev_tuple (ds := [.int 0, .int s]) (by walk_at "as") (by simp))) ?_)) fun h => nomatch h)
      rfl
    · refine ex_cons (ex_if (t := false) (tst_eq (tst_cmp (by walk_at "w") (by walk_at "w") cmp_eq) (by rw [hm]; rfl)) (fun h => nomatch h) fun _ => ex_nil ?_)
      refine ex_cons (ex_if (t := false) (tst_eq (tst_cmp (by walk_at "w") (by walk_at "w") cmp_eq) (by rw [hm]; rfl)) (fun h => nomatch h) fun _ => ex_nil ?_)
      refine ex_cons (ex_if (t := true) (tst_eq (tst_cmp (by walk_at "w") (by walk_at "w") cmp_eq) (by rw [hm]; rfl)) (fun _ => ex_cons (ex_return (Ev.ret (ev_tuple (ds := [.int 1, .int (s.fmod 26)]) (by walk_at "as") (by simp))) ?_)) fun h => nomatch h)
      rfl
    all_goals
      refine ex_cons (ex_if (t := false) (tst_eq (tst_cmp (by walk_at "w") (by walk_at "w") cmp_eq) (by rw [hm]; rfl)) (fun h => nomatch h) fun _ => ex_nil ?_)
      refine ex_cons (ex_if (t := false) (tst_eq (tst_cmp (by walk_at "w") (by walk_at "w") cmp_eq) (by rw [hm]; rfl)) (fun h => nomatch h) fun _ => ex_nil ?_)
      refine ex_cons (ex_if (t := false) (tst_eq (tst_cmp (by walk_at "w") (by walk_at "w") cmp_eq) (by rw [hm]; rfl)) (fun h => nomatch h) fun _ => ex_nil ?_)
      refine ex_cons (ex_return (Ev.ret (ev_tuple (ds := [.int (m.fmod 5), .int 0]) (by walk_at "as") (by simp))) ?_)
      rw [hm]; rfl
def okP (m n : Int) : Bool := okK (kd m) (kd n)
def lt9 (m n : Int) : Value := v9 (okP m n) (decide ((sizeP m).2 < (sizeP n).2))
def le9 (m n : Int) : Value := v9 (okP m n) (decide ((sizeP m).2 ≤ (sizeP n).2))
def gt9 (m n : Int) : Value := v9 (okP m n) (decide ((sizeP m).2 > (sizeP n).2))
def ge9 (m n : Int) : Value := v9 (okP m n) (decide ((sizeP m).2 ≥ (sizeP n).2))
section
variable {B : Bas} (fr : Free B) {n : Nat} {a1 a2 a3 a4 a5 a6 a7 a8 a9 a10 a11 a12 : Addr} (F : Twelve B a1 a2 a3 a4 a5 a6 a7 a8 a9 a10 a11 a12)
include fr F
theorem f9_gt_lt (p q : Int) : FnS B (n + 1) a1 [thing p, thing q] (.val (gt9 p q)) := by
  have d := dunK_lt (B := B) (n := n) (kd p) (kd q) (kd_lt p) (kd_lt q) (szI_in p) (szI_in q)
  unfold gt9 okP sizeP
  cases hok : okK (kd p) (kd q) with
  | false =>
    rw [hok] at d
    exact made_gt_lt_ni fr F.f1 d
  | true =>
    rw [hok] at d
    refine fns_eq (made_gt_lt fr F.f1 d (cmpK_ne _ _ hok (szI_in p) (szI_in q))) ?_
    show D.val (.bool _) = D.val (.bool _)
    congr 2
    rw [Bool.eq_iff_iff]; simp <;> omega
theorem f9_le_lt (p q : Int) : FnS B (n + 1) a2 [thing p, thing q] (.val (le9 p q)) := by
  have d := dunK_lt (B := B) (n := n) (kd p) (kd q) (kd_lt p) (kd_lt q) (szI_in p) (szI_in q)
  unfold le9 okP sizeP
  cases hok : okK (kd p) (kd q) with
  | false =>
    rw [hok] at d
    exact made_le_lt_ni fr F.f2 d
  | true =>
    rw [hok] at d
    refine fns_eq (made_le_lt fr F.f2 d (cmpK_eq _ _ hok (szI_in p) (szI_in q))) ?_
    show D.val (.bool _) = D.val (.bool _)
    congr 2
    rw [Bool.eq_iff_iff]; simp <;> omega
theorem f9_ge_lt (p q : Int) : FnS B (n + 1) a3 [thing p, thing q] (.val (ge9 p q)) := by
  have d := dunK_lt (B := B) (n := n) (kd p) (kd q) (kd_lt p) (kd_lt q) (szI_in p) (szI_in q)
  unfold ge9 okP sizeP
  cases hok : okK (kd p) (kd q) with
  | false =>
    rw [hok] at d
    exact made_ge_lt_ni fr F.f3 d
  | true =>
    rw [hok] at d
    refine fns_eq (made_ge_lt fr F.f3 d) ?_
    show D.val (.bool _) = D.val (.bool _)
    congr 2
    rw [Bool.eq_iff_iff]; simp <;> omega
theorem f9_ge_le (p q : Int) : FnS B (n + 1) a4 [thing p, thing q] (.val (ge9 p q)) := by
  have d := dunK_le (B := B) (n := n) (kd p) (kd q) (kd_lt p) (kd_lt q) (szI_in p) (szI_in q)
  unfold ge9 okP sizeP
  cases hok : okK (kd p) (kd q) with
  | false =>
    rw [hok] at d
    exact made_ge_le_ni fr F.f4 d
  | true =>
    rw [hok] at d
    refine fns_eq (made_ge_le fr F.f4 d (cmpK_eq _ _ hok (szI_in p) (szI_in q))) ?_
    show D.val (.bool _) = D.val (.bool _)
    congr 2
    rw [Bool.eq_iff_iff]; simp <;> omega
theorem f9_lt_le (p q : Int) : FnS B (n + 1) a5 [thing p, thing q] (.val (lt9 p q)) := by
  have d := dunK_le (B := B) (n := n) (kd p) (kd q) (kd_lt p) (kd_lt q) (szI_in p) (szI_in q)
  unfold lt9 okP sizeP
  cases hok : okK (kd p) (kd q) with
  | false =>
    rw [hok] at d
    exact made_lt_le_ni fr F.f5 d
  | true =>
    rw [hok] at d
    refine fns_eq (made_lt_le fr F.f5 d (cmpK_ne _ _ hok (szI_in p) (szI_in q))) ?_
    show D.val (.bool _) = D.val (.bool _)
    congr 2
    rw [Bool.eq_iff_iff]; simp <;> omega
theorem f9_gt_le (p q : Int) : FnS B (n + 1) a6 [thing p, thing q] (.val (gt9 p q)) := by
  have d := dunK_le (B := B) (n := n) (kd p) (kd q) (kd_lt p) (kd_lt q) (szI_in p) (szI_in q)
  unfold gt9 okP sizeP
  cases hok : okK (kd p) (kd q) with
  | false =>
    rw [hok] at d
    exact made_gt_le_ni fr F.f6 d
  | true =>
    rw [hok] at d
    refine fns_eq (made_gt_le fr F.f6 d) ?_
    show D.val (.bool _) = D.val (.bool _)
    congr 2
    rw [Bool.eq_iff_iff]; simp <;> omega
theorem f9_lt_gt (p q : Int) : FnS B (n + 1) a7 [thing p, thing q] (.val (lt9 p q)) := by
  have d := dunK_gt (B := B) (n := n) (kd p) (kd q) (kd_lt p) (kd_lt q) (szI_in p) (szI_in q)
  unfold lt9 okP sizeP
  cases hok : okK (kd p) (kd q) with
  | false =>
    rw [hok] at d
    exact made_lt_gt_ni fr F.f7 d
  | true =>
    rw [hok] at d
    refine fns_eq (made_lt_gt fr F.f7 d (cmpK_ne _ _ hok (szI_in p) (szI_in q))) ?_
    show D.val (.bool _) = D.val (.bool _)
    congr 2
    rw [Bool.eq_iff_iff]; simp <;> omega
theorem f9_ge_gt (p q : Int) : FnS B (n + 1) a8 [thing p, thing q] (.val (ge9 p q)) := by
  have d := dunK_gt (B := B) (n := n) (kd p) (kd q) (kd_lt p) (kd_lt q) (szI_in p) (szI_in q)
  unfold ge9 okP sizeP
  cases hok : okK (kd p) (kd q) with
  | false =>
    rw [hok] at d
    exact made_ge_gt_ni fr F.f8 d
  | true =>
    rw [hok] at d
    refine fns_eq (made_ge_gt fr F.f8 d (cmpK_eq _ _ hok (szI_in p) (szI_in q))) ?_
    show D.val (.bool _) = D.val (.bool _)
    congr 2
    rw [Bool.eq_iff_iff]; simp <;> omega
theorem f9_le_gt (p q : Int) : FnS B (n + 1) a9 [thing p, thing q] (.val (le9 p q)) := by
  have d := dunK_gt (B := B) (n := n) (kd p) (kd q) (kd_lt p) (kd_lt q) (szI_in p) (szI_in q)
  unfold le9 okP sizeP
  cases hok : okK (kd p) (kd q) with
  | false =>
    rw [hok] at d
    exact made_le_gt_ni fr F.f9 d
  | true =>
    rw [hok] at d
    refine fns_eq (made_le_gt fr F.f9 d) ?_
    show D.val (.bool _) = D.val (.bool _)
    congr 2
    rw [Bool.eq_iff_iff]; simp <;> omega
theorem f9_le_ge (p q : Int) : FnS B (n + 1) a10 [thing p, thing q] (.val (le9 p q)) := by
  have d := dunK_ge (B := B) (n := n) (kd p) (kd q) (kd_lt p) (kd_lt q) (szI_in p) (szI_in q)
  unfold le9 okP sizeP
  cases hok : okK (kd p) (kd q) with
  | false =>
    rw [hok] at d
    exact made_le_ge_ni fr F.f10 d
  | true =>
    rw [hok] at d
    refine fns_eq (made_le_ge fr F.f10 d (cmpK_eq _ _ hok (szI_in p) (szI_in q))) ?_
    show D.val (.bool _) = D.val (.bool _)
    congr 2
    rw [Bool.eq_iff_iff]; simp <;> omega
theorem f9_gt_ge (p q : Int) : FnS B (n + 1) a11 [thing p, thing q] (.val (gt9 p q)) := by
  have d := dunK_ge (B := B) (n := n) (kd p) (kd q) (kd_lt p) (kd_lt q) (szI_in p) (szI_in q)
  unfold gt9 okP sizeP
  cases hok : okK (kd p) (kd q) with
  | false =>
    rw [hok] at d
    exact made_gt_ge_ni fr F.f11 d
  | true =>
    rw [hok] at d
    refine fns_eq (made_gt_ge fr F.f11 d (cmpK_ne _ _ hok (szI_in p) (szI_in q))) ?_
    show D.val (.bool _) = D.val (.bool _)
    congr 2
    rw [Bool.eq_iff_iff]; simp <;> omega
theorem f9_lt_ge (p q : Int) : FnS B (n + 1) a12 [thing p, thing q] (.val (lt9 p q)) := by
  have d := dunK_ge (B := B) (n := n) (kd p) (kd q) (kd_lt p) (kd_lt q) (szI_in p) (szI_in q)
  unfold lt9 okP sizeP
  cases hok : okK (kd p) (kd q) with
  | false =>
    rw [hok] at d
    exact made_lt_ge_ni fr F.f12 d
  | true =>
    rw [hok] at d
    refine fns_eq (made_lt_ge fr F.f12 d) ?_
    show D.val (.bool _) = D.val (.bool _)
    congr 2
    rw [Bool.eq_iff_iff]; simp <;> omega
end
theorem ahead_spec {B : Bas} (fr : Free B) {n : Nat} {a1 a2 a3 a4 a5 a6 a7 a8 a9 a10 a11 a12 at' as a : Addr} (F : Twelve B a1 a2 a3 a4 a5 a6 a7 a8 a9 a10 a11 a12) (Ft : HasDef B "_law_thing" at' (defAt pw 15)) (Fs : HasDef B "_law_size" as (defAt pw 16)) (Fa : HasDef B "_law_ahead" a (defAt pw 17)) {p q : Int} : FnS B (n + 2) a [.int p, .int q] (.bool (ahead p q)) := by
  refine fns_of (xs := ["m", "n"]) Fa.fn rfl (fun pm cd doc vs hvs => ?_) rfl (by decide) (by decide +kernel) fun env fe => ?_
  · match vs, hvs with
    | [v, w], _ => rfl
  · show Ex B (n + 1) env [("m", .val (.int p)), ("n", .val (.int q))] _ _
    refine ex_cons (ex_assign (d := .val (lt9 p q)) (by walk_at "st") (ev_calld F.f12 (by walk_at "gk") (ds := [thing p, thing q]) (evas_cons (ev_calld Ft (by walk_at "gk") (ds := [.int p]) (by walk_at "as") (thing_spec fr Ft)) (evas_cons (ev_calld Ft (by walk_at "gk") (ds := [.int q]) (by walk_at "as") (thing_spec fr Ft)) evas_nil)) (f9_lt_ge fr F p q)) ?_ (by rfl))
    unfold ahead sizeP
    cases hok : okP p q with
    | true =>
      have e : lt9 p q = .bool (decide ((sizeP p).2 < (sizeP q).2)) := by unfold lt9 v9; rw [hok]; rfl
      rw [e]
      refine ex_cons (ex_if (t := false) (tst_cmp (by walk_at "w") (by walk_at "w") cmp_is_bool_ni) (fun h => nomatch h) fun _ => ex_nil ?_)
      refine ex_cons (ex_if (t := false) (tst_cmp (by walk_at "w") (by walk_at "w") cmp_is_bool_ni) (fun h => nomatch h) fun _ => ex_nil ?_)
      refine ex_cons (ex_return (Ev.ret (by walk_at "ev")) ?_)
      show D.bool _ = D.bool _
      rw [← ahead_ok hok]; rfl
    | false =>
      have e : lt9 p q = .notImplemented := by unfold lt9 v9; rw [hok]; rfl
      rw [e]
      refine ex_cons (ex_if (t := true) (tst_cmp (by walk_at "w") (by walk_at "w") cmp_is_ni_ni) (fun _ => ?_) fun h => nomatch h)
      refine ex_cons (ex_assign (d := .val (gt9 q p)) (by walk_at "st") (ev_calld F.f6 (by walk_at "gk") (ds := [thing q, thing p]) (evas_cons (ev_calld Ft (by walk_at "gk") (ds := [.int q]) (by walk_at "as") (thing_spec fr Ft)) (evas_cons (ev_calld Ft (by walk_at "gk") (ds := [.int p]) (by walk_at "as") (thing_spec fr Ft)) evas_nil)) (f9_gt_le fr F q p)) (ex_nil ?_) (by rfl))
      cases hok' : okP q p with
      | true =>
        have e : gt9 q p = .bool (decide ((sizeP q).2 > (sizeP p).2)) := by unfold gt9 v9; rw [hok']; rfl
        rw [e]
        refine ex_cons (ex_if (t := false) (tst_cmp (by walk_at "w") (by walk_at "w") cmp_is_bool_ni) (fun h => nomatch h) fun _ => ex_nil ?_)
        refine ex_cons (ex_return (Ev.ret (by walk_at "ev")) ?_)
        show D.bool _ = D.bool _
        rw [← ahead_rev hok hok']
        congr 2
        rw [Bool.eq_iff_iff]; simp [sizeP]
      | false =>
        have e : gt9 q p = .notImplemented := by unfold gt9 v9; rw [hok']; rfl
        rw [e]
        refine ex_cons (ex_if (t := true) (tst_cmp (by walk_at "w") (by walk_at "w") cmp_is_ni_ni) (fun _ => ?_) fun h => nomatch h)
        refine ex_cons (ex_assign (d := .bool (decide ((sizeP p).1 < (sizeP q).1))) (by walk_at "st") (ev_cmp (Ev.weak (ev_itemT (ds := [.int (sizeP p).1, .int (sizeP p).2]) (k := 0) (ev_calld Fs (by walk_at "gk") (ds := [.int p]) (by walk_at "as") (size_spec fr Fs)) (by walk_at "w") (by simp) (by simp) (by simp) rfl)) (Ev.weak (ev_itemT (ds := [.int (sizeP q).1, .int (sizeP q).2]) (k := 0) (ev_calld Fs (by walk_at "gk") (ds := [.int q]) (by walk_at "as") (size_spec fr Fs)) (by walk_at "w") (by simp) (by simp) (by simp) rfl)) cmp_lt) (ex_nil ?_) (by rfl))
        refine ex_cons (ex_return (Ev.ret (by walk_at "ev")) ?_)
        show D.bool _ = D.bool _
        rw [← ahead_ko (kd_lt p) (kd_lt q) hok hok']; rfl

def fv (a : Addr) : D := .val (.ref a)
theorem filter_false {α : Type} (l : List α) : l.filter (fun _ => false) = [] := by induction l <;> simp_all
def dueV (p q : Int) : List Value := [lt9 p q, lt9 p q, lt9 p q, le9 p q, le9 p q, le9 p q, gt9 p q, gt9 p q, gt9 p q, ge9 p q, ge9 p q, ge9 p q]
theorem v9_plain (a b : Bool) : PySem.plainIs (v9 a b) (v9 a b) = true := by cases a <;> cases b <;> rfl
theorem dueV_plain (p q : Int) : ∀ v ∈ dueV p q, PySem.plainIs v v = true := by
  intro v hv
  simp only [dueV, List.mem_cons, List.not_mem_nil, or_false] at hv
  rcases hv with rfl | rfl | rfl | rfl | rfl | rfl | rfl | rfl | rfl | rfl | rfl | rfl <;> exact v9_plain _ _
theorem cond9 (p q : Int) : ((sizeP p).1 != (sizeP q).1 || decide (1 < (sizeP p).1) || ((p.fmod 5 == 0) && (q.fmod 5 == 1))) = !okP p q := by
  have e0 : (p.fmod 5 == 0) = (kd p == 0) := kdb p 0
  have e1 : (q.fmod 5 == 1) = (kd q == 1) := kdb q 1
  rw [e0, e1]
  unfold sizeP okP
  rcases if5 p with h | h | h | h | h <;> rcases if5 q with h' | h' | h' | h' | h' <;> rw [h, h'] <;> rfl
theorem dueT (p q : Int) (h : okP p q = true) : ([decide ((sizeP p).2 < (sizeP q).2), decide ((sizeP p).2 < (sizeP q).2), decide ((sizeP p).2 < (sizeP q).2), decide ((sizeP p).2 ≤ (sizeP q).2), decide ((sizeP p).2 ≤ (sizeP q).2), decide ((sizeP p).2 ≤ (sizeP q).2), decide ((sizeP q).2 < (sizeP p).2), decide ((sizeP q).2 < (sizeP p).2), decide ((sizeP q).2 < (sizeP p).2), decide ((sizeP q).2 ≤ (sizeP p).2), decide ((sizeP q).2 ≤ (sizeP p).2), decide ((sizeP q).2 ≤ (sizeP p).2)].map D.bool) = (dueV p q).map D.val := by
  unfold dueV lt9 le9 gt9 ge9 v9
  rw [h]; rfl
theorem dueF (p q : Int) (h : okP p q = false) : (List.replicate 12 [D.val .notImplemented]).flatten = (dueV p q).map D.val := by
  unfold dueV lt9 le9 gt9 ge9 v9
  rw [h]; rfl
section
variable {B : Bas} (fr : Free B) {n : Nat} {a1 a2 a3 a4 a5 a6 a7 a8 a9 a10 a11 a12 : Addr} (F : Twelve B a1 a2 a3 a4 a5 a6 a7 a8 a9 a10 a11 a12)
include fr F
theorem all12 (p q : Int) : ∀ z ∈ [a5, a7, a12, a2, a9, a10, a1, a6, a11, a3, a4, a8].zip (dueV p q), FnS B (n + 1) z.1 [thing p, thing q] (.val z.2) := by
  intro z hz
  simp only [dueV, List.zip_cons_cons, List.zip_nil_right, List.mem_cons, List.not_mem_nil, or_false] at hz
  rcases hz with rfl | rfl | rfl | rfl | rfl | rfl | rfl | rfl | rfl | rfl | rfl | rfl
  · exact f9_lt_le fr F p q
  · exact f9_lt_gt fr F p q
  · exact f9_lt_ge fr F p q
  · exact f9_le_lt fr F p q
  · exact f9_le_gt fr F p q
  · exact f9_le_ge fr F p q
  · exact f9_gt_lt fr F p q
  · exact f9_gt_le fr F p q
  · exact f9_gt_ge fr F p q
  · exact f9_ge_lt fr F p q
  · exact f9_ge_le fr F p q
  · exact f9_ge_gt fr F p q
end
theorem rep3 (d : D) : (List.replicate (Int.toNat 3) [d]).flatten = [d, d, d] := rfl
set_option maxHeartbeats 4000000 in
theorem law_spec {B : Bas} (fr : Free B) {n : Nat} {a1 a2 a3 a4 a5 a6 a7 a8 a9 a10 a11 a12 ah at' as aa a : Addr} (F : Twelve B a1 a2 a3 a4 a5 a6 a7 a8 a9 a10 a11 a12) (Fh : HasDef B "_law_heaps" ah (defAt pw 14)) (Ft : HasDef B "_law_thing" at' (defAt pw 15)) (Fs : HasDef B "_law_size" as (defAt pw 16)) (Fa : HasDef B "_law_ahead" aa (defAt pw 17)) (FF : FnAt B a (defAt pw 18).name (defAt pw 18).params (defAt pw 18).body (defAt pw 18).scope) {l : List Int} (hl : l.length ≤ 63) : FnS B (n + 3) a [.list (D.ofInts l)] (.bool true) := by
  refine fns_of (xs := ["script"]) FF rfl (fun pm cd doc vs hvs => ?_) rfl (by decide) (by decide +kernel) fun env fe => ?_
  · match vs, hvs with
    | [v], _ => rfl
  · show Ex B (n + 2) env [("script", .val (.list (D.ofInts l)))] _ _
    generalize hnb : heapsI 5 l ++ [20, 41, 12, 3, 4] = nb
    have hlen : nb.length ≤ 10 ∧ 5 ≤ nb.length := by rw [← hnb]; simp [heapsI_length]; omega
    have hln : (D.ofInts nb).length = nb.length := ofInts_length nb
    refine ex_cons (ex_assign (d := .list [fv a5, fv a7, fv a12]) (by walk_at "st") (EvN.ev (evn_list (evas_cons (ev_gfn F.f5 (by walk_at "gk")) (evas_cons (ev_gfn F.f7 (by walk_at "gk")) (evas_cons (ev_gfn F.f12 (by walk_at "gk")) evas_nil))) (by simp))) ?_ (by rfl))
    refine ex_cons (ex_assign (d := .list [fv a2, fv a9, fv a10]) (by walk_at "st") (EvN.ev (evn_list (evas_cons (ev_gfn F.f2 (by walk_at "gk")) (evas_cons (ev_gfn F.f9 (by walk_at "gk")) (evas_cons (ev_gfn F.f10 (by walk_at "gk")) evas_nil))) (by simp))) ?_ (by rfl))
    refine ex_cons (ex_assign (d := .list [fv a1, fv a6, fv a11]) (by walk_at "st") (EvN.ev (evn_list (evas_cons (ev_gfn F.f1 (by walk_at "gk")) (evas_cons (ev_gfn F.f6 (by walk_at "gk")) (evas_cons (ev_gfn F.f11 (by walk_at "gk")) evas_nil))) (by simp))) ?_ (by rfl))
    refine ex_cons (ex_assign (d := .list [fv a3, fv a4, fv a8]) (by walk_at "st") (EvN.ev (evn_list (evas_cons (ev_gfn F.f3 (by walk_at "gk")) (evas_cons (ev_gfn F.f4 (by walk_at "gk")) (evas_cons (ev_gfn F.f8 (by walk_at "gk")) evas_nil))) (by simp))) ?_ (by rfl))
    refine ex_cons (ex_assign (d := .list (D.ofInts nb)) (by walk_at "st") (ev_eq (EvN.ev (evn_add (ev_calld Fh (by walk_at "gk") (ds := [.list (D.ofInts l)]) (by walk_at "as") (heaps_spec fr Fh hl)) (ds := D.ofInts (heapsI 5 l)) (es := D.ofInts [20, 41, 12, 3, 4]) (EvN.ev (evn_list (by walk_at "as") (by decide))) (by simp [ofInts_length, heapsI_length]; omega))) (by rw [ofInts_append, hnb])) ?_ (by rfl))
    refine ex_sub (τ := [("less", .val (.list [fv a5, fv a7, fv a12])), ("most", .val (.list [fv a2, fv a9, fv a10])), ("more", .val (.list [fv a1, fv a6, fv a11])), ("least", .val (.list [fv a3, fv a4, fv a8])), ("numbers", .val (.list (D.ofInts nb)))]) ⟨rfl, rfl, rfl, rfl, rfl, trivial⟩ ?_
    refine ex_cons (ex_forS (fun _ => [("less", .val (.list [fv a5, fv a7, fv a12])), ("most", .val (.list [fv a2, fv a9, fv a10])), ("more", .val (.list [fv a1, fv a6, fv a11])), ("least", .val (.list [fv a3, fv a4, fv a8])), ("numbers", .val (.list (D.ofInts nb)))]) (evit_range (a := 0) (b := ((D.ofInts nb).length : Int)) (ev_rng1 fr (by walk_at "gk") (by walk_at "w")) (by omega) (by omega) (by omega) (by omega)) ⟨rfl, rfl, rfl, rfl, rfl, trivial⟩ ?_ ?_)
    · intro pre d post e
      obtain ⟨rfl, hk⟩ := rngD_split e
      refine ⟨_, asg_name (by walk_at "st"), ?_⟩
      generalize hc0 : pre.length = c at hk ⊢
      have hc : c < nb.length := by omega
      have hpl : place ((c : Int) - 1) nb.length < nb.length := by unfold place; split <;> omega
      generalize hx : nb.getD c 0 = x
      generalize hy : nb.getD (place ((c : Int) - 1) nb.length) 0 = y
      refine ex_cons (ex_assign (d := .int x) (by walk_at "st") (ev_item (ds := D.ofInts nb) (k := 0 + (c : Int)) (by walk_at "ev") (by walk_at "w") (by omega) (by omega) (by omega) ?_) ?_ (by rfl))
      · rw [Int.zero_add, place_nat, ← hx]; exact ofInts_get hc
      refine ex_cons (ex_assign (d := .int y) (by walk_at "st") (ev_item (ds := D.ofInts nb) (k := 0 + (c : Int) - 1) (by walk_at "ev") (by walk_at "w") (by omega) (by omega) (by omega) ?_) ?_ (by rfl))
      · rw [Int.zero_add, hln, ← hy]; exact ofInts_get hpl
      refine ex_sub (τ := [("less", .val (.list [fv a5, fv a7, fv a12])), ("most", .val (.list [fv a2, fv a9, fv a10])), ("more", .val (.list [fv a1, fv a6, fv a11])), ("least", .val (.list [fv a3, fv a4, fv a8])), ("numbers", .val (.list (D.ofInts nb))), ("x", .val (.int x)), ("y", .val (.int y))]) ⟨rfl, rfl, rfl, rfl, rfl, rfl, rfl, trivial⟩ ?_
      refine ex_cons (ex_forS (ds := [(x, y), (y, x), (x, x)].map tp) (fun _ => [("less", .val (.list [fv a5, fv a7, fv a12])), ("most", .val (.list [fv a2, fv a9, fv a10])), ("more", .val (.list [fv a1, fv a6, fv a11])), ("least", .val (.list [fv a3, fv a4, fv a8])), ("numbers", .val (.list (D.ofInts nb)))]) (evit_list (EvN.ev (evn_list (evas_cons (ev_tuple (ds := [.int x, .int y]) (by walk_at "as") (by simp)) (evas_cons (ev_tuple (ds := [.int y, .int x]) (by walk_at "as") (by simp)) (evas_cons (ev_tuple (ds := [.int x, .int x]) (by walk_at "as") (by simp)) evas_nil))) (by simp)))) ⟨rfl, rfl, rfl, rfl, rfl, trivial⟩ ?_ ?_)
      · intro pre d post e
        obtain ⟨z, hz, rfl, ht⟩ := map_split e
        obtain ⟨p, q⟩ := z
        refine ⟨_, asg_tuple (ds := [.int p, .int q]) (asgs_cons (asg_name (by walk_at "st")) (asgs_cons (asg_name (by walk_at "st")) asgs_nil)), ?_⟩
        refine ex_cons (ex_assignT (d := tp (sizeP p)) (ev_calld Fs (by walk_at "gk") (ds := [.int p]) (by walk_at "as") (size_spec fr Fs)) (asg_tuple (ds := [.int (sizeP p).1, .int (sizeP p).2]) (asgs_cons (asg_name (by walk_at "st")) (asgs_cons (asg_name (by walk_at "st")) asgs_nil))) ?_)
        refine ex_cons (ex_assignT (d := tp (sizeP q)) (ev_calld Fs (by walk_at "gk") (ds := [.int q]) (by walk_at "as") (size_spec fr Fs)) (asg_tuple (ds := [.int (sizeP q).1, .int (sizeP q).2]) (asgs_cons (asg_name (by walk_at "st")) (asgs_cons (asg_name (by walk_at "st")) asgs_nil))) ?_)
        refine ex_cons (ex_assign (by walk_at "st") (EvN.ev (evn_add (ds := [_, _, _, _, _, _, _, _, _]) (es := [_, _, _]) (EvN.ev (evn_add (ds := [_, _, _, _, _, _]) (es := [_, _, _]) (EvN.ev (evn_add (ds := [_, _, _]) (es := [_, _, _]) (EvN.ev (evn_mul (ds := [_]) (i := 3) (EvN.ev (evn_list (evas_cons (ev_cmp (by walk_at "w") (by walk_at "w") cmp_lt) evas_nil) (by simp))) (by walk_at "w") (by decide) (by decide) (by simp) (by simp))) (EvN.ev (evn_mul (ds := [_]) (i := 3) (EvN.ev (evn_list (evas_cons (ev_cmp (by walk_at "w") (by walk_at "w") cmp_le) evas_nil) (by simp))) (by walk_at "w") (by decide) (by decide) (by simp) (by simp))) (by simp))) (EvN.ev (evn_mul (ds := [_]) (i := 3) (EvN.ev (evn_list (evas_cons (ev_cmp (by walk_at "w") (by walk_at "w") cmp_gt) evas_nil) (by simp))) (by walk_at "w") (by decide) (by decide) (by simp) (by simp))) (by simp))) (EvN.ev (evn_mul (ds := [_]) (i := 3) (EvN.ev (evn_list (evas_cons (ev_cmp (by walk_at "w") (by walk_at "w") cmp_ge) evas_nil) (by simp))) (by walk_at "w") (by decide) (by decide) (by simp) (by simp))) (by simp))) ?_ (by rfl))
        refine ex_ifJ (t := !okP p q) [("less", .val (.list [fv a5, fv a7, fv a12])), ("most", .val (.list [fv a2, fv a9, fv a10])), ("more", .val (.list [fv a1, fv a6, fv a11])), ("least", .val (.list [fv a3, fv a4, fv a8])), ("numbers", .val (.list (D.ofInts nb))), ("m", .val (.int p)), ("n", .val (.int q)), ("due", .val (.list ((dueV p q).map D.val)))] (tst_eq (tst_or3 (tst_cmp (by walk_at "w") (by walk_at "w") cmp_ne) (tst_cmp (by walk_at "w") (by walk_at "w") cmp_gt) (tst_and (tst_cmp (by walk_at "w") (by walk_at "w") cmp_eq) fun _ => tst_cmp (by walk_at "w") (by walk_at "w") cmp_eq)) (cond9 p q)) (fun hok => ?_) (fun hok => ?_) ?_
        · refine ex_cons (ex_assign (d := .list ((dueV p q).map D.val)) (by walk_at "st") (ev_eq (EvN.ev (evn_mul (ds := [.val .notImplemented]) (i := 12) (EvN.ev (evn_list (by walk_at "as") (by simp))) (by walk_at "w") (by decide) (by decide) (by simp) (by simp))) (by rw [← dueF p q (by simpa using hok)]; rfl)) (ex_nil ?_) (by rfl))
          exact ⟨rfl, rfl, rfl, rfl, rfl, rfl, rfl, rfl, trivial⟩
        · refine ex_nil ⟨rfl, rfl, rfl, rfl, rfl, rfl, rfl, ?_, trivial⟩
          rw [← dueT p q (by simpa using hok)]; rfl
        refine ex_cons (ex_assign (d := thing p) (by walk_at "st") (ev_calld Ft (by walk_at "gk") (ds := [.int p]) (by walk_at "as") (thing_spec fr Ft)) ?_ (by rfl))
        refine ex_cons (ex_assign (d := thing q) (by walk_at "st") (ev_calld Ft (by walk_at "gk") (ds := [.int q]) (by walk_at "as") (thing_spec fr Ft)) ?_ (by rfl))
        have hall := all12 fr (n := n + 1) F p q
        refine ex_cons (ex_assign (d := .list ((dueV p q).map D.val)) (by walk_at "st") (ev_eq (EvN.ev (evn_comp (ds := [a5, a7, a12, a2, a9, a10, a1, a6, a11, a3, a4, a8].zip (dueV p q)) ["a", "b"] (fun z => fv z.1) (fun _ => true) (fun z => .val z.2) (compOk_of fe rfl (by decide +kernel) (by decide +kernel) (by decide +kernel) (by decide +kernel)) (by simp [dueV]) (evit_list (EvN.ev (evn_add (ds := [fv a5, fv a7, fv a12, fv a2, fv a9, fv a10, fv a1, fv a6, fv a11]) (es := [fv a3, fv a4, fv a8]) (EvN.ev (evn_add (ds := [fv a5, fv a7, fv a12, fv a2, fv a9, fv a10]) (es := [fv a1, fv a6, fv a11]) (EvN.ev (evn_add (ds := [fv a5, fv a7, fv a12]) (es := [fv a2, fv a9, fv a10]) (by walk_at "ev") (by walk_at "ev") (by simp))) (by walk_at "ev") (by simp))) (by walk_at "ev") (by simp)))) ?_)) ?_) ?_ (swaps_false (fe.cell (by decide +kernel))))
        · intro cenv ce k hk
          exact ⟨_, asg_name (by walk_at "st"), SubL.get (τ := [("a", .val (thing p)), ("b", .val (thing q))]) ⟨rfl, rfl, trivial⟩, tsts_nil, fun _ => ev_callv (a := k.1) rfl (ds := [thing p, thing q]) (by walk_at "as") (hall k hk)⟩
        · rw [filt_true]; simp [dueV]
        have hdl : ((dueV p q).map D.val).length = 12 := rfl
        have hget : ∀ k, k < 12 → ∃ v, ((dueV p q).map D.val)[k]? = some (.val v) ∧ PySem.plainIs v v = true := fun k hk => by
          have hk' : k < (dueV p q).length := hk
          exact ⟨(dueV p q)[k], by rw [List.getElem?_map, List.getElem?_eq_getElem hk']; rfl, dueV_plain p q _ (List.getElem_mem hk')⟩
        generalize (dueV p q).map D.val = dv at *
        refine ex_cons (ex_if (t := false) (tst_cmp (Ev.weak (EvN.ev (evn_comp (ds := List.range 12) ["told", "due"] (fun (k : Nat) => D.int (0 + (k : Int))) (fun _ => false) (fun (k : Nat) => D.int (0 + (k : Int))) (compOk_of fe rfl (by decide +kernel) (by decide +kernel) (by decide +kernel) (by decide +kernel)) (by decide) (evit_eq (evit_range (a := 0) (b := 12) (ev_rng1 fr (by walk_at "gk") (by walk_at "w")) (by omega) (by omega) (by omega) (by omega)) (rngD0 12)) ?_))) (Ev.weak (EvN.ev (evn_list (ds := [].map D.bool) evas_nil (by decide)))) (cmp_p (t := !(([] : List Bool) == [])) ?_ rfl)) (fun h => nomatch h) fun _ => ex_nil (ex_nil ⟨rfl, rfl, rfl, rfl, rfl, trivial⟩))
        · intro cenv ce k hk
          obtain ⟨v, hv, hpv⟩ := hget k (by simpa using hk)
          have hk' : k < 12 := by simpa using hk
          refine ⟨_, asg_name (by walk_at "st"), SubL.get (τ := [("told", .val (.list dv)), ("due", .val (.list dv))]) ⟨rfl, rfl, trivial⟩, tsts_one (tst_cmp (Ev.weak (ev_item (ds := dv) (k := 0 + (k : Int)) (d := .val v) (by walk_at "ev") (by walk_at "w") (by omega) (by omega) (by omega) ?_)) (Ev.weak (ev_item (ds := dv) (k := 0 + (k : Int)) (d := .val v) (by walk_at "ev") (by walk_at "w") (by omega) (by omega) (by omega) ?_)) (cmp_isnot_self hpv)), fun h => nomatch h⟩
          · rw [Int.zero_add, place_nat]; exact hv
          · rw [Int.zero_add, place_nat]; exact hv
        · rw [filter_false]; exact cmp_ne_bools [] []
      intro υ hυ
      exact ex_sub hυ (ex_nil ⟨rfl, rfl, rfl, rfl, rfl, trivial⟩)
    intro υ hυ
    refine ex_sub hυ ?_
    refine ex_sub (τ := [("numbers", .val (.list (D.ofInts nb)))]) ⟨rfl, trivial⟩ ?_
    refine ex_cons (ex_assignN (ds := []) (by walk_at "st") (evn_list evas_nil (by decide)) ?_ (by rfl))
    refine ex_cons (ex_forS (fun pre => [("numbers", .val (.list (D.ofInts nb))), ("row", .own (D.ofInts (rowTo nb pre.length)))]) (evit_range (a := 0) (b := ((D.ofInts nb).length : Int)) (ev_rng1 fr (by walk_at "gk") (by walk_at "w")) (by omega) (by omega) (by omega) (by omega)) ⟨rfl, rfl, trivial⟩ ?_ ?_)
    · intro pre d post e
      obtain ⟨rfl, hk⟩ := rngD_split e
      refine ⟨_, asg_name (by walk_at "st"), ?_⟩
      rw [List.length_append, List.length_singleton]
      generalize hc0 : pre.length = c at hk ⊢
      have hc : c < nb.length := by omega
      have hrl := rowTo_length nb c
      have hri := rowTo_in nb c
      have hnext : rowTo nb (c + 1) = insAt (rowTo nb c) (insPos (fun r => ahead (num nb c) (num nb r)) (rowTo nb c) (rowTo nb c).length) c := rfl
      rw [hnext]
      generalize rowTo nb c = row at *
      have hrd : (D.ofInts row).length = c := by rw [ofInts_length, hrl]
      generalize hf : (fun r => ahead (num nb c) (num nb r)) = f
      have hnum : num nb c = nb.getD c 0 := by unfold num; rw [Int.toNat_natCast]
      refine ex_cons (ex_assign (d := .int ((D.ofInts row).length : Int)) (by walk_at "st") (by walk_at "ev") ?_ (by rfl))
      refine ex_cons (ex_while (fun kk σ' => SubL [("numbers", .val (.list (D.ofInts nb))), ("row", .own (D.ofInts row)), ("place", .val (.int (0 + (c : Int)))), ("k", .val (.int (kk : Int)))] σ' ∧ kk ≤ c ∧ insPos f row kk = insPos f row row.length) c ⟨⟨rfl, rfl, rfl, by rw [hrd]; rfl, trivial⟩, Nat.le_refl _, by rw [hrl]⟩ ?_)
      rintro kk σ' ⟨hσ, hkc, hkp⟩
      cases kk with
      | zero =>
        refine ⟨false, tst_sub hσ (tst_eq (tst_and (t := false) (u := false) (tst_cmp (by walk_at "w") (by walk_at "w") (cmp_p cmp_gt (by simp))) fun h => nomatch h) rfl), fun _ => ?_, fun h => nomatch h⟩
        refine ex_sub hσ ?_
        refine ex_cons (ex_meth (ds := D.ofInts row) (as := [.int ((0 : Nat) : Int), .int (0 + (c : Int))]) rfl PySem.F.slot_list_insert PySem.F.type_list_insert (by walk_at "as") (mut_insert (by omega) (by omega) (by omega)) (ex_nil ⟨rfl, ?_, trivial⟩))
        show some (Bnd.own _) = some (Bnd.own _)
        rw [← hkp]
        unfold insPos insAt D.ofInts
        simp
      | succ j =>
        have hj : j < row.length := by omega
        have hr := hri _ (List.getElem_mem hj)
        have hrg : row.getD j 0 = row[j] := by rw [List.getD_eq_getElem?_getD, List.getElem?_eq_getElem hj]; rfl
        have hfj : f (row.getD j 0) = ahead (nb.getD c 0) (nb.getD (row[j]).toNat 0) := by rw [← hf, hrg]; dsimp only; rw [hnum]; rfl
        refine ⟨f (row.getD j 0), tst_sub hσ (tst_eq (tst_and (t := true) (u := f (row.getD j 0)) (tst_cmp (by walk_at "w") (by walk_at "w") (cmp_p cmp_gt (by simp))) fun _ => tst_ev (Ev.weak (ev_eq (ev_calld Fa (by walk_at "gk") (ds := [.int (nb.getD c 0), .int (nb.getD (row[j]).toNat 0)]) (evas_cons (ev_item (ds := D.ofInts nb) (k := 0 + (c : Int)) (by walk_at "ev") (by walk_at "w") (by omega) (by omega) (by omega) ?_) (evas_cons (ev_item (ds := D.ofInts nb) (k := row[j]) (by walk_at "ev") (Ev.weak (ev_itemO (ds := D.ofInts row) (k := ((j + 1 : Nat) : Int) - 1) rfl (by walk_at "w") (by omega) (by omega) (by omega) ?_)) (by omega) (by omega) (by omega) ?_) evas_nil)) (ahead_spec fr F Ft Fs Fa)) (by rw [hfj]))) tru_bool) (by simp)), fun hft => ?_, fun hft => ?_⟩
        · rw [Int.zero_add, place_nat]; exact ofInts_get hc
        · have e : ((j + 1 : Nat) : Int) - 1 = ((j : Nat) : Int) := by omega
          rw [e, place_nat, ofInts_get hj, hrg]
        · have e : place row[j] (D.ofInts nb).length = (row[j]).toNat := by unfold place; rw [if_neg (by omega)]
          rw [e]; exact ofInts_get (by omega)
        · refine ex_sub hσ ?_
          refine ex_cons (ex_meth (ds := D.ofInts row) (as := [.int ((j + 1 : Nat) : Int), .int (0 + (c : Int))]) rfl PySem.F.slot_list_insert PySem.F.type_list_insert (by walk_at "as") (mut_insert (by omega) (by omega) (by omega)) (ex_nil ⟨rfl, ?_, trivial⟩))
          show some (Bnd.own _) = some (Bnd.own _)
          rw [← hkp]
          unfold insPos insAt D.ofInts
          rw [hft]
          simp
        · refine ex_sub hσ ?_
          refine ex_cons (ex_augSub (j := 1) rfl (by walk_at "st") (by walk_at "w") (ex_nil ⟨j, Nat.lt_succ_self j, ⟨rfl, rfl, rfl, ?_, trivial⟩, by omega, ?_⟩))
          · show some (Bnd.val (.int _)) = some (Bnd.val (.int _))
            congr 3; omega
          · rw [← hkp]
            conv => rhs; unfold insPos
            rw [hft]; rfl
    intro υ hυ
    refine ex_sub hυ ?_
    rw [rngD_length, show (((D.ofInts nb).length : Int) - 0).toNat = nb.length by omega, row_law]
    refine ex_cons (ex_return (Ev.ret (ev_cmp (by walk_at "w") (Ev.weak (ev_eq (EvN.ev (evn_comp (ds := sortN (pairsOf nb)) [] tupN (fun _ => true) (fun q => .int q.2) (compOk_of fe rfl (by decide +kernel) (by decide +kernel) (by decide +kernel) (by decide +kernel)) ?_ (evit_list (EvN.ev (evn_sortedN (ks := pairsOf nb) (bn fr (by walk_at "gk") boot_sorted) (ev_eq (EvN.ev (evn_comp (ds := List.range nb.length) ["numbers"] (fun (k : Nat) => D.int (0 + (k : Int))) (fun _ => true) (fun (k : Nat) => tupN (sizeP (nb.getD k 0), (k : Int))) (compOk_of fe rfl (by decide +kernel) (by decide +kernel) (by decide +kernel) (by decide +kernel)) (by simp; omega) (evit_eq (evit_range (a := 0) (b := ((D.ofInts nb).length : Int)) (ev_rng1 fr (by walk_at "gk") (by walk_at "w")) (by omega) (by omega) (by omega) (by omega)) (by rw [hln, rngD0])) ?_)) ?_) ?_ ?_))) ?_)) (by rw [filt_true]; show D.list ((sortN (pairsOf nb)).map fun q => D.int q.2) = .list (D.ofInts ((sortN (pairsOf nb)).map (·.2))); simp [D.ofInts]))) (cmp_eq_ints _ _))) ?_)
    · rw [(sortN_perm _).length_eq]; simp [pairsOf]; omega
    · intro cenv ce k hk
      have hk' : k < nb.length := by simpa using hk
      refine ⟨_, asg_name (by walk_at "st"), SubL.get (τ := [("numbers", .val (.list (D.ofInts nb)))]) ⟨rfl, trivial⟩, tsts_nil, fun _ => ?_⟩
      refine ev_tuple (ds := [tp (sizeP (nb.getD k 0)), .int (k : Int)]) (evas_cons (ev_calld Fs (by walk_at "gk") (ds := [.int (nb.getD k 0)]) (evas_cons (ev_item (ds := D.ofInts nb) (k := 0 + (k : Int)) (by walk_at "ev") (by walk_at "w") (by omega) (by omega) (by omega) ?_) evas_nil) (size_spec fr Fs)) (evas_cons (ev_eq (by walk_at "ev") (by rw [Int.zero_add])) evas_nil)) (by simp)
      rw [Int.zero_add, place_nat]; exact ofInts_get hk'
    · rw [filt_true]; simp [pairsOf, List.map_map, Function.comp_def]
    · simp [pairsOf]; omega
    · simp [pairsOf]; omega
    · intro cenv ce k hk
      exact ⟨_, asg_tuple (ds := [tp k.1, .int k.2]) (asgs_cons (asg_name (by walk_at "st")) (asgs_cons (asg_name (by walk_at "st")) asgs_nil)), SubL.get (τ := []) trivial, tsts_nil, fun _ => by walk_at "ev"⟩
    · show D.bool _ = D.bool true
      simp

theorem ints_rp {h : Heap} {X : Addr → Prop} : ∀ {vs : List Value} {ns : List Int}, IntsAre vs ns → RpAll h X vs (D.ofInts ns)
  | _, _, .nil => .nil
  | _, _, .cons n t r => .cons (.int n t) (ints_rp r)

theorem has_of {p : Program} {loose : List Str} {mean : ExcName → Option Value} {mg mb : Str → Option Value} {h : Heap} (prog : Program) (w : World) (T : Top p loose mean mg mb h) (x : String) (i : Nat) (f : Def)
    (hd : (recsOf p)[i]?.map (fun d => (d.name, d.params, d.body, d.scope)) = some (f.name, f.params, f.body, f.scope)) (hn : f.name = S x) : ∃ a, HasDef ⟨prog, w, h, mg, mb⟩ x a f := by
  obtain ⟨d, hd1, hd2⟩ := Option.map_eq_some_iff.mp hd
  simp only [Prod.mk.injEq] at hd2
  obtain ⟨h1, h2, h3, h4⟩ := hd2
  obtain ⟨a, o, pm, code, doc, e1, e2, e3, e4⟩ := T.fn d (List.mem_of_getElem? hd1)
  refine ⟨a, ⟨by rw [← hn, ← h1]; exact e1, ⟨o, pm, code, doc, e2, ?_, ?_⟩⟩⟩
  · rw [e3, h1, h2, h3, h4]
  · rw [← h1]; exact e4
theorem free_of {p : Program} {loose : List Str} {mean : ExcName → Option Value} {mg mb : Str → Option Value} {h : Heap} (prog : Program) (w : World) (T : Top p loose mean mg mb h)
    (hc : (bnames.all fun x => !(startupNames.contains (S x) || loose.contains (S x) || ((recsOf p).map (·.name)).contains (S x) || ((litsOf p).map (·.1)).contains (S x) || ((clssOf p loose).map (·.name)).contains (S x))) = true) : Free ⟨prog, w, h, mg, mb⟩ := by
  intro x hx
  have := List.all_eq_true.mp hc x hx
  simp only [Bool.not_eq_true', Bool.or_eq_false_iff] at this
  obtain ⟨⟨⟨⟨a, b⟩, c⟩, d⟩, e⟩ := this
  have nc : ∀ {l : List Str}, l.contains (S x) = false → S x ∉ l := fun h hm => by rw [List.contains_iff_mem.mpr hm] at h; cases h
  exact T.free (S x) (nc a) (nc b) (nc c) (nc d) (nc e)

end Mine
open Mine
set_option maxHeartbeats 8000000 in
theorem PySem.Challenge.cw_dm0115_09_holds : PySem.Challenge.rw_dm0115_09.Holds := by
  w_on; o_law; k_head; (case hw => w_witness2)
  k_fill
  intro w s₀ s₁ mg mb G Y fa o pm cd doc dV kV ho hd hcd hD hmg hg args vals aas hpre hlay hrd hwl hlo
  refine Ground.open G ?_
  intro T B D TE TW
  wrow_args hpre hlay hrd hwl hlo
  rename_i ns _ _ _ _ _ _ _ la vs _ hl _ _ _ hI _ hlen _
  have e1 := Dflts.none hD rfl
  have e2 := Dflts.noKw hD
  subst e1; subst e2
  obtain ⟨a1, H1⟩ := has_of PySem.Challenge.rw_dm0115_09.row.prog w T "_gt_from_lt" 0 (defAt pw 1) (by kernel_rfl) rfl
  obtain ⟨a2, H2⟩ := has_of PySem.Challenge.rw_dm0115_09.row.prog w T "_le_from_lt" 1 (defAt pw 2) (by kernel_rfl) rfl
  obtain ⟨a3, H3⟩ := has_of PySem.Challenge.rw_dm0115_09.row.prog w T "_ge_from_lt" 2 (defAt pw 3) (by kernel_rfl) rfl
  obtain ⟨a4, H4⟩ := has_of PySem.Challenge.rw_dm0115_09.row.prog w T "_ge_from_le" 3 (defAt pw 4) (by kernel_rfl) rfl
  obtain ⟨a5, H5⟩ := has_of PySem.Challenge.rw_dm0115_09.row.prog w T "_lt_from_le" 4 (defAt pw 5) (by kernel_rfl) rfl
  obtain ⟨a6, H6⟩ := has_of PySem.Challenge.rw_dm0115_09.row.prog w T "_gt_from_le" 5 (defAt pw 6) (by kernel_rfl) rfl
  obtain ⟨a7, H7⟩ := has_of PySem.Challenge.rw_dm0115_09.row.prog w T "_lt_from_gt" 6 (defAt pw 7) (by kernel_rfl) rfl
  obtain ⟨a8, H8⟩ := has_of PySem.Challenge.rw_dm0115_09.row.prog w T "_ge_from_gt" 7 (defAt pw 8) (by kernel_rfl) rfl
  obtain ⟨a9, H9⟩ := has_of PySem.Challenge.rw_dm0115_09.row.prog w T "_le_from_gt" 8 (defAt pw 9) (by kernel_rfl) rfl
  obtain ⟨a10, H10⟩ := has_of PySem.Challenge.rw_dm0115_09.row.prog w T "_le_from_ge" 9 (defAt pw 10) (by kernel_rfl) rfl
  obtain ⟨a11, H11⟩ := has_of PySem.Challenge.rw_dm0115_09.row.prog w T "_gt_from_ge" 10 (defAt pw 11) (by kernel_rfl) rfl
  obtain ⟨a12, H12⟩ := has_of PySem.Challenge.rw_dm0115_09.row.prog w T "_lt_from_ge" 11 (defAt pw 12) (by kernel_rfl) rfl
  obtain ⟨x0, X0⟩ := has_of PySem.Challenge.rw_dm0115_09.row.prog w T "_law_heaps" 12 (defAt pw 14) (by kernel_rfl) rfl
  obtain ⟨x1, X1⟩ := has_of PySem.Challenge.rw_dm0115_09.row.prog w T "_law_thing" 13 (defAt pw 15) (by kernel_rfl) rfl
  obtain ⟨x2, X2⟩ := has_of PySem.Challenge.rw_dm0115_09.row.prog w T "_law_size" 14 (defAt pw 16) (by kernel_rfl) rfl
  obtain ⟨x3, X3⟩ := has_of PySem.Challenge.rw_dm0115_09.row.prog w T "_law_ahead" 15 (defAt pw 17) (by kernel_rfl) rfl
  have fr := free_of PySem.Challenge.rw_dm0115_09.row.prog w T (by decide +kernel)
  have bo : Bas.Ok ⟨PySem.Challenge.rw_dm0115_09.row.prog, w, s₁.heap, mg, mb⟩ := ⟨T.g, T.b, T.builtins, T.nolimit⟩
  have key := law_spec fr (n := 3) ⟨H1, H2, H3, H4, H5, H6, H7, H8, H9, H10, H11, H12⟩ X0 X1 X2 X3 (a := fa) ⟨o, pm, cd, doc, ho, hd, hcd⟩ (l := ns) (by omega)
  refine key (fun _ => False) callerA s₁ _ _ [.ref la] bo ⟨rfl, by decide, by decide⟩ (fun _ _ e => e) (fun _ q => q.elim) (.cons (.list hl id (ints_rp hI)) .nil) fun v s' k r => ?_
  cases rp_val r
  obtain ⟨h', tk, rfl, k⟩ := k
  exact GoodW.toG ⟨.inl ⟨.bool true, .bool true, [], rfl, (fun cls => by rfl), ReadsW.bool true, (postW_of (by rfl) (w_eq_bool (w_res rfl) w_lit) (by rfl)), unshared_nil⟩, k, rfl, hg⟩

