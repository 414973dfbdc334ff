import PyProof.Rows.All
import Wide.All
import OpenK.AllK
import Wide.FinOn
import PySem.Challenge.RW_dm0115_08
open PySem PySem.W PySem.Calls PyProof.Rows
set_option Elab.async false
set_option maxRecDepth 100000
set_option linter.unusedVariables false
set_option linter.unusedSectionVars false
set_option linter.unusedSimpArgs false
namespace Mine

/-- data -/
inductive D where
  | int (i : Int)
  | str (x : Str)
  | val (v : Value)
  | tuple (ds : List D)
  | list (ds : List D)
  | range (a b : Int)
  | flt (b : UInt64)
  | obj (p : Obj → Prop)
  | abs (p : Value → List (Addr × Obj) → Prop)

/-- the kind of an iterator's object -/
def IterObj (o : Obj) : Prop := ∃ nm vs, o.cls = .type nm ∧ o.data = .fields vs ∧ nm ≠ "range"

abbrev D.bool (b : Bool) : D := .val (.bool b)
abbrev D.none : D := .val .none

def byVal : Value → Bool
  | .none | .ellipsis | .notImplemented | .bool _ | .type _ | .builtin _ => true
  | _ => false

mutual
inductive Rp (h : Heap) (X : Addr → Prop) : Value → D → Prop
  | int (i t) : Rp h X (.int i t) (.int i)
  | str (x t) : Rp h X (.str x t) (.str x)
  | val (v) : byVal v = true → Rp h X v (.val v)
  | fn (a o f) : h.get? a = some o → o.data = .func f → ¬ X a → Rp h X (.ref a) (.val (.ref a))
  | tuple {a vs ds} : IsTup h a vs.toArray → ¬ X a → RpAll h X vs ds → Rp h X (.ref a) (.tuple ds)
  | list {a vs ds} : h.IsList a vs.toArray → ¬ X a → RpAll h X vs ds → Rp h X (.ref a) (.list ds)
  | range {r a b t u v} : IsRange h r a b 1 t u v → ¬ X r → Rp h X (.ref r) (.range a b)
  | flt (b t) : Rp h X (.float b t) (.flt b)
  | obj {a o p} : h.get? a = some o → p o → ¬ IterObj o → ¬ X a → Rp h X (.ref a) (.obj p)
  | abs {v p} (F : List (Addr × Obj)) : p v F → (∀ q ∈ F, h.get? q.1 = some q.2 ∧ ¬ IterObj q.2 ∧ ¬ X q.1) → Rp h X v (.abs p)
inductive RpAll (h : Heap) (X : Addr → Prop) : List Value → List D → Prop
  | nil : RpAll h X [] []
  | cons {v vs d ds} : Rp h X v d → RpAll h X vs ds → RpAll h X (v :: vs) (d :: ds)
end

theorem IsTup.at' {h h' : Heap} {a : Addr} {its} (x : IsTup h a its) (e : ∀ o, h.get? a = some o → h'.get? a = some o) : IsTup h' a its :=
  let ⟨o, ho, r⟩ := x; ⟨o, e o ho, r⟩

mutual
theorem Rp.mono {h h' : Heap} {X X' : Addr → Prop} (hk : ∀ a o, ¬ X a → h.get? a = some o → h'.get? a = some o) (hx : ∀ a o, ¬ X a → h.get? a = some o → ¬ X' a) :
    ∀ {v d}, Rp h X v d → Rp h' X' v d
  | _, _, .int i t => .int i t
  | _, _, .str x t => .str x t
  | _, _, .val v e => .val v e
  | _, _, .fn a o f ho hd hn => .fn a o f (hk _ _ hn ho) hd (hx _ _ hn ho)
  | _, _, .tuple ht hn hr => .tuple (IsTup.at' ht fun o e => hk _ o hn e) (let ⟨_, ho, _⟩ := ht; hx _ _ hn ho) (RpAll.mono hk hx hr)
  | _, _, .list ht hn hr => .list (ht.at fun o e => hk _ o hn e) (let ⟨_, ho, _⟩ := ht; hx _ _ hn ho) (RpAll.mono hk hx hr)
  | _, _, .range ht hn => .range (hk _ _ hn ht) (hx _ _ hn ht)
  | _, _, .flt b t => .flt b t
  | _, _, .obj ho hp hi hn => .obj (hk _ _ hn ho) hp hi (hx _ _ hn ho)
  | _, _, .abs F hp hq => .abs F hp fun q m => let ⟨a, b, c⟩ := hq q m; ⟨hk _ _ c a, b, hx _ _ c a⟩
theorem RpAll.mono {h h' : Heap} {X X' : Addr → Prop} (hk : ∀ a o, ¬ X a → h.get? a = some o → h'.get? a = some o) (hx : ∀ a o, ¬ X a → h.get? a = some o → ¬ X' a) :
    ∀ {vs ds}, RpAll h X vs ds → RpAll h' X' vs ds
  | _, _, .nil => .nil
  | _, _, .cons a r => .cons (Rp.mono hk hx a) (RpAll.mono hk hx r)
end

section
variable {h h' : Heap} {X X' : Addr → Prop} {v : Value} {d : D} {vs ws : List Value} {ds es : List D}
theorem Rp.keeps (hk : ∀ a o, h.get? a = some o → h'.get? a = some o) (x : Rp h X v d) : Rp h' X v d := x.mono (fun a o _ e => hk a o e) fun _ _ n _ => n
theorem RpAll.keeps (hk : ∀ a o, h.get? a = some o → h'.get? a = some o) (x : RpAll h X vs ds) : RpAll h' X vs ds := x.mono (fun a o _ e => hk a o e) fun _ _ n _ => n
theorem Rp.sub (hs : ∀ a, X' a → X a) (x : Rp h X v d) : Rp h X' v d := x.mono (fun _ _ _ e => e) fun a _ n _ q => n (hs a q)
theorem RpAll.sub (hs : ∀ a, X' a → X a) (x : RpAll h X vs ds) : RpAll h X' vs ds := x.mono (fun _ _ _ e => e) fun a _ n _ q => n (hs a q)
theorem RpAll.length (x : RpAll h X vs ds) : vs.length = ds.length := by
  induction vs generalizing ds with
  | nil => cases x; rfl
  | cons v vs ih => cases x with | cons _ r => simp [ih r]
theorem RpAll.append (x : RpAll h X vs ds) (y : RpAll h X ws es) : RpAll h X (vs ++ ws) (ds ++ es) := by
  induction vs generalizing ds with
  | nil => cases x; exact y
  | cons v vs ih => cases x with | cons a r => exact .cons a (ih r)
theorem RpAll.get (x : RpAll h X vs ds) {k : Nat} {v : Value} (hv : vs[k]? = some v) : ∃ d, ds[k]? = some d ∧ Rp h X v d := by
  induction vs generalizing ds k with
  | nil => simp at hv
  | cons w vs ih =>
    cases x with
    | cons a r =>
      cases k with
      | zero => simp at hv; subst hv; exact ⟨_, rfl, a⟩
      | succ k => simp at hv; simpa using ih r hv
theorem RpAll.get' (x : RpAll h X vs ds) {k : Nat} {d : D} (hd : ds[k]? = some d) : ∃ v, vs[k]? = some v ∧ Rp h X v d := by
  induction vs generalizing ds k with
  | nil => cases x; simp at hd
  | cons w vs ih =>
    cases x with
    | cons a r =>
      cases k with
      | zero => simp at hd; subst hd; exact ⟨_, rfl, a⟩
      | succ k => simp at hd; simpa using ih r hd
theorem RpAll.take (x : RpAll h X vs ds) (k : Nat) : RpAll h X (vs.take k) (ds.take k) := by
  induction vs generalizing ds k with
  | nil => cases x; simp; exact .nil
  | cons w vs ih => cases x with | cons a r => cases k with
    | zero => exact .nil
    | succ k => exact .cons a (ih r k)
theorem RpAll.drop (x : RpAll h X vs ds) (k : Nat) : RpAll h X (vs.drop k) (ds.drop k) := by
  induction vs generalizing ds k with
  | nil => cases x; simp; exact .nil
  | cons w vs ih => cases x with | cons a r => cases k with
    | zero => exact .cons a r
    | succ k => exact ih r k
theorem RpAll.one (x : Rp h X v d) : RpAll h X [v] [d] := .cons x .nil
end

/-- what a name of the frame holds -/
def VarIs (env : Env) (h : Heap) (x : Str) (v : Value) : Prop :=
  (env.kindOf x = some .local ∧ ∃ m, h.Ns env.locals m ∧ m x = some v) ∨
  ((env.kindOf x = some .cell ∨ env.kindOf x = some .free) ∧ ∃ c, env.cells.lookup x = some c ∧ h.IsCell c (some v))

theorem VarIs.keeps {env h h' x v} (y : VarIs env h x v) (hk : ∀ a o, h.get? a = some o → h'.get? a = some o) : VarIs env h' x v := by
  rcases y with ⟨k, m, n, e⟩ | ⟨k, c, l, e⟩
  · exact .inl ⟨k, m, n.keeps hk, e⟩
  · exact .inr ⟨k, c, l, e.keeps hk⟩

inductive Bnd where
  | val (d : D)
  | own (ds : List D)

abbrev Sto := List (String × Bnd)
def Sto.get : Sto → String → Option Bnd
  | [], _ => none
  | (y, b) :: r, x => if y = x then some b else Sto.get r x
def Sto.put : Sto → String → Bnd → Sto
  | [], x, b => [(x, b)]
  | (y, c) :: r, x, b => if y = x then (x, b) :: r else (y, c) :: Sto.put r x b
def Sto.del : Sto → String → Sto
  | [], _ => []
  | (y, c) :: r, x => if y = x then Sto.del r x else (y, c) :: Sto.del r x

theorem Sto.get_put (σ : Sto) (x : String) (b : Bnd) (y : String) : (σ.put x b).get y = if x = y then some b else σ.get y := by
  induction σ with
  | nil => simp [Sto.put, Sto.get]
  | cons p r ih =>
    obtain ⟨z, c⟩ := p
    unfold Sto.put
    by_cases hz : z = x
    · subst hz; simp only [if_true, Sto.get]; split <;> rfl
    · simp only [hz, if_false, Sto.get, ih]
      by_cases h1 : z = y
      · subst h1; simp [Ne.symm hz]
      · simp [h1]

abbrev S (x : String) : Str := Str.ofString x

theorem S_inj {x y : String} (h : S x = S y) : x = y := by
  have hx : ∀ s : String, S s = Str.ofStringByList s := fun s => by unfold S; rw [Str.ofString_eq_byList]
  rw [hx, hx] at h
  unfold Str.ofStringByList at h
  injection h with h
  have h' : x.toList.map Char.toNat = y.toList.map Char.toNat := by simpa using h
  have inj : ∀ (a b : List Char), a.map Char.toNat = b.map Char.toNat → a = b := by
    intro a
    induction a with
    | nil => intro b hb; cases b <;> simp at hb ⊢
    | cons c r ih =>
      intro b hb
      cases b with
      | nil => simp at hb
      | cons e t =>
        simp only [List.map_cons, List.cons.injEq] at hb
        rw [ih t hb.2]
        congr 1
        apply Char.ext
        apply UInt32.toNat_inj.mp
        exact hb.1
  exact String.ext (inj _ _ h') 

/-- the base: what the text's top has left -/
structure Bas where
  prog : Program
  w : World
  hB : Heap
  mg : Str → Option Value
  mb : Str → Option Value

structure Bas.Ok (B : Bas) : Prop where
  g : B.hB.Ns mainGlobals B.mg
  b : B.hB.Ns builtinsNs B.mb
  builtins : ∀ x : Str, x ≠ "__name__" → B.mb x = bootBuiltins x
  nolimit : B.hB.NoLimit

/-- room for n calls more -/
structure AOk (n : Nat) (A : Around) : Prop where
  handled : A.handled = none
  depth : A.depth + n < recursionLimit
  units : A.units + 5 * n + 100 < cLine

structure EnvOk (env : Env) : Prop where
  kind : env.scope.kind = .function
  globals : env.globals = mainGlobals
  builtins : env.builtins = builtinsNs
  apart : ∀ x y c, env.cells.lookup x = some c → env.cells.lookup y = some c → x = y

def BndIs (env : Env) (h : Heap) (X O : Addr → Prop) (x : String) : Bnd → Prop
  | .val d => ∃ v, VarIs env h (S x) v ∧ Rp h X v d
  | .own ds => ∃ a vs, VarIs env h (S x) (.ref a) ∧ O a ∧ a ≠ env.locals ∧ h.PlainList a vs.toArray ∧ RpAll h X vs ds

structure St (B : Bas) (h₀ : Heap) (P : Addr → Prop) (env : Env) (σ : Sto) (O : Addr → Prop) (h : Heap) : Prop where
  base : ∀ b o, B.hB.get? b = some o → h₀.get? b = some o
  keep : ∀ b o, h₀.get? b = some o → h.get? b = some o
  plive : ∀ a, P a → (∃ o, h₀.get? a = some o) ∧ B.hB.get? a = none
  live : ∀ a, O a → ∃ o, h.get? a = some o
  new : ∀ a, O a → h₀.get? a = none
  ok : EnvOk env
  loc : O env.locals
  ns : ∃ m, h.Ns env.locals m
  cells : ∀ x c, env.cells.lookup x = some c → (∃ v, h.IsCell c v) ∧ (env.func.isSome = true → O c)
  vars : ∀ x b, σ.get x = some b → BndIs env h (fun a => P a ∨ O a) O x b
  apart : ∀ x y ds es a, x ≠ y → σ.get x = some (.own ds) → σ.get y = some (.own es) → VarIs env h (S x) (.ref a) → VarIs env h (S y) (.ref a) → False

/-- what may change is none of the text's own -/
theorem St.xlive {B h₀ P env σ O h} (T : St B h₀ P env σ O h) {b : Addr} (q : P b ∨ O b) : (∃ o, h.get? b = some o) ∧ B.hB.get? b = none := by
  rcases q with q | q
  · obtain ⟨⟨o, e⟩, z⟩ := T.plive b q; exact ⟨⟨o, T.keep b o e⟩, z⟩
  · refine ⟨T.live b q, ?_⟩
    cases e : B.hB.get? b with
    | none => rfl
    | some o => have := T.new b q; rw [T.base b o e] at this; cases this

def Mov (O : Addr → Prop) (s s' : Shared) : Prop := ∃ h' tk, s' = { s with heap := h', toks := tk } ∧ ∀ b o, ¬ O b → s.heap.get? b = some o → h'.get? b = some o

theorem Mov.refl (O s) : Mov O s s := ⟨s.heap, s.toks, rfl, fun _ _ _ e => e⟩
theorem Mov.of_keeps {O s s'} (k : Keeps s s') : Mov O s s' := let ⟨h', tk, e, k⟩ := k; ⟨h', tk, e, fun b o _ x => k b o x⟩
theorem Mov.trans {O O' : Addr → Prop} {s s' s'' : Shared} (a : Mov O s s') (b : Mov O' s' s'') (hs : ∀ b, O' b → O b ∨ s.heap.get? b = none) : Mov O s s'' := by
  obtain ⟨h', tk, rfl, k⟩ := a
  obtain ⟨h'', tk', rfl, k'⟩ := b
  exact ⟨h'', tk', rfl, fun b o n e => k' b o (fun q => by rcases hs b q with q | q; exact n q; rw [q] at e; cases e) (k b o n e)⟩
theorem krefl (s : Shared) : Keeps s s := ⟨s.heap, s.toks, rfl, fun _ _ e => e⟩
theorem ktok (s : Shared) (t : Nat) : Keeps s { s with toks := t } := ⟨s.heap, t, rfl, fun _ _ e => e⟩
theorem ktrans {s s' s'' : Shared} (a : Keeps s s') (b : Keeps s' s'') : Keeps s s'' := by
  obtain ⟨h', tk, rfl, k⟩ := a
  obtain ⟨h'', tk', rfl, k'⟩ := b
  exact ⟨h'', tk', rfl, fun b o e => k' b o (k b o e)⟩
theorem kpush (s : Shared) (o : Obj) (t : Nat) : Keeps s { s with heap := s.heap.push o, toks := t } := ⟨_, t, rfl, fun _ _ e => Heap.get?_push_of_some _ e⟩
theorem kpush' (s : Shared) (o : Obj) : Keeps s { s with heap := s.heap.push o } := ⟨_, s.toks, rfl, fun _ _ e => Heap.get?_push_of_some _ e⟩
theorem kheap {s s' : Shared} (a : Keeps s s') : ∀ b o, s.heap.get? b = some o → s'.heap.get? b = some o := by obtain ⟨h', tk, rfl, k⟩ := a; exact k
theorem fresh_of {h : Heap} {a : Addr} (ha : h.objs.size ≤ a) : h.get? a = none := by
  cases e : h.get? a with
  | none => rfl
  | some o => exact absurd (Heap.lt_size e) (Nat.not_lt.mpr ha)

section
variable {B : Bas} {h₀ h h' : Heap} {P O : Addr → Prop} {env : Env} {σ : Sto}
theorem VarIs.fn {x : Str} {v w : Value} (a : VarIs env h x v) (b : VarIs env h x w) : v = w := by
  rcases a with ⟨k, m, n, e⟩ | ⟨k, c, l, e⟩ <;> rcases b with ⟨k', m', n', e'⟩ | ⟨k', c', l', e'⟩
  · rw [n.eq_nsMap] at e; rw [n'.eq_nsMap] at e'; rw [e] at e'; exact Option.some.inj e'
  · rcases k' with k' | k' <;> rw [k] at k' <;> cases k'
  · rcases k with k | k <;> rw [k] at k' <;> cases k'
  · rw [l] at l'; cases l'
    obtain ⟨o, ho, hd⟩ := e; obtain ⟨o', ho', hd'⟩ := e'
    rw [ho] at ho'; cases ho'; rw [hd] at hd'; cases hd'; rfl
theorem VarIs.back {x : Str} {v w : Value} (hk : ∀ a o, h.get? a = some o → h'.get? a = some o) (a : VarIs env h x v) (b : VarIs env h' x w) : w = v := (b.fn (a.keeps hk))
theorem BndIs.keeps {X : Addr → Prop} {x : String} {b : Bnd} (hk : ∀ a o, h.get? a = some o → h'.get? a = some o) (y : BndIs env h X O x b) : BndIs env h' X O x b := by
  cases b with
  | val d => obtain ⟨v, a, r⟩ := y; exact ⟨v, a.keeps hk, r.keeps hk⟩
  | own ds => obtain ⟨a, vs, hv, ho, hl, hp, r⟩ := y; exact ⟨a, vs, hv.keeps hk, ho, hl, hp.at fun o e => hk _ o e, r.keeps hk⟩
theorem BndIs.var {X : Addr → Prop} {x : String} {b : Bnd} (y : BndIs env h X O x b) : ∃ v, VarIs env h (S x) v := by
  cases b with
  | val d => obtain ⟨v, a, _⟩ := y; exact ⟨v, a⟩
  | own ds => obtain ⟨a, vs, hv, _⟩ := y; exact ⟨_, hv⟩
theorem St.keeps (T : St B h₀ P env σ O h) (hk : ∀ a o, h.get? a = some o → h'.get? a = some o) : St B h₀ P env σ O h' where
  base := T.base
  keep := fun b o e => hk b o (T.keep b o e)
  plive := T.plive
  live := fun a q => let ⟨o, e⟩ := T.live a q; ⟨o, hk a o e⟩
  new := T.new
  ok := T.ok
  loc := T.loc
  ns := let ⟨m, n⟩ := T.ns; ⟨m, n.keeps hk⟩
  cells := fun x c l => let ⟨⟨v, e⟩, f⟩ := T.cells x c l; ⟨⟨v, e.keeps hk⟩, f⟩
  vars := fun x b e => (T.vars x b e).keeps hk
  apart := fun x y ds es a ne hx hy vx vy => by
    obtain ⟨v, a1⟩ := (T.vars x _ hx).var
    obtain ⟨v', a2⟩ := (T.vars y _ hy).var
    have e1 := a1.back hk vx; have e2 := a2.back hk vy
    subst e1; subst e2
    exact T.apart x y ds es a ne hx hy a1 a2
theorem St.kp {s s' : Shared} (T : St B h₀ P env σ O s.heap) (k : Keeps s s') : St B h₀ P env σ O s'.heap := T.keeps (kheap k)
/-- a new address is not among those that may change -/
theorem St.notX (T : St B h₀ P env σ O h) {a : Addr} (ha : h.get? a = none) : ¬ (P a ∨ O a) := by
  rintro (q | q)
  · obtain ⟨⟨o, e⟩, _⟩ := T.plive a q; rw [T.keep _ _ e] at ha; cases ha
  · obtain ⟨o, e⟩ := T.live a q; rw [e] at ha; cases ha
theorem St.notX' (T : St B h₀ P env σ O h) {a : Addr} (ha : h.objs.size ≤ a) : ¬ (P a ∨ O a) := T.notX (fresh_of ha)
end

/-- an expression's value, its parts never to change -/
def Ev (B : Bas) (n : Nat) (env : Env) (σ : Sto) (e : Expr) (d : D) : Prop :=
  ∀ (h₀ : Heap) (P O : Addr → Prop) (A : Around) (s : Shared) (E : Value → Shared → Prop) (Q : Value → Shared → Prop), B.Ok → AOk n A → St B h₀ P env σ O s.heap →
    (∀ v s', Keeps s s' → Rp s'.heap (fun a => P a ∨ O a) v d → Q v s') → wpAny (model B.prog B.w) A (eval e env) Q E s
/-- an expression's value, as it stands now -/
def EvW (B : Bas) (n : Nat) (env : Env) (σ : Sto) (e : Expr) (d : D) : Prop :=
  ∀ (h₀ : Heap) (P O : Addr → Prop) (A : Around) (s : Shared) (E : Value → Shared → Prop) (Q : Value → Shared → Prop), B.Ok → AOk n A → St B h₀ P env σ O s.heap →
    (∀ v s', Keeps s s' → Rp s'.heap (fun _ => False) v d → Q v s') → wpAny (model B.prog B.w) A (eval e env) Q E s
/-- a new list, no one else's -/
def EvN (B : Bas) (n : Nat) (env : Env) (σ : Sto) (e : Expr) (ds : List D) : Prop :=
  ∀ (h₀ : Heap) (P O : Addr → Prop) (A : Around) (s : Shared) (E : Value → Shared → Prop) (Q : Value → Shared → Prop), B.Ok → AOk n A → St B h₀ P env σ O s.heap →
    (∀ a vs s', Keeps s s' → s.heap.get? a = none → s'.heap.PlainList a vs.toArray → RpAll s'.heap (fun b => P b ∨ O b ∨ b = a) vs ds → Q (.ref a) s') → wpAny (model B.prog B.w) A (eval e env) Q E s
/-- what may be handed back -/
def EvR (B : Bas) (n : Nat) (env : Env) (σ : Sto) (e : Expr) (d : D) : Prop :=
  ∀ (h₀ : Heap) (P O : Addr → Prop) (A : Around) (s : Shared) (E : Value → Shared → Prop) (Q : Value → Shared → Prop), B.Ok → AOk n A → St B h₀ P env σ O s.heap →
    (∀ v s', Keeps s s' → Rp s'.heap P v d → Q v s') → wpAny (model B.prog B.w) A (eval e env) Q E s

section
variable {B : Bas} {n : Nat} {env : Env} {σ : Sto} {e : Expr} {d : D} {ds : List D}
theorem Ev.weak (x : Ev B n env σ e d) : EvW B n env σ e d := fun h₀ P O A s E Q b a T k => x h₀ P O A s E Q b a T fun v s' ks r => k v s' ks (r.sub fun _ q => q.elim)
theorem Ev.ret (x : Ev B n env σ e d) : EvR B n env σ e d := fun h₀ P O A s E Q b a T k => x h₀ P O A s E Q b a T fun v s' ks r => k v s' ks (r.sub fun _ q => .inl q)
theorem EvN.ev (x : EvN B n env σ e ds) : Ev B n env σ e (.list ds) := fun h₀ P O A s E Q b a T k => x h₀ P O A s E Q b a T fun a vs s' ks hn hp r =>
  k _ s' ks (.list hp.isList (T.notX hn) (r.sub fun b q => q.elim .inl fun q => .inr (.inl q)))
end

/-- a name read -/
theorem wp_name {B : Bas} {h₀ : Heap} {P O : Addr → Prop} {env : Env} {σ : Sto} {A : Around} {s : Shared} {E : Value → Shared → Prop} {Q : Value → Shared → Prop} {x : String} {p : Pos} {v : Value}
    (T : St B h₀ P env σ O s.heap) (hv : VarIs env s.heap (S x) v) (h : Q v s) (hd : (S x == ("__debug__" : Str)) = false) (hc : (S x == ("__classdict__" : Str)) = false) : wpAny (model B.prog B.w) A (eval (.Name (S x) p) env) Q E s := by
  refine wpAny_Name ?_ hd
  rcases hv with ⟨k, m, n, e⟩ | ⟨k | k, c, l, e⟩
  · exact wpAny_loadName_local T.ok.kind k n e h
  · exact wpAny_loadName_cell T.ok.kind k l e h
  · exact wpAny_loadName_free T.ok.kind k l e h hc

theorem plainName {x y : String} (h : x ≠ y) : (S x == S y) = false := by
  rw [beq_eq_false_iff_ne]; exact fun e => h (S_inj e)

section
variable {B : Bas} {n : Nat} {env : Env} {σ : Sto} {x : String} {p : Pos} {d : D} {ds : List D}
theorem ev_name (h : σ.get x = some (.val d)) (h1 : x ≠ "__debug__" := by decide) (h2 : x ≠ "__classdict__" := by decide) : Ev B n env σ (.Name (S x) p) d := by
  intro h₀ P O A s E Q _ _ T k
  obtain ⟨v, hv, r⟩ := T.vars x _ h
  exact wp_name T hv (k v s (krefl s) r) (plainName h1) (plainName h2)
theorem evw_own (h : σ.get x = some (.own ds)) (h1 : x ≠ "__debug__" := by decide) (h2 : x ≠ "__classdict__" := by decide) : EvW B n env σ (.Name (S x) p) (.list ds) := by
  intro h₀ P O A s E Q _ _ T k
  obtain ⟨a, vs, hv, ho, hl, hp, r⟩ := T.vars x _ h
  exact wp_name T hv (k _ s (krefl s) (.list hp.isList id (r.sub fun _ q => q.elim))) (plainName h1) (plainName h2)
theorem evr_own (h : σ.get x = some (.own ds)) (h1 : x ≠ "__debug__" := by decide) (h2 : x ≠ "__classdict__" := by decide) : EvR B n env σ (.Name (S x) p) (.list ds) := by
  intro h₀ P O A s E Q _ _ T k
  obtain ⟨a, vs, hv, ho, hl, hp, r⟩ := T.vars x _ h
  exact wp_name T hv (k _ s (krefl s) (.list hp.isList (fun q => by obtain ⟨⟨o, e⟩, _⟩ := T.plive _ q; rw [T.new _ ho] at e; cases e) (r.sub fun _ q => .inl q))) (plainName h1) (plainName h2)
end

def Storable (env : Env) (x : String) : Prop :=
  env.kindOf (S x) = some .local ∨ (env.kindOf (S x) = some .cell ∧ env.func.isSome = true ∧ (env.cells.lookup (S x)).isSome = true)

def NewB (env : Env) (h : Heap) (X O : Addr → Prop) (σ : Sto) (x : String) (v : Value) : Bnd → Prop
  | .val d => Rp h X v d
  | .own ds => ∃ a vs, v = .ref a ∧ O a ∧ a ≠ env.locals ∧ h.PlainList a vs.toArray ∧ RpAll h X vs ds ∧ ∀ y es, y ≠ x → σ.get y = some (.own es) → ¬ VarIs env h (S y) (.ref a)

section
variable {B : Bas} {h₀ h h' : Heap} {P O : Addr → Prop} {env : Env} {σ : Sto}

theorem plain_ne_ns {h : Heap} {a b : Addr} {its m} (p : h.IsList a its) (n : h.Ns b m) : a ≠ b := by
  rintro rfl
  obtain ⟨k, e, _, _, d'⟩ := p; obtain ⟨o, es, ep, e', d, _⟩ := n
  rw [e] at e'; cases e'; rw [d'] at d; cases d
theorem plain_ne_cell {h : Heap} {a b : Addr} {its v} (p : h.IsList a its) (n : h.IsCell b v) : a ≠ b := by
  rintro rfl
  obtain ⟨k, e, _, _, d'⟩ := p; obtain ⟨o, e', d⟩ := n
  rw [e] at e'; cases e'; rw [d'] at d; cases d
theorem ns_ne_cell {h : Heap} {a b : Addr} {m v} (n : h.Ns a m) (c : h.IsCell b v) : a ≠ b := by
  rintro rfl
  obtain ⟨o, es, ep, e, d, _⟩ := n; obtain ⟨o', e', d'⟩ := c
  rw [e] at e'; cases e'; rw [d] at d'; cases d'

/-- one address of the frame's own is changed; the name x is bound anew -/
theorem St.put (T : St B h₀ P env σ O h) {c : Addr} (hc : O c) (hs : Heap.SameBut c h h') {x : String} {v : Value} {b : Bnd} (hlc : ∃ o, h'.get? c = some o)
    (hx : VarIs env h' (S x) v) (ho : ∀ y w, y ≠ x → VarIs env h (S y) w → VarIs env h' (S y) w) (hl : ∃ m, h'.Ns env.locals m) (hcell : ∀ y k v, env.cells.lookup y = some k → h.IsCell k v → ∃ v, h'.IsCell k v)
    (hp : ∀ a its, h.PlainList a its → a ≠ c) (hb : NewB env h (fun a => P a ∨ O a) O σ x v b) : St B h₀ P env (σ.put x b) O h' := by
  have hk : ∀ a o, ¬ (P a ∨ O a) → h.get? a = some o → h'.get? a = some o := fun a o n e => (hs.2 a (fun q => n (.inr (q ▸ hc)))).trans e
  have old : ∀ y w, y ≠ x → (∃ b, σ.get y = some b) → VarIs env h' (S y) w → VarIs env h (S y) w := by
    rintro y w ne ⟨b, hb⟩ hv
    obtain ⟨w', hw'⟩ := (T.vars y b hb).var
    rw [hv.fn (ho y w' ne hw')]; exact hw'
  have mv : ∀ {v d}, Rp h (fun a => P a ∨ O a) v d → Rp h' (fun a => P a ∨ O a) v d := fun r => r.mono hk fun _ _ n _ => n
  have mva : ∀ {v d}, RpAll h (fun a => P a ∨ O a) v d → RpAll h' (fun a => P a ∨ O a) v d := fun r => r.mono hk fun _ _ n _ => n
  have pl : ∀ {a its}, h.PlainList a its → h'.PlainList a its := fun q => by obtain ⟨k, e⟩ := id q; exact ⟨k, (hs.2 _ (hp _ _ q)).trans e⟩
  refine ⟨T.base, fun b o e => ?_, T.plive, fun a q => ?_, T.new, T.ok, T.loc, hl, fun y k e => ?_, fun y b' e => ?_, fun y z ds es a ne hy hz vy vz => ?_⟩
  · exact (hs.2 b (fun q => by subst q; rw [T.new _ hc] at e; cases e)).trans (T.keep b o e)
  · by_cases q' : a = c
    · subst q'; exact hlc
    · obtain ⟨o, e⟩ := T.live a q; exact ⟨o, (hs.2 a q').trans e⟩
  · obtain ⟨⟨v, q⟩, f⟩ := T.cells y k e
    exact ⟨hcell y k v e q, f⟩
  · rw [Sto.get_put] at e
    by_cases q : x = y
    · subst q
      simp only [if_true] at e; cases e
      cases b with
      | val d => exact ⟨v, hx, mv hb⟩
      | own ds =>
        obtain ⟨a, vs, rfl, h1, h2, h3, h4, _⟩ := hb
        exact ⟨a, vs, hx, h1, h2, pl h3, mva h4⟩
    · simp only [q, if_false] at e
      have := T.vars y b' e
      cases b' with
      | val d => obtain ⟨w, hw, r⟩ := this; exact ⟨w, ho y w (fun e => q e.symm) hw, mv r⟩
      | own ds => obtain ⟨a, vs, hv, h1, h2, h3, h4⟩ := this; exact ⟨a, vs, ho y _ (fun e => q e.symm) hv, h1, h2, pl h3, mva h4⟩
  · rw [Sto.get_put] at hy hz
    by_cases q : x = y
    · subst q
      simp only [if_true] at hy; cases hy
      rw [if_neg ne] at hz
      obtain ⟨a', vs, rfl, h1, h2, h3, h4, h5⟩ := hb
      have := hx.fn vy; cases this
      exact h5 z es (Ne.symm ne) hz (old z _ (Ne.symm ne) ⟨_, hz⟩ vz)
    · rw [if_neg q] at hy
      by_cases q' : x = z
      · subst q'
        simp only [if_true] at hz; cases hz
        obtain ⟨a', vs, rfl, h1, h2, h3, h4, h5⟩ := hb
        have := hx.fn vz; cases this
        exact h5 y ds ne hy (old y _ ne ⟨_, hy⟩ vy)
      · rw [if_neg q'] at hz
        exact T.apart y z ds es a ne hy hz (old y _ (fun e => q e.symm) ⟨_, hy⟩ vy) (old z _ (fun e => q' e.symm) ⟨_, hz⟩ vz)

/-- where the names of a frame lie -/
def Names (env : Env) (b : Addr) : Prop := b = env.locals ∨ (env.func.isSome = true ∧ ∃ x, env.cells.lookup x = some b)
theorem Mov.names {s s' : Shared} (m : Mov (Names env) s s') (T : St B h₀ P env σ O s.heap) : Mov O s s' := by
  obtain ⟨h', tk, e, k⟩ := m
  refine ⟨h', tk, e, fun b o nb => k b o ?_⟩
  rintro (q | ⟨f, x, q⟩)
  · subst q; exact nb T.loc
  · exact nb ((T.cells x b q).2 f)

theorem wp_store {A : Around} {s : Shared} {E : Value → Shared → Prop} {Q : Unit → Shared → Prop} (T : St B h₀ P env σ O s.heap) {x : String} {v : Value} {b : Bnd} (hx : Storable env x) (hb : NewB env s.heap (fun a => P a ∨ O a) O σ x v b)
    (h : ∀ s', Mov (Names env) s s' → St B h₀ P env (σ.put x b) O s'.heap → Q () s') : wpAny (model B.prog B.w) A (storeName env (S x) v) Q E s := by
  obtain ⟨m, n⟩ := T.ns
  rcases hx with hx | ⟨hx, hf, hs⟩
  · refine wpAny_storeName_local hx n (fun h' hn hs => h _ ⟨h', _, rfl, fun b o nb e => (hs.2 b (fun q => nb (.inl q))).trans e⟩ ?_) (by rw [T.ok.kind]; rfl)
    refine T.put T.loc hs (let ⟨o, _, _, e, _⟩ := hn; ⟨o, e⟩) (.inl ⟨hx, _, hn, by simp⟩) ?_ ⟨_, hn⟩ ?_ (fun a its p => plain_ne_ns p.isList n) hb
    · rintro y w ne (⟨k, m', n', e⟩ | ⟨k, c, l, e⟩)
      · refine .inl ⟨k, _, hn, ?_⟩
        rw [n'.eq_nsMap, ← n.eq_nsMap] at e
        rw [if_neg (fun q => ne (S_inj q))]; exact e
      · exact .inr ⟨k, c, l, e.sameBut hs (Ne.symm (ns_ne_cell n e))⟩
    · exact fun y k v _ e => ⟨v, e.sameBut hs (Ne.symm (ns_ne_cell n e))⟩
  · obtain ⟨c, hc⟩ := Option.isSome_iff_exists.mp hs
    obtain ⟨⟨v₀, e₀⟩, ho⟩ := T.cells _ _ hc
    refine wpAny_storeName_cell T.ok.kind hx hc e₀ fun h' hv hs => h _ ⟨h', _, rfl, fun b o nb e => (hs.2 b (fun q => nb (.inr ⟨hf, _, q ▸ hc⟩))).trans e⟩ ?_
    have hL : env.locals ≠ c := ns_ne_cell n e₀
    refine T.put (ho hf) hs (let ⟨o, e, _⟩ := hv; ⟨o, e⟩) (.inr ⟨.inl hx, c, hc, hv⟩) ?_ ⟨m, n.sameBut hs hL⟩ ?_ (fun a its p => plain_ne_cell p.isList e₀) hb
    · rintro y w ne (⟨k, m', n', e⟩ | ⟨k, c', l, e⟩)
      · exact .inl ⟨k, m', n'.sameBut hs hL, e⟩
      · exact .inr ⟨k, c', l, e.sameBut hs (fun q => ne (S_inj (T.ok.apart _ _ c (q ▸ l) hc)))⟩
    · intro y k v l e
      by_cases q : k = c
      · subst q; exact ⟨_, hv⟩
      · exact ⟨v, e.sameBut hs q⟩

/-- a new list becomes the frame's own -/
theorem St.grow (T : St B h₀ P env σ O h) (hk : ∀ a o, h.get? a = some o → h'.get? a = some o) {a : Addr} (hn : h.get? a = none) (hl : ∃ o, h'.get? a = some o) : St B h₀ P env σ (fun b => O b ∨ b = a) h' := by
  have T' := T.keeps hk
  have mvx : ∀ b o, ¬ (P b ∨ O b) → h.get? b = some o → ¬ (P b ∨ (O b ∨ b = a)) := by
    rintro b o n e (q | q | q)
    · exact n (.inl q)
    · exact n (.inr q)
    · subst q; rw [hn] at e; cases e
  refine ⟨T.base, T'.keep, T.plive, ?_, ?_, T.ok, .inl T.loc, T'.ns, fun x c l => ⟨(T'.cells x c l).1, fun f => .inl ((T'.cells x c l).2 f)⟩, ?_, T'.apart⟩
  · rintro b (q | q)
    · exact T'.live b q
    · subst q; exact hl
  · rintro b (q | q)
    · exact T.new b q
    · subst q
      cases e : h₀.get? b with
      | none => rfl
      | some o => rw [T.keep _ _ e] at hn; cases hn
  · intro x b e
    have := T.vars x b e
    cases b with
    | val d => obtain ⟨v, hv, r⟩ := this; exact ⟨v, hv.keeps hk, r.mono (fun b o _ e => hk b o e) mvx⟩
    | own ds => obtain ⟨a', vs, hv, h1, h2, h3, h4⟩ := this; exact ⟨a', vs, hv.keeps hk, .inl h1, h2, h3.at fun o e => hk _ o e, h4.mono (fun b o _ e => hk b o e) mvx⟩
end

/-- how a block ends -/
inductive Fl where
  | next | brk | cont
  | ret (d : D)

def FlIs (h : Heap) (P : Addr → Prop) : Flow → Fl → Prop
  | .next, .next => True
  | .brk, .brk => True
  | .cont, .cont => True
  | .ret v, .ret d => Rp h P v d
  | _, _ => False

def Post (B : Bas) (h₀ : Heap) (P : Addr → Prop) (env : Env) (O : Addr → Prop) (s : Shared) (R : Fl → Sto → Prop) (f : Flow) (s' : Shared) : Prop :=
  ∃ fl σ' O', Mov O s s' ∧ FlIs s'.heap P f fl ∧ R fl σ' ∧ (∀ b, O' b → O b ∨ s.heap.get? b = none) ∧ St B h₀ P env σ' O' s'.heap

def Ex (B : Bas) (n : Nat) (env : Env) (σ : Sto) (ss : List Stmt) (R : Fl → Sto → Prop) : Prop :=
  ∀ (h₀ : Heap) (P O : Addr → Prop) (A : Around) (s : Shared) (E : Value → Shared → Prop), B.Ok → AOk n A → St B h₀ P env σ O s.heap →
    wpAny (model B.prog B.w) A (execs ss env) (Post B h₀ P env O s R) E s
def Ex1 (B : Bas) (n : Nat) (env : Env) (σ : Sto) (st : Stmt) (R : Fl → Sto → Prop) : Prop :=
  ∀ (h₀ : Heap) (P O : Addr → Prop) (A : Around) (s : Shared) (E : Value → Shared → Prop), B.Ok → AOk n A → St B h₀ P env σ O s.heap →
    wpAny (model B.prog B.w) A (exec st env) (Post B h₀ P env O s R) E s

section
variable {B : Bas} {n : Nat} {env : Env} {σ : Sto} {R : Fl → Sto → Prop}
theorem Post.mono {h₀ P O s f s'} {R' : Fl → Sto → Prop} (x : Post B h₀ P env O s R f s') (h : ∀ fl σ, R fl σ → R' fl σ) : Post B h₀ P env O s R' f s' :=
  let ⟨fl, σ', O', a, b, c, d⟩ := x; ⟨fl, σ', O', a, b, h _ _ c, d⟩
theorem Post.trans {h₀ P O O' s s₁ f s'} (m : Mov O s s₁) (ho : ∀ b, O' b → O b ∨ s.heap.get? b = none) (x : Post B h₀ P env O' s₁ R f s') : Post B h₀ P env O s R f s' := by
  obtain ⟨fl, σ', O'', a, b, c, d, e⟩ := x
  refine ⟨fl, σ', O'', m.trans a ho, b, c, fun q hq => ?_, e⟩
  rcases d q hq with z | z
  · exact ho q z
  · by_cases hO : O q
    · exact .inl hO
    · refine .inr ?_
      cases w : s.heap.get? q with
      | none => rfl
      | some o =>
        obtain ⟨h', tk, rfl, k⟩ := m
        have := k q o hO w
        rw [z] at this; cases this
theorem Ex.mono {ss} {R' : Fl → Sto → Prop} (x : Ex B n env σ ss R) (h : ∀ fl σ, R fl σ → R' fl σ) : Ex B n env σ ss R' :=
  fun h₀ P O A s E b a T => wpAny_mono (x h₀ P O A s E b a T) (fun _ _ q => q.mono h) fun _ _ q => q
theorem ex_nil (h : R .next σ) : Ex B n env σ [] R := fun h₀ P O A s E b a T =>
  wpAny_execs_nil ⟨.next, σ, O, Mov.refl _ _, trivial, h, fun _ q => .inl q, T⟩
theorem ex_cons {st rest} (x : Ex1 B n env σ st fun fl σ' => match fl with | .next => Ex B n env σ' rest R | f => R f σ') : Ex B n env σ (st :: rest) R := by
  intro h₀ P O A s E b a T
  refine wpAny_execs_cons (wpAny_mono (x h₀ P O A s E b a T) (fun f s' q => ?_) fun _ _ q => q)
  obtain ⟨fl, σ', O', m, hf, hr, ho, T'⟩ := q
  cases f with
  | next =>
    cases fl <;> try exact hf.elim
    exact wpAny_mono (hr h₀ P O' A s' E b a T') (fun _ _ q => q.trans m ho) fun _ _ q => q
  | brk => cases fl <;> first | exact hf.elim | exact ⟨_, σ', O', m, hf, hr, ho, T'⟩
  | cont => cases fl <;> first | exact hf.elim | exact ⟨_, σ', O', m, hf, hr, ho, T'⟩
  | ret v => cases fl <;> first | exact hf.elim | exact ⟨_, σ', O', m, hf, hr, ho, T'⟩

theorem ex_return {e : Expr} {d : D} {p : Pos} (x : EvR B n env σ e d) (h : R (.ret d) σ) : Ex1 B n env σ (.Return (some e) p) R := by
  intro h₀ P O A s E b a T
  exact wpAny_Return_some (x h₀ P O A s E _ b a T fun v s' k r => ⟨.ret d, σ, O, Mov.of_keeps k, r, h, fun _ q => .inl q, T.kp k⟩)
theorem ex_assign {x : String} {p p' : Pos} {e : Expr} {d : D} (hx : Storable env x) (v : Ev B n env σ e d) (h : R .next (σ.put x (.val d)))
    (hs : swapsWith e (some (.Name (S x) p')) p.line env = pure false) : Ex1 B n env σ (.Assign [.Name (S x) p'] e p) R := by
  intro h₀ P O A s E b a T
  refine wpAny_Assign_Name (v h₀ P O A s E _ b a T fun v s' k r => ?_) hs
  refine wp_store (b := .val d) (T.kp k) hx r fun s'' m T' => ?_
  exact ⟨.next, _, O, (Mov.of_keeps k).trans (m.names (T.kp k)) (fun _ q => .inl q), trivial, h, fun _ q => .inl q, T'⟩
theorem ex_assignN {x : String} {p p' : Pos} {e : Expr} {ds : List D} (hx : Storable env x) (v : EvN B n env σ e ds) (h : R .next (σ.put x (.own ds)))
    (hs : swapsWith e (some (.Name (S x) p')) p.line env = pure false) : Ex1 B n env σ (.Assign [.Name (S x) p'] e p) R := by
  intro h₀ P O A s E b a T
  refine wpAny_Assign_Name (v h₀ P O A s E _ b a T fun a vs s' k hn hp r => ?_) hs
  have T1 : St B h₀ P env σ (fun b => O b ∨ b = a) s'.heap := T.grow (kheap k) hn (let ⟨_, e⟩ := hp; ⟨_, e⟩)
  have hne : a ≠ env.locals := fun q => by obtain ⟨o, e⟩ := T.live _ T.loc; rw [← q, hn] at e; cases e
  refine wp_store (b := .own ds) T1 hx ⟨a, vs, rfl, .inr rfl, hne, hp, r, ?_⟩ fun s'' m T' => ?_
  · intro y es ne hy hv
    obtain ⟨a', vs', hv', ho, _⟩ := T.vars y _ hy
    have := hv.fn (hv'.keeps (kheap k)); cases this
    obtain ⟨o, e⟩ := T.live _ ho; rw [hn] at e; cases e
  · refine ⟨.next, _, _, (Mov.of_keeps k).trans (m.names T1) ?_, trivial, h, ?_, T'⟩
    · rintro b (q | q)
      · exact .inl q
      · subst q; exact .inr hn
    · rintro b (q | q)
      · exact .inl q
      · subst q; exact .inr hn

end

abbrev NoX : Addr → Prop := fun _ => False

theorem Rp.now {h X v d} (r : Rp h X v d) : Rp h NoX v d := r.sub fun _ q => q.elim
theorem RpAll.now {h X v d} (r : RpAll h X v d) : RpAll h NoX v d := r.sub fun _ q => q.elim
theorem rp_int {h X v i} (r : Rp h X v (.int i)) : ∃ t, v = .int i t := by cases r; exact ⟨_, rfl⟩
theorem rp_str {h X v i} (r : Rp h X v (.str i)) : ∃ t, v = .str i t := by cases r; exact ⟨_, rfl⟩
theorem rp_val {h X v w} (r : Rp h X v (.val w)) : v = w := by cases r <;> rfl
theorem rp_list {h X v ds} (r : Rp h X v (.list ds)) : ∃ a vs, v = .ref a ∧ h.IsList a vs.toArray ∧ ¬ X a ∧ RpAll h X vs ds := by cases r with | list a b c => exact ⟨_, _, rfl, a, b, c⟩
theorem rp_tuple {h X v ds} (r : Rp h X v (.tuple ds)) : ∃ a vs, v = .ref a ∧ IsTup h a vs.toArray ∧ ¬ X a ∧ RpAll h X vs ds := by cases r with | tuple a b c => exact ⟨_, _, rfl, a, b, c⟩
theorem rp_range {h X v a b} (r : Rp h X v (.range a b)) : ∃ r t u w, v = .ref r ∧ IsRange h r a b 1 t u w ∧ ¬ X r := by cases r with | range a b => exact ⟨_, _, _, _, rfl, a, b⟩

def Bas.Here (B : Bas) (h : Heap) : Prop := ∀ b o, B.hB.get? b = some o → h.get? b = some o
theorem Bas.Here.kp {B : Bas} {s s' : Shared} (x : B.Here s.heap) (k : Keeps s s') : B.Here s'.heap := fun b o e => kheap k b o (x b o e)
theorem St.here {B h₀ P env σ O h} (T : St B h₀ P env σ O h) : B.Here h := fun b o e => T.keep b o (T.base b o e)

/-- a test -/
def Tst (B : Bas) (n : Nat) (env : Env) (σ : Sto) (e : Expr) (p : Bool) : Prop :=
  ∀ (h₀ : Heap) (P O : Addr → Prop) (A : Around) (s : Shared) (E : Value → Shared → Prop) (Q : Bool → Shared → Prop), B.Ok → AOk n A → St B h₀ P env σ O s.heap →
    (∀ s', Keeps s s' → Q p s') → wpAny (model B.prog B.w) A (isTrue e env (eval e env)) Q E s
/-- a comparison of data -/
def Cmp (B : Bas) (n : Nat) (op : CmpOp) (a b : D) (p : Bool) : Prop :=
  ∀ (A : Around) (s : Shared) (E : Value → Shared → Prop) (Q : Value → Shared → Prop) (va vb : Value), B.Ok → AOk n A → B.Here s.heap → Rp s.heap NoX va a → Rp s.heap NoX vb b →
    (∀ s', Keeps s s' → Q (.bool p) s') → wpAny (model B.prog B.w) A (compareOp op va vb) Q E s
/-- an operator on data whose value is no object -/
def Bin (B : Bas) (n : Nat) (op : Operator) (a b c : D) : Prop :=
  ∀ (A : Around) (s : Shared) (E : Value → Shared → Prop) (Q : Value → Shared → Prop) (va vb : Value), B.Ok → AOk n A → B.Here s.heap → Rp s.heap NoX va a → Rp s.heap NoX vb b →
    (∀ v s', Keeps s s' → (∀ h X, Rp h X v c) → Q v s') → wpAny (model B.prog B.w) A (binaryOp op va vb) Q E s
/-- truth of a datum -/
def Tru (B : Bas) (n : Nat) (a : D) (p : Bool) : Prop :=
  ∀ (A : Around) (s : Shared) (E : Value → Shared → Prop) (Q : Bool → Shared → Prop) (va : Value), B.Ok → AOk n A → B.Here s.heap → Rp s.heap NoX va a →
    (∀ s', Keeps s s' → Q p s') → wpAny (model B.prog B.w) A (truthy va) Q E s
/-- arguments -/
def EvAs (B : Bas) (n : Nat) (env : Env) (σ : Sto) (es : List Expr) (ds : List D) : Prop :=
  ∀ (h₀ : Heap) (P O : Addr → Prop) (A : Around) (s : Shared) (E : Value → Shared → Prop) (Q : List Value → Shared → Prop) (pos : Pos), B.Ok → AOk n A → St B h₀ P env σ O s.heap →
    (∀ vs s', Keeps s s' → RpAll s'.heap (fun a => P a ∨ O a) vs ds → Q vs s') → wpAny (model B.prog B.w) A (spliced (backTo pos (starEach es env))) Q E s
def EvAsW (B : Bas) (n : Nat) (env : Env) (σ : Sto) (es : List Expr) (ds : List D) : Prop :=
  ∀ (h₀ : Heap) (P O : Addr → Prop) (A : Around) (s : Shared) (E : Value → Shared → Prop) (Q : List Value → Shared → Prop) (pos : Pos), B.Ok → AOk n A → St B h₀ P env σ O s.heap →
    (∀ vs s', Keeps s s' → RpAll s'.heap NoX vs ds → Q vs s') → wpAny (model B.prog B.w) A (spliced (backTo pos (starEach es env))) Q E s

section
variable {B : Bas} {n : Nat} {env : Env} {σ : Sto} {e l r : Expr} {d a b c : D} {p p' : Pos}

theorem ev_int {i : Int} {k : Nat} : Ev B n env σ (.Constant (.int i) k p) (.int i) := fun h₀ P O A s E Q _ _ T q => wpAny_Constant_int (q _ _ (ktok s _) (.int _ _))
theorem ev_bool {i : Bool} {k : Nat} : Ev B n env σ (.Constant (.bool i) k p) (.bool i) := fun h₀ P O A s E Q _ _ T q => by
  rw [eval_Constant]; exact wpAny_pure (q _ _ (krefl s) (.val _ rfl))
theorem ev_none {k : Nat} : Ev B n env σ (.Constant .none k p) .none := fun h₀ P O A s E Q _ _ T q => by
  rw [eval_Constant]; exact wpAny_pure (q _ _ (krefl s) (.val _ rfl))
theorem ev_str {x : Str} {k : Nat} : Ev B n env σ (.Constant (.str x) k p) (.str x) := fun h₀ P O A s E Q _ _ T q => by
  rw [eval_Constant]; exact wpAny_mkText (q _ _ (ktok s _) (.str _ _))

theorem evas_nil : EvAs B n env σ [] [] := fun h₀ P O A s E Q pos _ _ T q => args_nil (q _ _ (krefl s) .nil)
theorem evas_cons {es : List Expr} {ds : List D} (x : Ev B n env σ e d) (xs : EvAs B n env σ es ds) (he : starEach (e :: es) env = (false, eval e env) :: starEach es env := by rfl) : EvAs B n env σ (e :: es) (d :: ds) :=
  fun h₀ P O A s E Q pos b a T q => args_cons (x h₀ P O A s E _ b a T fun v s₁ k r => xs h₀ P O A s₁ E _ pos b a (T.kp k) fun vs s₂ k₂ rs => q _ _ (ktrans k k₂) (.cons (r.keeps (kheap k₂)) rs)) he
theorem evasw_nil : EvAsW B n env σ [] [] := fun h₀ P O A s E Q pos _ _ T q => args_nil (q _ _ (krefl s) .nil)
theorem evasw_cons {es : List Expr} {ds : List D} (x : EvW B n env σ e d) (xs : EvAsW B n env σ es ds) (he : starEach (e :: es) env = (false, eval e env) :: starEach es env := by rfl) : EvAsW B n env σ (e :: es) (d :: ds) :=
  fun h₀ P O A s E Q pos b a T q => args_cons (x h₀ P O A s E _ b a T fun v s₁ k r => xs h₀ P O A s₁ E _ pos b a (T.kp k) fun vs s₂ k₂ rs => q _ _ (ktrans k k₂) (.cons (r.keeps (kheap k₂)) rs)) he

theorem ev_bin {op : Operator} (x : EvW B n env σ l a) (y : EvW B n env σ r b) (z : Bin B n op a b c) : Ev B n env σ (.BinOp l op r p) c :=
  fun h₀ P O A s E Q bo ao T q => wpAny_BinOp (x h₀ P O A s E _ bo ao T fun va s₁ k₁ r₁ => y h₀ P O A s₁ E _ bo ao (T.kp k₁) fun vb s₂ k₂ r₂ =>
    z A s₂ E Q va vb bo ao ((T.kp k₁).kp k₂).here (r₁.keeps (kheap k₂)) r₂ fun v s₃ k₃ r₃ => q v s₃ (ktrans (ktrans k₁ k₂) k₃) (r₃ _ _))
theorem ev_cmp {op : CmpOp} {t : Bool} (x : EvW B n env σ l a) (y : EvW B n env σ r b) (z : Cmp B n op a b t) (hm : behindInMarks op r = false := by with_unfolding_all rfl) : Ev B n env σ (.Compare l [op] [r] p) (.bool t) :=
  fun h₀ P O A s E Q bo ao T q => wpAny_Compare1 (x h₀ P O A s E _ bo ao T fun va s₁ k₁ r₁ => y h₀ P O A s₁ E _ bo ao (T.kp k₁) fun vb s₂ k₂ r₂ =>
    z A s₂ E Q va vb bo ao ((T.kp k₁).kp k₂).here (r₁.keeps (kheap k₂)) r₂ fun s₃ k₃ => q _ s₃ (ktrans (ktrans k₁ k₂) k₃) (.val _ rfl)) hm
theorem tst_cmp {op : CmpOp} {t : Bool} (x : EvW B n env σ l a) (y : EvW B n env σ r b) (z : Cmp B n op a b t) (hm : behindInMarks op r = false := by with_unfolding_all rfl) : Tst B n env σ (.Compare l [op] [r] p) t :=
  fun h₀ P O A s E Q bo ao T q => wpAny_isTrue_Compare1 (x h₀ P O A s E _ bo ao T fun va s₁ k₁ r₁ => y h₀ P O A s₁ E _ bo ao (T.kp k₁) fun vb s₂ k₂ r₂ =>
    z A s₂ E _ va vb bo ao ((T.kp k₁).kp k₂).here (r₁.keeps (kheap k₂)) r₂ fun s₃ k₃ => wpAny_truthy_bool (q s₃ (ktrans (ktrans k₁ k₂) k₃))) hm
theorem tst_ev {t : Bool} (x : EvW B n env σ e d) (y : Tru B n d t) (he : ∀ whole, isTrue e env whole = (do let v ← whole; standAt e.pos; holding [v] (truthy v)) := by intro _; rfl) : Tst B n env σ e t :=
  fun h₀ P O A s E Q bo ao T q => isTrue_plain (x h₀ P O A s E _ bo ao T fun va s₁ k₁ r₁ => y A s₁ E _ va bo ao (T.kp k₁).here r₁ fun s₂ k₂ => q s₂ (ktrans k₁ k₂)) (he _)
theorem tst_not {t : Bool} (x : Tst B n env σ e t) : Tst B n env σ (.UnaryOp .Not e p) (!t) :=
  fun h₀ P O A s E Q bo ao T q => isTrue_not (x h₀ P O A s E _ bo ao T fun s' k => q s' k)
theorem tst_or {e₁ e₂ : Expr} {t u : Bool} (x : Tst B n env σ e₁ t) (y : t = false → Tst B n env σ e₂ u) : Tst B n env σ (.BoolOp .Or [e₁, e₂] p) (t || u) :=
  fun h₀ P O A s E Q bo ao T q => isTrue_or (x h₀ P O A s E _ bo ao T fun s' k => by
    cases t with
    | true => exact q s' k
    | false => exact isTrue_or (y rfl h₀ P O A s' E _ bo ao (T.kp k) fun s'' k' => by
        cases u with
        | true => exact q s'' (ktrans k k')
        | false => exact isTrue_or_nil (q s'' (ktrans k k'))))
theorem tst_eq {t u : Bool} (x : Tst B n env σ e t) (h : t = u) : Tst B n env σ e u := h ▸ x
theorem ev_eq {d'} (x : Ev B n env σ e d) (h : d = d') : Ev B n env σ e d' := h ▸ x

theorem ev_ifexp {t : Bool} {e₁ e₂ : Expr} (x : Tst B n env σ e t) (y : t = true → Ev B n env σ e₁ d) (z : t = false → Ev B n env σ e₂ d) : Ev B n env σ (.IfExp e e₁ e₂ p) d :=
  fun h₀ P O A s E Q bo ao T q => IfExp_ (x h₀ P O A s E _ bo ao T fun s' k => by
    cases t with
    | false => exact z rfl h₀ P O A s' E _ bo ao (T.kp k) fun v s'' k' r => q v s'' (ktrans k k') r
    | true => exact y rfl h₀ P O A s' E _ bo ao (T.kp k) fun v s'' k' r => q v s'' (ktrans k k') r)
/-- and, or of bools -/
theorem ev_and {e₁ e₂ : Expr} {t u : Bool} (x : Ev B n env σ e₁ (.bool t)) (y : t = true → Ev B n env σ e₂ (.bool u)) : Ev B n env σ (.BoolOp .And [e₁, e₂] p) (.bool (t && u)) :=
  fun h₀ P O A s E Q bo ao T q => BoolOp_and (x h₀ P O A s E _ bo ao T fun v s' k r => by
    cases rp_val r
    refine wpAny_truthy_bool ?_
    cases t with
    | false => exact q _ s' k (.val _ rfl)
    | true => exact BoolOp_one (y rfl h₀ P O A s' E _ bo ao (T.kp k) fun v s'' k' r' => q v s'' (ktrans k k') r'))
theorem ev_or {e₁ e₂ : Expr} {t u : Bool} (x : Ev B n env σ e₁ (.bool t)) (y : t = false → Ev B n env σ e₂ (.bool u)) : Ev B n env σ (.BoolOp .Or [e₁, e₂] p) (.bool (t || u)) :=
  fun h₀ P O A s E Q bo ao T q => BoolOp_or (x h₀ P O A s E _ bo ao T fun v s' k r => by
    cases rp_val r
    refine wpAny_truthy_bool ?_
    cases t with
    | true => exact q _ s' k (.val _ rfl)
    | false => exact BoolOp_one (y rfl h₀ P O A s' E _ bo ao (T.kp k) fun v s'' k' r' => q v s'' (ktrans k k') r'))
theorem ev_not {t : Bool} (x : EvW B n env σ e d) (y : Tru B n d t) : Ev B n env σ (.UnaryOp .Not e p) (.bool (!t)) :=
  fun h₀ P O A s E Q bo ao T q => UnaryOp_ (x h₀ P O A s E _ bo ao T fun v s' k r => not_of (y A s' E _ v bo ao (T.kp k).here r fun s'' k' => q _ s'' (ktrans k k') (.val _ rfl)))
theorem ev_neg {i : Int} (x : EvW B n env σ e (.int i)) : Ev B n env σ (.UnaryOp .USub e p) (.int (-i)) :=
  fun h₀ P O A s E Q bo ao T q => UnaryOp_ (x h₀ P O A s E _ bo ao T fun v s' k r => by
    obtain ⟨t, rfl⟩ := rp_int r
    exact neg_int (q _ _ (ktrans k (ktok _ _)) (.int _ _)))
theorem ev_inv {i : Int} (x : EvW B n env σ e (.int i)) : Ev B n env σ (.UnaryOp .Invert e p) (.int (Builtin.bitNot i)) :=
  fun h₀ P O A s E Q bo ao T q => UnaryOp_ (x h₀ P O A s E _ bo ao T fun v s' k r => by
    obtain ⟨t, rfl⟩ := rp_int r
    exact invert_int (q _ _ (ktrans k (ktok _ _)) (.int _ _)))
end

section
variable {B : Bas} {n : Nat} {i j : Int}
theorem tru_bool {b : Bool} : Tru B n (.bool b) b := fun A s E Q va bo ao hh r q => by cases rp_val r; exact wpAny_truthy_bool (q s (krefl s))
theorem tru_int : Tru B n (.int i) (i != 0) := fun A s E Q va bo ao hh r q => by obtain ⟨t, rfl⟩ := rp_int r; exact truthy_int (q s (krefl s))
theorem bin_add : Bin B n .Add (.int i) (.int j) (.int (i + j)) := fun A s E Q va vb bo ao hh r r' q => by
  obtain ⟨t, rfl⟩ := rp_int r; obtain ⟨u, rfl⟩ := rp_int r'; exact add_int (q _ _ (ktok _ _) fun _ _ => .int _ _)
theorem bin_sub : Bin B n .Sub (.int i) (.int j) (.int (i - j)) := fun A s E Q va vb bo ao hh r r' q => by
  obtain ⟨t, rfl⟩ := rp_int r; obtain ⟨u, rfl⟩ := rp_int r'; exact sub_int (q _ _ (ktok _ _) fun _ _ => .int _ _)
theorem bin_mod (hj : j ≠ 0) : Bin B n .Mod (.int i) (.int j) (.int (i.fmod j)) := fun A s E Q va vb bo ao hh r r' q => by
  obtain ⟨t, rfl⟩ := rp_int r; obtain ⟨u, rfl⟩ := rp_int r'; exact mod_int' hj (q _ _ (ktok _ _) fun _ _ => .int _ _)
theorem noPylong {x y : Int} (h : y.natAbs < 2 ^ 64) : Builtin.divisionGoesByPylong x y = false := by
  unfold Builtin.divisionGoesByPylong
  have h2 : y.natAbs.log2 < 64 := by
    by_cases hz : y.natAbs = 0
    · rw [hz]; decide
    · exact (Nat.log2_lt hz).mpr h
  have : ¬ ((if (y == 0) = true then 0 else y.natAbs.log2 / 30 + 1) > 300) := by
    split
    · omega
    · omega
  simp only [this, decide_false, Bool.false_and]
theorem bin_div (hj : j ≠ 0) (hs : j.natAbs < 2 ^ 64) : Bin B n .FloorDiv (.int i) (.int j) (.int (i.fdiv j)) := fun A s E Q va vb bo ao hh r r' q => by
  obtain ⟨t, rfl⟩ := rp_int r; obtain ⟨u, rfl⟩ := rp_int r'; exact floordiv_int hj (q _ _ (ktok _ _) fun _ _ => .int _ _) (.inl (noPylong hs))
theorem bin_shr (hj : 0 ≤ j) : Bin B n .RShift (.int i) (.int j) (.int (i.fdiv (2 ^ j.toNat))) := fun A s E Q va vb bo ao hh r r' q => by
  obtain ⟨t, rfl⟩ := rp_int r; obtain ⟨u, rfl⟩ := rp_int r'; exact rshift_int hj (q _ _ (ktok _ _) fun _ _ => .int _ _)
theorem bin_and : Bin B n .BitAnd (.int i) (.int j) (.int (Builtin.bitAnd i j)) := fun A s E Q va vb bo ao hh r r' q => by
  obtain ⟨t, rfl⟩ := rp_int r; obtain ⟨u, rfl⟩ := rp_int r'; exact and_int (q _ _ (ktok _ _) fun _ _ => .int _ _)
theorem bin_pow (hj : 0 ≤ j) (h2 : j ≤ 1000000) (ha : i.natAbs < 2 ^ 64) : Bin B n .Pow (.int i) (.int j) (.int (i ^ j.toNat)) := fun A s E Q va vb bo ao hh r r' q => by
  obtain ⟨t, rfl⟩ := rp_int r; obtain ⟨u, rfl⟩ := rp_int r'; exact pow_int_small hj h2 ha (q _ _ (ktok _ _) fun _ _ => .int _ _)
theorem cmp_eq : Cmp B n .Eq (.int i) (.int j) (i == j) := fun A s E Q va vb bo ao hh r r' q => by
  obtain ⟨t, rfl⟩ := rp_int r; obtain ⟨u, rfl⟩ := rp_int r'; exact eq_int (q _ (krefl _))
theorem cmp_ne : Cmp B n .NotEq (.int i) (.int j) (i != j) := fun A s E Q va vb bo ao hh r r' q => by
  obtain ⟨t, rfl⟩ := rp_int r; obtain ⟨u, rfl⟩ := rp_int r'; exact ne_int (q _ (krefl _))
theorem cmp_lt : Cmp B n .Lt (.int i) (.int j) (decide (i < j)) := fun A s E Q va vb bo ao hh r r' q => by
  obtain ⟨t, rfl⟩ := rp_int r; obtain ⟨u, rfl⟩ := rp_int r'; exact lt_int (q _ (krefl _))
theorem cmp_le : Cmp B n .LtE (.int i) (.int j) (decide (i ≤ j)) := fun A s E Q va vb bo ao hh r r' q => by
  obtain ⟨t, rfl⟩ := rp_int r; obtain ⟨u, rfl⟩ := rp_int r'; exact le_int (q _ (krefl _))
theorem cmp_gt : Cmp B n .Gt (.int i) (.int j) (decide (j < i)) := fun A s E Q va vb bo ao hh r r' q => by
  obtain ⟨t, rfl⟩ := rp_int r; obtain ⟨u, rfl⟩ := rp_int r'; exact gt_int (q _ (krefl _))
theorem cmp_ge : Cmp B n .GtE (.int i) (.int j) (decide (j ≤ i)) := fun A s E Q va vb bo ao hh r r' q => by
  obtain ⟨t, rfl⟩ := rp_int r; obtain ⟨u, rfl⟩ := rp_int r'; exact ge_int (q _ (krefl _))
end

section
variable {B : Bas} {n : Nat} {env : Env} {σ : Sto} {e l r : Expr} {R : Fl → Sto → Prop} {p : Pos}
theorem ex_if {t : Bool} {body orelse : List Stmt} (x : Tst B n env σ e t) (y : t = true → Ex B n env σ body R) (z : t = false → Ex B n env σ orelse R) : Ex1 B n env σ (.If e body orelse p) R := by
  intro h₀ P O A s E bo ao T
  refine wpAny_If (x h₀ P O A s E _ bo ao T fun s' k => ?_)
  cases t with
  | false => exact wpAny_mono (z rfl h₀ P O A s' E bo ao (T.kp k)) (fun _ _ q => q.trans (Mov.of_keeps k) fun _ q => .inl q) fun _ _ q => q
  | true => exact wpAny_mono (y rfl h₀ P O A s' E bo ao (T.kp k)) (fun _ _ q => q.trans (Mov.of_keeps k) fun _ q => .inl q) fun _ _ q => q

/-- list and tuple displays -/
theorem fresh_kp {s s' : Shared} (k : Keeps s s') : s.heap.get? s'.heap.objs.size = none := by
  cases e : s.heap.get? s'.heap.objs.size with
  | none => rfl
  | some o => exact absurd (Heap.lt_size (kheap k _ _ e)) (Nat.lt_irrefl _)
theorem szLine {k : Nat} (h : k ≤ 1000000) : k ≤ sizeLine := Nat.le_trans h (by decide)
/-- what was known of the parts holds of them beside a new address -/
theorem RpAll.beside {h : Heap} {P O : Addr → Prop} {vs ds} (r : RpAll h (fun a => P a ∨ O a) vs ds) (o : Obj) : RpAll (h.push o) (fun b => P b ∨ O b ∨ b = h.objs.size) vs ds :=
  r.mono (fun a o _ e => Heap.get?_push_of_some _ e) fun a o n e q => by
    rcases q with q | q | q
    · exact n (.inl q)
    · exact n (.inr q)
    · subst q; exact absurd (Heap.lt_size e) (Nat.lt_irrefl _)
theorem wp_newList {B : Bas} {n : Nat} {h₀ : Heap} {P O : Addr → Prop} {env : Env} {σ : Sto} {A : Around} {s s' : Shared} {E : Value → Shared → Prop} {Q : Value → Shared → Prop} {vs : List Value} {ds : List D}
    (k : Keeps s s') (r : RpAll s'.heap (fun a => P a ∨ O a) vs ds) (hsz : ds.length ≤ 1000000)
    (q : ∀ a vs s', Keeps s s' → s.heap.get? a = none → s'.heap.PlainList a vs.toArray → RpAll s'.heap (fun b => P b ∨ O b ∨ b = a) vs ds → Q (.ref a) s') : wpAny (model B.prog B.w) A (newList vs) Q E s' :=
  wpAny_newObj_type (q _ vs _ (ktrans k (kpush' _ _)) (fresh_kp k) ⟨_, Heap.get?_push_size _ rfl⟩ (r.beside _)) (by show vs.toArray.size ≤ sizeLine; rw [List.size_toArray, r.length]; exact szLine hsz)
theorem evn_list {es : List Expr} {ds : List D} (x : EvAs B n env σ es ds) (hsz : ds.length ≤ 1000000) : EvN B n env σ (.List es p) ds :=
  fun h₀ P O A s E Q bo ao T q => List_ (x h₀ P O A s E _ p bo ao T fun vs s' k r => wp_newList (n := n) (h₀ := h₀) (env := env) (σ := σ) k r hsz q)
theorem ev_tuple {es : List Expr} {ds : List D} {i : Nat} (x : EvAs B n env σ es ds) (hsz : ds.length ≤ 1000000) : Ev B n env σ (.Tuple es i p) (.tuple ds) :=
  fun h₀ P O A s E Q bo ao T q => Tuple_ (x h₀ P O A s E _ p bo ao T fun vs s' k r => wpAny_newObj_type
    (q _ _ (ktrans k (kpush' _ _)) (.tuple ⟨_, Heap.get?_push_size _ rfl, rfl, 0, rfl⟩ ((T.kp k).notX' (Nat.le_refl _)) (r.keeps fun a o e => Heap.get?_push_of_some _ e)))
    (by show vs.toArray.size ≤ sizeLine; rw [List.size_toArray, r.length]; exact szLine hsz))
end

section
variable {B : Bas} {n : Nat} {env : Env} {σ : Sto} {e l r i : Expr} {p : Pos}
/-- the place k of a sequence of m items -/
def place (k : Int) (m : Nat) : Nat := if k < 0 then (k + m).toNat else k.toNat
theorem seqIndex_place {k : Int} {m : Nat} (h : -(m : Int) ≤ k) (h' : k < m) : seqIndex? k m = some (place k m) := by
  unfold place
  split
  · exact seqIndex_neg ‹_› h
  · rename_i h0
    unfold seqIndex?
    simp only [h0, if_false]
    rw [if_pos (by simp only [Bool.and_eq_true, decide_eq_true_eq]; omega)]
/-- an item of a list, of a tuple -/
theorem wp_item {A : Around} {s : Shared} {E : Value → Shared → Prop} {Q : Value → Shared → Prop} {a : Addr} {vs : List Value} {k : Int} {t : Tok} {v : Value} (hl : s.heap.IsList a vs.toArray)
    (h1 : -(vs.length : Int) ≤ k) (h2 : k < vs.length) (hsz : vs.length ≤ 1000000) (hv : vs[place k vs.length]? = some v) (q : Q v s) : wpAny (model B.prog B.w) A (getItem (.ref a) (.int k t)) Q E s := by
  unfold place at hv
  by_cases h0 : k < 0
  · rw [if_pos h0] at hv
    exact wpAny_getItem_list_neg hl h0 (by simpa using h1) (by omega) (by simpa using hv) q
  · rw [if_neg h0] at hv
    exact wpAny_getItem_list hl (by omega) (by omega) (by simpa using hv) q

theorem ev_item {ds : List D} {k : Int} {d : D} (x : Ev B n env σ l (.list ds)) (y : EvW B n env σ i (.int k)) (h1 : -(ds.length : Int) ≤ k) (h2 : k < ds.length) (hsz : ds.length ≤ 1000000) (hd : ds[place k ds.length]? = some d)
    (hs : ∀ a u, subscripted i false (.ref a) (.int k u) = operate [.ref a, .int k u] (getItem (.ref a) (.int k u)) := by intro _ _; with_unfolding_all rfl) : Ev B n env σ (.Subscript l i p) d :=
  fun h₀ P O A s E Q bo ao T q => Subscript_ (x h₀ P O A s E _ bo ao T fun v s₁ k₁ r₁ => y h₀ P O A s₁ E _ bo ao (T.kp k₁) fun w s₂ k₂ r₂ => by
    obtain ⟨t, rfl⟩ := rp_int r₂
    obtain ⟨a, vs, rfl, hl, ha, rs⟩ := rp_list (r₁.keeps (kheap k₂))
    have hlen := rs.length
    obtain ⟨v, hv, rv⟩ := rs.get' hd
    exact tail_any hl.typeIs slot_list_getitem.lookup (wp_item hl (by omega) (by omega) (by omega) (by rw [hlen]; exact hv) (q v s₂ (ktrans k₁ k₂) rv)) (hs _ _))
theorem ev_itemT {ds : List D} {k : Int} {d : D} (x : Ev B n env σ l (.tuple ds)) (y : EvW B n env σ i (.int k)) (h1 : -(ds.length : Int) ≤ k) (h2 : k < ds.length) (hsz : ds.length ≤ 1000000) (hd : ds[place k ds.length]? = some d)
    (hs : ∀ a u, subscripted i false (.ref a) (.int k u) = operate [.ref a, .int k u] (getItem (.ref a) (.int k u)) := by intro _ _; with_unfolding_all rfl) : Ev B n env σ (.Subscript l i p) d :=
  fun h₀ P O A s E Q bo ao T q => Subscript_ (x h₀ P O A s E _ bo ao T fun v s₁ k₁ r₁ => y h₀ P O A s₁ E _ bo ao (T.kp k₁) fun w s₂ k₂ r₂ => by
    obtain ⟨t, rfl⟩ := rp_int r₂
    obtain ⟨a, vs, rfl, hl, ha, rs⟩ := rp_tuple (r₁.keeps (kheap k₂))
    have hlen := rs.length
    obtain ⟨v, hv, rv⟩ := rs.get' hd
    exact tail_any hl.typeIs slot_tuple_getitem.lookup (getItem_tuple hl (by omega) (by omega) (by simp only [List.size_toArray]; rw [hlen]; exact seqIndex_place h1 h2) (by simpa using hv) (q v s₂ (ktrans k₁ k₂) rv)) (hs _ _))

/-- names of the top, of the built-ins -/
theorem wp_glob {h₀ : Heap} {P O : Addr → Prop} {A : Around} {s : Shared} {E : Value → Shared → Prop} {Q : Value → Shared → Prop} {x : String} {v : Value} (bo : B.Ok) (T : St B h₀ P env σ O s.heap) (hx : env.kindOf (S x) = some .globalImplicit)
    (hv : B.mg (S x) = some v) (h : Q v s) (hd : x ≠ "__debug__") : wpAny (model B.prog B.w) A (eval (.Name (S x) p) env) Q E s :=
  Name_function_global T.ok.kind hx (loadGlobal_global (by rw [T.ok.globals]; exact bo.g.keeps T.here) hv h) (plainName hd)
theorem wp_boot {h₀ : Heap} {P O : Addr → Prop} {A : Around} {s : Shared} {E : Value → Shared → Prop} {Q : Value → Shared → Prop} {x : String} {v : Value} (bo : B.Ok) (T : St B h₀ P env σ O s.heap) (hx : env.kindOf (S x) = some .globalImplicit)
    (hm : B.mg (S x) = none) (hv : bootBuiltins (S x) = some v) (h : Q v s) (hd : x ≠ "__debug__") (hn : x ≠ "__name__") : wpAny (model B.prog B.w) A (eval (.Name (S x) p) env) Q E s :=
  Name_function_global T.ok.kind hx (loadGlobal_builtin (by rw [T.ok.globals]; exact bo.g.keeps T.here) hm (by rw [T.ok.builtins]; exact bo.b.keeps T.here) ((bo.builtins _ (fun q => hn (S_inj q))).trans hv) h) (plainName hd)

structure BootName (B : Bas) (env : Env) (x : String) (v : Value) : Prop where
  kind : env.kindOf (S x) = some .globalImplicit
  miss : B.mg (S x) = none
  boot : bootBuiltins (S x) = some v
  d : x ≠ "__debug__"
  n : x ≠ "__name__"
theorem ev_boot {x : String} {v : Value} (hx : BootName B env x v) (hv : byVal v = true) : Ev B n env σ (.Name (S x) p) (.val v) :=
  fun h₀ P O A s E Q bo ao T q => wp_boot bo T hx.kind hx.miss hx.boot (q _ _ (krefl s) (.val _ hv)) hx.d hx.n

/-- a built-in function's value, no object -/
def Bi (B : Bas) (n : Nat) (f : Value) (ds : List D) (d : D) : Prop :=
  ∀ (A : Around) (s : Shared) (E : Value → Shared → Prop) (Q : Value → Shared → Prop) (vs : List Value), B.Ok → AOk n A → B.Here s.heap → RpAll s.heap NoX vs ds →
    (∀ v s', Keeps s s' → (∀ h X, Rp h X v d) → Q v s') → wpAny (model B.prog B.w) A (call f vs) Q E s
theorem ev_builtin {x id : String} {es : List Expr} {ds : List D} {d : D} {p' : Pos} (hx : BootName B env x (.builtin id)) (a : EvAsW B n env σ (e :: es) ds) (f : Bi B n (.builtin id) ds d)
    (he : starEach (e :: es) env = (false, eval e env) :: starEach es env := by rfl) (hp : (backTo p (starEach es env)).any (·.1) = false := by rfl)
    (hc : eval (.Call (.Name (S x) p') (e :: es) [] p) env = (do callWith p (← eval (.Name (S x) p') env) [] (backTo p (starEach (e :: es) env)) (backToKw p (keywordEach [] env))) := by rfl) : Ev B n env σ (.Call (.Name (S x) p') (e :: es) [] p) d :=
  fun h₀ P O A s E Q bo ao T q => Call_ (wp_boot bo T hx.kind hx.miss hx.boot (callWith_builtin1 (a h₀ P O A s E _ p bo ao T fun vs s₁ k r => f A s₁ E _ vs bo ao (T.kp k).here r fun v s₂ k₂ r₂ => q v s₂ (ktrans k k₂) (r₂ _ _)) he hp) hx.d hx.n) hc

theorem bi_len {ds : List D} (hsz : ds.length ≤ 1000000) : Bi B n (.builtin "len") [.list ds] (.int ds.length) := fun A s E Q vs bo ao hh r q => by
  cases r with | cons r rn =>
  cases rn
  obtain ⟨a, vs, rfl, hl, _, rs⟩ := rp_list r
  have hlen := rs.length
  refine len_list hl (by simp only [List.size_toArray]; omega) (q _ _ (ktok _ _) fun _ _ => ?_)
  simp only [List.size_toArray, hlen]; exact .int _ _
theorem bi_abs {i : Int} : Bi B n (.builtin "abs") [.int i] (.int (if i < 0 then -i else i)) := fun A s E Q vs bo ao hh r q => by
  cases r with | cons r rn =>
  cases rn
  obtain ⟨t, rfl⟩ := rp_int r
  exact call_abs_int fun u tk => q _ _ (ktok _ _) fun _ _ => .int _ _
end

mutual
theorem Rp.stepX {h h' : Heap} {X X' : Addr → Prop} (hk : ∀ a o, ¬ X a → ¬ IterObj o → h.get? a = some o → h'.get? a = some o) (hx : ∀ a o, ¬ X a → h.get? a = some o → ¬ X' a) : ∀ {v d}, Rp h X v d → Rp h' X' v d
  | _, _, .int i t => .int i t
  | _, _, .str x t => .str x t
  | _, _, .val v e => .val v e
  | _, _, .fn a o f ho hd hn => .fn a o f (hk _ _ hn (by rintro ⟨nm, vs, _, e, _⟩; rw [hd] at e; cases e) ho) hd (hx _ _ hn ho)
  | _, _, .tuple ht hn hr => .tuple (by obtain ⟨o, ho, hc, n, hd⟩ := ht; exact ⟨o, hk _ _ hn (by rintro ⟨nm, vs, _, e, _⟩; rw [hd] at e; cases e) ho, hc, n, hd⟩) (let ⟨_, ho, _⟩ := ht; hx _ _ hn ho) (RpAll.stepX hk hx hr)
  | _, _, .list ht hn hr => .list (by obtain ⟨o, ho, hc, n, hd⟩ := ht; exact ⟨o, hk _ _ hn (by rintro ⟨nm, vs, _, e, _⟩; rw [hd] at e; cases e) ho, hc, n, hd⟩) (let ⟨_, ho, _⟩ := ht; hx _ _ hn ho) (RpAll.stepX hk hx hr)
  | _, _, .range ht hn => .range (hk _ _ hn (by rintro ⟨nm, vs, c, _, e⟩; cases c; exact e rfl) ht) (hx _ _ hn ht)
  | _, _, .flt b t => .flt b t
  | _, _, .obj ho hp hi hn => .obj (hk _ _ hn hi ho) hp hi (hx _ _ hn ho)
  | _, _, .abs F hp hq => .abs F hp fun q m => let ⟨a, b, c⟩ := hq q m; ⟨hk _ _ c b a, b, hx _ _ c a⟩
theorem RpAll.stepX {h h' : Heap} {X X' : Addr → Prop} (hk : ∀ a o, ¬ X a → ¬ IterObj o → h.get? a = some o → h'.get? a = some o) (hx : ∀ a o, ¬ X a → h.get? a = some o → ¬ X' a) : ∀ {vs ds}, RpAll h X vs ds → RpAll h' X' vs ds
  | _, _, .nil => .nil
  | _, _, .cons a r => .cons (Rp.stepX hk hx a) (RpAll.stepX hk hx r)
end
theorem Rp.step {h h' : Heap} {X : Addr → Prop} (hk : ∀ a o, ¬ IterObj o → h.get? a = some o → h'.get? a = some o) {v d} (r : Rp h X v d) : Rp h' X v d := r.stepX (fun a o _ => hk a o) fun _ _ n _ => n
theorem RpAll.step {h h' : Heap} {X : Addr → Prop} (hk : ∀ a o, ¬ IterObj o → h.get? a = some o → h'.get? a = some o) {v d} (r : RpAll h X v d) : RpAll h' X v d := r.stepX (fun a o _ => hk a o) fun _ _ n _ => n

section
variable {B : Bas} {h₀ h h' : Heap} {P O : Addr → Prop} {env : Env} {σ : Sto}
theorem ns_step {a m} (hk : ∀ a o, ¬ IterObj o → h.get? a = some o → h'.get? a = some o) (n : h.Ns a m) : h'.Ns a m := by
  obtain ⟨o, es, ep, e, d, r⟩ := n
  exact ⟨o, es, ep, hk _ _ (by rintro ⟨nm, vs, _, e, _⟩; rw [d] at e; cases e) e, d, r⟩
theorem cell_step {a m} (hk : ∀ a o, ¬ IterObj o → h.get? a = some o → h'.get? a = some o) (n : h.IsCell a m) : h'.IsCell a m := by
  obtain ⟨o, e, d⟩ := n
  exact ⟨o, hk _ _ (by rintro ⟨nm, vs, _, e, _⟩; rw [d] at e; cases e) e, d⟩
theorem plist_step {a m} (hk : ∀ a o, ¬ IterObj o → h.get? a = some o → h'.get? a = some o) (n : h.PlainList a m) : h'.PlainList a m := by
  obtain ⟨k, e⟩ := n
  exact ⟨k, hk _ _ (by rintro ⟨nm, vs, _, e, _⟩; cases e) e⟩
theorem var_step {x v} (hk : ∀ a o, ¬ IterObj o → h.get? a = some o → h'.get? a = some o) (y : VarIs env h x v) : VarIs env h' x v := by
  rcases y with ⟨k, m, n, e⟩ | ⟨k, c, l, e⟩
  · exact .inl ⟨k, m, ns_step hk n, e⟩
  · exact .inr ⟨k, c, l, cell_step hk e⟩
/-- an iterator goes on: the frame stands as it stood -/
theorem St.step (T : St B h₀ P env σ O h) (hk : ∀ a o, ¬ IterObj o → h.get? a = some o → h'.get? a = some o) (hb : ∀ b o, h₀.get? b = some o → h'.get? b = some o) (ho : ∀ a, O a → ∃ o, h'.get? a = some o) : St B h₀ P env σ O h' where
  base := T.base
  keep := hb
  plive := T.plive
  live := ho
  new := T.new
  ok := T.ok
  loc := T.loc
  ns := let ⟨m, n⟩ := T.ns; ⟨m, ns_step hk n⟩
  cells := fun x c l => let ⟨⟨v, e⟩, f⟩ := T.cells x c l; ⟨⟨v, cell_step hk e⟩, f⟩
  vars := fun x b e => by
    have := T.vars x b e
    cases b with
    | val d => obtain ⟨v, hv, r⟩ := this; exact ⟨v, var_step hk hv, r.step hk⟩
    | own ds => obtain ⟨a, vs, hv, h1, h2, h3, h4⟩ := this; exact ⟨a, vs, var_step hk hv, h1, h2, plist_step hk h3, h4.step hk⟩
  apart := fun x y ds es a ne hx hy vx vy => by
    obtain ⟨v, a1⟩ := (T.vars x _ hx).var
    obtain ⟨v', a2⟩ := (T.vars y _ hy).var
    have e1 := (var_step hk a1).fn vx; have e2 := (var_step hk a2).fn vy
    subst e1; subst e2
    exact T.apart x y ds es a ne hx hy a1 a2
end

structure Iter (B : Bas) (A : Around) (I : Addr) (fp wr : List Addr) (m : Nat) (Pv : Nat → Value → Prop) (Si : Nat → Heap → Prop) : Prop where
  W : Walks B.prog B.w A I fp wr m Pv Si
  go : ∀ i (s : Shared) target v (Q : Unit → Shared → Prop) (E : Value → Shared → Prop), Si i s.heap → Q () s → wpAny (model B.prog B.w) A (letOwnedTupleGo target (.ref I) v) Q E s
  live : ∀ i h, Si i h → ∀ b ∈ fp, ∃ o, h.get? b = some o
  kind : ∀ i h, Si i h → ∀ b ∈ wr, ∃ o, h.get? b = some o ∧ IterObj o

theorem wp_letGo {M : Model} {A : Around} {E : Value → Shared → Prop} {s : Shared} {Q : Unit → Shared → Prop} {target : Expr} {I : Addr} {v : Value} {o : Obj} {nm : String} {vs : Array Value} (ho : s.heap.get? I = some o) (hc : o.cls = .type nm)
    (hd : o.data = .fields vs) (hn : ["enumerate", "zip", "dict_itemiterator", "dict_reverseitemiterator", "odict_iterator", "itertools.zip_longest", "itertools.pairwise"].contains nm = false) (h : Q () s) :
    wpAny M A (letOwnedTupleGo target (.ref I) v) Q E s := by
  have key : wpAny M A (do let o ← load I
                           match o.cls, o.data with
                           | .type n, .fields vs =>
                             if ["enumerate", "zip", "dict_itemiterator", "dict_reverseitemiterator", "odict_iterator", "itertools.zip_longest", "itertools.pairwise"].contains n && vs[0]? == some (rawInt (match v with | .ref a => a | _ => 0)) then
                               rule "for.unpacks-the-owned-tuple"
                               updateField I 0 .none
                           | _, _ => pure ()) Q E s := by
    refine wpAny_bind (wpAny_load ho ?_)
    rw [hc, hd]
    simp only [hn, Bool.false_and, Bool.false_eq_true, if_false]
    exact wpAny_pure h
  unfold letOwnedTupleGo
  cases target <;> first | exact wpAny_pure h | (cases v <;> first | exact wpAny_pure h | exact key)

theorem iter_list {B : Bas} {A : Around} (hh : A.handled = none) (I ax : Addr) (hne : ax ≠ I) (items : Array Value) :
    Iter B A I [I, ax] [I] items.size (fun i v => items[i]? = some v) (fun i h => h.IsListIter I ax i ∧ h.IsList ax items) where
  W := Walks.list hh I ax hne items
  go := fun i s target v Q E st q => by obtain ⟨o, ho, hc, hd⟩ := st.1; exact wp_letGo ho hc hd (by decide) q
  live := fun i h st b hb => by
    rcases List.mem_cons.mp hb with rfl | hb
    · obtain ⟨o, ho, _⟩ := st.1; exact ⟨o, ho⟩
    · rw [List.mem_singleton.mp hb]; obtain ⟨o, ho, _⟩ := st.2; exact ⟨o, ho⟩
  kind := fun i h st b hb => by rw [List.mem_singleton.mp hb]; obtain ⟨o, ho, hc, hd⟩ := st.1; exact ⟨o, ho, _, _, hc, hd, by decide⟩
theorem iter_range {B : Bas} {A : Around} (hh : A.handled = none) (I : Addr) (a c : Int) (n : Nat) :
    Iter B A I [I] [I] n (fun i v => i < n ∧ ∃ t, v = .int (a + i * c) t) (fun i h => IsRangeIter h I (a + (i : Nat) * c) ((n : Int) - (i : Nat)) c) where
  W := (Walks.range hh I a c n).bound
  go := fun i s target v Q E st q => wp_letGo st rfl rfl (by decide) q
  live := fun i h st b hb => by rw [List.mem_singleton.mp hb]; exact ⟨_, st⟩
  kind := fun i h st b hb => by rw [List.mem_singleton.mp hb]; exact ⟨_, st, _, _, rfl, rfl, by decide⟩

/-- what a for goes over; f: what the walk looks at never changes -/
def EvIt (f : Bool) (B : Bas) (n : Nat) (env : Env) (σ : Sto) (e : Expr) (ds : List D) : Prop :=
  ∀ (h₀ : Heap) (P O : Addr → Prop) (A : Around) (s : Shared) (E : Value → Shared → Prop) (Q : Value → Shared → Prop), B.Ok → AOk n A → St B h₀ P env σ O s.heap →
    (∀ s₂ I fp wr Pv Si, Keeps s s₂ → Iter B A I fp wr ds.length Pv Si → Si 0 s₂.heap → (∀ b ∈ wr, s.heap.get? b = none) → (∀ b ∈ fp, b < s₂.heap.objs.size) → (f = true → ∀ b ∈ fp, ¬ (P b ∨ O b)) →
      (∀ i v, Pv i v → ∃ d, ds[i]? = some d ∧ Rp s₂.heap (fun a => P a ∨ O a) v d) → Q (.ref I) s₂) →
    wpAny (model B.prog B.w) A (eval e env) (fun x s₁ => wpAny (model B.prog B.w) A (pyIter x) Q E s₁) E s

def rngD (a b : Int) : List D := (List.range (b - a).toNat).map fun (i : Nat) => D.int (a + i)

section
variable {B : Bas} {n : Nat} {env : Env} {σ : Sto} {e : Expr}
theorem EvIt.weak {ds} (x : EvIt true B n env σ e ds) : EvIt false B n env σ e ds := fun h₀ P O A s E Q bo ao T q => x h₀ P O A s E Q bo ao T fun s₂ I fp wr Pv Si k it st hw hb hf hr => q s₂ I fp wr Pv Si k it st hw hb (fun e => nomatch e) hr

theorem evit_list {f ds} (x : Ev B n env σ e (.list ds)) : EvIt f B n env σ e ds := fun h₀ P O A s E Q bo ao T q =>
  x h₀ P O A s E _ bo ao T fun v s₁ k₁ r => by
    obtain ⟨a, vs, rfl, hl, ha, rs⟩ := rp_list r
    have hne : a ≠ s₁.heap.objs.size := by obtain ⟨o, e, _⟩ := hl; exact Nat.ne_of_lt (Heap.lt_size e)
    have hlen : vs.toArray.size = ds.length := by rw [List.size_toArray]; exact rs.length
    refine wpAny_pyIter_list hl (q _ _ [s₁.heap.objs.size, a] [s₁.heap.objs.size] (fun i v => vs.toArray[i]? = some v) (fun i h => h.IsListIter s₁.heap.objs.size a i ∧ h.IsList a vs.toArray) (ktrans k₁ (kpush' _ _)) (hlen ▸ iter_list ao.handled _ a hne vs.toArray) ⟨⟨_, Heap.get?_push_size _ rfl, rfl, rfl⟩, hl.at fun o e => Heap.get?_push_of_some _ e⟩ ?_ ?_ ?_ ?_)
    · intro b hb; rw [List.mem_singleton.mp hb]; exact fresh_kp k₁
    · intro b hb
      show b < (s₁.heap.push _).objs.size
      rw [Heap.size_push]
      rcases List.mem_cons.mp hb with rfl | hb
      · exact Nat.lt_succ_self _
      · rw [List.mem_singleton.mp hb]; obtain ⟨o, e, _⟩ := hl; exact Nat.lt_succ_of_lt (Heap.lt_size e)
    · intro _ b hb
      rcases List.mem_cons.mp hb with rfl | hb
      · exact (T.kp k₁).notX' (Nat.le_refl _)
      · rw [List.mem_singleton.mp hb]; exact ha
    · intro i v hv
      obtain ⟨d, hd, r⟩ := rs.get (k := i) (v := v) (by simpa using hv)
      exact ⟨d, hd, r.keeps fun a o e => Heap.get?_push_of_some _ e⟩
theorem evit_range {f} {a b : Int} (x : Ev B n env σ e (.range a b)) (ha : -1000000 ≤ a) (ha' : a ≤ 1000000) (hb : -1000000 ≤ b) (hb' : b ≤ 1000000) : EvIt f B n env σ e (rngD a b) := fun h₀ P O A s E Q bo ao T q =>
  x h₀ P O A s E _ bo ao T fun v s₁ k₁ r => by
    obtain ⟨r, t, u, w, rfl, hr, hx⟩ := rp_range r
    have hlen : (rngD a b).length = (b - a).toNat := by simp [rngD]
    have hsz : Builtin.Range.rangeSize a b 1 = (((b - a).toNat : Nat) : Int) := by rw [rangeSize_one]; split <;> omega
    refine wpAny_pyIter_range hr (small_one (by omega) (by omega) (by omega) (by omega)) (q _ _ [s₁.heap.objs.size] [s₁.heap.objs.size] (fun i v => i < (b - a).toNat ∧ ∃ t, v = .int (a + i * 1) t) (fun i h => IsRangeIter h s₁.heap.objs.size (a + (i : Nat) * 1) (((b - a).toNat : Int) - (i : Nat)) 1) (ktrans k₁ (kpush' _ _)) (by rw [hlen]; exact iter_range ao.handled _ a 1 (b - a).toNat) ?_ ?_ ?_ ?_ ?_)
    · dsimp only; rw [hsz]; simpa using Heap.get?_push_size _ rfl
    · intro b hb; rw [List.mem_singleton.mp hb]; exact fresh_kp k₁
    · intro b hb
      show b < (s₁.heap.push _).objs.size
      rw [Heap.size_push, List.mem_singleton.mp hb]; exact Nat.lt_succ_self _
    · intro _ b hb; rw [List.mem_singleton.mp hb]; exact (T.kp k₁).notX' (Nat.le_refl _)
    · rintro i v ⟨hi, t, rfl⟩
      refine ⟨.int (a + i), by simp [rngD, List.getElem?_range hi], ?_⟩
      rw [Int.mul_one]; exact .int _ _

/-- a target is assigned -/
def Asg (B : Bas) (n : Nat) (env : Env) (σ : Sto) (target : Expr) (d : D) (σ' : Sto) : Prop :=
  ∀ (h₀ : Heap) (P O : Addr → Prop) (A : Around) (s : Shared) (E : Value → Shared → Prop) (Q : Unit → Shared → Prop) (v : Value), B.Ok → AOk n A → St B h₀ P env σ O s.heap → Rp s.heap (fun a => P a ∨ O a) v d →
    (∀ s', Mov (Names env) s s' → St B h₀ P env σ' O s'.heap → Q () s') → wpAny (model B.prog B.w) A (assign target env v) Q E s
theorem asg_name {x : String} {p : Pos} {d : D} (hx : Storable env x) : Asg B n env σ (.Name (S x) p) d (σ.put x (.val d)) := fun h₀ P O A s E Q v bo ao T r q =>
  wpAny_assign_Name (wp_store (b := .val d) T hx r q)

/-- several targets in order -/
def Asgs (B : Bas) (n : Nat) (env : Env) (σ : Sto) (ts : List Expr) (ds : List D) (σ' : Sto) : Prop :=
  ∀ (h₀ : Heap) (P O : Addr → Prop) (A : Around) (s : Shared) (E : Value → Shared → Prop) (Q : Unit → Shared → Prop) (vs : List Value), B.Ok → AOk n A → St B h₀ P env σ O s.heap → RpAll s.heap (fun a => P a ∨ O a) vs ds →
    (∀ s', Mov (Names env) s s' → St B h₀ P env σ' O s'.heap → Q () s') → wpAny (model B.prog B.w) A (assignInOrder ((assignEach ts env).map (·.2)) vs) Q E s
theorem asgs_nil : Asgs B n env σ [] [] σ := fun h₀ P O A s E Q vs bo ao T r q => by cases r; exact wpAny_pure (q s (Mov.refl _ _) T)
theorem asgs_cons {t : Expr} {ts : List Expr} {d : D} {ds : List D} {σ₁ σ₂ : Sto} (x : Asg B n env σ t d σ₁) (y : Asgs B n env σ₁ ts ds σ₂) (he : (assignEach (t :: ts) env).map (·.2) = assign t env :: (assignEach ts env).map (·.2) := by rfl) : Asgs B n env σ (t :: ts) (d :: ds) σ₂ :=
  fun h₀ P O A s E Q vs bo ao T r q => by
    cases r with | cons r rs =>
    rw [he]
    refine wpAny_bind (wpAny_holding (x h₀ P O A s E _ _ bo ao T r fun s₁ m₁ T₁ => ?_))
    refine y h₀ P O A s₁ E _ _ bo ao T₁ ?_ fun s₂ m₂ T₂ => q s₂ (m₁.trans m₂ fun _ q => .inl q) T₂
    obtain ⟨h', tk, rfl, k⟩ := m₁.names T
    exact rs.mono (fun a o n e => k a o (fun q => n (.inr q)) e) fun _ _ n _ => n
theorem asg_tuple {ts : List Expr} {ds : List D} {σ' : Sto} {k : Nat} {p : Pos} (x : Asgs B n env σ ts ds σ') (hn : (assignEach ts env).length = ds.length := by rfl) (hstar : (assignEach ts env).findIdx? (·.1) = none := by rfl) : Asg B n env σ (.Tuple ts k p) (.tuple ds) σ' :=
  fun h₀ P O A s E Q v bo ao T r q => by
    obtain ⟨a, vs, rfl, ht, ha, rs⟩ := rp_tuple r
    refine assign_Tuple_tuple ao.handled ht (by rw [hn, List.size_toArray, rs.length]) hstar fun h' he => ?_
    have k : Keeps s { s with heap := h' } := ⟨h', s.toks, rfl, fun b o e => he b o (Nat.ne_of_lt (Heap.lt_size e)) e⟩
    exact x h₀ P O A _ E _ _ bo ao (T.kp k) (rs.keeps (kheap k)) fun s' m T' => q s' ((Mov.of_keeps k).trans m fun _ q => .inl q) T'
end

section
variable {B : Bas} {n : Nat} {env : Env} {σ : Sto} {R : Fl → Sto → Prop}

theorem St.sub {h₀ h P O} (T : St B h₀ P env σ O h) {b : Addr} (hb : O b) : ∃ o, h.get? b = some o := T.live b hb

theorem take_split {α : Type} {ds : List α} {i : Nat} {d : α} (h : ds[i]? = some d) : ds = ds.take i ++ d :: ds.drop (i + 1) ∧ ds.take (i + 1) = ds.take i ++ [d] := by
  have hs : ds.take (i + 1) = ds.take i ++ [d] := by simp [List.take_add_one, h]
  refine ⟨?_, hs⟩
  have := List.take_append_drop (i + 1) ds
  rw [hs, List.append_assoc] at this
  exact this.symm

/-- a for by an invariant -/
theorem ex_for {target iter : Expr} {body : List Stmt} {p : Pos} {ds : List D} (Inv : List D → Sto → Prop) (x : EvIt true B n env σ iter ds) (h0 : Inv [] σ)
    (turn : ∀ pre d post σ', ds = pre ++ d :: post → Inv pre σ' → ∃ σ'', Asg B n env σ' target d σ'' ∧
      Ex B n env σ'' body (fun fl τ => match fl with | .next => Inv (pre ++ [d]) τ | .cont => Inv (pre ++ [d]) τ | .brk => R .next τ | .ret v => R (.ret v) τ))
    (done : ∀ σ', Inv ds σ' → R .next σ') (hs : ∀ x, foldedSetIterable iter env x = pure x := by intro _; rfl) : Ex1 B n env σ (.For target iter body [] p) R := by
  intro h₀ P O A s E bo ao T
  refine wpAny_For (x h₀ P O A s E _ bo ao T fun s₂ I fp wr Pv Si k it st hw hb hf hr => ?_) hs
  have hf := hf rfl
  have T₂ := T.kp k
  have hlive := it.live 0 _ st
  refine codeAny_forLoop_any (fun (kk : Nat) (s' : Shared) => ∃ i σ' O', kk = ds.length + 1 - i ∧ i ≤ ds.length ∧ (∃ h' tk, s' = { s₂ with heap := h', toks := tk }) ∧ Si i s'.heap ∧ St B h₀ P env σ' O' s'.heap ∧ Inv (ds.take i) σ' ∧
      (∀ b o, ¬ O b → b ∉ wr → s₂.heap.get? b = some o → s'.heap.get? b = some o) ∧ (∀ b, O' b → O b ∨ s₂.heap.get? b = none)) ?_ (ds.length + 1)
    ⟨0, σ, O, rfl, Nat.zero_le _, ⟨s₂.heap, s₂.toks, rfl⟩, st, T₂, by simpa using h0, fun _ _ _ _ e => e, fun _ q => .inl q⟩
  rintro kk s' ⟨i, σ', O', rfl, hi, ⟨hh, tk, rfl⟩, st', T', hI, hk, hO⟩
  have fpO : ∀ b ∈ fp, ¬ O' b := fun b hbf q => by
    rcases hO b q with q | q
    · exact hf b hbf (.inr q)
    · obtain ⟨o, e⟩ := hlive b hbf; rw [q] at e; cases e
  have wrO : ∀ b ∈ wr, ¬ O' b := fun b hbw => fpO b (it.W.sub b hbw)
  -- what is kept at the end
  have fin : ∀ (O'' : Addr → Prop) (s'' : Shared), (∃ h' tk, s'' = { s₂ with heap := h', toks := tk }) → (∀ b o, ¬ O b → b ∉ wr → s₂.heap.get? b = some o → s''.heap.get? b = some o) → (∀ b, O'' b → O b ∨ s₂.heap.get? b = none) →
      Mov O s s'' ∧ ∀ b, O'' b → O b ∨ s.heap.get? b = none := by
    rintro O'' s'' ⟨h', tk', rfl⟩ hk' hO'
    obtain ⟨h2, tk2, rfl, k2⟩ := k
    refine ⟨⟨h', tk', rfl, fun b o nb e => hk' b o nb (fun hbw => by rw [hw b hbw] at e; cases e) (k2 b o e)⟩, fun b q => (hO' b q).imp id fun q => ?_⟩
    cases e : s.heap.get? b with
    | none => rfl
    | some o => rw [k2 b o e] at q; cases q
  -- the iterator goes on
  have stepSt : ∀ h₁ : Heap, (∀ b o, b ∉ wr → hh.get? b = some o → h₁.get? b = some o) → St B h₀ P env σ' O' h₁ := fun h₁ hk₁ =>
    T'.step (fun a o ni e => hk₁ a o (fun hbw => by obtain ⟨o', e', q⟩ := it.kind i _ st' a hbw; rw [e] at e'; cases e'; exact ni q) e)
      (fun b o e => hk₁ b o (fun hbw => by have := hw b hbw; rw [T.keep b o e] at this; cases this) (T'.keep b o e))
      (fun a q => by obtain ⟨o, e⟩ := T'.live a q; exact ⟨o, hk₁ a o (fun hbw => wrO a hbw q) e⟩)
  by_cases hlt : i < ds.length
  · refine it.W.item i _ _ _ hlt st' fun v h₁ tk₁ hPv st₁ hk₁ => ?_
    obtain ⟨d, hd, rd⟩ := hr i v hPv
    obtain ⟨e1, e2⟩ := take_split hd
    have T₁ := stepSt h₁ hk₁
    refine it.go _ _ _ _ _ _ st₁ ?_
    obtain ⟨σ'', hasg, hex⟩ := turn _ d _ σ' e1 hI
    have rd' : Rp h₁ (fun a => P a ∨ O' a) v d := by
      refine Rp.step (fun a o ni e => hk₁ a o (fun hbw => by obtain ⟨o', e', q⟩ := it.kind i _ st' a hbw; rw [e] at e'; cases e'; exact ni q) e) (rd.stepX (h' := hh) (X' := fun a => P a ∨ O' a) (fun a o na ni e => ?_) (fun a o na e q => ?_))
      · exact hk a o (fun q => na (.inr q)) (fun haw => by obtain ⟨o', e', q⟩ := it.kind 0 _ st a haw; rw [e] at e'; cases e'; exact ni q) e
      · rcases q with q | q
        · exact na (.inl q)
        · rcases hO a q with q | q
          · exact na (.inr q)
          · rw [q] at e; cases e
    refine hasg h₀ P O' A _ _ _ v bo ao T₁ rd' fun s₃ m₃ T₃ => ?_
    refine wpAny_mono (hex h₀ P O' A s₃ _ bo ao T₃) (fun f s₄ q => ?_) fun _ _ q => q
    obtain ⟨fl, τ, O₄, m₄, hfl, hR, hO₄, T₄⟩ := q
    obtain ⟨h3, tk3, rfl, k3⟩ := m₃.names T₁
    obtain ⟨h4, tk4, rfl, k4⟩ := m₄
    have keepAll : ∀ b o, ¬ O' b → h₁.get? b = some o → h4.get? b = some o := fun b o nb e => k4 b o nb (k3 b o nb e)
    have hk4 : ∀ b o, ¬ O b → b ∉ wr → s₂.heap.get? b = some o → h4.get? b = some o := fun b o nb nw e =>
      keepAll b o (fun q => (hO b q).elim nb fun q => by rw [q] at e; cases e) (hk₁ b o nw (hk b o nb nw e))
    have hO4 : ∀ b, O₄ b → O b ∨ s₂.heap.get? b = none := fun b q => by
      rcases hO₄ b q with q | q
      · exact hO b q
      · by_cases hOb : O b
        · exact .inl hOb
        · by_cases hbw : b ∈ wr
          · obtain ⟨o, e⟩ := it.live _ _ st₁ b (it.W.sub b hbw)
            have : h3.get? b = some o := k3 b o (wrO b hbw) e
            rw [this] at q; cases q
          · refine .inr ?_
            cases e : s₂.heap.get? b with
            | none => rfl
            | some o =>
              have h5 := hk₁ b o hbw (hk b o hOb hbw e)
              by_cases ho' : O' b
              · rcases hO b ho' with z | z
                · exact absurd z hOb
                · rw [z] at e; cases e
              · have := k3 b o ho' h5
                rw [this] at q; cases q
    have stN : Si (i + 1) h4 := it.W.frame _ _ _ st₁ fun b hbf o e => keepAll b o (fpO b hbf) e
    obtain ⟨mv, mo⟩ := fin O₄ _ ⟨h4, tk4, rfl⟩ hk4 hO4
    cases f with
    | next =>
      cases fl <;> try exact hfl.elim
      exact ⟨_, by omega, i + 1, τ, O₄, rfl, hlt, ⟨h4, tk4, rfl⟩, stN, T₄, e2 ▸ hR, hk4, hO4⟩
    | cont =>
      cases fl <;> try exact hfl.elim
      exact ⟨_, by omega, i + 1, τ, O₄, rfl, hlt, ⟨h4, tk4, rfl⟩, stN, T₄, e2 ▸ hR, hk4, hO4⟩
    | brk =>
      cases fl <;> try exact hfl.elim
      exact ⟨.next, τ, O₄, mv, trivial, hR, mo, T₄⟩
    | ret w =>
      cases fl <;> try exact hfl.elim
      exact ⟨.ret _, τ, O₄, mv, hfl, hR, mo, T₄⟩
  · have hi' : i = ds.length := by omega
    subst hi'
    rw [List.take_length] at hI
    refine it.W.done _ _ _ st' fun h₁ tk₁ hk₁ => ?_
    have hk1 : ∀ b o, ¬ O b → b ∉ wr → s₂.heap.get? b = some o → h₁.get? b = some o := fun b o nb nw e => hk₁ b o nw (hk b o nb nw e)
    obtain ⟨mv, mo⟩ := fin O' { s₂ with heap := h₁, toks := tk₁ } ⟨h₁, tk₁, rfl⟩ hk1 hO
    exact wpAny_execs_nil ⟨.next, σ', O', mv, trivial, done _ hI, mo, stepSt h₁ hk₁⟩
end

section
variable {B : Bas} {n : Nat} {env : Env} {σ : Sto} {R : Fl → Sto → Prop}

end

/-- what a def of the text gives back -/
def FnS (B : Bas) (n : Nat) (a : Addr) (ds : List D) (d : D) : Prop :=
  ∀ (P : Addr → Prop) (A : Around) (s : Shared) (E : Value → Shared → Prop) (Q : Value → Shared → Prop) (vs : List Value), B.Ok → AOk n A → B.Here s.heap → (∀ x, P x → (∃ o, s.heap.get? x = some o) ∧ B.hB.get? x = none) → RpAll s.heap P vs ds →
    (∀ v s', Keeps s s' → Rp s'.heap P v d → Q v s') → wpAny (model B.prog B.w) A (call (.ref a) vs) Q E s

structure FnAt (B : Bas) (a : Addr) (name : Str) (params : Arguments) (body : List Stmt) (scope : Scope) : Prop where
  at_ : ∃ o pm cd doc, B.hB.get? a = some o ∧ o.data = .func (docDef name params body scope pm cd doc) ∧ B.hB.CodeRec cd name

/-- the environment of a call -/
structure FEnv (sc : Scope) (env : Env) : Prop where
  scope : env.scope = sc
  func : env.func.isSome = true
  cells : ∀ x, sc.names.lookup x = some .cell → (env.cells.lookup x).isSome = true

theorem bindL_get {kindOf : Str → Option NameKind} {x : Str} {v : Value} (hk : kindOf x = some .local) : ∀ (binds : List (Str × Value)) (m : Str → Option Value), (binds.map (·.1)).Nodup → (x, v) ∈ binds → bindL kindOf binds m x = some v := by
  have other : ∀ (binds : List (Str × Value)) (m : Str → Option Value), x ∉ binds.map (·.1) → bindL kindOf binds m x = m x := by
    intro binds
    induction binds with
    | nil => intro m _; rfl
    | cons p r ih =>
      obtain ⟨y, w⟩ := p
      intro m hn
      simp only [List.map_cons, List.mem_cons, not_or] at hn
      unfold bindL
      rw [ih _ hn.2]
      split
      · exact if_neg hn.1
      · rfl
  intro binds
  induction binds with
  | nil => intro m _ h; cases h
  | cons p r ih =>
    obtain ⟨y, w⟩ := p
    intro m hn hm
    simp only [List.map_cons, List.nodup_cons] at hn
    unfold bindL
    rcases List.mem_cons.mp hm with e | hm
    · cases e
      rw [other _ _ hn.1, if_pos hk]; exact if_pos rfl
    · exact ih _ hn.2 hm
theorem bindC_get {kindOf : Str → Option NameKind} {x : Str} {v : Value} (hk : kindOf x ≠ some .local) : ∀ (binds : List (Str × Value)) (m : Str → Option Value), (binds.map (·.1)).Nodup → (x, v) ∈ binds → bindC kindOf binds m x = some v := by
  have other : ∀ (binds : List (Str × Value)) (m : Str → Option Value), x ∉ binds.map (·.1) → bindC kindOf binds m x = m x := by
    intro binds
    induction binds with
    | nil => intro m _; rfl
    | cons p r ih =>
      obtain ⟨y, w⟩ := p
      intro m hn
      simp only [List.map_cons, List.mem_cons, not_or] at hn
      unfold bindC
      rw [ih _ hn.2]
      split
      · rfl
      · exact if_neg hn.1
  intro binds
  induction binds with
  | nil => intro m _ h; cases h
  | cons p r ih =>
    obtain ⟨y, w⟩ := p
    intro m hn hm
    simp only [List.map_cons, List.nodup_cons] at hn
    unfold bindC
    rcases List.mem_cons.mp hm with e | hm
    · cases e
      rw [other _ _ hn.1, if_neg hk]; exact if_pos rfl
    · exact ih _ hn.2 hm

theorem cellsFrom_some : ∀ (names : List (Str × NameKind)) (k : Nat) (acc : List (Str × Addr)) (x : Str), (names.lookup x = some .cell ∨ (acc.lookup x).isSome = true) → ((cellsFrom k names acc).lookup x).isSome = true := by
  intro names
  induction names with
  | nil => intro k acc x h; rcases h with h | h; cases h; exact h
  | cons p r ih =>
    obtain ⟨y, kd⟩ := p
    intro k acc x h
    unfold cellsFrom
    by_cases hx : x = y
    · subst hx
      rcases h with h | h
      · simp only [List.lookup_cons, beq_self_eq_true] at h
        cases h
        exact ih _ _ _ (.inr (by simp [List.lookup_cons]))
      · split
        · exact ih _ _ _ (.inr (by simp [List.lookup_cons]))
        · exact ih _ _ _ (.inr h)
    · have hb : (x == y) = false := by simpa using hx
      split
      · refine ih _ _ _ (h.imp (fun h => by simpa [List.lookup_cons, hb] using h) fun h => by simpa [List.lookup_cons, hb] using h)
      · refine ih _ _ _ (h.imp (fun h => by simpa [List.lookup_cons, hb] using h) id)

theorem lookup_apart {cs : List (Str × Addr)} (hp : cs.Pairwise fun x y => x.2 ≠ y.2) : ∀ {x y c}, cs.lookup x = some c → cs.lookup y = some c → x = y := by
  induction cs with
  | nil => intro x y c h; cases h
  | cons p r ih =>
    obtain ⟨z, w⟩ := p
    intro x y c hx hy
    rw [List.pairwise_cons] at hp
    simp only [List.lookup_cons] at hx hy
    split at hx <;> split at hy
    · rename_i h1 _ h2; rw [beq_iff_eq.mp h1, beq_iff_eq.mp h2]
    · cases hx; exact absurd rfl (hp.1 (y, w) (PySem.mem_of_lookup hy))
    · cases hy; exact absurd rfl (hp.1 (x, w) (PySem.mem_of_lookup hx))
    · exact ih hp.2 hx hy

def binds0 (xs : List String) (ds : List D) : Sto := (xs.zip ds).map fun p => (p.1, Bnd.val p.2)

theorem binds0_get {xs : List String} {ds : List D} {h : Heap} {X : Addr → Prop} {vs : List Value} (r : RpAll h X vs ds) (hl : xs.length = ds.length) {x : String} {b : Bnd} (hb : (binds0 xs ds).get x = some b) :
    ∃ d v, b = .val d ∧ Rp h X v d ∧ (S x, v) ∈ (xs.map S).zip vs := by
  induction xs generalizing ds vs with
  | nil => simp [binds0, Sto.get] at hb
  | cons y ys ih =>
    cases r with
    | nil => simp at hl
    | cons r rs =>
      simp only [binds0, List.zip_cons_cons, List.map_cons, Sto.get] at hb
      by_cases hy : y = x
      · subst hy
        simp only [if_true] at hb
        exact ⟨_, _, (Option.some.inj hb).symm, r, by simp⟩
      · rw [if_neg hy] at hb
        obtain ⟨d, v, e, r', m⟩ := ih rs (by simpa using hl) hb
        exact ⟨d, v, e, r', by simp [m]⟩

theorem fns_of {B : Bas} {n : Nat} {a : Addr} {name : Str} {params : Arguments} {body : List Stmt} {scope : Scope} {xs : List String} {ds : List D} {d : D} (F : FnAt B a name params body scope) (hk : scope.kind = .function)
    (hbind : ∀ pm cd doc vs, vs.length = xs.length → bindArgs (docDef name params body scope pm cd doc) ⟨vs, []⟩ = pure ((xs.map S).zip vs)) (hlen : xs.length = ds.length) (hnd : xs.Nodup)
    (hkind : ∀ x ∈ xs, scope.names.lookup (S x) = some .local ∨ scope.names.lookup (S x) = some .cell)
    (h : ∀ env, FEnv scope env → Ex B n env (binds0 xs ds) body fun fl _ => match fl with | .ret e => e = d | .next => d = .none | _ => False)
    (hco : scope.isCoroutine = false := by rfl) (hgen : scope.isGenerator = false := by rfl) : FnS B (n + 1) a ds d := by
  intro P A s E Q vs bo ao hh hP r q
  obtain ⟨o, pm, cd, doc, ho, hd, hcd⟩ := F.at_
  have hvl : vs.length = xs.length := by rw [r.length, hlen]
  refine wpAny_call (codeAny_mono (codeAny_call_cells (R := fun res s' => ∃ v, res = .ok (.ret v) ∧ Keeps s s' ∧ Rp s'.heap P v d) (by have := ao.depth; omega) (hh _ _ ho) hd (bo.nolimit.keeps hh) (hcd.keeps hh) rfl (hbind pm cd doc vs hvl) rfl ?_ ?_ hco hgen hk) ?_)
  · intro x hx
    obtain ⟨y, hy, e⟩ : ∃ y ∈ xs, x.1 = S y := by
      have := List.of_mem_zip hx
      obtain ⟨y, hy, e⟩ := List.mem_map.mp this.1
      exact ⟨y, hy, e.symm⟩
    rw [e]
    rcases hkind y hy with q | q
    · exact .inl q
    · exact .inr ⟨q, cellsFrom_some _ _ _ _ (.inl q)⟩
  · intro s₁ C
    generalize henv : callEnvC (docDef name params body scope pm cd doc) s.heap.objs.size a = env at C
    have hsc : env.scope = scope := by rw [← henv]; rfl
    have hloc : env.locals = s.heap.objs.size := by rw [← henv]; rfl
    have hfn : env.func.isSome = true := by rw [← henv]; rfl
    have hgl : env.globals = mainGlobals := by rw [← henv]; rfl
    have hbi : env.builtins = builtinsNs := by rw [← henv]; rfl
    have hcells : env.cells = cellsFrom (s.heap.objs.size + 1) scope.names [] := by rw [← henv]; rfl
    have fe : FEnv scope env := ⟨hsc, hfn, fun x hx => by rw [hcells]; exact cellsFrom_some _ _ _ _ (.inl hx)⟩
    have kK : Keeps s s₁ := C.toInCall.done
    have nodup : (((xs.map S).zip vs).map (·.1)).Nodup := by
      rw [List.map_fst_zip (by simp [hvl])]
      exact List.Pairwise.map S (fun a b ne e => ne (S_inj e)) hnd
    have T : St B s.heap P env (binds0 xs ds) (fun b => b = env.locals ∨ ∃ x, env.cells.lookup x = some b) s₁.heap := by
      have notold : ∀ b, s.heap.objs.size ≤ b → s.heap.get? b = none := fun b hb => fresh_of hb
      have hnew : ∀ b, (b = env.locals ∨ ∃ x, env.cells.lookup x = some b) → s.heap.get? b = none := by
        rintro b (e | ⟨x, hx⟩)
        · subst e; exact notold _ (Nat.le_of_eq hloc.symm)
        · have := C.above x b (PySem.mem_of_lookup hx); exact notold _ (Nat.le_of_lt (by rw [hloc] at this; exact this))
      have rx : RpAll s₁.heap (fun b => P b ∨ (b = env.locals ∨ ∃ x, env.cells.lookup x = some b)) vs ds := r.mono (fun a o _ e => kheap kK a o e) fun a o np e => by
        rintro (q | q)
        · exact np q
        · rw [hnew a q] at e; cases e
      refine ⟨hh, C.toInCall.keep, hP, ?_, hnew, ⟨by rw [hsc]; exact hk, hgl, hbi, fun x y c h1 h2 => lookup_apart C.apart h1 h2⟩, .inl rfl, ⟨_, C.toInCall.ns⟩, fun x c l => ⟨⟨_, C.cell x c l⟩, fun _ => .inr ⟨x, l⟩⟩, fun x b hb => ?_, ?_⟩
      · rintro b (e | ⟨x, hx⟩)
        · subst e; obtain ⟨o, _, _, e, _⟩ := C.toInCall.ns; exact ⟨o, e⟩
        · obtain ⟨o, e, _⟩ := C.cell x b hx; exact ⟨o, e⟩
      · obtain ⟨d', v, rfl, rv, hm⟩ := binds0_get rx hlen hb
        refine ⟨v, ?_, rv⟩
        have hxm : x ∈ xs := by
          have := (List.of_mem_zip hm).1
          obtain ⟨y, hy, e⟩ := List.mem_map.mp this
          rwa [← S_inj e]
        rcases hkind x hxm with kx | kx
        · refine .inl ⟨by unfold Env.kindOf; rw [hsc]; exact kx, _, C.toInCall.ns, ?_⟩
          exact bindL_get (by unfold Env.kindOf; rw [hsc]; exact kx) _ _ nodup hm
        · obtain ⟨c, hc⟩ := Option.isSome_iff_exists.mp (fe.cells _ kx)
          refine .inr ⟨.inl (by unfold Env.kindOf; rw [hsc]; exact kx), c, hc, ?_⟩
          have := C.cell _ _ hc
          rwa [bindC_get (by unfold Env.kindOf; rw [hsc, kx]; intro q; cases q) _ _ nodup hm] at this
      · intro x y ds' es a' ne hx
        obtain ⟨_, _, e, _⟩ := binds0_get r hlen hx; cases e
    refine wpAny_mono (h env fe s.heap P _ _ s₁ _ bo ⟨ao.handled, by have := ao.depth; show A.depth + 1 + n < _; omega, by have := ao.units; show A.units + 3 + 5 * n + 100 < _; omega⟩ T) (fun f s' z => ?_) fun _ _ z => z
    obtain ⟨fl, σ', O', mv, hfl, hR, hO, T'⟩ := z
    have kk : Keeps s s' := by
      obtain ⟨h', tk', rfl, k'⟩ := mv
      obtain ⟨h1, tk1, rfl, k1⟩ := kK
      exact ⟨h', tk', rfl, T'.keep⟩
    cases f with
    | ret v =>
      cases fl <;> try exact hfl.elim
      cases hR
      exact ⟨v, rfl, kk, hfl⟩
    | next =>
      cases fl <;> try exact hfl.elim
      cases hR
      exact ⟨.none, rfl, kk, .val _ rfl⟩
    | brk => cases fl <;> first | exact hfl.elim | exact hR.elim
    | cont => cases fl <;> first | exact hfl.elim | exact hR.elim
  · rintro res s' ⟨v, rfl, kk, rv⟩
    exact q v s' kk rv

section
variable {B : Bas} {n : Nat} {env : Env} {σ : Sto} {h₀ h h' : Heap} {P O : Addr → Prop}
theorem St.forget {σ' : Sto} (T : St B h₀ P env σ O h) (hs : ∀ x b, σ'.get x = some b → σ.get x = some b) : St B h₀ P env σ' O h :=
  ⟨T.base, T.keep, T.plive, T.live, T.new, T.ok, T.loc, T.ns, T.cells, fun x b e => T.vars x b (hs x b e), fun x y ds es a ne hx hy => T.apart x y ds es a ne (hs _ _ hx) (hs _ _ hy)⟩
/-- an own address that no name holds is changed -/
theorem St.chg (T : St B h₀ P env σ O h) {c : Addr} (hc : O c) (hs : Heap.SameBut c h h') (hlc : ∃ o, h'.get? c = some o) (hl : c ≠ env.locals) (hcell : ∀ y k, env.cells.lookup y = some k → k ≠ c)
    (hv : ∀ x ds, σ.get x = some (.own ds) → ¬ VarIs env h (S x) (.ref c)) : St B h₀ P env σ O h' := by
  have hk : ∀ a o, ¬ (P a ∨ O a) → h.get? a = some o → h'.get? a = some o := fun a o n e => (hs.2 a (fun q => n (.inr (q ▸ hc)))).trans e
  have mvv : ∀ {x w}, VarIs env h x w → VarIs env h' x w := by
    rintro x w (⟨kd, m, nn, e⟩ | ⟨kd, k, l, e⟩)
    · exact .inl ⟨kd, m, nn.sameBut hs (Ne.symm hl), e⟩
    · exact .inr ⟨kd, k, l, e.sameBut hs (hcell _ _ l)⟩
  have bck : ∀ {x w}, (∃ b, σ.get x = some b) → VarIs env h' (S x) w → VarIs env h (S x) w := by
    rintro x w ⟨b, hb⟩ hw
    obtain ⟨w', hw'⟩ := (T.vars x b hb).var
    rw [hw.fn (mvv hw')]; exact hw'
  have mv : ∀ {v d}, Rp h (fun a => P a ∨ O a) v d → Rp h' (fun a => P a ∨ O a) v d := fun r => r.mono hk fun _ _ n _ => n
  have mva : ∀ {v d}, RpAll h (fun a => P a ∨ O a) v d → RpAll h' (fun a => P a ∨ O a) v d := fun r => r.mono hk fun _ _ n _ => n
  refine ⟨T.base, fun b o e => ?_, T.plive, fun a q => ?_, T.new, T.ok, T.loc, let ⟨m, nn⟩ := T.ns; ⟨m, nn.sameBut hs (Ne.symm hl)⟩, fun y k e => ?_, fun y b' e => ?_, fun y z ds es a ne hy hz vy vz => ?_⟩
  · exact (hs.2 b (fun q => by subst q; rw [T.new _ hc] at e; cases e)).trans (T.keep b o e)
  · by_cases q' : a = c
    · subst q'; exact hlc
    · obtain ⟨o, e⟩ := T.live a q; exact ⟨o, (hs.2 a q').trans e⟩
  · obtain ⟨⟨v, q⟩, f⟩ := T.cells y k e
    exact ⟨⟨v, q.sameBut hs (hcell _ _ e)⟩, f⟩
  · have := T.vars y b' e
    cases b' with
    | val d => obtain ⟨w, hw, r⟩ := this; exact ⟨w, mvv hw, mv r⟩
    | own ds =>
      obtain ⟨a, vs, hw, h1, h2, h3, h4⟩ := this
      refine ⟨a, vs, mvv hw, h1, h2, ?_, mva h4⟩
      have ha : a ≠ c := fun q => hv y ds e (q ▸ hw)
      obtain ⟨o, ho⟩ := h3
      exact ⟨o, (hs.2 a ha).trans ho⟩
  · exact T.apart y z ds es a ne hy hz (bck ⟨_, hy⟩ vy) (bck ⟨_, hz⟩ vz)
end

/-- a namespace that is let go -/
theorem St.lose {B : Bas} {env : Env} {σ : Sto} {h₀ h h' : Heap} {P O : Addr → Prop} {C : Addr} {m : Str → Option Value} (T : St B h₀ P env σ (fun b => O b ∨ b = C) h) (hs : Heap.SameBut C h h') (hn : h.Ns C m) (hl : env.locals ≠ C) (hcell : ∀ y k, env.cells.lookup y = some k → k ≠ C) (hC : ¬ O C) : St B h₀ P env σ O h' := by
  have up : ∀ a o, a ≠ C → h.get? a = some o → h'.get? a = some o := fun a o ne e => (hs.2 a ne).trans e
  have hk : ∀ a o, ¬ (P a ∨ (O a ∨ a = C)) → h.get? a = some o → h'.get? a = some o := fun a o n e => up a o (fun q => n (.inr (.inr q))) e
  have hx : ∀ a o, ¬ (P a ∨ (O a ∨ a = C)) → h.get? a = some o → ¬ (P a ∨ O a) := fun a o n _ q => n (q.imp id .inl)
  have locO : O env.locals := by rcases T.loc with q | q; exact q; exact absurd q hl
  have mvv : ∀ {x w}, VarIs env h x w → VarIs env h' x w := by
    rintro x w (⟨kd, m, nn, e⟩ | ⟨kd, k, l, e⟩)
    · exact .inl ⟨kd, m, nn.sameBut hs hl, e⟩
    · exact .inr ⟨kd, k, l, e.sameBut hs (hcell _ _ l)⟩
  have bck : ∀ {x w}, (∃ b, σ.get x = some b) → VarIs env h' (S x) w → VarIs env h (S x) w := by
    rintro x w ⟨b, hb⟩ hw
    obtain ⟨w', hw'⟩ := (T.vars x b hb).var
    rw [hw.fn (mvv hw')]; exact hw'
  refine ⟨T.base, fun b o e => up b o (fun q => by rw [q, T.new C (.inr rfl)] at e; cases e) (T.keep b o e), T.plive, fun a q => ?_, fun a q => T.new a (.inl q), T.ok, locO, let ⟨m, nn⟩ := T.ns; ⟨m, nn.sameBut hs hl⟩, fun y k e => ?_, fun y b' e => ?_, fun y z ds es a ne hy hz vy vz => ?_⟩
  · obtain ⟨o, e⟩ := T.live a (.inl q); exact ⟨o, up a o (fun e' => hC (e' ▸ q)) e⟩
  · obtain ⟨⟨v, q⟩, g⟩ := T.cells y k e
    exact ⟨⟨v, q.sameBut hs (hcell _ _ e)⟩, fun f => (g f).elim id fun q => absurd q (hcell _ _ e)⟩
  · have := T.vars y b' e
    cases b' with
    | val d => obtain ⟨w, hw, r⟩ := this; exact ⟨w, mvv hw, r.mono hk hx⟩
    | own ds =>
      obtain ⟨a, vs, hw, h1, h2, h3, h4⟩ := this
      have ha : a ≠ C := plain_ne_ns h3.isList hn
      refine ⟨a, vs, mvv hw, h1.elim id fun q => absurd q ha, h2, ?_, h4.mono hk hx⟩
      obtain ⟨o, ho⟩ := h3
      exact ⟨o, up a _ ha ho⟩
  · exact T.apart y z ds es a ne hy hz (bck ⟨_, hy⟩ vy) (bck ⟨_, hz⟩ vz)

/-- the tests of a comprehension's clause -/
def Tsts (B : Bas) (n : Nat) (env : Env) (σ : Sto) (ifs : List Expr) (p : Bool) : Prop :=
  ∀ (h₀ : Heap) (P O : Addr → Prop) (A : Around) (s : Shared) (E : Value → Shared → Prop) (Q : Bool → Shared → Prop), B.Ok → AOk n A → St B h₀ P env σ O s.heap →
    (∀ s', Keeps s s' → Q p s') → wpAny (model B.prog B.w) A (forIn ifs true fun c r => if r = true then do let ok ← isTrue c env (eval c env); pure (ForInStep.yield ok) else pure (ForInStep.yield r)) Q E s
theorem tsts_nil {B n env σ} : Tsts B n env σ [] true := fun h₀ P O A s E Q bo ao T q => wpAny_pure (q s (krefl s))
/-- the environment of a comprehension -/
structure CEnv (sc : Scope) (cenv : Env) : Prop where
  loc : ∀ x, sc.names.lookup x = some .local → cenv.kindOf x = some .local
  glob : ∀ x, sc.names.lookup x = some .globalImplicit → cenv.kindOf x = some .globalImplicit

def capt (σ : Sto) (caps : List String) : Sto := caps.filterMap fun x => match σ.get x with | some (.val d) => some (x, .val d) | _ => none

theorem capt_get {σ : Sto} {caps : List String} {x : String} {b : Bnd} (h : (capt σ caps).get x = some b) : x ∈ caps ∧ ∃ d, b = .val d ∧ σ.get x = some (.val d) := by
  induction caps with
  | nil => cases h
  | cons y r ih =>
    unfold capt at h
    rw [List.filterMap_cons] at h
    have rest : (capt σ r).get x = some b → x ∈ y :: r ∧ ∃ d, b = .val d ∧ σ.get x = some (.val d) := fun h => (ih h).imp (List.mem_cons_of_mem _) id
    split at h
    · exact rest h
    · rename_i p hp
      split at hp
      · cases hp
        rename_i d hd
        unfold Sto.get at h
        by_cases hy : y = x
        · subst hy; rw [if_pos rfl] at h; cases h
          exact ⟨List.mem_cons_self .., _, rfl, hd⟩
        · rw [if_neg hy] at h; exact rest h
      · cases hp

theorem lookup_relabel {env : Env} {k : NameKind} (hk : k ≠ .free) : ∀ {names : List (Str × NameKind)} {x : Str}, names.lookup x = some k →
    (names.map fun (n, k) => if (k == NameKind.free && env.scope.kind == .function && env.kindOf n == some .cell) then (n, NameKind.cell) else (n, k)).lookup x = some k
  | [], _, h => by simp at h
  | (m, j) :: r, x, h => by
    have ih := @lookup_relabel env k hk r x
    show List.lookup x ((if (j == NameKind.free && env.scope.kind == .function && env.kindOf m == some .cell) = true then (m, NameKind.cell) else (m, j)) :: _) = _
    cases hx : x == m with
    | true =>
      simp only [List.lookup_cons, hx] at h
      cases h
      have : (k == NameKind.free) = false := by simpa using hk
      rw [this]
      simp [List.lookup_cons, hx]
    | false =>
      simp only [List.lookup_cons, hx] at h
      by_cases hc : (j == NameKind.free && env.scope.kind == .function && env.kindOf m == some .cell) = true
      · rw [if_pos hc]; simp only [List.lookup_cons, hx]; exact ih h
      · rw [if_neg hc]; simp only [List.lookup_cons, hx]; exact ih h
theorem lookup_relabel_free {env : Env} : ∀ {names : List (Str × NameKind)} {x : Str}, names.lookup x = some .free →
    (names.map fun (n, k) => if (k == NameKind.free && env.scope.kind == .function && env.kindOf n == some .cell) then (n, NameKind.cell) else (n, k)).lookup x = some .cell ∨
    (names.map fun (n, k) => if (k == NameKind.free && env.scope.kind == .function && env.kindOf n == some .cell) then (n, NameKind.cell) else (n, k)).lookup x = some .free
  | [], _, h => by simp at h
  | (m, j) :: r, x, h => by
    have ih := @lookup_relabel_free env r x
    show List.lookup x ((if (j == NameKind.free && env.scope.kind == .function && env.kindOf m == some .cell) = true then (m, NameKind.cell) else (m, j)) :: _) = _ ∨ List.lookup x ((if (j == NameKind.free && env.scope.kind == .function && env.kindOf m == some .cell) = true then (m, NameKind.cell) else (m, j)) :: _) = _
    cases hx : x == m with
    | true =>
      simp only [List.lookup_cons, hx] at h
      cases h
      split <;> simp [List.lookup_cons, hx]
    | false =>
      simp only [List.lookup_cons, hx] at h
      split <;> (simp only [List.lookup_cons, hx]; exact ih h)

/-- the cells that a comprehension takes along -/
def closG (env : Env) : List (Str × NameKind) → List (Str × Addr) → List (Str × Addr)
  | [], acc => acc
  | (x, k) :: r, acc => closG env r (if k == .free then (x, (env.cells.lookup x).getD 0) :: acc else acc)
theorem closureFor_eq {sc : Scope} {env : Env} (h : ∀ x ∈ sc.names, x.2 = .free → (env.cells.lookup x.1).isSome = true) : closureFor sc env = pure (closG env sc.names []) := by
  have key : ∀ (names : List (Str × NameKind)) (acc : List (Str × Addr)), (∀ x ∈ names, x.2 = .free → (env.cells.lookup x.1).isSome = true) →
      (forIn names acc fun (x : Str × NameKind) (r : List (Str × Addr)) => (if x.2 == .free then do let __do_lift ← cellOf env x.1; pure (ForInStep.yield ((x.1, __do_lift) :: r)) else pure (ForInStep.yield r) : Sem (ForInStep (List (Str × Addr))))) = (pure (closG env names acc) : Sem (List (Str × Addr))) := by
    intro names
    induction names with
    | nil => intro acc _; rfl
    | cons p r ih =>
      intro acc hn
      obtain ⟨x, k⟩ := p
      rw [List.forIn_cons]
      by_cases hk : k = .free
      · subst hk
        obtain ⟨c, hc⟩ := Option.isSome_iff_exists.mp (hn (x, .free) (List.mem_cons_self ..) rfl)
        have : cellOf env x = pure c := by unfold cellOf; rw [hc]
        simp only [beq_self_eq_true, if_true, this, pure_bind]
        rw [ih _ fun y hy => hn y (List.mem_cons_of_mem _ hy)]
        simp [closG, hc]
      · have : (k == NameKind.free) = false := by simpa using hk
        simp only [this, Bool.false_eq_true, if_false, pure_bind]
        rw [ih _ fun y hy => hn y (List.mem_cons_of_mem _ hy)]
        simp [closG, this]
  simp only [closureFor]
  rw [key _ _ h]
  rfl
theorem closG_sub {env : Env} {names : List (Str × NameKind)} {acc : List (Str × Addr)} (h : ∀ x ∈ names, x.2 = .free → (env.cells.lookup x.1).isSome = true) (ha : ∀ x c, acc.lookup x = some c → env.cells.lookup x = some c) :
    ∀ x c, (closG env names acc).lookup x = some c → env.cells.lookup x = some c := by
  induction names generalizing acc with
  | nil => exact ha
  | cons p r ih =>
    obtain ⟨y, k⟩ := p
    unfold closG
    refine ih (fun z hz => h z (List.mem_cons_of_mem _ hz)) ?_
    intro x c hx
    split at hx
    · rename_i hk
      rw [List.lookup_cons] at hx
      split at hx
      · rename_i e
        cases hx
        obtain ⟨c, hc⟩ := Option.isSome_iff_exists.mp (h (y, k) (List.mem_cons_self ..) (by simpa using hk))
        have e' := beq_iff_eq.mp e
        subst e'
        rw [hc]; rfl
      · exact ha x c hx
    · exact ha x c hx
theorem closG_free {env : Env} {names : List (Str × NameKind)} {acc : List (Str × Addr)} {x : Str} (hx : (x, NameKind.free) ∈ names ∨ (acc.lookup x).isSome = true) : ((closG env names acc).lookup x).isSome = true := by
  induction names generalizing acc with
  | nil => rcases hx with hx | hx; cases hx; exact hx
  | cons p r ih =>
    obtain ⟨y, k⟩ := p
    unfold closG
    refine ih ?_
    rcases hx with hx | hx
    · rcases List.mem_cons.mp hx with e | e
      · cases e; right; simp
      · exact .inl e
    · right
      split
      · rw [List.lookup_cons]; split <;> first | rfl | exact hx
      · exact hx

section
variable {B : Bas} {n : Nat} {env : Env} {σ : Sto}

theorem comp_loop {R : Result → Shared → Prop} {A : Around} {s : Shared} {elt target iter : Expr} {ifs : List Expr} {scope : Scope} {pos : Pos} {it acc : Value} {env : Env} (I : Nat → Shared → Prop)
    (turn : ∀ n s, I n s → wpAny (model B.prog B.w) A (pyNext it) (fun r s₁ => match r with
      | none => R (.ok .next) s₁
      | some v => wpAny (model B.prog B.w) A (letOwnedTupleGo target it v) (fun _ s₁' => wpAny (model B.prog B.w) A (assign target env v) (fun _ s₂ =>
          wpAny (model B.prog B.w) A (forIn ifs true fun c r => if r = true then do let ok ← isTrue c env (eval c env); pure (ForInStep.yield ok) else pure (ForInStep.yield r)) (fun ok s₃ =>
            if ok = true then wpAny (model B.prog B.w) A (eval elt env) (fun x s₄ =>
              wpAny (model B.prog B.w) A (call (.builtin "list.append") [acc, x]) (fun _ s₅ => ∃ m, m < n ∧ I m s₅) (notedBy (model B.prog B.w) A env fun e s' => R (.error e) s') s₄) (notedBy (model B.prog B.w) A env fun e s' => R (.error e) s') s₃
            else ∃ m, m < n ∧ I m s₃) (notedBy (model B.prog B.w) A env fun e s' => R (.error e) s') s₂) (notedBy (model B.prog B.w) A env fun e s' => R (.error e) s') s₁') (notedBy (model B.prog B.w) A env fun e s' => R (.error e) s') s₁) (notedBy (model B.prog B.w) A env fun e s' => R (.error e) s') s)
    (n : Nat) (h : I n s) : codeAny (model B.prog B.w) A (.compLoop (.ListComp elt [⟨target, iter, ifs, 0⟩] scope pos) 0 it acc env) R s := by
  refine codeAny_loop rfl I (fun n s hI => ?_) n h
  show wpAny _ A ((compTurn (.ListComp elt [⟨target, iter, ifs, 0⟩] scope pos) 0 it acc env).onRaise (fun x => do noteFrame x env; theTreesLotGoes x)) _ _ s
  refine wpAny_noted ?_
  rw [compTurn_list]
  refine wpAny_bind (wpAny_standAt (wpAny_bind (wpAny_mono (turn n s hI) (fun r s₁ h₁ => ?_) fun _ _ h' => h')))
  cases r with
  | none => exact wpAny_pure h₁
  | some v =>
    refine wpAny_bind (wpAny_mono h₁ (fun _ s₁' h₁' => ?_) fun _ _ h' => h')
    refine wpAny_bind (wpAny_mono h₁' (fun _ s₂ h₂ => wpAny_bind (wpAny_mono h₂ (fun ok s₃ h₃ => ?_) fun _ _ h' => h')) fun _ _ h' => h')
    cases ok with
    | false => exact wpAny_pure ⟨rfl, h₃⟩
    | true =>
      exact wpAny_bind (wpAny_bind (wpAny_mono h₃ (fun x s₄ h₄ => wpAny_bind (wpAny_mono h₄ (fun _ s₅ h₅ => wpAny_pure (wpAny_pure ⟨rfl, h₅⟩)) fun _ _ h' => h')) fun _ _ h' => h'))

/-- a comprehension's own conditions -/
structure CompOk (sc : Scope) (env : Env) (caps : List String) : Prop where
  kind : sc.kind = .function
  nocell : ∀ y ∈ sc.names, y.2 ≠ .cell
  locals : ∀ y ∈ sc.names, y.2 = .local → sc.names.lookup y.1 = some .local
  free : ∀ x ∈ sc.names, x.2 = .free → (env.cells.lookup x.1).isSome = true
  caps : ∀ x ∈ caps, sc.names.lookup (S x) = some .free ∧ (env.kindOf (S x) = some .cell ∨ env.kindOf (S x) = some .free)

theorem comp_core {elt target iter : Expr} {ifs : List Expr} {sc : Scope} {pos : Pos} {α : Type} {ds : List α} {caps : List String} (g : α → D) (p : α → Bool) (f : α → D) (ok : CompOk sc env caps) (hsz : ds.length ≤ 1000000)
    (turn : ∀ cenv, CEnv sc cenv → ∀ d ∈ ds, ∃ σd, Asg B n cenv (capt σ caps) target (g d) σd ∧ (∀ x b, (capt σ caps).get x = some b → σd.get x = some b) ∧ Tsts B n cenv σd ifs (p d) ∧ (p d = true → Ev B n cenv σd elt (f d)))
    {h₀ : Heap} {P O : Addr → Prop} {A : Around} {s s₂ : Shared} {E : Value → Shared → Prop} (bo : B.Ok) (ao : AOk n A) (T : St B h₀ P env σ O s.heap) (k₂ : Keeps s s₂) {I : Addr} {fp wr : List Addr} {Pv : Nat → Value → Prop} {Si : Nat → Heap → Prop}
    (it : Iter B A I fp wr ds.length Pv Si) (st : Si 0 s₂.heap) (hw : ∀ b ∈ wr, s.heap.get? b = none) (hfp : ∀ b ∈ fp, b < s₂.heap.objs.size) (hr : ∀ i v, Pv i v → ∃ d, ds[i]? = some d ∧ Rp s₂.heap (fun a => P a ∨ O a) v (g d))
    {RR : Value → Addr → Result → Shared → Prop}
    (hRR : ∀ Da C h' tk m' (ys : List Value), s₂.heap.get? Da = none → s₂.heap.get? C = none → Da ≠ C → h'.Ns C m' → h'.PlainList Da ys.toArray → RpAll h' (fun b => P b ∨ O b ∨ b = Da ∨ b = C) ys ((ds.filter p).map f) →
      (∀ b o, b ∉ wr → s₂.heap.get? b = some o → h'.get? b = some o) → RR (.ref Da) C (.ok .next) { s₂ with heap := h', toks := tk }) :
    wpAny (model B.prog B.w) A (newList []) (fun acc s₃ => wpAny (model B.prog B.w) A (newFunctionEnv sc env.globals (closG env sc.names []) [] env.qual none .none (some env)) (fun cenv s₄ =>
      codeAny (model B.prog B.w) A (.compStart (.ListComp elt [⟨target, iter, ifs, 0⟩] sc pos) 0 (.ref I) acc { cenv with scope := relabel sc env }) (RR acc cenv.locals) s₄) E s₃) E s₂ := by
  refine wpAny_newObj_type (wpAny_newFunctionEnv ok.nocell (by intro y hy; simp at hy) (fun h₁ hns₁ hsb₁ => ?_) ok.kind)
  dsimp only at hns₁ hsb₁ ⊢
  generalize hH2 : s₂.heap.push { cls := .type "list", dict := none, data := .seq ([] : List Value).toArray } = H2 at hns₁ hsb₁ ⊢
  have hCsz : H2.objs.size = s₂.heap.objs.size + 1 := by rw [← hH2, Heap.size_push]
  generalize hC : H2.objs.size = C at hns₁ hsb₁ hCsz ⊢
  generalize hD : s₂.heap.objs.size = Da at hCsz ⊢
  have hDC : Da ≠ C := by omega
  have Dnew : s₂.heap.get? Da = none := fresh_of (by omega)
  have Cnew : s₂.heap.get? C = none := fresh_of (by omega)
  have old : ∀ b o, s₂.heap.get? b = some o → h₁.get? b = some o := fun b o e => hsb₁.extBut b o (fun q => by subst q; rw [Cnew] at e; cases e) (Heap.get?_push_of_some _ (hH2 ▸ Heap.get?_push_of_some _ e))
  have hacc : h₁.PlainList Da #[] := by
    refine ⟨_, hsb₁.extBut _ _ hDC (Heap.get?_push_of_some _ (hH2 ▸ hD ▸ Heap.get?_push_size _ rfl))⟩
  show codeAny _ A (.compStart (.ListComp elt [⟨target, iter, ifs, 0⟩] sc pos) 0 (.ref I) (.ref Da) (compEnvC sc (closG env sc.names []) C env)) (RR (.ref Da) C) { s₂ with heap := h₁, toks := s₂.toks + 0 }
  generalize hce : compEnvC sc (closG env sc.names []) C env = cenv
  have cscope : cenv.scope = relabel sc env := by rw [← hce]; rfl
  have clocals : cenv.locals = C := by rw [← hce]; rfl
  have cglobals : cenv.globals = env.globals := by rw [← hce]; rfl
  have cbuiltins : cenv.builtins = env.builtins := by rw [← hce]; rfl
  have ccells : cenv.cells = closG env sc.names [] := by rw [← hce]; rfl
  have cfunc : cenv.func = none := by rw [← hce]; rfl
  have csub : ∀ x c, cenv.cells.lookup x = some c → env.cells.lookup x = some c := by rw [ccells]; exact closG_sub ok.free (by intro x c h; cases h)
  have CE : CEnv sc cenv := ⟨fun x h => by unfold Env.kindOf; rw [cscope]; exact lookup_relabel (by decide) h, fun x h => by unfold Env.kindOf; rw [cscope]; exact lookup_relabel (by decide) h⟩
  have T₂ := T.kp k₂
  have sD : s.heap.get? Da = none := by
    cases e : s.heap.get? Da with
    | none => rfl
    | some o => rw [kheap k₂ _ _ e] at Dnew; cases Dnew
  have sC : s.heap.get? C = none := by
    cases e : s.heap.get? C with
    | none => rfl
    | some o => rw [kheap k₂ _ _ e] at Cnew; cases Cnew
  have hx2 : ∀ a o, ¬ (P a ∨ O a) → s₂.heap.get? a = some o → ¬ ((P a ∨ O a) ∨ (a = C ∨ a = Da)) := by
    rintro a o na e (q | q | q)
    · exact na q
    · subst q; rw [Cnew] at e; cases e
    · subst q; rw [Dnew] at e; cases e
  have T0 : St B s.heap (fun b => P b ∨ O b) cenv (capt σ caps) (fun b => b = C ∨ b = Da) h₁ := by
    refine ⟨T.here, fun b o e => old b o (kheap k₂ b o e), ?_, ?_, ?_, ⟨?_, by rw [cglobals]; exact T.ok.globals, by rw [cbuiltins]; exact T.ok.builtins, fun x y c h1 h2 => T.ok.apart x y c (csub _ _ h1) (csub _ _ h2)⟩, .inl clocals, ⟨_, clocals ▸ hns₁⟩, ?_, ?_, ?_⟩
    · exact fun b q => T.xlive q
    · rintro b (q | q)
      · subst q; obtain ⟨o, _, _, e, _⟩ := hns₁; exact ⟨o, e⟩
      · subst q; obtain ⟨o, e⟩ := hacc; exact ⟨_, e⟩
    · rintro b (q | q)
      · subst q; exact sC
      · subst q; exact sD
    · rw [cscope]; exact ok.kind
    · intro x c l
      obtain ⟨⟨v, e⟩, _⟩ := T₂.cells x c (csub x c l)
      exact ⟨⟨v, e.keeps old⟩, fun q => by rw [cfunc] at q; cases q⟩
    · intro x b hb
      obtain ⟨hxc, d, rfl, hσ⟩ := capt_get hb
      obtain ⟨v, hv, r⟩ := T₂.vars x _ hσ
      obtain ⟨h1, h2⟩ := ok.caps x hxc
      refine ⟨v, ?_, r.mono (fun a o _ e => old a o e) hx2⟩
      have hin : (S x, NameKind.free) ∈ sc.names := PySem.mem_of_lookup h1
      obtain ⟨c, hc⟩ := Option.isSome_iff_exists.mp (closG_free (env := env) (acc := []) (.inl hin))
      rw [← ccells] at hc
      refine .inr ⟨?_, c, hc, ?_⟩
      · unfold Env.kindOf; rw [cscope]; exact lookup_relabel_free h1
      · rcases hv with ⟨kd, _⟩ | ⟨kd, c', l, e⟩
        · rcases h2 with h2 | h2 <;> rw [h2] at kd <;> cases kd
        · rw [csub _ _ hc] at l; cases l; exact e.keeps old
    · intro x y ds' es a ne hx
      obtain ⟨_, _, e, _⟩ := capt_get hx; cases e
  have st₁ : Si 0 h₁ := it.W.frame _ _ _ st fun b _ o e => old b o e
  have loop : ∀ s₃ : Shared, s₃ = { s₂ with heap := h₁, toks := s₂.toks + 0 } → codeAny (model B.prog B.w) A (.compLoop (.ListComp elt [⟨target, iter, ifs, 0⟩] sc pos) 0 (.ref I) (.ref Da) cenv) (RR (.ref Da) C) s₃ := by
    rintro s₃ rfl
    have fpD : ∀ b ∈ fp, b ≠ Da := fun b hb q => by have := hfp b hb; rw [hD, q] at this; exact Nat.lt_irrefl _ this
    have fpC : ∀ b ∈ fp, b ≠ C := fun b hb q => by have := hfp b hb; rw [hD, q, hCsz] at this; exact Nat.lt_irrefl _ (Nat.lt_of_succ_lt this)
    refine comp_loop (fun (kk : Nat) (s' : Shared) => ∃ i ys, kk = ds.length + 1 - i ∧ i ≤ ds.length ∧ (∃ h' tk, s' = { s₂ with heap := h', toks := tk }) ∧ Si i s'.heap ∧
        St B s.heap (fun b => P b ∨ O b) cenv (capt σ caps) (fun b => b = C ∨ b = Da) s'.heap ∧ s'.heap.PlainList Da (List.toArray ys) ∧ RpAll s'.heap (fun a => (P a ∨ O a) ∨ (a = C ∨ a = Da)) ys (((ds.take i).filter p).map f) ∧
        (∀ b o, b ∉ wr → s₂.heap.get? b = some o → s'.heap.get? b = some o)) ?_ (ds.length + 1)
      ⟨0, [], rfl, Nat.zero_le _, ⟨_, _, rfl⟩, st₁, T0, hacc, by simpa using RpAll.nil, fun b o _ e => old b o e⟩
    rintro kk s' ⟨i, ys, rfl, hi, ⟨hh, tk, rfl⟩, st', T', hl', hy', hk'⟩
    have stepSt : ∀ h₁ : Heap, (∀ b o, b ∉ wr → hh.get? b = some o → h₁.get? b = some o) → ∀ b o, ¬ IterObj o → hh.get? b = some o → h₁.get? b = some o := fun h₁ hk₁ a o ni e =>
      hk₁ a o (fun hbw => by obtain ⟨o', e', q⟩ := it.kind i _ st' a hbw; rw [e] at e'; cases e'; exact ni q) e
    have goSt : ∀ h₁ : Heap, (∀ b o, b ∉ wr → hh.get? b = some o → h₁.get? b = some o) → St B s.heap (fun b => P b ∨ O b) cenv (capt σ caps) (fun b => b = C ∨ b = Da) h₁ := fun h₁ hk₁ => by
      refine T'.step (stepSt h₁ hk₁) (fun b o e => hk₁ b o (fun hbw => by have := hw b hbw; rw [e] at this; cases this) (T'.keep b o e)) ?_
      rintro a q
      obtain ⟨o, e⟩ := T'.live a q
      refine ⟨o, hk₁ a o (fun hbw => ?_) e⟩
      rcases q with q | q
      · exact fpC a (it.W.sub a hbw) q
      · exact fpD a (it.W.sub a hbw) q
    by_cases hlt : i < ds.length
    · refine it.W.item i _ _ _ hlt st' fun v h₂ tk₂ hPv st₂ hk₂ => ?_
      obtain ⟨d, hd, rd⟩ := hr i v hPv
      obtain ⟨e1, e2⟩ := take_split hd
      have Tn := goSt h₂ hk₂
      have rd' : Rp h₂ (fun a => (P a ∨ O a) ∨ (a = C ∨ a = Da)) v (g d) := (rd.stepX (h' := hh) (fun a o na ni e => hk' a o (fun haw => by obtain ⟨o', e', q⟩ := it.kind 0 _ st a haw; rw [e] at e'; cases e'; exact ni q) e) hx2).step (stepSt h₂ hk₂)
      obtain ⟨σd, ha, hfor, hts, hel⟩ := turn cenv CE d (List.mem_of_getElem? hd)
      refine it.go _ _ _ _ _ _ st₂ (ha _ _ _ A _ _ _ v bo ao Tn rd' fun s₃ m₃ T₃ => ?_)
      -- Da stands through the stores
      have hnD : ¬ Names cenv Da := by
        rintro (q | ⟨q, _⟩)
        · rw [clocals] at q; exact hDC q
        · rw [cfunc] at q; cases q
      obtain ⟨h3, tk3, rfl, k3⟩ := m₃
      have hl3 : h3.PlainList Da ys.toArray := by
        have := plist_step (stepSt h₂ hk₂) hl'
        obtain ⟨o, e⟩ := this
        exact ⟨o, k3 _ _ hnD e⟩
      have nm : ∀ b, Names cenv b → b = C := by
        rintro b (q | ⟨q, _⟩)
        · rw [clocals] at q; exact q
        · rw [cfunc] at q; cases q
      have hy3 : RpAll h3 (fun a => (P a ∨ O a) ∨ (a = C ∨ a = Da)) ys (((ds.take i).filter p).map f) := (hy'.step (stepSt h₂ hk₂)).mono (fun a o na e => k3 a o (fun q => na (.inr (.inl (nm a q)))) e) fun _ _ n _ => n
      have st3 : Si (i + 1) h3 := it.W.frame _ _ _ st₂ fun b hb o e => k3 b o (fun q => fpC b hb (nm b q)) e
      have hk3 : ∀ b o, b ∉ wr → s₂.heap.get? b = some o → h3.get? b = some o := fun b o nw e => k3 b o (fun q => by rw [nm b q, Cnew] at e; cases e) (hk₂ b o nw (hk' b o nw e))
      refine hts _ _ _ A _ _ _ bo ao T₃ fun s₄ k₄ => ?_
      have T₄ := T₃.kp k₄
      have hlen : ys.length ≤ 1000000 := by
        rw [hy'.length, List.length_map]
        exact Nat.le_trans (List.length_filter_le _ _) (Nat.le_trans (by rw [List.length_take]; omega) hsz)
      cases hp : p d with
      | false =>
        simp only [Bool.false_eq_true, if_false]
        obtain ⟨h4, tk4, rfl, k4⟩ := k₄
        refine ⟨ds.length + 1 - (i + 1), by omega, i + 1, ys, rfl, hlt, ⟨h4, tk4, rfl⟩, it.W.frame _ _ _ st3 fun b _ o e => k4 b o e, T₄.forget hfor, hl3.at fun o e => k4 _ o e, ?_, fun b o nw e => k4 b o (hk3 b o nw e)⟩
        rw [e2, List.filter_append]
        simp only [List.filter_cons, hp, Bool.false_eq_true, if_false, List.filter_nil, List.append_nil]
        exact hy3.keeps k4
      | true =>
        simp only [if_true]
        refine hel hp _ _ _ A _ _ _ bo ao T₄ fun w s₅ k₅ rw' => ?_
        obtain ⟨h5, tk5, rfl, k5⟩ := ktrans k₄ k₅
        have hl5 : h5.PlainList Da ys.toArray := hl3.at fun o e => k5 _ o e
        refine wpAny_list_append_plain hl5 (fun h6 hl6 hs6 => ?_) (by rw [List.size_toArray]; exact szLine hlen)
        have hk6 : ∀ a o, a ≠ Da → h5.get? a = some o → h6.get? a = some o := fun a o ne e => (hs6.2 a ne).trans e
        have T₅ : St B s.heap (fun b => P b ∨ O b) cenv (capt σ caps) (fun b => b = C ∨ b = Da) h5 := (T₃.keeps k5).forget hfor
        refine ⟨ds.length + 1 - (i + 1), by omega, i + 1, ys ++ [w], rfl, hlt, ⟨h6, tk5, rfl⟩, it.W.frame _ _ _ st3 fun b hb o e => hk6 b o (fpD b hb) (k5 b o e), ?_, ?_, ?_, fun b o nw e => hk6 b o (fun q => by rw [q, Dnew] at e; cases e) (k5 b o (hk3 b o nw e))⟩
        · refine T₅.chg (.inr rfl) hs6 (by obtain ⟨o, e⟩ := hl6; exact ⟨_, e⟩) (by rw [clocals]; exact hDC) ?_ ?_
          · intro y c l q
            obtain ⟨⟨v', e'⟩, _⟩ := T₅.cells y c l
            exact plain_ne_cell hl5.isList e' q.symm
          · intro x es hx
            obtain ⟨_, _, e, _⟩ := capt_get hx; cases e
        · simpa using hl6
        · rw [e2, List.filter_append, List.map_append]
          simp only [List.filter_cons, hp, if_true, List.filter_nil, List.map_cons, List.map_nil]
          have up : ∀ a o, ¬ ((P a ∨ O a) ∨ (a = C ∨ a = Da)) → h5.get? a = some o → h6.get? a = some o := fun a o na e => hk6 a o (fun q => na (.inr (.inr q))) e
          exact ((hy3.keeps k5).mono up fun _ _ n _ => n).append (.one (rw'.mono up fun _ _ n _ => n))
    · have hi' : i = ds.length := by omega
      subst hi'
      rw [List.take_length] at hy'
      refine it.W.done _ _ _ st' fun h₂ tk₂ hk₂ => ?_
      obtain ⟨m', hn'⟩ := (goSt h₂ hk₂).ns
      rw [clocals] at hn'
      refine hRR Da C h₂ tk₂ m' ys Dnew Cnew hDC hn' (plist_step (stepSt h₂ hk₂) hl') ((hy'.step (stepSt h₂ hk₂)).sub ?_) fun b o nw e => hk₂ b o nw (hk' b o nw e)
      rintro b (q | q | q | q)
      · exact .inl (.inl q)
      · exact .inl (.inr q)
      · exact .inr (.inr q)
      · exact .inr (.inl q)
  exact codeAny_compStart_list (loop _ rfl) (it.W.self 0 _ _ _ st₁ (loop _ rfl))

theorem evn_comp {elt target iter : Expr} {ifs : List Expr} {sc : Scope} {pos : Pos} {α : Type} {ds : List α} (caps : List String) (g : α → D) (p : α → Bool) (f : α → D) (ok : CompOk sc env caps) (hsz : ds.length ≤ 1000000) (it : EvIt false B n env σ iter (ds.map g))
    (turn : ∀ cenv, CEnv sc cenv → ∀ d ∈ ds, ∃ σd, Asg B n cenv (capt σ caps) target (g d) σd ∧ (∀ x b, (capt σ caps).get x = some b → σd.get x = some b) ∧ Tsts B n cenv σd ifs (p d) ∧ (p d = true → Ev B n cenv σd elt (f d)))
    (hs : ∀ x, foldedSetIterable iter env x = pure x := by intro _; rfl) : EvN B n env σ (.ListComp elt [⟨target, iter, ifs, 0⟩] sc pos) ((ds.filter p).map f) := by
  intro h₀ P O A s E Q bo ao T q
  rw [eval_ListComp]
  refine wpAny_comprehension_free (use := none) rfl hs (closureFor_eq ok.free) ok.kind ok.locals (it h₀ P O A s E _ bo ao T fun s₂ I fp wr Pv Si k₂ iit st hw hfp _ hr₀ => ?_)
  rw [List.length_map] at iit
  have hr : ∀ i v, Pv i v → ∃ d, ds[i]? = some d ∧ Rp s₂.heap (fun a => P a ∨ O a) v (g d) := fun i v h => by
    obtain ⟨d, hd, r⟩ := hr₀ i v h
    rw [List.getElem?_map] at hd
    obtain ⟨x, hx, rfl⟩ := Option.map_eq_some_iff.mp hd
    exact ⟨x, hx, r⟩
  refine comp_core (RR := fun acc C => compPost (model B.prog B.w) A E none Q acc C) g p f ok hsz turn bo ao T k₂ iit st hw hfp hr ?_
  intro Da C h' tk m' ys hD hC hDC hn hl hy hk
  refine ⟨m', hn, fun h'' hs'' => ?_⟩
  have up : ∀ a o, a ≠ C → h'.get? a = some o → h''.get? a = some o := fun a o ne e => (hs''.2 a ne).trans e
  refine q Da ys _ ?_ ?_ ?_ ?_
  · obtain ⟨h2, tk2, rfl, k2⟩ := k₂
    exact ⟨h'', tk, rfl, fun b o e => up b o (fun q => by rw [q] at e; rw [k2 _ _ e] at hC; cases hC) (hk b o (fun q => by rw [hw b q] at e; cases e) (k2 b o e))⟩
  · cases e : s.heap.get? Da with
    | none => rfl
    | some o => rw [kheap k₂ _ _ e] at hD; cases hD
  · obtain ⟨o, e⟩ := hl; exact ⟨o, up _ _ hDC e⟩
  · refine hy.mono (fun a o na e => up a o (fun q => na (.inr (.inr (.inr q)))) e) fun a o na _ q => na ?_
    rcases q with q | q | q
    · exact .inl q
    · exact .inr (.inl q)
    · exact .inr (.inr (.inl q))

/-- a comprehension bound to a local name on its own line -/
theorem ex_assign_comp {R : Fl → Sto → Prop} {x : String} {px spos : Pos} {elt target iter : Expr} {ifs : List Expr} {sc : Scope} {pos : Pos} {α : Type} {ds : List α} (caps : List String) (g : α → D) (p : α → Bool) (f : α → D) (ok : CompOk sc env caps) (hsz : ds.length ≤ 1000000) (it : EvIt false B n env σ iter (ds.map g))
    (turn : ∀ cenv, CEnv sc cenv → ∀ d ∈ ds, ∃ σd, Asg B n cenv (capt σ caps) target (g d) σd ∧ (∀ x b, (capt σ caps).get x = some b → σd.get x = some b) ∧ Tsts B n cenv σd ifs (p d) ∧ (p d = true → Ev B n cenv σd elt (f d)))
    (hx : env.kindOf (S x) = some .local) (hsw : swapsWith (.ListComp elt [⟨target, iter, ifs, 0⟩] sc pos) (some (.Name (S x) px)) spos.line env = pure true) (h : R .next (σ.put x (.own ((ds.filter p).map f))))
    (hs : ∀ x, foldedSetIterable iter env x = pure x := by intro _; rfl) : Ex1 B n env σ (.Assign [.Name (S x) px] (.ListComp elt [⟨target, iter, ifs, 0⟩] sc pos) spos) R := by
  intro h₀ P O A s E bo ao T
  rw [exec_Assign_Name_used _ _ _ _ hsw]
  refine wpAny_bind (wpAny_standAt (wpAny_bind ?_))
  show wpAny _ A (do let _ ← comprehension (.ListComp elt [⟨target, iter, ifs, 0⟩] sc pos) sc env _ (newList []) false (eval iter env) (some (assign (.Name (S x) px) env))) _ _ s
  refine wpAny_bind (wpAny_mono (wpAny_comprehension_free (use := some (assign (.Name (S x) px) env)) (Q := fun _ s' => Post B h₀ P env O s R .next s') rfl hs (closureFor_eq ok.free) ok.kind ok.locals (it h₀ P O A s E _ bo ao T fun s₂ I fp wr Pv Si k₂ iit st hw hfp _ hr₀ => ?_)) (fun _ s' hq => wpAny_pure (wpAny_pure hq)) fun _ _ e => e)
  rw [List.length_map] at iit
  have hr : ∀ i v, Pv i v → ∃ d, ds[i]? = some d ∧ Rp s₂.heap (fun a => P a ∨ O a) v (g d) := fun i v h => by
    obtain ⟨d, hd, r⟩ := hr₀ i v h
    rw [List.getElem?_map] at hd
    obtain ⟨z, hz, rfl⟩ := Option.map_eq_some_iff.mp hd
    exact ⟨z, hz, r⟩
  refine comp_core (RR := fun acc C => compPost (model B.prog B.w) A E (some (assign (.Name (S x) px) env)) (fun _ s' => Post B h₀ P env O s R .next s') acc C) g p f ok hsz turn bo ao T k₂ iit st hw hfp hr ?_
  intro Da C h' tk m' ys hD hC hDC hn hl hy hk
  show wpAny _ A (assign (.Name (S x) px) env (.ref Da)) _ _ _
  have kk : Keeps s { s₂ with heap := h', toks := tk } := by
    obtain ⟨h2, tk2, rfl, k2⟩ := k₂
    exact ⟨h', tk, rfl, fun b o e => hk b o (fun q => by rw [hw b q] at e; cases e) (k2 b o e)⟩
  have sD : s.heap.get? Da = none := by
    cases e : s.heap.get? Da with
    | none => rfl
    | some o => rw [kheap k₂ _ _ e] at hD; cases hD
  have sC : s.heap.get? C = none := by
    cases e : s.heap.get? C with
    | none => rfl
    | some o => rw [kheap k₂ _ _ e] at hC; cases hC
  have T1 : St B h₀ P env σ (fun b => O b ∨ b = Da) h' := T.grow (kheap kk) sD (let ⟨_, e⟩ := hl; ⟨_, e⟩)
  have T2 : St B h₀ P env σ (fun b => (O b ∨ b = Da) ∨ b = C) h' := by
    have Tb := T.grow (h' := h') (kheap kk) sC (by obtain ⟨o, _, _, e, _⟩ := hn; exact ⟨o, e⟩)
    -- both new addresses at once
    have mvx : ∀ b o, ¬ (P b ∨ O b) → s.heap.get? b = some o → ¬ (P b ∨ ((O b ∨ b = Da) ∨ b = C)) := by
      rintro b o nb e (q | (q | q) | q)
      · exact nb (.inl q)
      · exact nb (.inr q)
      · rw [q, sD] at e; cases e
      · rw [q, sC] at e; cases e
    refine ⟨T.base, T1.keep, T.plive, ?_, ?_, T.ok, .inl T1.loc, T1.ns, fun y c l => ⟨(T1.cells y c l).1, fun g => .inl ((T1.cells y c l).2 g)⟩, ?_, T1.apart⟩
    · rintro b (q | q)
      · exact T1.live b q
      · exact Tb.live b (.inr q)
    · rintro b (q | q)
      · exact T1.new b q
      · exact Tb.new b (.inr q)
    · intro y b e
      have := T.vars y b e
      cases b with
      | val d => obtain ⟨v, hv, r⟩ := this; exact ⟨v, hv.keeps (kheap kk), r.mono (fun b o _ e => kheap kk b o e) mvx⟩
      | own es => obtain ⟨a', vs, hv, h1, h2, h3, h4⟩ := this; exact ⟨a', vs, hv.keeps (kheap kk), .inl (.inl h1), h2, h3.at fun o e => kheap kk _ o e, h4.mono (fun b o _ e => kheap kk b o e) mvx⟩
  have hne : Da ≠ env.locals := fun q => by obtain ⟨o, e⟩ := T.live _ T.loc; rw [← q, sD] at e; cases e
  have hLC : env.locals ≠ C := fun q => by obtain ⟨o, e⟩ := T.live _ T.loc; rw [q, sC] at e; cases e
  refine wpAny_assign_Name (wp_store (b := .own ((ds.filter p).map f)) (s := { s₂ with heap := h', toks := tk }) T2 (.inl hx) ⟨Da, ys, rfl, .inl (.inr rfl), hne, hl, ?_, ?_⟩ fun s₃ m₃ T₃ => ?_)
  · refine hy.sub ?_
    rintro b (q | (q | q) | q)
    · exact .inl q
    · exact .inr (.inl q)
    · exact .inr (.inr (.inl q))
    · exact .inr (.inr (.inr q))
  · intro y es ne hy' hv
    obtain ⟨a', vs', hv', ho, _⟩ := T.vars y _ hy'
    have := hv.fn (hv'.keeps (kheap kk)); cases this
    obtain ⟨o, e⟩ := T.live _ ho; rw [sD] at e; cases e
  · obtain ⟨h3, tk3, rfl, k3⟩ := m₃
    have cellC : ∀ y k, env.cells.lookup y = some k → k ≠ C := fun y k l q => by
      obtain ⟨⟨v, e⟩, _⟩ := T.cells y k l
      obtain ⟨o, e, _⟩ := e
      rw [q, sC] at e; cases e
    have nC : ¬ Names env C := by
      rintro (q | ⟨_, y, q⟩)
      · exact hLC q.symm
      · exact cellC _ _ q rfl
    have hn3 : h3.Ns C m' := hn.at' fun o e => k3 _ o nC e
    refine ⟨m', hn3, fun h4 hs4 => ?_⟩
    have T₄ : St B h₀ P env (σ.put x (.own ((ds.filter p).map f))) (fun b => O b ∨ b = Da) h4 := T₃.lose hs4 hn3 hLC cellC (by
      rintro (q | q)
      · obtain ⟨o, e⟩ := T.live _ q; rw [sC] at e; cases e
      · exact hDC q.symm)
    refine ⟨.next, _, _, ?_, trivial, h, ?_, T₄⟩
    · obtain ⟨h1, tk1, e1, k1⟩ := kk
      refine ⟨h4, tk3, ?_, fun b o nb e => (hs4.2 b (fun q => by rw [q, sC] at e; cases e)).trans (k3 b o (fun q => ?_) ?_)⟩
      · obtain ⟨h2, tk2, rfl, k2⟩ := k₂; rfl
      · rcases q with q | ⟨q, y, l⟩
        · exact nb (q ▸ T.loc)
        · exact nb ((T.cells y b l).2 q)
      · obtain ⟨h2, tk2, rfl, k2⟩ := k₂
        exact hk b o (fun q => by rw [hw b q] at e; cases e) (k2 b o e)
    · rintro b (q | q)
      · exact .inl q
      · rw [q]; exact .inr sD
end

section
variable {B : Bas} {n : Nat} {env : Env} {σ : Sto} {e : Expr} {p p' : Pos}

/-- a call of a def of the text -/
theorem ev_call {x : String} {a : Addr} {es : List Expr} {ds : List D} {d : D} {o : Obj} {fd : FuncData} (hk : env.kindOf (S x) = some .globalImplicit) (hx : B.mg (S x) = some (.ref a)) (ho : B.hB.get? a = some o) (hd : o.data = .func fd)
    (as : EvAs B n env σ (e :: es) ds) (f : FnS B n a ds d) (hn : x ≠ "__debug__" := by decide) (he : starEach (e :: es) env = (false, eval e env) :: starEach es env := by rfl)
    (hc : eval (.Call (.Name (S x) p') (e :: es) [] p) env = (do callWith p (← eval (.Name (S x) p') env) [] (backTo p (starEach (e :: es) env)) (backToKw p (keywordEach [] env))) := by rfl) : Ev B n env σ (.Call (.Name (S x) p') (e :: es) [] p) d :=
  fun h₀ P O A s E Q bo ao T q => Call_ (wp_glob bo T hk hx (callWith_def hd (as h₀ P O A s E _ p bo ao T fun vs s₁ k r => ⟨(T.kp k).here _ _ ho, f _ A s₁ E _ vs bo ao (T.kp k).here (fun b z => (T.kp k).xlive z) r fun v s₂ k₂ r₂ => q v s₂ (ktrans k k₂) r₂⟩) he) hn) hc
/-- the same by a name that holds the def -/
theorem ev_callv {x : String} {a : Addr} {es : List Expr} {ds : List D} {d : D} (hx : σ.get x = some (.val (.val (.ref a)))) 
    (as : EvAs B n env σ (e :: es) ds) (f : FnS B n a ds d) (h1 : x ≠ "__debug__" := by decide) (h2 : x ≠ "__classdict__" := by decide) (he : starEach (e :: es) env = (false, eval e env) :: starEach es env := by rfl)
    (hc : eval (.Call (.Name (S x) p') (e :: es) [] p) env = (do callWith p (← eval (.Name (S x) p') env) [] (backTo p (starEach (e :: es) env)) (backToKw p (keywordEach [] env))) := by rfl) : Ev B n env σ (.Call (.Name (S x) p') (e :: es) [] p) d :=
  fun h₀ P O A s E Q bo ao T q => Call_ (by
    obtain ⟨v, hv, r⟩ := T.vars x _ hx
    cases r with
    | val _ e => cases e
    | fn a o fd ho hd hn =>
    refine wp_name T hv (callWith_def hd (as h₀ P O A s E _ p bo ao T fun vs s₁ k r => ⟨kheap k _ _ ho, f _ A s₁ E _ vs bo ao (T.kp k).here (fun b z => (T.kp k).xlive z) r fun v s₂ k₂ r₂ => q v s₂ (ktrans k k₂) r₂⟩) he) (plainName h1) (plainName h2)) hc

/-- the type of a datum -/
def Ty (d : D) (T : String) : Prop := ∀ (s : Shared) (X : Addr → Prop) (v : Value), Rp s.heap X v d → s.TypeIs v T
theorem ty_int {i : Int} : Ty (.int i) "int" := fun s X v r => by obtain ⟨t, rfl⟩ := rp_int r; exact typeIs_int s i t
theorem ty_str {i : Str} : Ty (.str i) "str" := fun s X v r => by obtain ⟨t, rfl⟩ := rp_str r; exact typeIs_str s i t
theorem ty_list {ds : List D} : Ty (.list ds) "list" := fun s X v r => by obtain ⟨a, vs, rfl, hl, _⟩ := rp_list r; exact hl.typeIs
theorem ty_tuple {ds : List D} : Ty (.tuple ds) "tuple" := fun s X v r => by obtain ⟨a, vs, rfl, hl, _⟩ := rp_tuple r; exact hl.typeIs
theorem ty_bool {b : Bool} : Ty (.bool b) "bool" := fun s X v r => by cases rp_val r; exact PySem.typeIs_bool s b

theorem bi_type {d : D} {T : String} (t : Ty d T) (hnb : (Value.type T == Value.type "builtin_function_or_method") = false := by decide) : Bi B n (.type "type") [d] (.val (.type T)) := fun A s E Q vs bo ao hh r q => by
  cases r with | cons r rn =>
  cases rn
  exact call_type_of (t s _ _ r) hnb (q _ _ (krefl s) fun _ _ => .val _ rfl)

theorem fr0 {h₀ h P O} (T : St B h₀ P env σ O h) : ∃ m, Fr ({} : Heap) env.locals h m := by
  obtain ⟨m, nn⟩ := T.ns
  exact ⟨m, nn, fun b o e => (by simp [Heap.get?] at e), Nat.zero_le _⟩
theorem in0 (h : Heap) : Frag.In ([] : Frag) h := fun a o e => by cases e

/-- a call of a type: type(e), range(e) .. -/
theorem ev_typecall {x T : String} {es : List Expr} {ds : List D} {d : D} (hx : BootName B env x (.type T)) (a : EvAsW B n env σ (e :: es) ds) (f : Bi B n (.type T) ds d)
    (he : starEach (e :: es) env = (false, eval e env) :: starEach es env := by rfl) (hp : (backTo p (starEach es env)).any (·.1) = false := by rfl)
    (hc : eval (.Call (.Name (S x) p') (e :: es) [] p) env = (do callWith p (← eval (.Name (S x) p') env) [] (backTo p (starEach (e :: es) env)) (backToKw p (keywordEach [] env))) := by rfl) : Ev B n env σ (.Call (.Name (S x) p') (e :: es) [] p) d :=
  fun h₀ P O A s E Q bo ao T q => Call_ (wp_boot bo T hx.kind hx.miss hx.boot (PyProof.Rows.callWith_type1 (a h₀ P O A s E _ p bo ao T fun vs s₁ k r => f A s₁ E _ vs bo ao (T.kp k).here r fun v s₂ k₂ r₂ => q v s₂ (ktrans k k₂) (r₂ _ _)) he hp) hx.d hx.n) hc

/-- type(x).__op__(a, b) -/
theorem ev_dunder {o : Expr} {attr : String} {id : String} {T : String} {apos : Pos} {e₁ : Expr} {es : List Expr} {ds : List D} {r : D} {pl : Sem Bool}
    (x : EvW B n env σ o (.val (.type T))) (ht : typeOf (.type T) = pure (.type "type")) (hs : Manifest.isStub T = false) (hf : findCls [] (.type T) (.type "type") (S attr) = some (.val (.builtin id))) (hhd : handedIn (.builtin id) = true)
    (as : EvAsW B n env σ (e₁ :: es) ds) (f : Bi B n (.builtin id) ds r)
    (hstar : starEach (e₁ :: es) env = (false, eval e₁ env) :: starEach es env := by rfl) (hp : (backTo p (starEach es env)).any (·.1) = false := by rfl)
    (he : eval (.Call (.Attribute o (S attr) apos) (e₁ :: es) [] p) env = (do
      let ov ← eval o env
      standAt apos.atName
      let (f, first) ← holding [ov] (getMethod ov (S attr) pl)
      callWith p f first (backTo p (starEach (e₁ :: es) env)) (backToKw p (keywordEach [] env))) := by rfl) : Ev B n env σ (.Call (.Attribute o (S attr) apos) (e₁ :: es) [] p) r :=
  fun h₀ P O A s E Q bo ao T q => methodCall_KW (x h₀ P O A s E _ bo ao T fun v s₁ k₁ r₁ => by
    cases rp_val r₁
    obtain ⟨m, F⟩ := fr0 (T.kp k₁)
    refine method_type F (in0 _) ht hs hf hhd ?_
    have k₂ := ktrans k₁ (ktok s₁ (s₁.toks + 1))
    refine callWith_builtin1 (as h₀ P O A _ E _ p bo ao (T.kp k₂) fun vs s₃ k₃ r₃ => ?_) hstar hp
    exact f A s₃ E _ vs bo ao ((T.kp k₂).kp k₃).here r₃ fun v s₄ k₄ r₄ => q v s₄ (ktrans (ktrans k₂ k₃) k₄) (r₄ _ _)) he

theorem cmp_is_bool_ni {b : Bool} : Cmp B n .Is (.bool b) (.val .notImplemented) false := fun A s E Q va vb bo ao hh r r' q => by
  cases rp_val r; cases rp_val r'; exact wpAny_pure (a := Value.bool (Value.bool b == Value.notImplemented)) (q s (krefl s))
theorem cmp_is_ni_ni : Cmp B n .Is (.val .notImplemented) (.val .notImplemented) true := fun A s E Q va vb bo ao hh r r' q => by
  cases rp_val r; cases rp_val r'; exact wpAny_pure (a := Value.bool (Value.notImplemented == Value.notImplemented)) (q s (krefl s))

end

section
variable {B : Bas} {n : Nat} {env : Env} {σ : Sto} {e l r : Expr} {p p' : Pos}

theorem wp_addList {A : Around} {s : Shared} {E : Value → Shared → Prop} {a b : Addr} {vs ws : List Value} {Q : Value → Shared → Prop} (hl : s.heap.IsList a vs.toArray) (hb : s.heap.IsList b ws.toArray)
    (h : Q (.ref s.heap.objs.size) { s with heap := s.heap.push { cls := .type "list", data := .seq (vs ++ ws).toArray } }) (hsz : vs.length + ws.length ≤ 1000000) :
    wpAny (model B.prog B.w) A (binaryOp .Add (.ref a) (.ref b)) Q E s := by
  obtain ⟨⟨cls, dd, data, sl⟩, ho, hc, k, hd⟩ := id hl
  obtain ⟨⟨cls2, dd2, data2, sl2⟩, ho2, hc2, k2, hd2⟩ := id hb
  simp only at hc hd hc2 hd2; subst hc hd hc2 hd2
  have e : vs.toArray ++ ws.toArray = (vs ++ ws).toArray := by simp
  refine concat_meets ⟨_, ho, rfl⟩ ⟨_, ho2, rfl⟩ noFill_list_add seq_list_add PySem.F.slot_list_add PySem.F.entry_list_add (PySem.F.args_list_add_2 _ _) (list_addW a b vs.toArray ws.toArray k k2 dd dd2 sl sl2 (by simp only [List.size_toArray]; exact szLine hsz)) ⟨ho, ho2, ?_⟩
  rw [e]; exact h
theorem evn_add {ds es : List D} (x : Ev B n env σ l (.list ds)) (y : Ev B n env σ r (.list es)) (hsz : ds.length + es.length ≤ 1000000) : EvN B n env σ (.BinOp l .Add r p) (ds ++ es) :=
  fun h₀ P O A s E Q bo ao T q => wpAny_BinOp (x h₀ P O A s E _ bo ao T fun va s₁ k₁ r₁ => y h₀ P O A s₁ E _ bo ao (T.kp k₁) fun vb s₂ k₂ r₂ => by
    obtain ⟨a, vs, rfl, hl, _, rs⟩ := rp_list (r₁.keeps (kheap k₂))
    obtain ⟨b, ws, rfl, hb, _, qs⟩ := rp_list r₂
    have h1 := rs.length; have h2 := qs.length
    refine wp_addList hl hb (q _ (vs ++ ws) _ (ktrans (ktrans k₁ k₂) (kpush' _ _)) (fresh_kp (ktrans k₁ k₂)) ⟨_, Heap.get?_push_size _ rfl⟩ ((rs.append qs).beside _)) (by omega))

theorem flatten_replicate {α} (k : Nat) (items : Array α) : (List.foldl (fun x1 x2 => x1 ++ x2) #[] (List.replicate k items)).toList = (List.replicate k items.toList).flatten := by
  have : ∀ (acc : Array α), (List.foldl (fun x1 x2 => x1 ++ x2) acc (List.replicate k items)).toList = acc.toList ++ (List.replicate k items.toList).flatten := by
    induction k with
    | zero => intro acc; simp
    | succ k ih => intro acc; rw [List.replicate_succ, List.foldl_cons, ih, List.replicate_succ, List.flatten_cons]; simp
  simpa using this #[]
theorem RpAll.rep {h X vs ds} (r : RpAll h X vs ds) : ∀ k, RpAll h X (List.replicate k vs).flatten (List.replicate k ds).flatten
  | 0 => .nil
  | k + 1 => by rw [List.replicate_succ, List.replicate_succ, List.flatten_cons, List.flatten_cons]; exact r.append (r.rep k)
theorem evn_mul {ds : List D} {i : Int} (x : Ev B n env σ l (.list ds)) (y : EvW B n env σ r (.int i)) (h1 : -1000000 ≤ i) (h2 : i ≤ 1000000) (hsz : ds.length * i.toNat ≤ 1000000) (hne : ds ≠ []) : EvN B n env σ (.BinOp l .Mult r p) (List.replicate i.toNat ds).flatten :=
  fun h₀ P O A s E Q bo ao T q => wpAny_BinOp (x h₀ P O A s E _ bo ao T fun va s₁ k₁ r₁ => y h₀ P O A s₁ E _ bo ao (T.kp k₁) fun vb s₂ k₂ r₂ => by
    obtain ⟨a, vs, rfl, hl, _, rs⟩ := rp_list (r₁.keeps (kheap k₂))
    obtain ⟨u, rfl⟩ := rp_int r₂
    have hlen := rs.length
    obtain ⟨⟨cls, dd, data, sl⟩, ho, hc, k, hd⟩ := id hl
    simp only at hc hd; subst hc hd
    have hvs : vs ≠ [] := fun q => hne (by rw [q] at hlen; exact List.length_eq_zero_iff.mp hlen.symm)
    have hs2 : vs.toArray.size * i.toNat ≤ 1000000 := by rw [List.size_toArray, hlen]; exact hsz
    refine wpAny_binaryOp_repeat_ref (T := "list") (U := "int") (by decide) ⟨_, ho, rfl⟩ (fun s' => typeIs_int s' i u) noFill_list_mul F.fills_int_mul F.slot_int_rmul repeat_list F.slot_int_index.lookup
      (call_meets F.slot_int_rmul (typeIs_int s₂ i u) F.entry_int_rmul (F.args_int_rmul_2 _ _) (lm_int_rmul_list_any i u a vs.toArray k dd sl)
        ⟨ho, rfl, ⟨_, ho, rfl⟩, call_meets F.slot_list_mul ⟨_, ho, rfl⟩ F.entry_list_mul (F.args_list_mul_2 _ _)
          (lm_list_mul_any a vs.toArray k dd sl i u (by simp [Builtin.List.listFitsIndex]; omega) (by omega) (by simp [Builtin.List.listTooLong, sizeLine]; simp at hs2; omega)) ⟨ho, ?_⟩⟩)
    have e : (List.foldl (fun x1 x2 => x1 ++ x2) #[] (List.replicate (if vs.toArray.isEmpty = true then 0 else i.toNat) vs.toArray)) = ((List.replicate i.toNat vs).flatten).toArray := by
      rw [if_neg (by simpa using hvs)]
      apply Array.toList_inj.mp
      rw [flatten_replicate]
    rw [e]
    exact q _ _ _ (ktrans (ktrans k₁ k₂) (kpush' _ _)) (fresh_kp (ktrans k₁ k₂)) ⟨_, Heap.get?_push_size _ rfl⟩ ((rs.rep i.toNat).beside _))

/-- ranges -/
theorem ev_range1 {x : String} {i : Int} (hx : BootName B env x (.type "range")) (a : EvW B n env σ e (.int i))
    (he : starEach [e] env = (false, eval e env) :: starEach [] env := by rfl)
    (hc : eval (.Call (.Name (S x) p') [e] [] p) env = (do callWith p (← eval (.Name (S x) p') env) [] (backTo p (starEach [e] env)) (backToKw p (keywordEach [] env))) := by rfl) : Ev B n env σ (.Call (.Name (S x) p') [e] [] p) (.range 0 i) :=
  fun h₀ P O A s E Q bo ao T q => Call_ (wp_boot bo T hx.kind hx.miss hx.boot (PyProof.Rows.callWith_type1 (evasw_cons a evasw_nil he h₀ P O A s E _ p bo ao T fun vs s₁ k r => by
    cases r with | cons r rn =>
    cases rn
    obtain ⟨t, rfl⟩ := rp_int r
    exact call_range_1 (q _ _ (ktrans k (kpush _ _ _)) (.range (IsRange.new ..) ((T.kp k).notX' (Nat.le_refl _))))) he rfl) hx.d hx.n) hc
theorem ev_range2 {x : String} {i j : Int} {e' : Expr} (hx : BootName B env x (.type "range")) (a : EvW B n env σ e (.int i)) (b : EvW B n env σ e' (.int j))
    (he : starEach [e, e'] env = (false, eval e env) :: starEach [e'] env := by rfl) (he' : starEach [e'] env = (false, eval e' env) :: starEach [] env := by rfl) (hp : (backTo p (starEach [e'] env)).any (·.1) = false := by rfl)
    (hc : eval (.Call (.Name (S x) p') [e, e'] [] p) env = (do callWith p (← eval (.Name (S x) p') env) [] (backTo p (starEach [e, e'] env)) (backToKw p (keywordEach [] env))) := by rfl) : Ev B n env σ (.Call (.Name (S x) p') [e, e'] [] p) (.range i j) :=
  fun h₀ P O A s E Q bo ao T q => Call_ (wp_boot bo T hx.kind hx.miss hx.boot (PyProof.Rows.callWith_type1 (evasw_cons a (evasw_cons b evasw_nil he') he h₀ P O A s E _ p bo ao T fun vs s₁ k r => by
    cases r with | cons r rn =>
    cases rn with | cons r' rn =>
    cases rn
    obtain ⟨t, rfl⟩ := rp_int r
    obtain ⟨u, rfl⟩ := rp_int r'
    exact call_range_2 (q _ _ (ktrans k (kpush _ _ _)) (.range (IsRange.new ..) ((T.kp k).notX' (Nat.le_refl _))))) he hp) hx.d hx.n) hc

/-- sums -/
def sumI : List Int → Int
  | [] => 0
  | i :: r => i + sumI r
def D.ofInts (l : List Int) : List D := l.map D.int
theorem ofInts_length (l : List Int) : (D.ofInts l).length = l.length := by simp [D.ofInts]
theorem RpAll.intAt {h X vs l} (r : RpAll h X vs (D.ofInts l)) {i : Nat} {v : Value} (hv : vs[i]? = some v) : ∃ t, v = .int (l.getD i 0) t := by
  obtain ⟨d, hd, rd⟩ := r.get hv
  simp only [D.ofInts, List.getElem?_map, Option.map_eq_some_iff] at hd
  obtain ⟨k, hk, rfl⟩ := hd
  obtain ⟨t, e⟩ := rp_int rd
  exact ⟨t, by rw [e, List.getD_eq_getElem?_getD, hk]; rfl⟩
theorem wp_iterNowT {A : Around} {s : Shared} {E : Value → Shared → Prop} {Q : Value → Shared → Prop} {a : Addr} {vs : List Value} (hh : A.handled = none) (hl : IsTup s.heap a vs.toArray)
    (q : ∀ s₂ I, Keeps s s₂ → Walks B.prog B.w A I [I, a] [I] vs.length (fun i v => vs[i]? = some v) (fun i h => h.IsTupleIter I a i ∧ h.IsTuple a vs.toArray) → (s₂.heap.IsTupleIter I a 0 ∧ s₂.heap.IsTuple a vs.toArray) → (∀ b ∈ [I, a], b < s₂.heap.objs.size) → s.heap.get? I = none → Q (.ref I) s₂) :
    wpAny (model B.prog B.w) A (pyIter (.ref a)) Q E s := by
  have hne : a ≠ s.heap.objs.size := by obtain ⟨o, e, _⟩ := hl; exact Nat.ne_of_lt (Heap.lt_size e)
  have W := Walks.tuple (prog := B.prog) (w := B.w) hh s.heap.objs.size a hne vs.toArray
  simp only [List.size_toArray, List.getElem?_toArray] at W
  have hl' : s.heap.IsTuple a vs.toArray := hl
  refine wpAny_pyIter_tuple hl' (q _ _ (kpush' _ _) W ⟨⟨_, Heap.get?_push_size _ rfl, rfl, rfl⟩, hl'.at fun o e => Heap.get?_push_of_some _ e⟩ ?_ (fresh_of (Nat.le_refl _)))
  intro b hb
  show b < (s.heap.push _).objs.size
  rw [Heap.size_push]
  rcases List.mem_cons.mp hb with rfl | hb
  · exact Nat.lt_succ_self _
  · rw [List.mem_singleton.mp hb]; obtain ⟨o, e, _⟩ := hl; exact Nat.lt_succ_of_lt (Heap.lt_size e)
/-- what a walk leaves -/
theorem kafter {s s₂ : Shared} {I : Addr} {h' : Heap} {tk : Nat} (k : Keeps s s₂) (hI : s.heap.get? I = none) (hk : ∀ b o, b ∉ [I] → s₂.heap.get? b = some o → h'.get? b = some o) : Keeps s { s₂ with heap := h', toks := tk } := by
  obtain ⟨h2, tk2, rfl, k2⟩ := k
  exact ⟨h', tk, rfl, fun b o e => hk b o (fun q => by rw [List.mem_singleton.mp q, hI] at e; cases e) (k2 b o e)⟩
/-- greatest, least -/
def maxI : Int → List Int → Int
  | m, [] => m
  | m, i :: r => maxI (if i > m then i else m) r
def minI : Int → List Int → Int
  | m, [] => m
  | m, i :: r => minI (if i < m then i else m) r
theorem argBest_max (l : List Int) : ∀ k, k < l.length → l.getD (argBest (fun i j => decide (l.getD i 0 > l.getD j 0)) k) 0 = maxI (l.getD 0 0) ((l.drop 1).take k) := by
  have snoc : ∀ (r : List Int) (m i : Int), maxI m (r ++ [i]) = if i > maxI m r then i else maxI m r := by
    intro r
    induction r with
    | nil => intro m i; rfl
    | cons a r ih => intro m i; exact ih _ _
  intro k
  induction k with
  | zero => intro _; rfl
  | succ k ih =>
    intro hk
    have h : (l.drop 1)[k]? = some (l.getD (k + 1) 0) := by rw [List.getElem?_drop, List.getD_eq_getElem?_getD, Nat.add_comm 1 k, List.getElem?_eq_getElem hk]; rfl
    rw [List.take_add_one, h, Option.toList, snoc]
    unfold argBest
    rw [← ih (by omega)]
    simp only [decide_eq_true_eq]
    split <;> rfl
theorem argBest_min (l : List Int) : ∀ k, k < l.length → l.getD (argBest (fun i j => decide (l.getD i 0 < l.getD j 0)) k) 0 = minI (l.getD 0 0) ((l.drop 1).take k) := by
  have snoc : ∀ (r : List Int) (m i : Int), minI m (r ++ [i]) = if i < minI m r then i else minI m r := by
    intro r
    induction r with
    | nil => intro m i; rfl
    | cons a r ih => intro m i; exact ih _ _
  intro k
  induction k with
  | zero => intro _; rfl
  | succ k ih =>
    intro hk
    have h : (l.drop 1)[k]? = some (l.getD (k + 1) 0) := by rw [List.getElem?_drop, List.getD_eq_getElem?_getD, Nat.add_comm 1 k, List.getElem?_eq_getElem hk]; rfl
    rw [List.take_add_one, h, Option.toList, snoc]
    unfold argBest
    rw [← ih (by omega)]
    simp only [decide_eq_true_eq]
    split <;> rfl
theorem cmpOf_gt {A : Around} {h X ws l} (rs : RpAll h X ws (D.ofInts l)) : CmpOf B.prog B.w A .Gt (fun i v => ws[i]? = some v) (fun i j => decide (l.getD i 0 > l.getD j 0)) := by
  intro i j vi vj s Q E hi hj q
  obtain ⟨t, rfl⟩ := rs.intAt hi; obtain ⟨u, rfl⟩ := rs.intAt hj
  exact gt_int q
theorem cmpOf_lt {A : Around} {h X ws l} (rs : RpAll h X ws (D.ofInts l)) : CmpOf B.prog B.w A .Lt (fun i v => ws[i]? = some v) (fun i j => decide (l.getD i 0 < l.getD j 0)) := by
  intro i j vi vj s Q E hi hj q
  obtain ⟨t, rfl⟩ := rs.intAt hi; obtain ⟨u, rfl⟩ := rs.intAt hj
  exact lt_int q
theorem bi_max2 {i j : Int} : Bi B n (.builtin "max") [.int i, .int j] (.int (maxI i [j])) := fun A s E Q vs bo ao hh r q => by
  cases r with | cons r rn =>
  cases rn with | cons r' rn =>
  cases rn
  obtain ⟨t, rfl⟩ := rp_int r; obtain ⟨u, rfl⟩ := rp_int r'
  have rs : RpAll s.heap NoX [Value.int i t, Value.int j u] (D.ofInts [i, j]) := .cons (.int _ _) (.cons (.int _ _) .nil)
  refine call_max_two (wp_iterNowT (vs := [Value.int i t, Value.int j u]) ao.handled ⟨_, Heap.get?_push_size _ rfl, rfl, 0, rfl⟩ fun s₂ I k W st hb hI => ⟨I, _, _, 2, _, _, _, rfl, W, st, hb, by omega, cmpOf_gt rs, fun v h' tk hv hk => ?_⟩)
  obtain ⟨w, rfl⟩ := rs.intAt hv
  rw [argBest_max _ _ (by simp)]
  exact q _ _ (ktrans (kpush' _ _) (kafter k hI hk)) fun _ _ => .int _ _
theorem bi_min2 {i j : Int} : Bi B n (.builtin "min") [.int i, .int j] (.int (minI i [j])) := fun A s E Q vs bo ao hh r q => by
  cases r with | cons r rn =>
  cases rn with | cons r' rn =>
  cases rn
  obtain ⟨t, rfl⟩ := rp_int r; obtain ⟨u, rfl⟩ := rp_int r'
  have rs : RpAll s.heap NoX [Value.int i t, Value.int j u] (D.ofInts [i, j]) := .cons (.int _ _) (.cons (.int _ _) .nil)
  refine call_min_two (wp_iterNowT (vs := [Value.int i t, Value.int j u]) ao.handled ⟨_, Heap.get?_push_size _ rfl, rfl, 0, rfl⟩ fun s₂ I k W st hb hI => ⟨I, _, _, 2, _, _, _, rfl, W, st, hb, by omega, cmpOf_lt rs, fun v h' tk hv hk => ?_⟩)
  obtain ⟨w, rfl⟩ := rs.intAt hv
  rw [argBest_min _ _ (by simp)]
  exact q _ _ (ktrans (kpush' _ _) (kafter k hI hk)) fun _ _ => .int _ _
end

section
variable {B : Bas} {n : Nat} {env : Env} {σ : Sto} {R : Fl → Sto → Prop} {h₀ h h' : Heap} {P O : Addr → Prop}

/-- an own list is changed -/
theorem St.mut (T : St B h₀ P env σ O h) {x : String} {ds ds' : List D} {a : Addr} {vs' : List Value} (hx : σ.get x = some (.own ds)) (hv : VarIs env h (S x) (.ref a)) (hO : O a) (hne : a ≠ env.locals) {its} (hp0 : h.PlainList a its)
    (hs : ∀ b o, b ≠ a → h.get? b = some o → h'.get? b = some o) (hp : h'.PlainList a vs'.toArray) (r : RpAll h (fun b => P b ∨ O b) vs' ds') : St B h₀ P env (σ.put x (.own ds')) O h' := by
  have hk : ∀ b o, ¬ (P b ∨ O b) → h.get? b = some o → h'.get? b = some o := fun b o nb e => hs b o (fun q => nb (.inr (q ▸ hO))) e
  have hcell : ∀ y k, env.cells.lookup y = some k → k ≠ a := fun y k l q => by obtain ⟨⟨v, e⟩, _⟩ := T.cells y k l; exact plain_ne_cell hp0.isList e q.symm
  have mvv : ∀ {x w}, VarIs env h x w → VarIs env h' x w := by
    rintro x w (⟨kd, m, nn, e⟩ | ⟨kd, k, l, e⟩)
    · exact .inl ⟨kd, m, nn.at' fun o e => hs _ o (Ne.symm hne) e, e⟩
    · obtain ⟨o, e, d⟩ := e
      exact .inr ⟨kd, k, l, o, hs _ o (hcell _ _ l) e, d⟩
  have bck : ∀ {x w}, (∃ b, σ.get x = some b) → VarIs env h' (S x) w → VarIs env h (S x) w := by
    rintro x w ⟨b, hb⟩ hw
    obtain ⟨w', hw'⟩ := (T.vars x b hb).var
    rw [hw.fn (mvv hw')]; exact hw'
  have mv : ∀ {v d}, Rp h (fun a => P a ∨ O a) v d → Rp h' (fun a => P a ∨ O a) v d := fun r => r.mono hk fun _ _ n _ => n
  have mva : ∀ {v d}, RpAll h (fun a => P a ∨ O a) v d → RpAll h' (fun a => P a ∨ O a) v d := fun r => r.mono hk fun _ _ n _ => n
  have same : ∀ y es, σ.get y = some (.own es) → VarIs env h (S y) (.ref a) → y = x := fun y es hy hw => by
    by_cases q : y = x
    · exact q
    · exact (T.apart y x es ds a q hy hx hw hv).elim
  refine ⟨T.base, fun b o e => hs b o (fun q => by rw [q, T.new _ hO] at e; cases e) (T.keep b o e), T.plive, fun b q => ?_, T.new, T.ok, T.loc, let ⟨m, nn⟩ := T.ns; ⟨m, nn.at' fun o e => hs _ o (Ne.symm hne) e⟩, fun y k e => ?_, fun y b' e => ?_, fun y z ds₁ es₁ c ne hy hz vy vz => ?_⟩
  · by_cases q' : b = a
    · subst q'; obtain ⟨o, e⟩ := hp; exact ⟨_, e⟩
    · obtain ⟨o, e⟩ := T.live b q; exact ⟨o, hs b o q' e⟩
  · obtain ⟨⟨v, o, q, d⟩, f⟩ := T.cells y k e
    exact ⟨⟨v, o, hs _ o (hcell _ _ e) q, d⟩, f⟩
  · rw [Sto.get_put] at e
    by_cases q : x = y
    · subst q; simp only [if_true] at e; cases e
      exact ⟨a, vs', mvv hv, hO, hne, hp, mva r⟩
    · rw [if_neg q] at e
      have := T.vars y b' e
      cases b' with
      | val d => obtain ⟨w, hw, r'⟩ := this; exact ⟨w, mvv hw, mv r'⟩
      | own es =>
        obtain ⟨c, ws, hw, h1, h2, h3, h4⟩ := this
        have hca : c ≠ a := fun q' => q (same y es e (q' ▸ hw)).symm
        exact ⟨c, ws, mvv hw, h1, h2, h3.at fun o e => hs _ o hca e, mva h4⟩
  · rw [Sto.get_put] at hy hz
    have gy : ∃ b, σ.get y = some b := by by_cases q : x = y; exact ⟨_, q ▸ hx⟩; rw [if_neg q] at hy; exact ⟨_, hy⟩
    have gz : ∃ b, σ.get z = some b := by by_cases q : x = z; exact ⟨_, q ▸ hx⟩; rw [if_neg q] at hz; exact ⟨_, hz⟩
    have gy' : ∃ es, σ.get y = some (.own es) := by by_cases q : x = y; exact ⟨_, q ▸ hx⟩; rw [if_neg q] at hy; exact ⟨_, hy⟩
    have gz' : ∃ es, σ.get z = some (.own es) := by by_cases q : x = z; exact ⟨_, q ▸ hx⟩; rw [if_neg q] at hz; exact ⟨_, hz⟩
    obtain ⟨e1, hy'⟩ := gy'; obtain ⟨e2, hz'⟩ := gz'
    exact T.apart y z e1 e2 c ne hy' hz' (bck gy vy) (bck gz vz)

/-- a method that changes its list -/
def MutS (B : Bas) (n : Nat) (id : String) (ds as ds' : List D) : Prop :=
  ∀ (X : Addr → Prop) (A : Around) (s : Shared) (E : Value → Shared → Prop) (Q : Value → Shared → Prop) (a : Addr) (vs ws : List Value), B.Ok → AOk n A → B.Here s.heap → s.heap.PlainList a vs.toArray → X a → RpAll s.heap X vs ds → RpAll s.heap X ws as →
    (∀ s' vs', Mov (fun b => b = a) s s' → s'.heap.PlainList a vs'.toArray → RpAll s.heap X vs' ds' → Q .none s') → wpAny (model B.prog B.w) A (call (.builtin id) (.ref a :: ws)) Q E s

/-- an item of an own list set -/
theorem wp_setItem {A : Around} {s : Shared} {E : Value → Shared → Prop} {l : Addr} {items : Array Value} {k : Int} {t : Tok} {v : Value} {Q : Unit → Shared → Prop} (hl : s.heap.PlainList l items)
    (h0 : 0 ≤ k) (hfit : k < 2 ^ 63) (hn : k < items.size)
    (hQ : ∀ h', h'.PlainList l (items.setIfInBounds k.toNat v) → Heap.SameBut l s.heap h' → Q () { s with heap := h' }) : wpAny (model B.prog B.w) A (setItem (.ref l) (.int k t) v) Q E s := by
  obtain ⟨ep, ho⟩ := id hl
  unfold setItem
  try with_reducible refine wpAny_holding ?_
  first | refine wpAny_bind (wpAny_pure ?_) | skip
  refine wpAny_bind (wpAny_sequenceKey hl.isList.typeIs (by decide) ?_)
  refine wpAny_bind (wpAny_callSpecial?_slot (name := Str.ofString "__setitem__") hl.isList.typeIs slot_list_setitem
    (wpAny_call_entry slot_list_setitem hl.isList.typeIs entry_list_setitem ?_ (args_list_setitem _ _ _)))
  show wpAny _ _ (Builtin.List.listSubscript? (.int k t) >>= _) _ _ s
  refine wpAny_bind (wpAny_listSubscript_int (fitsIndex_of h0 hfit) ?_)
  clear hfit
  obtain ⟨j, rfl⟩ := Int.eq_ofNat_of_zero_le h0
  have hj : j < items.size := by omega
  have hx' : items[j]? = some items[j] := Array.getElem?_eq_getElem hj
  show wpAny _ _ ((seqItemAt l j >>= fun r => pure (r.map (j, ·))) >>= _) _ _ s
  refine wpAny_bind (wpAny_bind (wpAny_seqItemAt ho rfl (wpAny_pure ?_)))
  rw [hx']
  show wpAny _ _ (setSeqItemAt l j v >>= _) _ _ s
  have e : Obj.mapSeq (·.setIfInBounds j v) { cls := .type "list", data := .seq items ep } = { cls := .type "list", data := .seq (items.setIfInBounds j v) ep } := by simp [Obj.mapSeq]
  have hfin : (s.heap.update l (Obj.mapSeq (·.setIfInBounds j v))).PlainList l (items.setIfInBounds j v) := ⟨ep, by rw [Heap.get?_update_self _ ho (by rw [e]; rfl), e]⟩
  refine wpAny_bind (wpAny_setSeqItemAt ho rfl ?_)
  first
    | exact wpAny_bind (wpAny_pure (wpAny_pure ⟨.none, rfl, wpAny_pure (hQ _ hfin (Heap.SameBut.update ..))⟩))
    | exact wpAny_pure ⟨.none, rfl, wpAny_pure (hQ _ hfin (Heap.SameBut.update ..))⟩

theorem RpAll.set {h X vs ds v d} (r : RpAll h X vs ds) (rv : Rp h X v d) : ∀ k, RpAll h X (vs.set k v) (ds.set k d) := by
  induction vs generalizing ds with
  | nil => intro k; cases r; exact .nil
  | cons w ws ih => cases r with | cons a b => intro k; cases k with
    | zero => exact .cons rv b
    | succ k => exact .cons a (ih b k)

/-- xs[i] += e of ints -/
theorem ex_augitem {x : String} {p1 p2 p3 : Pos} {i e : Expr} {l : List Int} {k j : Int} (hx : σ.get x = some (.own (D.ofInts l))) (vi : EvW B n env σ i (.int k)) (ve : EvW B n env σ e (.int j)) (h0 : 0 ≤ k) (hk : k < l.length) (hsz : l.length ≤ 1000000)
    (h : R .next (σ.put x (.own (D.ofInts (l.set k.toNat (l.getD k.toNat 0 + j)))))) (h1 : x ≠ "__debug__" := by decide) (h2 : x ≠ "__classdict__" := by decide)
    (hi : ∀ ov iv new, augStore i ov iv new = (do holding [new, ov, iv] (setItem ov iv new); release [new, ov, iv] []; pure .next) := by intros; rfl) : Ex1 B n env σ (.AugAssign (.Subscript (.Name (S x) p1) i p2) .Add e p3) R := by
  intro h₀ P O A s E bo ao T
  obtain ⟨a, vs, hv, hO, hne, hpl, rs⟩ := T.vars x _ hx
  have hlen : vs.length = l.length := by rw [rs.length, ofInts_length]
  refine wpAny_AugAssign_SubscriptAny (wp_name T hv (vi h₀ P O A s E _ bo ao T fun v₁ s₁ k₁ r₁ => ?_) (plainName h1) (plainName h2)) hi
  obtain ⟨t, rfl⟩ := rp_int r₁
  have hl₁ : s₁.heap.PlainList a vs.toArray := hpl.at fun o e => kheap k₁ _ o e
  have hkn : k.toNat < vs.length := by omega
  obtain ⟨t', ht'⟩ := rs.intAt (i := k.toNat) (v := vs[k.toNat]) (List.getElem?_eq_getElem hkn)
  refine wpAny_getItem_list hl₁.isList h0 (by omega) (x := vs[k.toNat]) (by simp [hkn]) ?_
  refine ve h₀ P O A s₁ E _ bo ao (T.kp k₁) fun v₂ s₂ k₂ r₂ => ?_
  obtain ⟨u, rfl⟩ := rp_int r₂
  rw [ht']
  refine iadd_int ?_
  have kk := ktrans (ktrans k₁ k₂) (ktok s₂ (s₂.toks + 1))
  have hl₂ : s₂.heap.PlainList a vs.toArray := hl₁.at fun o e => kheap k₂ _ o e
  refine wp_setItem (s := { s₂ with toks := s₂.toks + 1 }) hl₂ h0 (by omega) (by simp only [List.size_toArray]; omega) fun h' hp' hs' => ?_
  have T₂ : St B h₀ P env σ O ({ s₂ with toks := s₂.toks + 1 } : Shared).heap := T.kp kk
  have rset : RpAll s₂.heap (fun b => P b ∨ O b) (vs.set k.toNat (.int (l.getD k.toNat 0 + j) s₂.toks)) (D.ofInts (l.set k.toNat (l.getD k.toNat 0 + j))) := by
    have := (rs.keeps (kheap kk)).set (.int (l.getD k.toNat 0 + j) s₂.toks) k.toNat
    simpa [D.ofInts] using this
  refine ⟨.next, _, O, (Mov.of_keeps kk).trans (O' := O) ⟨h', _, rfl, fun b o nb e => (hs'.2 b (fun q => nb (q ▸ hO))).trans e⟩ (fun _ q => .inl q), trivial, h, fun _ q => .inl q, ?_⟩
  exact T₂.mut hx (hv.keeps (kheap kk)) hO hne hl₂ (fun b o nb e => (hs'.2 b nb).trans e) (by simpa using hp') rset

end

mutual
/-- plain data as data -/
def D.of : PyData → D
  | .none => .none
  | .bool b => .bool b
  | .int i => .int i
  | .str x => .str x
  | .list xs => .list (D.ofAll xs)
  | .tuple xs => .tuple (D.ofAll xs)
  | .dict _ => .val .ellipsis
def D.ofAll : List PyData → List D
  | [] => []
  | x :: r => D.of x :: D.ofAll r
end
mutual
theorem Rp.reads {h : Heap} {X : Addr → Prop} : ∀ {q : PyData} {v : Value}, q.canLay0 = true → Rp h X v (D.of q) → ∃ as, Reads h v q as
  | .none, v, _, r => by rw [rp_val r]; exact ⟨_, Reads.none⟩
  | .bool b, v, _, r => by rw [rp_val r]; exact ⟨_, Reads.bool b⟩
  | .int i, v, _, r => by obtain ⟨t, rfl⟩ := rp_int r; exact ⟨_, Reads.int i t⟩
  | .str x, v, _, r => by obtain ⟨t, rfl⟩ := rp_str r; exact ⟨_, Reads.str x t⟩
  | .list xs, v, c, r => by
    rw [D.of] at r
    obtain ⟨a, vs, rfl, ⟨o, ho, hc, k, hd⟩, _, rs⟩ := rp_list r
    obtain ⟨as, q⟩ := RpAll.reads (by simpa [PyData.canLay0] using c) rs
    exact ⟨_, reads_list_at ho hc hd (by simpa using q)⟩
  | .tuple xs, v, c, r => by
    rw [D.of] at r
    obtain ⟨a, vs, rfl, ⟨o, ho, hc, k, hd⟩, _, rs⟩ := rp_tuple r
    obtain ⟨as, q⟩ := RpAll.reads (by simpa [PyData.canLay0] using c) rs
    exact ⟨_, reads_tuple_at ho hc hd (by simpa using q)⟩
  | .dict _, v, c, r => by simp [PyData.canLay0] at c
theorem RpAll.reads {h : Heap} {X : Addr → Prop} : ∀ {qs : List PyData} {vs : List Value}, PyData.canLayAll0 qs = true → RpAll h X vs (D.ofAll qs) → ∃ as, ReadsAll h vs qs as
  | [], vs, _, r => by rw [D.ofAll] at r; cases r; exact ⟨_, ReadsAll.nil⟩
  | q :: qs, vs, c, r => by
    rw [D.ofAll] at r
    cases r with | cons r rs =>
    simp only [PyData.canLayAll0, Bool.and_eq_true] at c
    obtain ⟨as, p⟩ := Rp.reads c.1 r
    obtain ⟨bs, p'⟩ := RpAll.reads c.2 rs
    exact ⟨_, ReadsAll.cons p p'⟩
end
section
variable {B : Bas} {n : Nat} {env : Env} {σ : Sto}
theorem cmp_eq_data {q q' : PyData} (h : SeqAt.shaped q = true) (h' : SeqAt.shaped q' = true) : Cmp B n .Eq (D.of q) (D.of q') (PyData.eqv q q') := fun A s E Q va vb bo ao hh r r' k => by
  obtain ⟨as, ra⟩ := Rp.reads (SeqAt.canLay_of_shaped h) r
  obtain ⟨bs, rb⟩ := Rp.reads (SeqAt.canLay_of_shaped h') r'
  exact SeqAt.compareEq_shaped ra rb h h' (by have := ao.units; omega) (k s (krefl s))
theorem cmp_ne_data {q q' : PyData} (h : SeqAt.shaped q = true) (h' : SeqAt.shaped q' = true) : Cmp B n .NotEq (D.of q) (D.of q') (!PyData.eqv q q') := fun A s E Q va vb bo ao hh r r' k => by
  obtain ⟨as, ra⟩ := Rp.reads (SeqAt.canLay_of_shaped h) r
  obtain ⟨bs, rb⟩ := Rp.reads (SeqAt.canLay_of_shaped h') r'
  exact SeqAt.compareNe_shaped ra rb h h' (by have := ao.units; omega) (k s (krefl s))
end

/-- a tree of questions, each within bounds, answered by lt -/
def Good {α : Type} (m : Nat) (lt : Nat → Nat → Bool) (G : α → Prop) : KasT α → Prop
  | .ret a => G a
  | .ask i j k => i < m ∧ j < m ∧ Good m lt G (k (lt i j))
theorem Good.mono {α : Type} {m : Nat} {lt : Nat → Nat → Bool} {G G' : α → Prop} (h : ∀ a, G a → G' a) : ∀ {t : KasT α}, Good m lt G t → Good m lt G' t
  | .ret a, x => h a x
  | .ask i j k, x => ⟨x.1, x.2.1, Good.mono h x.2.2⟩
structure Ord (lt : Nat → Nat → Bool) : Prop where
  asym : ∀ i j, lt i j = true → lt j i = false
  trans : ∀ i j k, lt i j = false → lt j k = false → lt i k = false

section
variable {lt : Nat → Nat → Bool} {m : Nat}
abbrev g (p : Array Nat) (k : Nat) : Nat := p.getD k 0
def SortedTo (lt : Nat → Nat → Bool) (p : Array Nat) (k : Nat) : Prop := ∀ i j, i ≤ j → j < k → lt (g p j) (g p i) = false
def NonInc (lt : Nat → Nat → Bool) (p : Array Nat) (k : Nat) : Prop := ∀ i j, i ≤ j → j < k → lt (g p i) (g p j) = false
def Eqv (lt : Nat → Nat → Bool) (p : Array Nat) (lo hi : Nat) : Prop := ∀ i j, lo ≤ i → i < hi → lo ≤ j → j < hi → lt (g p i) (g p j) = false
structure InB (m : Nat) (p : Array Nat) : Prop where
  sz : p.size = m
  pm : p.Perm (List.range m).toArray
variable (O : Ord lt)
include O
theorem refl (i : Nat) : lt i i = false := by
  cases h : lt i i with
  | false => rfl
  | true => have := O.asym i i h; rw [h] at this; cases this

end

def lexLt : List Int → List Int → Bool
  | [], [] => false
  | [], _ :: _ => true
  | _ :: _, [] => false
  | a :: r, b :: t => if a = b then lexLt r t else decide (a < b)
def sortL (ks : List (List Int)) : List (List Int) := ks.mergeSort fun a b => !lexLt b a
def tupI (l : List Int) : D := .tuple (D.ofInts l)

section
variable {B : Bas} {n : Nat} {env : Env} {σ : Sto} {p p' : Pos}
theorem RpAll.pick {h X vs ds} (r : RpAll h X vs ds) (d0 : D) : ∀ (q : List Nat), (∀ i ∈ q, i < ds.length) → RpAll h X (q.map fun i => vs.getD i Value.none) (q.map fun i => ds.getD i d0)
  | [], _ => .nil
  | i :: q, hq => by
    have hi := hq i (List.mem_cons_self ..)
    obtain ⟨v, hv, rv⟩ := r.get' (k := i) (d := ds.getD i d0) (by rw [List.getD_eq_getElem?_getD, List.getElem?_eq_getElem hi]; rfl)
    refine .cons ?_ (r.pick d0 q fun j hj => hq j (List.mem_cons_of_mem _ hj))
    dsimp only; rw [List.getD_eq_getElem?_getD, hv]; exact rv

end

def bnames : List String := ["type", "NotImplemented", "len", "range", "min", "max", "sum", "sorted", "abs", "chr", "isinstance", "bool", "list", "zip", "str", "TypeError"]
def Free (B : Bas) : Prop := ∀ x ∈ bnames, B.mg (S x) = none

theorem boot_type : bootBuiltins (S "type") = some (.type "type") := by decide +kernel
theorem boot_ni : bootBuiltins (S "NotImplemented") = some .notImplemented := by decide +kernel
theorem boot_len : bootBuiltins (S "len") = some (.builtin "len") := by decide +kernel
theorem boot_range : bootBuiltins (S "range") = some (.type "range") := by decide +kernel
theorem boot_min : bootBuiltins (S "min") = some (.builtin "min") := by decide +kernel
theorem boot_max : bootBuiltins (S "max") = some (.builtin "max") := by decide +kernel
theorem boot_abs : bootBuiltins (S "abs") = some (.builtin "abs") := by decide +kernel
theorem boot_chr : bootBuiltins (S "chr") = some (.builtin "chr") := by decide +kernel
section
variable {B : Bas} {n : Nat} {env : Env} {σ : Sto} {e e' : Expr} {p p' : Pos} (fr : Free B)
include fr
theorem bn {x : String} {v : Value} (hk : env.kindOf (S x) = some .globalImplicit) (hb : bootBuiltins (S x) = some v) (h1 : x ∈ bnames := by decide) (h2 : x ≠ "__debug__" := by decide) (h3 : x ≠ "__name__" := by decide) : BootName B env x v := ⟨hk, fr x h1, hb, h2, h3⟩
theorem ev_ni (hk : env.kindOf (S "NotImplemented") = some .globalImplicit) : Ev B n env σ (.Name (S "NotImplemented") p) (.val .notImplemented) := ev_boot (bn fr hk boot_ni) rfl
theorem ev_type {d : D} {T : String} (hk : env.kindOf (S "type") = some .globalImplicit) (v : EvW B n env σ e d) (t : Ty d T) (hnb : (Value.type T == Value.type "builtin_function_or_method") = false := by decide)
    (he : starEach [e] env = (false, eval e env) :: starEach [] env := by rfl) : Ev B n env σ (.Call (.Name (S "type") p') [e] [] p) (.val (.type T)) :=
  ev_typecall (bn fr hk boot_type) (evasw_cons v evasw_nil he) (bi_type t hnb) he
theorem ev_len {ds : List D} (hk : env.kindOf (S "len") = some .globalImplicit) (v : EvW B n env σ e (.list ds)) (hsz : ds.length ≤ 1000000) (he : starEach [e] env = (false, eval e env) :: starEach [] env := by rfl) : Ev B n env σ (.Call (.Name (S "len") p') [e] [] p) (.int ds.length) :=
  ev_builtin (bn fr hk boot_len) (evasw_cons v evasw_nil he) (bi_len hsz) he
theorem ev_abs {i : Int} (hk : env.kindOf (S "abs") = some .globalImplicit) (v : EvW B n env σ e (.int i)) (he : starEach [e] env = (false, eval e env) :: starEach [] env := by rfl) : Ev B n env σ (.Call (.Name (S "abs") p') [e] [] p) (.int (if i < 0 then -i else i)) :=
  ev_builtin (bn fr hk boot_abs) (evasw_cons v evasw_nil he) bi_abs he
theorem ev_max2 {i j : Int} (hk : env.kindOf (S "max") = some .globalImplicit) (v : EvW B n env σ e (.int i)) (v' : EvW B n env σ e' (.int j)) (he : starEach [e, e'] env = (false, eval e env) :: starEach [e'] env := by rfl) (he' : starEach [e'] env = (false, eval e' env) :: starEach [] env := by rfl)
    (hp : (backTo p (starEach [e'] env)).any (·.1) = false := by rfl) : Ev B n env σ (.Call (.Name (S "max") p') [e, e'] [] p) (.int (maxI i [j])) :=
  ev_builtin (bn fr hk boot_max) (evasw_cons v (evasw_cons v' evasw_nil he') he) bi_max2 he hp
theorem ev_min2 {i j : Int} (hk : env.kindOf (S "min") = some .globalImplicit) (v : EvW B n env σ e (.int i)) (v' : EvW B n env σ e' (.int j)) (he : starEach [e, e'] env = (false, eval e env) :: starEach [e'] env := by rfl) (he' : starEach [e'] env = (false, eval e' env) :: starEach [] env := by rfl)
    (hp : (backTo p (starEach [e'] env)).any (·.1) = false := by rfl) : Ev B n env σ (.Call (.Name (S "min") p') [e, e'] [] p) (.int (minI i [j])) :=
  ev_builtin (bn fr hk boot_min) (evasw_cons v (evasw_cons v' evasw_nil he') he) bi_min2 he hp
theorem ev_rng1 {i : Int} (hk : env.kindOf (S "range") = some .globalImplicit) (v : EvW B n env σ e (.int i)) (he : starEach [e] env = (false, eval e env) :: starEach [] env := by rfl) : Ev B n env σ (.Call (.Name (S "range") p') [e] [] p) (.range 0 i) :=
  ev_range1 (bn fr hk boot_range) v he
theorem ev_rng2 {i j : Int} (hk : env.kindOf (S "range") = some .globalImplicit) (v : EvW B n env σ e (.int i)) (v' : EvW B n env σ e' (.int j)) (he : starEach [e, e'] env = (false, eval e env) :: starEach [e'] env := by rfl) (he' : starEach [e'] env = (false, eval e' env) :: starEach [] env := by rfl)
    (hp : (backTo p (starEach [e'] env)).any (·.1) = false := by rfl) : Ev B n env σ (.Call (.Name (S "range") p') [e, e'] [] p) (.range i j) :=
  ev_range2 (bn fr hk boot_range) v v' he he' hp
end

/-- definitions of the text -/
structure Def where
  name : Str
  params : Arguments
  body : List Stmt
  scope : Scope
def defOfStmt : Stmt → Def
  | .FunctionDef name args body _ _ _ scope _ _ _ => ⟨name, args, body, scope⟩
  | _ => ⟨S "", ⟨[], [], none, [], [], none, []⟩, [], ⟨.function, [], false, false, []⟩⟩
def defAt (p : Program) (i : Nat) : Def := match p.main.body[i]? with
  | some s => defOfStmt s
  | none => defOfStmt (.Pass default)

structure HasDef (B : Bas) (x : String) (a : Addr) (d : Def) : Prop where
  mg : B.mg (S x) = some (.ref a)
  fn : FnAt B a d.name d.params d.body d.scope

theorem FEnv.glob {sc env x} (fe : FEnv sc env) (h : sc.names.lookup x = some .globalImplicit) : env.kindOf x = some .globalImplicit := by unfold Env.kindOf; rw [fe.scope]; exact h
theorem FEnv.loc {sc env x} (fe : FEnv sc env) (h : sc.names.lookup x = some .local) : env.kindOf x = some .local := by unfold Env.kindOf; rw [fe.scope]; exact h
theorem FEnv.sl {sc : Scope} {env : Env} {x : String} (fe : FEnv sc env) (h : sc.names.lookup (S x) = some .local) : Storable env x := .inl (fe.loc h)
theorem FEnv.sc {sc : Scope} {env : Env} {x : String} (fe : FEnv sc env) (h : sc.names.lookup (S x) = some .cell) : Storable env x := .inr ⟨by unfold Env.kindOf; rw [fe.scope]; exact h, fe.func, fe.cells _ h⟩
theorem CEnv.sl {sc : Scope} {env : Env} {x : String} (ce : CEnv sc env) (h : sc.names.lookup (S x) = some .local) : Storable env x := .inl (ce.loc _ h)

theorem ev_calld {B : Bas} {n : Nat} {env : Env} {σ : Sto} {e : Expr} {p p' : Pos} {x : String} {a : Addr} {d : Def} {es : List Expr} {ds : List D} {r : D} (F : HasDef B x a d) (hk : env.kindOf (S x) = some .globalImplicit)
    (as : EvAs B n env σ (e :: es) ds) (f : FnS B n a ds r) (hn : x ≠ "__debug__" := by decide) (he : starEach (e :: es) env = (false, eval e env) :: starEach es env := by rfl)
    (hc : eval (.Call (.Name (S x) p') (e :: es) [] p) env = (do callWith p (← eval (.Name (S x) p') env) [] (backTo p (starEach (e :: es) env)) (backToKw p (keywordEach [] env))) := by rfl) : Ev B n env σ (.Call (.Name (S x) p') (e :: es) [] p) r :=
  let ⟨_, _, _, _, ho, hd, _⟩ := F.fn.at_; ev_call hk F.mg ho hd as f hn he hc

def SubL : Sto → Sto → Prop
  | [], _ => True
  | (x, b) :: r, τ => τ.get x = some b ∧ SubL r τ
theorem SubL.get : ∀ {τ σ : Sto}, SubL τ σ → ∀ x b, τ.get x = some b → σ.get x = some b
  | [], _, _, x, b, h => by cases h
  | (y, c) :: r, σ, ⟨h1, h2⟩, x, b, h => by
    unfold Sto.get at h
    by_cases e : y = x
    · subst e; rw [if_pos rfl] at h; cases h; exact h1
    · rw [if_neg e] at h; exact h2.get x b h

section
variable {B : Bas} {n : Nat} {env : Env} {σ τ : Sto} {R : Fl → Sto → Prop}
theorem ex_sub {ss} (hs : SubL τ σ) (h : Ex B n env τ ss R) : Ex B n env σ ss R := fun h₀ P O A s E b a T => h h₀ P O A s E b a (T.forget hs.get)
theorem asg_sub {t d τ'} (hs : SubL τ σ) (h : Asg B n env τ t d τ') : Asg B n env σ t d τ' := fun h₀ P O A s E Q v b a T => h h₀ P O A s E Q v b a (T.forget hs.get)

theorem ex_forS {target iter : Expr} {body : List Stmt} {p : Pos} {ds : List D} (τ : List D → Sto) (x : EvIt true B n env σ iter ds) (h0 : SubL (τ []) σ)
    (turn : ∀ pre d post, ds = pre ++ d :: post → ∃ τ', Asg B n env (τ pre) target d τ' ∧
      Ex B n env τ' body (fun fl υ => match fl with | .next => SubL (τ (pre ++ [d])) υ | .cont => SubL (τ (pre ++ [d])) υ | .brk => R .next υ | .ret v => R (.ret v) υ))
    (done : ∀ υ, SubL (τ ds) υ → R .next υ) (hs : ∀ x, foldedSetIterable iter env x = pure x := by intro _; rfl) : Ex1 B n env σ (.For target iter body [] p) R :=
  ex_for (fun pre υ => SubL (τ pre) υ) x h0 (fun pre d post σ' e hs' => by
    obtain ⟨τ', ha, hex⟩ := turn pre d post e
    exact ⟨τ', asg_sub hs' ha, hex⟩) done hs

end

/-- the items of a range -/
theorem rngD_split {a b : Int} {pre post : List D} {d : D} (h : rngD a b = pre ++ d :: post) : d = .int (a + pre.length) ∧ (pre.length : Int) < b - a := by
  have hl : (rngD a b)[pre.length]? = some d := by rw [h]; simp
  have hlen : pre.length < (rngD a b).length := by rw [h]; simp
  simp only [rngD, List.length_map, List.length_range] at hlen
  simp only [rngD, List.getElem?_map, List.getElem?_range hlen, Option.map_some, Option.some.injEq] at hl
  exact ⟨hl.symm, by omega⟩
theorem rngD_length (a b : Int) : (rngD a b).length = (b - a).toNat := by simp [rngD]

/-- the heaps -/
def heapStep (m : Nat) (l : List Int) (h : List Int) (i : Nat) : List Int := h.set (i % m) (h.getD (i % m) 0 + l.getD i 0)
def heapsTo (m : Nat) (l : List Int) : Nat → List Int
  | 0 => List.replicate (min l.length m) 0
  | k + 1 => heapStep m l (heapsTo m l k) k
def heapsI (m : Nat) (l : List Int) : List Int := heapsTo m l l.length
theorem heapsTo_length (m : Nat) (l : List Int) : ∀ k, (heapsTo m l k).length = min l.length m
  | 0 => by simp [heapsTo]
  | k + 1 => by simp [heapsTo, heapStep, heapsTo_length m l k]
theorem heapsI_length (m : Nat) (l : List Int) : (heapsI m l).length = min l.length m := heapsTo_length m l _

theorem ofInts_get {l : List Int} {k : Nat} (h : k < l.length) : (D.ofInts l)[k]? = some (.int (l.getD k 0)) := by
  simp [D.ofInts, List.getElem?_map, List.getD_eq_getElem?_getD, List.getElem?_eq_getElem h]
theorem place_nat {k : Nat} {m : Nat} : place (k : Int) m = k := by unfold place; rw [if_neg (by omega)]; omega
theorem evw_eq {B n env σ e d d'} (x : EvW B n env σ e d) (h : d = d') : EvW B n env σ e d' := h ▸ x
theorem fmod_nat (k m : Nat) : ((k : Int)).fmod (m : Int) = ((k % m : Nat) : Int) := by
  rw [Int.fmod_eq_emod_of_nonneg _ (by omega)]; rfl

theorem swaps_true {env : Env} {x : String} {px : Pos} {elt : Expr} {gens : List Comprehension} {sc : Scope} {pos : Pos} {line : Nat} (hk : env.scope.kind = .function) (hx : env.kindOf (S x) = some .local) (hl : (px.line == pos.line) = true)
    (hn : (sc.names.any fun (n, k) => n == S x && (k == .local || k == .cell)) = false) : swapsWith (.ListComp elt gens sc pos) (some (.Name (S x) px)) line env = pure true := by
  unfold swapsWith
  simp only [Env.blockKind, hk, hx]
  have hl' : (px.line == (Expr.ListComp elt gens sc pos).pos.line) = true := hl
  simp only [hl', hn]
  try rfl
theorem swaps_false {env : Env} {x : String} {px : Pos} {elt : Expr} {gens : List Comprehension} {sc : Scope} {pos : Pos} {line : Nat} (hx : env.kindOf (S x) = some .cell) : swapsWith (.ListComp elt gens sc pos) (some (.Name (S x) px)) line env = pure false := by
  unfold swapsWith
  simp only [hx]
  have : (some NameKind.cell == some NameKind.local) = false := rfl
  simp only [this, Bool.and_false, Bool.false_and]
  try rfl
theorem FEnv.cell {sc env x} (fe : FEnv sc env) (h : sc.names.lookup x = some .cell) : env.kindOf x = some .cell := by unfold Env.kindOf; rw [fe.scope]; exact h
/-- the conditions of a comprehension within a def -/
theorem compOk_of {sc0 sc : Scope} {env : Env} {caps : List String} (fe : FEnv sc0 env) (hk : sc.kind = .function) (h1 : ∀ y ∈ sc.names, y.2 ≠ .cell) (h2 : ∀ y ∈ sc.names, y.2 = .local → sc.names.lookup y.1 = some .local)
    (h3 : ∀ y ∈ sc.names, y.2 = .free → sc0.names.lookup y.1 = some .cell) (h4 : ∀ x ∈ caps, sc.names.lookup (S x) = some .free ∧ sc0.names.lookup (S x) = some .cell) : CompOk sc env caps :=
  ⟨hk, h1, h2, fun y hy e => fe.cells _ (h3 y hy e), fun x hx => ⟨(h4 x hx).1, .inl (fe.cell (h4 x hx).2)⟩⟩
theorem map_split {α : Type} {l : List α} {f : α → D} {pre post : List D} {d : D} (h : l.map f = pre ++ d :: post) : ∃ q, l[pre.length]? = some q ∧ d = f q ∧ l.take (pre.length + 1) = l.take pre.length ++ [q] := by
  have h1 : (l.map f)[pre.length]? = some d := by rw [h]; simp
  rw [List.getElem?_map] at h1
  obtain ⟨q, hq, e⟩ := Option.map_eq_some_iff.mp h1
  exact ⟨q, hq, e.symm, by simp [List.take_add_one, hq]⟩
theorem filt_true {α : Type} (l : List α) : (l.filter fun _ => true) = l := List.filter_eq_self.mpr (by simp)
section
variable {B : Bas} {n : Nat} {env : Env} {σ : Sto} {R : Fl → Sto → Prop}
def maxL : List Int → Int
  | [] => 0
  | i :: r => maxI i r
end

/-- a list, whoever holds it -/
def EvL (B : Bas) (n : Nat) (env : Env) (σ : Sto) (e : Expr) (ds : List D) : Prop :=
  ∀ (h₀ : Heap) (P O : Addr → Prop) (A : Around) (s : Shared) (E : Value → Shared → Prop) (Q : Value → Shared → Prop), B.Ok → AOk n A → St B h₀ P env σ O s.heap →
    (∀ a vs s', Keeps s s' → s'.heap.IsList a vs.toArray → RpAll s'.heap (fun b => P b ∨ O b) vs ds → Q (.ref a) s') → wpAny (model B.prog B.w) A (eval e env) Q E s
/-- a bound of a slice -/
def EvP (B : Bas) (n : Nat) (env : Env) (σ : Sto) (x : Option Expr) (o : Option Int) : Prop :=
  ∀ (h₀ : Heap) (P O : Addr → Prop) (A : Around) (s : Shared) (E : Value → Shared → Prop) (Q : Value → Shared → Prop), B.Ok → AOk n A → St B h₀ P env σ O s.heap →
    (∀ v s', Keeps s s' → IsPart v o → Q v s') → wpAny (model B.prog B.w) A (evalPart x env) Q E s
section
variable {B : Bas} {n : Nat} {env : Env} {σ : Sto} {l e : Expr} {ds : List D} {p p' : Pos}
/-- sorted(xs, reverse=True) of ints -/
def sortD (l : List Int) : List Int := l.mergeSort fun a b => decide (b ≤ a)
end
section
variable {B : Bas} {n : Nat}
theorem cmp_ne_bool {a b : Bool} : Cmp B n .NotEq (.bool a) (.bool b) (a != b) := by
  have := cmp_ne_data (B := B) (n := n) (q := .bool a) (q' := .bool b) rfl rfl
  have e : (!PyData.eqv (.bool a) (.bool b)) = (a != b) := by cases a <;> cases b <;> rfl
  rw [e] at this
  exact this
end

section
variable {B : Bas} {n : Nat} {env : Env} {σ : Sto} {R : Fl → Sto → Prop}
/-- a def of the text as a value -/
theorem ev_gfn {x : String} {a : Addr} {d : Def} {p : Pos} (F : HasDef B x a d) (hk : env.kindOf (S x) = some .globalImplicit) (hn : x ≠ "__debug__" := by decide) : Ev B n env σ (.Name (S x) p) (.val (.ref a)) :=
  fun h₀ P O A s E Q bo ao T q => wp_glob bo T hk F.mg (by
    obtain ⟨o, pm, cd, doc, ho, hd, _⟩ := F.fn.at_
    refine q _ s (krefl s) (.fn a o _ (T.here _ _ ho) hd fun z => ?_)
    have := (T.xlive z).2
    rw [ho] at this; cases this) hn
end

def prs (nb : List Int) : List (Int × Int) := (List.range nb.length).map fun k => (nb.getD k 0, nb.getD (place ((k : Int) - 1) nb.length) 0)
def tp (q : Int × Int) : D := tupI [q.1, q.2]
def mm (q : Int × Int) : Int × Int := (maxI q.1 [q.2], minI q.1 [q.2])
def toL (q : Int × Int) : List Int := [q.1, q.2]
def sortP (qs : List (Int × Int)) : List (Int × Int) := (sortL (qs.map toL)).map fun l => (l.getD 0 0, l.getD 1 0)
def ptsStep (ps : List Int) (q : Int × Int) : List Int := if ps == [] || !decide (q.2 ≤ ps.getD (place (-1) ps.length) 0) then ps ++ [q.1] else ps
def pts (st : List (Int × Int)) : List Int := st.foldl ptsStep []
def bitc (c k : Nat) : Bool := (((0 + (c : Int)).fdiv (2 ^ (0 + (k : Int)).toNat)).fmod 2 == 1)
def few (st : List (Int × Int)) (c : Nat) : List (Int × Int) := ((List.range st.length).filter (bitc c)).map fun k => st.getD k (0, 0)
def clash (f : List (Int × Int)) : List Nat := (List.range ((f.length : Int) - 1).toNat).filter fun k => decide ((f.getD (k + 1) (0, 0)).2 ≤ (f.getD k (0, 0)).1)
def mostTo (st : List (Int × Int)) : Nat → Int
  | 0 => 0
  | c + 1 => if clash (few st c) = [] then maxI (mostTo st c) [((few st c).length : Int)] else mostTo st c

/-- what a choice picks out of any list -/
def pick {α : Type} (d : α) (st : List α) (c : Nat) : List α := ((List.range st.length).filter (bitc c)).map fun k => st.getD k d
/-- ends that do not fall -/
def Asc (st : List (Int × Int)) : Prop := st.Pairwise fun a b => a.1 ≤ b.1

/-- what the greedy way keeps -/
structure Inv2 (st : List (Int × Int)) (ps : List Int) : Prop where
  ends : ∀ p ∈ ps, ∃ q ∈ st, p = q.1
  holds : ∀ q ∈ st, ∃ p ∈ ps, q.2 ≤ p ∧ p ≤ q.1
  ahead : ∀ f : List (Int × Int), f.Sublist st → (∀ k, k + 1 < f.length → (f.getD k (0, 0)).1 < (f.getD (k + 1) (0, 0)).2) → f.length ≤ ps.length ∧ ∀ k, k < f.length → ps.getD k 0 ≤ (f.getD k (0, 0)).1
  chosen : ∃ f : List (Int × Int), f.Sublist st ∧ (∀ k, k + 1 < f.length → (f.getD k (0, 0)).1 < (f.getD (k + 1) (0, 0)).2) ∧ f.map (·.1) = ps

def rowF : Nat → Int → Int → Int → List (Int × Int)
  | 0, g, _, _ => [(g, 0)]
  | n + 1, g, p, q => if q = 0 then [(g, 0)] else (0, g * p.fdiv q) :: rowF n (-g) q (p.fmod q)
def pairLt (x y : Int × Int) : Bool := if x.1 == y.1 then decide (x.2 < y.2) else decide (x.1 < y.1)
def lexPP : List (Int × Int) → List (Int × Int) → Bool
  | [], [] => false
  | [], _ :: _ => true
  | _ :: _, [] => false
  | x :: xs, y :: ys => if x == y then lexPP xs ys else pairLt x y
section
variable {prog : Program} {w : World} {A : Around} {E : Value → Shared → Prop} {s : Shared}
/-- the data of a list of pairs -/
def pdP (q : Int × Int) : PyData := .tuple [.int q.1, .int q.2]
end

section
variable {B : Bas} {n : Nat}
theorem typeOf_list : typeOf (.type "list") = pure (.type "type") := by first | rfl | kernel_rfl
end

section
variable {B : Bas} {n : Nat} {env : Env} {σ : Sto} {R : Fl → Sto → Prop}
end

/-- what type(self).__op__(self, other) tells -/
def Dun (B : Bas) (n : Nat) (attr : String) (dS dO : D) (v : Value) : Prop :=
  ∃ T id, Ty dS T ∧ (Value.type T == Value.type "builtin_function_or_method") = false ∧ typeOf (.type T) = pure (.type "type") ∧ Manifest.isStub T = false ∧ findCls [] (.type T) (.type "type") (S attr) = some (.val (.builtin id)) ∧ handedIn (.builtin id) = true ∧ Bi B n (.builtin id) [dS, dO] (.val v)
theorem ev_dun {B : Bas} (fr : Free B) {n : Nat} {env : Env} {σ : Sto} {attr : String} {dS dO : D} {v : Value} {p1 p2 p3 p4 p5 p5' p6 : Pos} {pl : Sem Bool} (hk : env.kindOf (S "type") = some .globalImplicit) (hs : σ.get "self" = some (.val dS)) (ho : σ.get "other" = some (.val dO)) (x : Dun B n attr dS dO v)
    (he : eval (.Call (.Attribute (.Call (.Name (S "type") p1) [.Name (S "self") p2] [] p3) (S attr) p4) [.Name (S "self") p5, .Name (S "other") p5'] [] p6) env = (do
      let ov ← eval (.Call (.Name (S "type") p1) [.Name (S "self") p2] [] p3) env
      standAt p4.atName
      let (f, first) ← holding [ov] (getMethod ov (S attr) pl)
      callWith p6 f first (backTo p6 (starEach [.Name (S "self") p5, .Name (S "other") p5'] env)) (backToKw p6 (keywordEach [] env))) := by rfl) :
    Ev B n env σ (.Call (.Attribute (.Call (.Name (S "type") p1) [.Name (S "self") p2] [] p3) (S attr) p4) [.Name (S "self") p5, .Name (S "other") p5'] [] p6) (.val v) := by
  obtain ⟨T, id, h1, h2, h3, h4, h5, h6, h7⟩ := x
  exact ev_dunder (T := T) (Ev.weak (ev_type fr hk (Ev.weak (ev_name hs)) h1 h2)) h3 h4 h5 h6 (ds := [dS, dO]) (evasw_cons (Ev.weak (ev_name hs)) (evasw_cons (Ev.weak (ev_name ho)) evasw_nil)) h7 rfl rfl he
section
variable {B : Bas} {n : Nat}
theorem cmp_isnot_type {T U : String} : Cmp B n .IsNot (.val (.type T)) (.val (.type U)) (!(Value.type T == Value.type U)) := fun A s E Q va vb bo ao hh r r' q => by
  cases rp_val r; cases rp_val r'; exact wpAny_pure (a := Value.bool (!(Value.type T == Value.type U))) (q s (krefl s))
end

theorem ty_none : Ty .none "NoneType" := fun s X v r => by cases rp_val r; rfl
/-- what asInt? finds none in -/
def NonI (d : D) : Prop := ∀ (prog : Program) (w : World) (A : Around) (s : Shared) (E : Value → Shared → Prop) (Q : Option Int → Shared → Prop) (v : Value), Rp s.heap NoX v d → Q none s → wpAny (model prog w) A (asInt? v) Q E s
theorem nonI_none : NonI .none := fun prog w A s E Q v r q => by cases rp_val r; exact wpAny_pure q
theorem nonI_list {ds : List D} : NonI (.list ds) := fun prog w A s E Q v r q => by
  obtain ⟨a, vs, rfl, ⟨o, ho, hc, n, hd⟩, _⟩ := rp_list r
  refine wpAny_bind (wpAny_load ho ?_)
  rw [hd]; exact wpAny_pure q
theorem nonI_str {i : Str} : NonI (.str i) := fun prog w A s E Q v r q => by obtain ⟨t, rfl⟩ := rp_str r; exact wpAny_pure q
/-- what asStr? finds none in -/
def NonS (d : D) : Prop := ∀ (prog : Program) (w : World) (A : Around) (s : Shared) (E : Value → Shared → Prop) (Q : Option Str → Shared → Prop) (v : Value), Rp s.heap NoX v d → Q none s → wpAny (model prog w) A (asStr? v) Q E s
theorem nonS_none : NonS .none := fun prog w A s E Q v r q => by cases rp_val r; exact wpAny_pure q
theorem nonS_list {ds : List D} : NonS (.list ds) := fun prog w A s E Q v r q => by
  obtain ⟨a, vs, rfl, ⟨o, ho, hc, n, hd⟩, _⟩ := rp_list r
  refine wpAny_bind (wpAny_load ho ?_)
  rw [hd]; exact wpAny_pure q
theorem nonS_int {i : Int} : NonS (.int i) := fun prog w A s E Q v r q => by obtain ⟨t, rfl⟩ := rp_int r; exact wpAny_pure q
/-- what Builtin.Float.asFloat? finds none in -/
def NonF (d : D) : Prop := ∀ (prog : Program) (w : World) (A : Around) (s : Shared) (E : Value → Shared → Prop) (Q : Option UInt64 → Shared → Prop) (v : Value), Rp s.heap NoX v d → Q none s → wpAny (model prog w) A (Builtin.Float.asFloat? v) Q E s
section
variable {B : Bas} {n : Nat}
end

/-- the half of a whole number as a float -/
def hf (s : Int) : UInt64 := Float64.ofFrac (decide (s < 0) != decide ((2 : Int) < 0)) s.natAbs (2 : Int).natAbs
section
variable {B : Bas} {n : Nat} {i j : Int}
/-- a letter -/
def ltr (c : Int) : Str := ⟨#[c.toNat]⟩
theorem bi_chr (h0 : 0 ≤ i) (h1 : i ≤ 1114111) : Bi B n (.builtin "chr") [.int i] (.str (ltr i)) := fun A s E Q vs bo ao hh r q => by
  cases r with | cons r rn =>
  cases rn
  obtain ⟨t, rfl⟩ := rp_int r
  exact PyProof.Rows.chr_of_range h0 h1 (q _ _ (ktok _ _) fun _ _ => .str _ _)
theorem ltr_lt (h0 : 0 ≤ i) (h1 : 0 ≤ j) : decide ((ltr i).cps.toList < (ltr j).cps.toList) = decide (i < j) := by
  have : ((ltr i).cps.toList < (ltr j).cps.toList) ↔ i < j := by
    show [i.toNat] < [j.toNat] ↔ _
    simp only [List.cons_lt_cons_iff, List.lt_irrefl, and_false, or_false]
    omega
  exact decide_eq_decide.mpr this
/-- a dictionary, whatever it holds -/
def IsDict (o : Obj) : Prop := o.cls = .type "dict" ∧ ∃ es ep, o.data = .dict es ep
end

/-- a pair of a pair of ints and an int -/
def tupN (q : (Int × Int) × Int) : D := .tuple [tp q.1, .int q.2]
def keyN (q : (Int × Int) × Int) : List Int := [q.1.1, q.1.2, q.2]
def unN : List Int → (Int × Int) × Int
  | [a, b, c] => ((a, b), c)
  | _ => ((0, 0), 0)
def sortN (ks : List ((Int × Int) × Int)) : List ((Int × Int) × Int) := (sortL (ks.map keyN)).map unN
section
variable {B : Bas} {n : Nat} {env : Env} {σ : Sto} {p p' : Pos}
end

section
variable {B : Bas} {n : Nat} {env : Env} {σ τ : Sto} {R : Fl → Sto → Prop} {e : Expr} {p : Pos}
end

/-- what a comparison comes to: an answer, or TypeError with these words -/
inductive Out where
  | val (b : Bool)
  | err (m : Str)
def OutR (s : Shared) (R : Result → Shared → Prop) : Out → Prop
  | .val b => R (.ok (.ret (.bool b))) s
  | .err m => ∀ h' tk tk' e, Heap.MadeExc s.heap h' e "TypeError" [.str m tk'] → R (.error (.ref e)) { s with heap := h', toks := tk }
/-- the same as two ways on -/
def OutQ (s : Shared) (Q E : Value → Shared → Prop) : Out → Prop
  | .val b => Q (.bool b) s
  | .err m => ∀ h' tk tk' e, Heap.MadeExc s.heap h' e "TypeError" [.str m tk'] → E (.ref e) { s with heap := h', toks := tk }
section
variable {M : Model} {A : Around} {E : Value → Shared → Prop} {s : Shared}
theorem wp_raiseTE {α : Type} {msg : String} {Q : α → Shared → Prop} (hh : A.handled = none) (h : ∀ h' tk tk' e, Heap.MadeExc s.heap h' e "TypeError" [.str (Str.ofString msg) tk'] → E (.ref e) { s with heap := h', toks := tk }) (hm : (Str.ofString msg).length ≤ sizeLine) :
    wpAny M A (raiseErrorMade "TypeError" msg : Sem α) Q E s := by
  unfold raiseErrorMade
  refine wpAny_bind (wpAny_mkStr (wpAny_bind ?_) hm)
  exact wpAny_newExc_plain plainExc_TypeError (fun h' e hm => wpAny_raiseNew_none hh (h h' _ _ e hm)) (by simp [sizeLine])
/-- the words of an unsupported comparison -/
def cmpMsg (sym Ta Tb : String) : String := s!"'{sym}' not supported between instances of '{Ta}' and '{Tb}'"
theorem rc_declined {op : CmpOp} {sym : String} {f r : Str} (hop : cmpInfo op = (sym, f, r)) (hE : op ≠ .Eq) (hN : op ≠ .NotEq) {a b : Value} {Ta Tb ida idb : String} {Q : Value → Shared → Prop} (hh : A.handled = none) (ha : s.TypeIs a Ta) (hb : s.TypeIs b Tb)
    (hne : (Value.type Ta != Value.type Tb) = true) (hsub : isSubtype (.type Tb) (.type Ta) = pure false) (h1 : Slot Ta f ida) (h2 : Slot Tb r idb)
    (hna : (Value.type Ta == Value.type "builtin_function_or_method") = false) (hnb : (Value.type Tb == Value.type "builtin_function_or_method") = false) (hsa : shownName Ta = Ta) (hsb : shownName Tb = Tb)
    (hc1 : ∀ Q' : Value → Shared → Prop, Q' .notImplemented s → wpAny M A (call (.builtin ida) [a, b]) Q' E s) (hc2 : ∀ Q' : Value → Shared → Prop, Q' .notImplemented s → wpAny M A (call (.builtin idb) [b, a]) Q' E s)
    (hu : A.units < cLine) (hm : (Str.ofString (cmpMsg sym Ta Tb)).length ≤ sizeLine) (h : ∀ h' tk tk' e, Heap.MadeExc s.heap h' e "TypeError" [.str (Str.ofString (cmpMsg sym Ta Tb)) tk'] → E (.ref e) { s with heap := h', toks := tk }) :
    wpAny M A (richCompare op a b) Q E s := by
  simp only [richCompare, hop, ha.oneThing_none]
  refine wpAny_holding ?_
  refine wpAny_bind (wpAny_cRoomFor_or (.inr hu) ?_)
  refine wpAny_bind (wpAny_typeOf ha (wpAny_bind (wpAny_typeOf hb ?_)))
  simp only [hne, if_true]
  refine wpAny_bind (wpAny_of_eq hsub ?_)
  simp only [Bool.false_eq_true, if_false, Bool.not_false, if_true]
  refine wpAny_bind (m := tryCompare a _ b) (wpAny_tryCompare_declines ha h1 (hc1 _ ⟨rfl, ?_⟩))
  refine wpAny_bind (m := tryCompare b _ a) (wpAny_tryCompare_declines hb h2 (hc2 _ ⟨rfl, ?_⟩))
  have fin : wpAny M A (do rule "compare.unsupported"; raiseErrorMade "TypeError" s!"'{sym}' not supported between instances of '{← typeNameOf a}' and '{← typeNameOf b}'") Q E s := by
    refine wpAny_bind (wpAny_rule (wpAny_bind (wpAny_typeNameOf' ha hna (wpAny_bind (wpAny_typeNameOf' hb hnb ?_)))))
    rw [hsa, hsb]
    exact wp_raiseTE hh h hm
  cases op <;> first | exact absurd rfl hE | exact absurd rfl hN | exact fin
/-- the left one answers -/
theorem rc_left {op : CmpOp} {sym : String} {f r : Str} (hop : cmpInfo op = (sym, f, r)) {a b : Value} {Ta Tb ida : String} {Q : Value → Shared → Prop} (ha : s.TypeIs a Ta) (hb : s.TypeIs b Tb)
    (hne : (Value.type Ta != Value.type Tb) = true) (hsub : isSubtype (.type Tb) (.type Ta) = pure false) (h1 : Slot Ta f ida) (hc : wpAny M A (call (.builtin ida) [a, b]) (fun v s' => v ≠ .notImplemented ∧ Q v s') E s) (hu : A.units < cLine) : wpAny M A (richCompare op a b) Q E s := by
  simp only [richCompare, hop, ha.oneThing_none]
  refine wpAny_holding ?_
  refine wpAny_bind (wpAny_cRoomFor_or (.inr hu) ?_)
  refine wpAny_bind (wpAny_typeOf ha (wpAny_bind (wpAny_typeOf hb ?_)))
  simp only [hne, if_true]
  refine wpAny_bind (wpAny_of_eq hsub ?_)
  simp only [Bool.false_eq_true, if_false]
  refine wpAny_bind (m := tryCompare a _ b) ?_
  simp only [tryCompare]
  refine wpAny_bind (wpAny_callSpecialIfBound?_slot ha h1 (wpAny_mono hc (fun v s' h' => ?_) fun _ _ h' => h'))
  obtain ⟨hv, hq⟩ := h'
  cases v <;> first | exact absurd rfl hv | exact wpAny_pure (wpAny_pure hq)
/-- the right one, of a lesser kind, answers first -/
theorem rc_right {op : CmpOp} {sym : String} {f r : Str} (hop : cmpInfo op = (sym, f, r)) {a b : Value} {Ta Tb idb : String} {Q : Value → Shared → Prop} (ha : s.TypeIs a Ta) (hb : s.TypeIs b Tb)
    (hne : (Value.type Ta != Value.type Tb) = true) (hsub : isSubtype (.type Tb) (.type Ta) = pure true) (h1 : Slot Tb r idb) (hc : wpAny M A (call (.builtin idb) [b, a]) (fun v s' => v ≠ .notImplemented ∧ Q v s') E s) (hu : A.units < cLine) : wpAny M A (richCompare op a b) Q E s := by
  simp only [richCompare, hop, ha.oneThing_none]
  refine wpAny_holding ?_
  refine wpAny_bind (wpAny_cRoomFor_or (.inr hu) ?_)
  refine wpAny_bind (wpAny_typeOf ha (wpAny_bind (wpAny_typeOf hb ?_)))
  simp only [hne, if_true]
  refine wpAny_bind (wpAny_of_eq hsub ?_)
  simp only [if_true]
  refine wpAny_bind (m := tryCompare b _ a) ?_
  simp only [tryCompare]
  refine wpAny_bind (wpAny_callSpecialIfBound?_slot hb h1 (wpAny_mono hc (fun v s' h' => ?_) fun _ _ h' => h'))
  obtain ⟨hv, hq⟩ := h'
  cases v <;> first | exact absurd rfl hv | exact wpAny_pure (wpAny_bind (wpAny_rule (wpAny_pure hq)))
end
theorem nonS_bool {b : Bool} : NonS (.bool b) := fun prog w A s E Q v r q => by cases rp_val r; exact wpAny_pure q
theorem sub_bool_int : isSubtype (.type "bool") (.type "int") = pure true := by rw [isSubtype_type]; kernel_rfl
theorem sub_int_bool : isSubtype (.type "int") (.type "bool") = pure false := by rw [isSubtype_type]; kernel_rfl
def b2i (b : Bool) : Int := if b = true then 1 else 0
theorem sb_int_str : isSubtype (.type "int") (.type "str") = pure false := by rw [isSubtype_type]; kernel_rfl
theorem sb_int_NoneType : isSubtype (.type "int") (.type "NoneType") = pure false := by rw [isSubtype_type]; kernel_rfl
theorem sb_int_list : isSubtype (.type "int") (.type "list") = pure false := by rw [isSubtype_type]; kernel_rfl
theorem sb_bool_str : isSubtype (.type "bool") (.type "str") = pure false := by rw [isSubtype_type]; kernel_rfl
theorem sb_bool_NoneType : isSubtype (.type "bool") (.type "NoneType") = pure false := by rw [isSubtype_type]; kernel_rfl
theorem sb_bool_list : isSubtype (.type "bool") (.type "list") = pure false := by rw [isSubtype_type]; kernel_rfl
theorem sb_str_int : isSubtype (.type "str") (.type "int") = pure false := by rw [isSubtype_type]; kernel_rfl
theorem sb_str_bool : isSubtype (.type "str") (.type "bool") = pure false := by rw [isSubtype_type]; kernel_rfl
theorem sb_str_NoneType : isSubtype (.type "str") (.type "NoneType") = pure false := by rw [isSubtype_type]; kernel_rfl
theorem sb_str_list : isSubtype (.type "str") (.type "list") = pure false := by rw [isSubtype_type]; kernel_rfl
theorem sb_NoneType_int : isSubtype (.type "NoneType") (.type "int") = pure false := by rw [isSubtype_type]; kernel_rfl
theorem sb_NoneType_bool : isSubtype (.type "NoneType") (.type "bool") = pure false := by rw [isSubtype_type]; kernel_rfl
theorem sb_NoneType_str : isSubtype (.type "NoneType") (.type "str") = pure false := by rw [isSubtype_type]; kernel_rfl
theorem sb_NoneType_list : isSubtype (.type "NoneType") (.type "list") = pure false := by rw [isSubtype_type]; kernel_rfl
theorem sb_list_int : isSubtype (.type "list") (.type "int") = pure false := by rw [isSubtype_type]; kernel_rfl
theorem sb_list_bool : isSubtype (.type "list") (.type "bool") = pure false := by rw [isSubtype_type]; kernel_rfl
theorem sb_list_str : isSubtype (.type "list") (.type "str") = pure false := by rw [isSubtype_type]; kernel_rfl
theorem sb_list_NoneType : isSubtype (.type "list") (.type "NoneType") = pure false := by rw [isSubtype_type]; kernel_rfl
section
variable {prog : Program} {w : World} {A : Around} {E : Value → Shared → Prop} {s : Shared}
theorem cn_lt_int_int {p : Int} {t : Tok} {q : Int} {u : Tok} {Q : Value → Shared → Prop} (h : Q (.bool (decide (p < q))) s) : wpAny (model prog w) A (call (.builtin "int.__lt__") [.int p t, .int q u]) Q E s :=
  wpAny_call_entry PySem.F.slot_int_lt (typeIs_int s p t) PySem.F.entry_int_lt (show wpAny _ _ (ret (.bool (decide (p < q)))) _ _ s from wpAny_pure ⟨_, rfl, h⟩) (PySem.F.args_int_lt_2 _ _)
theorem cn_lt_bool_int {c : Bool} {q : Int} {u : Tok} {Q : Value → Shared → Prop} (h : Q (.bool (decide (b2i c < q))) s) : wpAny (model prog w) A (call (.builtin "int.__lt__") [.bool c, .int q u]) Q E s :=
  wpAny_call_entry PySem.F.slot_bool_lt (PySem.typeIs_bool s c) PySem.F.entry_int_lt (show wpAny _ _ (ret (.bool (decide (b2i c < q)))) _ _ s from wpAny_pure ⟨_, rfl, h⟩) (PySem.F.args_int_lt_2 _ _)
theorem cn_lt_bool_bool {c : Bool} {d : Bool} {Q : Value → Shared → Prop} (h : Q (.bool (decide (b2i c < b2i d))) s) : wpAny (model prog w) A (call (.builtin "int.__lt__") [.bool c, .bool d]) Q E s :=
  wpAny_call_entry PySem.F.slot_bool_lt (PySem.typeIs_bool s c) PySem.F.entry_int_lt (show wpAny _ _ (ret (.bool (decide (b2i c < b2i d)))) _ _ s from wpAny_pure ⟨_, rfl, h⟩) (PySem.F.args_int_lt_2 _ _)
theorem cn_le_int_int {p : Int} {t : Tok} {q : Int} {u : Tok} {Q : Value → Shared → Prop} (h : Q (.bool (decide (p ≤ q))) s) : wpAny (model prog w) A (call (.builtin "int.__le__") [.int p t, .int q u]) Q E s :=
  wpAny_call_entry PySem.F.slot_int_le (typeIs_int s p t) PySem.F.entry_int_le (show wpAny _ _ (ret (.bool (decide (p ≤ q)))) _ _ s from wpAny_pure ⟨_, rfl, h⟩) (PySem.F.args_int_le_2 _ _)
theorem cn_le_bool_int {c : Bool} {q : Int} {u : Tok} {Q : Value → Shared → Prop} (h : Q (.bool (decide (b2i c ≤ q))) s) : wpAny (model prog w) A (call (.builtin "int.__le__") [.bool c, .int q u]) Q E s :=
  wpAny_call_entry PySem.F.slot_bool_le (PySem.typeIs_bool s c) PySem.F.entry_int_le (show wpAny _ _ (ret (.bool (decide (b2i c ≤ q)))) _ _ s from wpAny_pure ⟨_, rfl, h⟩) (PySem.F.args_int_le_2 _ _)
theorem cn_le_bool_bool {c : Bool} {d : Bool} {Q : Value → Shared → Prop} (h : Q (.bool (decide (b2i c ≤ b2i d))) s) : wpAny (model prog w) A (call (.builtin "int.__le__") [.bool c, .bool d]) Q E s :=
  wpAny_call_entry PySem.F.slot_bool_le (PySem.typeIs_bool s c) PySem.F.entry_int_le (show wpAny _ _ (ret (.bool (decide (b2i c ≤ b2i d)))) _ _ s from wpAny_pure ⟨_, rfl, h⟩) (PySem.F.args_int_le_2 _ _)
theorem cn_gt_int_int {p : Int} {t : Tok} {q : Int} {u : Tok} {Q : Value → Shared → Prop} (h : Q (.bool (decide (p > q))) s) : wpAny (model prog w) A (call (.builtin "int.__gt__") [.int p t, .int q u]) Q E s :=
  wpAny_call_entry PySem.F.slot_int_gt (typeIs_int s p t) PySem.F.entry_int_gt (show wpAny _ _ (ret (.bool (decide (p > q)))) _ _ s from wpAny_pure ⟨_, rfl, h⟩) (PySem.F.args_int_gt_2 _ _)
theorem cn_gt_bool_int {c : Bool} {q : Int} {u : Tok} {Q : Value → Shared → Prop} (h : Q (.bool (decide (b2i c > q))) s) : wpAny (model prog w) A (call (.builtin "int.__gt__") [.bool c, .int q u]) Q E s :=
  wpAny_call_entry PySem.F.slot_bool_gt (PySem.typeIs_bool s c) PySem.F.entry_int_gt (show wpAny _ _ (ret (.bool (decide (b2i c > q)))) _ _ s from wpAny_pure ⟨_, rfl, h⟩) (PySem.F.args_int_gt_2 _ _)
theorem cn_gt_bool_bool {c : Bool} {d : Bool} {Q : Value → Shared → Prop} (h : Q (.bool (decide (b2i c > b2i d))) s) : wpAny (model prog w) A (call (.builtin "int.__gt__") [.bool c, .bool d]) Q E s :=
  wpAny_call_entry PySem.F.slot_bool_gt (PySem.typeIs_bool s c) PySem.F.entry_int_gt (show wpAny _ _ (ret (.bool (decide (b2i c > b2i d)))) _ _ s from wpAny_pure ⟨_, rfl, h⟩) (PySem.F.args_int_gt_2 _ _)
theorem cn_ge_int_int {p : Int} {t : Tok} {q : Int} {u : Tok} {Q : Value → Shared → Prop} (h : Q (.bool (decide (p ≥ q))) s) : wpAny (model prog w) A (call (.builtin "int.__ge__") [.int p t, .int q u]) Q E s :=
  wpAny_call_entry PySem.F.slot_int_ge (typeIs_int s p t) PySem.F.entry_int_ge (show wpAny _ _ (ret (.bool (decide (p ≥ q)))) _ _ s from wpAny_pure ⟨_, rfl, h⟩) (PySem.F.args_int_ge_2 _ _)
theorem cn_ge_bool_int {c : Bool} {q : Int} {u : Tok} {Q : Value → Shared → Prop} (h : Q (.bool (decide (b2i c ≥ q))) s) : wpAny (model prog w) A (call (.builtin "int.__ge__") [.bool c, .int q u]) Q E s :=
  wpAny_call_entry PySem.F.slot_bool_ge (PySem.typeIs_bool s c) PySem.F.entry_int_ge (show wpAny _ _ (ret (.bool (decide (b2i c ≥ q)))) _ _ s from wpAny_pure ⟨_, rfl, h⟩) (PySem.F.args_int_ge_2 _ _)
theorem cn_ge_bool_bool {c : Bool} {d : Bool} {Q : Value → Shared → Prop} (h : Q (.bool (decide (b2i c ≥ b2i d))) s) : wpAny (model prog w) A (call (.builtin "int.__ge__") [.bool c, .bool d]) Q E s :=
  wpAny_call_entry PySem.F.slot_bool_ge (PySem.typeIs_bool s c) PySem.F.entry_int_ge (show wpAny _ _ (ret (.bool (decide (b2i c ≥ b2i d)))) _ _ s from wpAny_pure ⟨_, rfl, h⟩) (PySem.F.args_int_ge_2 _ _)
theorem rn_lt_int_int {p : Int} {t : Tok} {q : Int} {u : Tok} {Q : Value → Shared → Prop} (hu : A.units < cLine) (h : Q (.bool (decide (p < q))) s) : wpAny (model prog w) A (richCompare .Lt (.int p t) (.int q u)) Q E s :=
  wpAny_richCompare_same_room (op := .Lt) (typeIs_int s p t) (typeIs_int s q u) PySem.F.slot_int_lt (cn_lt_int_int ⟨by simp, h⟩) hu
theorem rn_lt_int_bool {p : Int} {t : Tok} {d : Bool} {Q : Value → Shared → Prop} (hu : A.units < cLine) (h : Q (.bool (decide (p < b2i d))) s) : wpAny (model prog w) A (richCompare .Lt (.int p t) (.bool d)) Q E s :=
  rc_right (op := .Lt) rfl (typeIs_int s p t) (PySem.typeIs_bool s d) (by decide) sub_bool_int PySem.F.slot_bool_gt_refl (cn_gt_bool_int ⟨by simp, h⟩) hu
theorem rn_lt_bool_int {c : Bool} {q : Int} {u : Tok} {Q : Value → Shared → Prop} (hu : A.units < cLine) (h : Q (.bool (decide (b2i c < q))) s) : wpAny (model prog w) A (richCompare .Lt (.bool c) (.int q u)) Q E s :=
  rc_left (op := .Lt) rfl (PySem.typeIs_bool s c) (typeIs_int s q u) (by decide) sub_int_bool PySem.F.slot_bool_lt (cn_lt_bool_int ⟨by simp, h⟩) hu
theorem rn_lt_bool_bool {c : Bool} {d : Bool} {Q : Value → Shared → Prop} (hu : A.units < cLine) (h : Q (.bool (decide (b2i c < b2i d))) s) : wpAny (model prog w) A (richCompare .Lt (.bool c) (.bool d)) Q E s :=
  wpAny_richCompare_same_room (op := .Lt) (PySem.typeIs_bool s c) (PySem.typeIs_bool s d) PySem.F.slot_bool_lt (cn_lt_bool_bool ⟨by simp, h⟩) hu
theorem dc_int_lt {i : Int} {t : Tok} {v : Value} {d : D} (hd : NonI d) (r : Rp s.heap NoX v d) {Q : Value → Shared → Prop} (q : Q .notImplemented s) : wpAny (model prog w) A (call (.builtin "int.__lt__") [.int i t, v]) Q E s := by
  refine wpAny_call_entry PySem.F.slot_int_lt (typeIs_int s i t) PySem.F.entry_int_lt ?_ (PySem.F.args_int_lt_2 _ _)
  show wpAny _ _ (asInt? _ >>= _) _ _ _
  refine wpAny_bind (hd _ _ _ _ _ _ _ r ?_)
  exact wpAny_bind (wpAny_rule (wpAny_pure ⟨_, rfl, q⟩))
theorem dc_bool_lt {c : Bool} {v : Value} {d : D} (hd : NonI d) (r : Rp s.heap NoX v d) {Q : Value → Shared → Prop} (q : Q .notImplemented s) : wpAny (model prog w) A (call (.builtin "int.__lt__") [.bool c, v]) Q E s := by
  refine wpAny_call_entry PySem.F.slot_bool_lt (PySem.typeIs_bool s c) PySem.F.entry_int_lt ?_ (PySem.F.args_int_lt_2 _ _)
  show wpAny _ _ (asInt? _ >>= _) _ _ _
  refine wpAny_bind (hd _ _ _ _ _ _ _ r ?_)
  exact wpAny_bind (wpAny_rule (wpAny_pure ⟨_, rfl, q⟩))
theorem dc_str_lt {i : Str} {t : Tok} {v : Value} {d : D} (hd : NonS d) (r : Rp s.heap NoX v d) {Q : Value → Shared → Prop} (q : Q .notImplemented s) : wpAny (model prog w) A (call (.builtin "str.__lt__") [.str i t, v]) Q E s := by
  refine wpAny_call_entry PySem.F.slot_str_lt (typeIs_str s i t) PySem.F.entry_str_lt ?_ (PySem.F.args_str_lt_2 _ _)
  show wpAny _ _ (asStr? _ >>= _) _ _ _
  refine wpAny_bind (hd _ _ _ _ _ _ _ r ?_)
  exact wpAny_bind (wpAny_rule (wpAny_pure ⟨_, rfl, q⟩))
theorem dc_NoneType_lt {v : Value} {Q : Value → Shared → Prop} (q : Q .notImplemented s) : wpAny (model prog w) A (call (.builtin "NoneType.__lt__") [.none, v]) Q E s :=
  wpAny_call_entry PySem.F.slot_NoneType_lt (T := "NoneType") (by rfl) PySem.F.entry_NoneType_lt (wpAny_pure ⟨_, rfl, q⟩) (PySem.F.args_NoneType_lt_2 _ _)
theorem dc_list_lt {a : Addr} {T : String} {v : Value} (ha : s.TypeIs (.ref a) "list") (hv : s.TypeIs v T) (hs : isSubtype (.type T) (.type "list") = pure false) {Q : Value → Shared → Prop} (q : Q .notImplemented s) : wpAny (model prog w) A (call (.builtin "list.__lt__") [.ref a, v]) Q E s := by
  refine wpAny_call_entry PySem.F.slot_list_lt ha PySem.F.entry_list_lt ?_ (PySem.F.args_list_lt_2 _ _)
  show wpAny _ _ (isInstance v (.type "list") >>= _) _ _ _
  refine wpAny_bind (wpAny_isInstance hv hs ?_)
  exact wpAny_pure ⟨_, rfl, q⟩
theorem rn_le_int_int {p : Int} {t : Tok} {q : Int} {u : Tok} {Q : Value → Shared → Prop} (hu : A.units < cLine) (h : Q (.bool (decide (p ≤ q))) s) : wpAny (model prog w) A (richCompare .LtE (.int p t) (.int q u)) Q E s :=
  wpAny_richCompare_same_room (op := .LtE) (typeIs_int s p t) (typeIs_int s q u) PySem.F.slot_int_le (cn_le_int_int ⟨by simp, h⟩) hu
theorem rn_le_int_bool {p : Int} {t : Tok} {d : Bool} {Q : Value → Shared → Prop} (hu : A.units < cLine) (h : Q (.bool (decide (p ≤ b2i d))) s) : wpAny (model prog w) A (richCompare .LtE (.int p t) (.bool d)) Q E s :=
  rc_right (op := .LtE) rfl (typeIs_int s p t) (PySem.typeIs_bool s d) (by decide) sub_bool_int PySem.F.slot_bool_ge_refl (cn_ge_bool_int ⟨by simp, h⟩) hu
theorem rn_le_bool_int {c : Bool} {q : Int} {u : Tok} {Q : Value → Shared → Prop} (hu : A.units < cLine) (h : Q (.bool (decide (b2i c ≤ q))) s) : wpAny (model prog w) A (richCompare .LtE (.bool c) (.int q u)) Q E s :=
  rc_left (op := .LtE) rfl (PySem.typeIs_bool s c) (typeIs_int s q u) (by decide) sub_int_bool PySem.F.slot_bool_le (cn_le_bool_int ⟨by simp, h⟩) hu
theorem rn_le_bool_bool {c : Bool} {d : Bool} {Q : Value → Shared → Prop} (hu : A.units < cLine) (h : Q (.bool (decide (b2i c ≤ b2i d))) s) : wpAny (model prog w) A (richCompare .LtE (.bool c) (.bool d)) Q E s :=
  wpAny_richCompare_same_room (op := .LtE) (PySem.typeIs_bool s c) (PySem.typeIs_bool s d) PySem.F.slot_bool_le (cn_le_bool_bool ⟨by simp, h⟩) hu
theorem dc_int_le {i : Int} {t : Tok} {v : Value} {d : D} (hd : NonI d) (r : Rp s.heap NoX v d) {Q : Value → Shared → Prop} (q : Q .notImplemented s) : wpAny (model prog w) A (call (.builtin "int.__le__") [.int i t, v]) Q E s := by
  refine wpAny_call_entry PySem.F.slot_int_le (typeIs_int s i t) PySem.F.entry_int_le ?_ (PySem.F.args_int_le_2 _ _)
  show wpAny _ _ (asInt? _ >>= _) _ _ _
  refine wpAny_bind (hd _ _ _ _ _ _ _ r ?_)
  exact wpAny_bind (wpAny_rule (wpAny_pure ⟨_, rfl, q⟩))
theorem dc_bool_le {c : Bool} {v : Value} {d : D} (hd : NonI d) (r : Rp s.heap NoX v d) {Q : Value → Shared → Prop} (q : Q .notImplemented s) : wpAny (model prog w) A (call (.builtin "int.__le__") [.bool c, v]) Q E s := by
  refine wpAny_call_entry PySem.F.slot_bool_le (PySem.typeIs_bool s c) PySem.F.entry_int_le ?_ (PySem.F.args_int_le_2 _ _)
  show wpAny _ _ (asInt? _ >>= _) _ _ _
  refine wpAny_bind (hd _ _ _ _ _ _ _ r ?_)
  exact wpAny_bind (wpAny_rule (wpAny_pure ⟨_, rfl, q⟩))
theorem dc_str_le {i : Str} {t : Tok} {v : Value} {d : D} (hd : NonS d) (r : Rp s.heap NoX v d) {Q : Value → Shared → Prop} (q : Q .notImplemented s) : wpAny (model prog w) A (call (.builtin "str.__le__") [.str i t, v]) Q E s := by
  refine wpAny_call_entry PySem.F.slot_str_le (typeIs_str s i t) PySem.F.entry_str_le ?_ (PySem.F.args_str_le_2 _ _)
  show wpAny _ _ (asStr? _ >>= _) _ _ _
  refine wpAny_bind (hd _ _ _ _ _ _ _ r ?_)
  exact wpAny_bind (wpAny_rule (wpAny_pure ⟨_, rfl, q⟩))
theorem dc_NoneType_le {v : Value} {Q : Value → Shared → Prop} (q : Q .notImplemented s) : wpAny (model prog w) A (call (.builtin "NoneType.__le__") [.none, v]) Q E s :=
  wpAny_call_entry PySem.F.slot_NoneType_le (T := "NoneType") (by rfl) PySem.F.entry_NoneType_le (wpAny_pure ⟨_, rfl, q⟩) (PySem.F.args_NoneType_le_2 _ _)
theorem dc_list_le {a : Addr} {T : String} {v : Value} (ha : s.TypeIs (.ref a) "list") (hv : s.TypeIs v T) (hs : isSubtype (.type T) (.type "list") = pure false) {Q : Value → Shared → Prop} (q : Q .notImplemented s) : wpAny (model prog w) A (call (.builtin "list.__le__") [.ref a, v]) Q E s := by
  refine wpAny_call_entry PySem.F.slot_list_le ha PySem.F.entry_list_le ?_ (PySem.F.args_list_le_2 _ _)
  show wpAny _ _ (isInstance v (.type "list") >>= _) _ _ _
  refine wpAny_bind (wpAny_isInstance hv hs ?_)
  exact wpAny_pure ⟨_, rfl, q⟩
theorem rn_gt_int_int {p : Int} {t : Tok} {q : Int} {u : Tok} {Q : Value → Shared → Prop} (hu : A.units < cLine) (h : Q (.bool (decide (p > q))) s) : wpAny (model prog w) A (richCompare .Gt (.int p t) (.int q u)) Q E s :=
  wpAny_richCompare_same_room (op := .Gt) (typeIs_int s p t) (typeIs_int s q u) PySem.F.slot_int_gt (cn_gt_int_int ⟨by simp, h⟩) hu
theorem rn_gt_int_bool {p : Int} {t : Tok} {d : Bool} {Q : Value → Shared → Prop} (hu : A.units < cLine) (h : Q (.bool (decide (p > b2i d))) s) : wpAny (model prog w) A (richCompare .Gt (.int p t) (.bool d)) Q E s :=
  rc_right (op := .Gt) rfl (typeIs_int s p t) (PySem.typeIs_bool s d) (by decide) sub_bool_int PySem.F.slot_bool_lt_refl (cn_lt_bool_int ⟨by simp, h⟩) hu
theorem rn_gt_bool_int {c : Bool} {q : Int} {u : Tok} {Q : Value → Shared → Prop} (hu : A.units < cLine) (h : Q (.bool (decide (b2i c > q))) s) : wpAny (model prog w) A (richCompare .Gt (.bool c) (.int q u)) Q E s :=
  rc_left (op := .Gt) rfl (PySem.typeIs_bool s c) (typeIs_int s q u) (by decide) sub_int_bool PySem.F.slot_bool_gt (cn_gt_bool_int ⟨by simp, h⟩) hu
theorem rn_gt_bool_bool {c : Bool} {d : Bool} {Q : Value → Shared → Prop} (hu : A.units < cLine) (h : Q (.bool (decide (b2i c > b2i d))) s) : wpAny (model prog w) A (richCompare .Gt (.bool c) (.bool d)) Q E s :=
  wpAny_richCompare_same_room (op := .Gt) (PySem.typeIs_bool s c) (PySem.typeIs_bool s d) PySem.F.slot_bool_gt (cn_gt_bool_bool ⟨by simp, h⟩) hu
theorem dc_int_gt {i : Int} {t : Tok} {v : Value} {d : D} (hd : NonI d) (r : Rp s.heap NoX v d) {Q : Value → Shared → Prop} (q : Q .notImplemented s) : wpAny (model prog w) A (call (.builtin "int.__gt__") [.int i t, v]) Q E s := by
  refine wpAny_call_entry PySem.F.slot_int_gt (typeIs_int s i t) PySem.F.entry_int_gt ?_ (PySem.F.args_int_gt_2 _ _)
  show wpAny _ _ (asInt? _ >>= _) _ _ _
  refine wpAny_bind (hd _ _ _ _ _ _ _ r ?_)
  exact wpAny_bind (wpAny_rule (wpAny_pure ⟨_, rfl, q⟩))
theorem dc_bool_gt {c : Bool} {v : Value} {d : D} (hd : NonI d) (r : Rp s.heap NoX v d) {Q : Value → Shared → Prop} (q : Q .notImplemented s) : wpAny (model prog w) A (call (.builtin "int.__gt__") [.bool c, v]) Q E s := by
  refine wpAny_call_entry PySem.F.slot_bool_gt (PySem.typeIs_bool s c) PySem.F.entry_int_gt ?_ (PySem.F.args_int_gt_2 _ _)
  show wpAny _ _ (asInt? _ >>= _) _ _ _
  refine wpAny_bind (hd _ _ _ _ _ _ _ r ?_)
  exact wpAny_bind (wpAny_rule (wpAny_pure ⟨_, rfl, q⟩))
theorem dc_str_gt {i : Str} {t : Tok} {v : Value} {d : D} (hd : NonS d) (r : Rp s.heap NoX v d) {Q : Value → Shared → Prop} (q : Q .notImplemented s) : wpAny (model prog w) A (call (.builtin "str.__gt__") [.str i t, v]) Q E s := by
  refine wpAny_call_entry PySem.F.slot_str_gt (typeIs_str s i t) PySem.F.entry_str_gt ?_ (PySem.F.args_str_gt_2 _ _)
  show wpAny _ _ (asStr? _ >>= _) _ _ _
  refine wpAny_bind (hd _ _ _ _ _ _ _ r ?_)
  exact wpAny_bind (wpAny_rule (wpAny_pure ⟨_, rfl, q⟩))
theorem dc_NoneType_gt {v : Value} {Q : Value → Shared → Prop} (q : Q .notImplemented s) : wpAny (model prog w) A (call (.builtin "NoneType.__gt__") [.none, v]) Q E s :=
  wpAny_call_entry PySem.F.slot_NoneType_gt (T := "NoneType") (by rfl) PySem.F.entry_NoneType_gt (wpAny_pure ⟨_, rfl, q⟩) (PySem.F.args_NoneType_gt_2 _ _)
theorem dc_list_gt {a : Addr} {T : String} {v : Value} (ha : s.TypeIs (.ref a) "list") (hv : s.TypeIs v T) (hs : isSubtype (.type T) (.type "list") = pure false) {Q : Value → Shared → Prop} (q : Q .notImplemented s) : wpAny (model prog w) A (call (.builtin "list.__gt__") [.ref a, v]) Q E s := by
  refine wpAny_call_entry PySem.F.slot_list_gt ha PySem.F.entry_list_gt ?_ (PySem.F.args_list_gt_2 _ _)
  show wpAny _ _ (isInstance v (.type "list") >>= _) _ _ _
  refine wpAny_bind (wpAny_isInstance hv hs ?_)
  exact wpAny_pure ⟨_, rfl, q⟩
theorem rn_ge_int_int {p : Int} {t : Tok} {q : Int} {u : Tok} {Q : Value → Shared → Prop} (hu : A.units < cLine) (h : Q (.bool (decide (p ≥ q))) s) : wpAny (model prog w) A (richCompare .GtE (.int p t) (.int q u)) Q E s :=
  wpAny_richCompare_same_room (op := .GtE) (typeIs_int s p t) (typeIs_int s q u) PySem.F.slot_int_ge (cn_ge_int_int ⟨by simp, h⟩) hu
theorem rn_ge_int_bool {p : Int} {t : Tok} {d : Bool} {Q : Value → Shared → Prop} (hu : A.units < cLine) (h : Q (.bool (decide (p ≥ b2i d))) s) : wpAny (model prog w) A (richCompare .GtE (.int p t) (.bool d)) Q E s :=
  rc_right (op := .GtE) rfl (typeIs_int s p t) (PySem.typeIs_bool s d) (by decide) sub_bool_int PySem.F.slot_bool_le_refl (cn_le_bool_int ⟨by simp, h⟩) hu
theorem rn_ge_bool_int {c : Bool} {q : Int} {u : Tok} {Q : Value → Shared → Prop} (hu : A.units < cLine) (h : Q (.bool (decide (b2i c ≥ q))) s) : wpAny (model prog w) A (richCompare .GtE (.bool c) (.int q u)) Q E s :=
  rc_left (op := .GtE) rfl (PySem.typeIs_bool s c) (typeIs_int s q u) (by decide) sub_int_bool PySem.F.slot_bool_ge (cn_ge_bool_int ⟨by simp, h⟩) hu
theorem rn_ge_bool_bool {c : Bool} {d : Bool} {Q : Value → Shared → Prop} (hu : A.units < cLine) (h : Q (.bool (decide (b2i c ≥ b2i d))) s) : wpAny (model prog w) A (richCompare .GtE (.bool c) (.bool d)) Q E s :=
  wpAny_richCompare_same_room (op := .GtE) (PySem.typeIs_bool s c) (PySem.typeIs_bool s d) PySem.F.slot_bool_ge (cn_ge_bool_bool ⟨by simp, h⟩) hu
theorem dc_int_ge {i : Int} {t : Tok} {v : Value} {d : D} (hd : NonI d) (r : Rp s.heap NoX v d) {Q : Value → Shared → Prop} (q : Q .notImplemented s) : wpAny (model prog w) A (call (.builtin "int.__ge__") [.int i t, v]) Q E s := by
  refine wpAny_call_entry PySem.F.slot_int_ge (typeIs_int s i t) PySem.F.entry_int_ge ?_ (PySem.F.args_int_ge_2 _ _)
  show wpAny _ _ (asInt? _ >>= _) _ _ _
  refine wpAny_bind (hd _ _ _ _ _ _ _ r ?_)
  exact wpAny_bind (wpAny_rule (wpAny_pure ⟨_, rfl, q⟩))
theorem dc_bool_ge {c : Bool} {v : Value} {d : D} (hd : NonI d) (r : Rp s.heap NoX v d) {Q : Value → Shared → Prop} (q : Q .notImplemented s) : wpAny (model prog w) A (call (.builtin "int.__ge__") [.bool c, v]) Q E s := by
  refine wpAny_call_entry PySem.F.slot_bool_ge (PySem.typeIs_bool s c) PySem.F.entry_int_ge ?_ (PySem.F.args_int_ge_2 _ _)
  show wpAny _ _ (asInt? _ >>= _) _ _ _
  refine wpAny_bind (hd _ _ _ _ _ _ _ r ?_)
  exact wpAny_bind (wpAny_rule (wpAny_pure ⟨_, rfl, q⟩))
theorem dc_str_ge {i : Str} {t : Tok} {v : Value} {d : D} (hd : NonS d) (r : Rp s.heap NoX v d) {Q : Value → Shared → Prop} (q : Q .notImplemented s) : wpAny (model prog w) A (call (.builtin "str.__ge__") [.str i t, v]) Q E s := by
  refine wpAny_call_entry PySem.F.slot_str_ge (typeIs_str s i t) PySem.F.entry_str_ge ?_ (PySem.F.args_str_ge_2 _ _)
  show wpAny _ _ (asStr? _ >>= _) _ _ _
  refine wpAny_bind (hd _ _ _ _ _ _ _ r ?_)
  exact wpAny_bind (wpAny_rule (wpAny_pure ⟨_, rfl, q⟩))
theorem dc_NoneType_ge {v : Value} {Q : Value → Shared → Prop} (q : Q .notImplemented s) : wpAny (model prog w) A (call (.builtin "NoneType.__ge__") [.none, v]) Q E s :=
  wpAny_call_entry PySem.F.slot_NoneType_ge (T := "NoneType") (by rfl) PySem.F.entry_NoneType_ge (wpAny_pure ⟨_, rfl, q⟩) (PySem.F.args_NoneType_ge_2 _ _)
theorem dc_list_ge {a : Addr} {T : String} {v : Value} (ha : s.TypeIs (.ref a) "list") (hv : s.TypeIs v T) (hs : isSubtype (.type T) (.type "list") = pure false) {Q : Value → Shared → Prop} (q : Q .notImplemented s) : wpAny (model prog w) A (call (.builtin "list.__ge__") [.ref a, v]) Q E s := by
  refine wpAny_call_entry PySem.F.slot_list_ge ha PySem.F.entry_list_ge ?_ (PySem.F.args_list_ge_2 _ _)
  show wpAny _ _ (isInstance v (.type "list") >>= _) _ _ _
  refine wpAny_bind (wpAny_isInstance hv hs ?_)
  exact wpAny_pure ⟨_, rfl, q⟩
end

/-- what two rows come to: the first unlike ones, else fin -/
def loopOut (po : PyData → PyData → Out) (fin : Bool) : List PyData → List PyData → Out
  | x :: xs, y :: ys => if PyData.eqv x y = true then loopOut po fin xs ys else po x y
  | _, _ => .val fin
theorem OutR.of_Q {s : Shared} {Q E : Value → Shared → Prop} {R : Result → Shared → Prop} (hq : ∀ v s', Q v s' → R (.ok (.ret v)) s') (he : ∀ e s', E e s' → R (.error e) s') : ∀ {o : Out}, OutQ s Q E o → OutR s R o
  | .val b, h => hq _ _ h
  | .err m, h => fun h' tk tk' e x => he _ _ (h h' tk tk' e x)
section
variable {prog : Program} {w : World} {A : Around} {E : Value → Shared → Prop} {s : Shared}
theorem ofAll_length : ∀ xs : List PyData, (D.ofAll xs).length = xs.length
  | [] => rfl
  | _ :: r => by rw [D.ofAll, List.length_cons, List.length_cons, ofAll_length r]
set_option maxHeartbeats 2000000 in
theorem loop_lt {l b : Addr} {vs ws : List Value} {n m : Nat} {dd dd2 : Option Addr} {sl sl2 : Array (Option Value)} (hl : s.heap.get? l = some { cls := .type "list", dict := dd, data := .seq vs.toArray n, slots := sl }) (hb : s.heap.get? b = some { cls := .type "list", dict := dd2, data := .seq ws.toArray m, slots := sl2 }) (hu : A.units + 20 < cLine)
    (T : PyData → Prop) (hT : ∀ x, T x → PyData.canLay0 x = true ∧ PyData.depth x ≤ 2) (po : PyData → PyData → Out)
    (hp : ∀ (x y : PyData) (va vb : Value) (Q E : Value → Shared → Prop), T x → T y → PyData.eqv x y = false → Rp s.heap NoX va (D.of x) → Rp s.heap NoX vb (D.of y) → OutQ s Q E (po x y) → wpAny (model prog w) A.in1 (richCompare .Lt va vb) Q E s) :
    ∀ (xs ys : List PyData) (i : Nat) (R : Result → Shared → Prop), i ≤ vs.length → i ≤ ws.length → (∀ x ∈ xs, T x) → (∀ y ∈ ys, T y) → RpAll s.heap NoX (vs.drop i) (D.ofAll xs) → RpAll s.heap NoX (ws.drop i) (D.ofAll ys) → OutR s R (loopOut po (decide (vs.length < ws.length)) xs ys) →
      wpAny (model prog w) A.in1 (Builtin.«list.__eq__.loop» ⟨[.ref l, .ref b, rawInt i, rawInt 0], []⟩) (fun fin s' => match fin with | .done f => R (.ok f) s' | .again c' => c'.quiet = true ∧ codeAny (model prog w) A c' R s') (fun e s' => R (.error e) s') s := by
  intro xs
  induction xs with
  | nil =>
    intro ys i R h1 h2 t1 t2 r1 r2 q
    have e1 : vs.length = i := by have := r1.length; rw [ofAll_length] at this; simp at this; omega
    obtain ⟨hp', g, d, tk, os⟩ := s
    have hi1 : vs.toArray[((i : Nat) : Int).toNat]? = none := by simp; omega
    wp_walk using AutoSeq1.wpAny_loadPart' hl, AutoSeq1.wpAny_loadPart' hb
    rw [hi1]
    wp_walk using AutoSeq1.wpAny_loadPart' hl, AutoSeq1.wpAny_loadPart' hb
    show R (.ok (.ret (.bool (decide (vs.toArray.size < ws.toArray.size))))) _
    simp only [List.size_toArray]
    exact q
  | cons x xs ih =>
    intro ys i R h1 h2 t1 t2 r1 r2 q
    have e1 : vs.length = i + (xs.length + 1) := by have := r1.length; rw [ofAll_length] at this; simp at this; omega
    have e2 : ws.length = i + ys.length := by have := r2.length; rw [ofAll_length] at this; simp at this; omega
    have hc : ((i : Int) + 1) = ((i + 1 : Nat) : Int) := by push_cast; rfl
    have hi1 : vs.toArray[((i : Nat) : Int).toNat]? = some vs[i] := by simp
    cases ys with
    | nil =>
      have hi2 : ws.toArray[((i : Nat) : Int).toNat]? = none := by simp at e2 ⊢; omega
      obtain ⟨hp', g, d, tk, os⟩ := s
      wp_walk using AutoSeq1.wpAny_loadPart' hl, AutoSeq1.wpAny_loadPart' hb
      rw [hi1, hi2]
      wp_walk using AutoSeq1.wpAny_loadPart' hl, AutoSeq1.wpAny_loadPart' hb
      show R (.ok (.ret (.bool (decide (vs.toArray.size < ws.toArray.size))))) _
      simp only [List.size_toArray]
      exact q
    | cons y ys =>
      simp only [List.length_cons] at e2
      have hi2 : ws.toArray[((i : Nat) : Int).toNat]? = some ws[i] := by simp
      rw [List.drop_eq_getElem_cons (by omega)] at r1 r2
      rw [D.ofAll] at r1 r2
      cases r1 with | cons rx rxs =>
      cases r2 with | cons ry rys =>
      have tx := t1 x (List.mem_cons_self ..)
      have ty := t2 y (List.mem_cons_self ..)
      obtain ⟨as, ra⟩ := Rp.reads (hT x tx).1 rx
      obtain ⟨bs, rb⟩ := Rp.reads (hT y ty).1 ry
      have eqb : ∀ {Q' : Bool → Shared → Prop} {E' : Value → Shared → Prop}, Q' (PyData.eqv x y) s → wpAny (model prog w) A.in1 (eqBool vs[i] ws[i]) Q' E' s := fun {Q' E'} hq => SeqAt.eqBoolOverData prog w A.in1 E' s _ _ x y as bs Q' ra rb (hT x tx).1 (hT y ty).1 (by show A.units + 1 + min (PyData.depth x) (PyData.depth y) < cLine; have := (hT x tx).2; omega) hq
      have hpr : ∀ (Q E : Value → Shared → Prop), PyData.eqv x y = false → OutQ s Q E (po x y) → wpAny (model prog w) A.in1 (richCompare .Lt vs[i] ws[i]) Q E s := fun Q E h q => hp x y _ _ Q E tx ty h rx ry q
      obtain ⟨hp', g, d, tk, os⟩ := s
      wp_walk using AutoSeq1.wpAny_loadPart' hl, AutoSeq1.wpAny_loadPart' hb
      rw [hi1, hi2]
      refine wpAny_bind (eqb ?_)
      unfold loopOut at q
      cases hxy : PyData.eqv x y with
      | true =>
        rw [if_pos hxy] at q
        wp_walk
        rw [hc]
        exact ⟨plainId_quiet MeetsSeq3.plain_eq_loop _, codeAny_builtin MeetsSeq3.entry_eq_loop (by
          rw [Around.under_plainId MeetsSeq3.plain_eq_loop _]
          exact ih ys (i + 1) R (by omega) (by omega) (fun z hz => t1 z (List.mem_cons_of_mem _ hz)) (fun z hz => t2 z (List.mem_cons_of_mem _ hz)) rxs rys q)⟩
      | false =>
        rw [if_neg (by rw [hxy]; decide)] at q
        wp_walk using AutoSeq1.wpAny_loadPart' hl, AutoSeq1.wpAny_loadPart' hb
        rw [hi1, hi2]
        dsimp only
        refine wpAny_bind (hpr _ _ hxy ?_)
        cases ho : po x y with
        | val c => rw [ho] at q; exact wpAny_pure q
        | err msg => rw [ho] at q; exact q
set_option maxHeartbeats 2000000 in
theorem call_list_lt {l b : Addr} {vs ws : List Value} (hl : s.heap.IsList l vs.toArray) (hb : s.heap.IsList b ws.toArray) (hu : A.units + 20 < cLine) {Q : Value → Shared → Prop}
    (T : PyData → Prop) (hT : ∀ x, T x → PyData.canLay0 x = true ∧ PyData.depth x ≤ 2) (po : PyData → PyData → Out)
    (hp : ∀ (prog : Program) (w : World) (x y : PyData) (va vb : Value) (Q E : Value → Shared → Prop), T x → T y → PyData.eqv x y = false → Rp s.heap NoX va (D.of x) → Rp s.heap NoX vb (D.of y) → OutQ s Q E (po x y) → wpAny (model prog w) A.in1 (richCompare .Lt va vb) Q E s)
    {xs ys : List PyData} (t1 : ∀ x ∈ xs, T x) (t2 : ∀ y ∈ ys, T y) (r1 : RpAll s.heap NoX vs (D.ofAll xs)) (r2 : RpAll s.heap NoX ws (D.ofAll ys)) (q : OutQ s Q E (loopOut po (decide (xs.length < ys.length)) xs ys)) : wpAny (model prog w) A (call (.builtin "list.__lt__") [.ref l, .ref b]) Q E s := by
  obtain ⟨⟨cls, dd, data, sl⟩, ho, hc, k, hd⟩ := id hl
  simp only at hc hd; subst hc hd
  obtain ⟨⟨cls2, dd2, data2, sl2⟩, ho2, hc2, k2, hd2⟩ := id hb
  simp only at hc2 hd2; subst hc2 hd2
  have l1 := r1.length; have l2 := r2.length
  rw [ofAll_length] at l1 l2
  rw [← l1, ← l2] at q
  refine call_meets PySem.F.slot_list_lt ⟨_, ho, rfl⟩ PySem.F.entry_list_lt (PySem.F.args_list_lt_2 _ _) (S := fun A' R s' => A' = A ∧ s' = s ∧ OutR s R (loopOut po (decide (vs.length < ws.length)) xs ys)) ?_ ⟨rfl, rfl, OutR.of_Q (fun _ _ h => h) (fun _ _ h => h) q⟩
  rintro prog' w' A' R s' ⟨rfl, rfl, h⟩
  have hp2 := hp prog' w'
  obtain ⟨hp', g, d, tk, os⟩ := s'
  have f3 := AutoSeq1.sub_list_list
  wp_walk using AutoSeq1.wpAny_loadPart' ho, AutoSeq1.wpAny_loadPart' ho2
  exact ⟨plainId_quiet MeetsSeq3.plain_eq_loop _, codeAny_builtin MeetsSeq3.entry_eq_loop (by
    rw [Around.under_plainId MeetsSeq3.plain_eq_loop _]
    exact loop_lt (i := 0) ho ho2 hu T hT po hp2 xs ys R (Nat.zero_le _) (Nat.zero_le _) t1 t2 r1 r2 h)⟩
set_option maxHeartbeats 2000000 in
theorem loop_le {l b : Addr} {vs ws : List Value} {n m : Nat} {dd dd2 : Option Addr} {sl sl2 : Array (Option Value)} (hl : s.heap.get? l = some { cls := .type "list", dict := dd, data := .seq vs.toArray n, slots := sl }) (hb : s.heap.get? b = some { cls := .type "list", dict := dd2, data := .seq ws.toArray m, slots := sl2 }) (hu : A.units + 20 < cLine)
    (T : PyData → Prop) (hT : ∀ x, T x → PyData.canLay0 x = true ∧ PyData.depth x ≤ 2) (po : PyData → PyData → Out)
    (hp : ∀ (x y : PyData) (va vb : Value) (Q E : Value → Shared → Prop), T x → T y → PyData.eqv x y = false → Rp s.heap NoX va (D.of x) → Rp s.heap NoX vb (D.of y) → OutQ s Q E (po x y) → wpAny (model prog w) A.in1 (richCompare .LtE va vb) Q E s) :
    ∀ (xs ys : List PyData) (i : Nat) (R : Result → Shared → Prop), i ≤ vs.length → i ≤ ws.length → (∀ x ∈ xs, T x) → (∀ y ∈ ys, T y) → RpAll s.heap NoX (vs.drop i) (D.ofAll xs) → RpAll s.heap NoX (ws.drop i) (D.ofAll ys) → OutR s R (loopOut po (decide (vs.length ≤ ws.length)) xs ys) →
      wpAny (model prog w) A.in1 (Builtin.«list.__eq__.loop» ⟨[.ref l, .ref b, rawInt i, rawInt 1], []⟩) (fun fin s' => match fin with | .done f => R (.ok f) s' | .again c' => c'.quiet = true ∧ codeAny (model prog w) A c' R s') (fun e s' => R (.error e) s') s := by
  intro xs
  induction xs with
  | nil =>
    intro ys i R h1 h2 t1 t2 r1 r2 q
    have e1 : vs.length = i := by have := r1.length; rw [ofAll_length] at this; simp at this; omega
    obtain ⟨hp', g, d, tk, os⟩ := s
    have hi1 : vs.toArray[((i : Nat) : Int).toNat]? = none := by simp; omega
    wp_walk using AutoSeq1.wpAny_loadPart' hl, AutoSeq1.wpAny_loadPart' hb
    rw [hi1]
    wp_walk using AutoSeq1.wpAny_loadPart' hl, AutoSeq1.wpAny_loadPart' hb
    show R (.ok (.ret (.bool (decide (vs.toArray.size ≤ ws.toArray.size))))) _
    simp only [List.size_toArray]
    exact q
  | cons x xs ih =>
    intro ys i R h1 h2 t1 t2 r1 r2 q
    have e1 : vs.length = i + (xs.length + 1) := by have := r1.length; rw [ofAll_length] at this; simp at this; omega
    have e2 : ws.length = i + ys.length := by have := r2.length; rw [ofAll_length] at this; simp at this; omega
    have hc : ((i : Int) + 1) = ((i + 1 : Nat) : Int) := by push_cast; rfl
    have hi1 : vs.toArray[((i : Nat) : Int).toNat]? = some vs[i] := by simp
    cases ys with
    | nil =>
      have hi2 : ws.toArray[((i : Nat) : Int).toNat]? = none := by simp at e2 ⊢; omega
      obtain ⟨hp', g, d, tk, os⟩ := s
      wp_walk using AutoSeq1.wpAny_loadPart' hl, AutoSeq1.wpAny_loadPart' hb
      rw [hi1, hi2]
      wp_walk using AutoSeq1.wpAny_loadPart' hl, AutoSeq1.wpAny_loadPart' hb
      show R (.ok (.ret (.bool (decide (vs.toArray.size ≤ ws.toArray.size))))) _
      simp only [List.size_toArray]
      exact q
    | cons y ys =>
      simp only [List.length_cons] at e2
      have hi2 : ws.toArray[((i : Nat) : Int).toNat]? = some ws[i] := by simp
      rw [List.drop_eq_getElem_cons (by omega)] at r1 r2
      rw [D.ofAll] at r1 r2
      cases r1 with | cons rx rxs =>
      cases r2 with | cons ry rys =>
      have tx := t1 x (List.mem_cons_self ..)
      have ty := t2 y (List.mem_cons_self ..)
      obtain ⟨as, ra⟩ := Rp.reads (hT x tx).1 rx
      obtain ⟨bs, rb⟩ := Rp.reads (hT y ty).1 ry
      have eqb : ∀ {Q' : Bool → Shared → Prop} {E' : Value → Shared → Prop}, Q' (PyData.eqv x y) s → wpAny (model prog w) A.in1 (eqBool vs[i] ws[i]) Q' E' s := fun {Q' E'} hq => SeqAt.eqBoolOverData prog w A.in1 E' s _ _ x y as bs Q' ra rb (hT x tx).1 (hT y ty).1 (by show A.units + 1 + min (PyData.depth x) (PyData.depth y) < cLine; have := (hT x tx).2; omega) hq
      have hpr : ∀ (Q E : Value → Shared → Prop), PyData.eqv x y = false → OutQ s Q E (po x y) → wpAny (model prog w) A.in1 (richCompare .LtE vs[i] ws[i]) Q E s := fun Q E h q => hp x y _ _ Q E tx ty h rx ry q
      obtain ⟨hp', g, d, tk, os⟩ := s
      wp_walk using AutoSeq1.wpAny_loadPart' hl, AutoSeq1.wpAny_loadPart' hb
      rw [hi1, hi2]
      refine wpAny_bind (eqb ?_)
      unfold loopOut at q
      cases hxy : PyData.eqv x y with
      | true =>
        rw [if_pos hxy] at q
        wp_walk
        rw [hc]
        exact ⟨plainId_quiet MeetsSeq3.plain_eq_loop _, codeAny_builtin MeetsSeq3.entry_eq_loop (by
          rw [Around.under_plainId MeetsSeq3.plain_eq_loop _]
          exact ih ys (i + 1) R (by omega) (by omega) (fun z hz => t1 z (List.mem_cons_of_mem _ hz)) (fun z hz => t2 z (List.mem_cons_of_mem _ hz)) rxs rys q)⟩
      | false =>
        rw [if_neg (by rw [hxy]; decide)] at q
        wp_walk using AutoSeq1.wpAny_loadPart' hl, AutoSeq1.wpAny_loadPart' hb
        rw [hi1, hi2]
        dsimp only
        refine wpAny_bind (hpr _ _ hxy ?_)
        cases ho : po x y with
        | val c => rw [ho] at q; exact wpAny_pure q
        | err msg => rw [ho] at q; exact q
set_option maxHeartbeats 2000000 in
theorem call_list_le {l b : Addr} {vs ws : List Value} (hl : s.heap.IsList l vs.toArray) (hb : s.heap.IsList b ws.toArray) (hu : A.units + 20 < cLine) {Q : Value → Shared → Prop}
    (T : PyData → Prop) (hT : ∀ x, T x → PyData.canLay0 x = true ∧ PyData.depth x ≤ 2) (po : PyData → PyData → Out)
    (hp : ∀ (prog : Program) (w : World) (x y : PyData) (va vb : Value) (Q E : Value → Shared → Prop), T x → T y → PyData.eqv x y = false → Rp s.heap NoX va (D.of x) → Rp s.heap NoX vb (D.of y) → OutQ s Q E (po x y) → wpAny (model prog w) A.in1 (richCompare .LtE va vb) Q E s)
    {xs ys : List PyData} (t1 : ∀ x ∈ xs, T x) (t2 : ∀ y ∈ ys, T y) (r1 : RpAll s.heap NoX vs (D.ofAll xs)) (r2 : RpAll s.heap NoX ws (D.ofAll ys)) (q : OutQ s Q E (loopOut po (decide (xs.length ≤ ys.length)) xs ys)) : wpAny (model prog w) A (call (.builtin "list.__le__") [.ref l, .ref b]) Q E s := by
  obtain ⟨⟨cls, dd, data, sl⟩, ho, hc, k, hd⟩ := id hl
  simp only at hc hd; subst hc hd
  obtain ⟨⟨cls2, dd2, data2, sl2⟩, ho2, hc2, k2, hd2⟩ := id hb
  simp only at hc2 hd2; subst hc2 hd2
  have l1 := r1.length; have l2 := r2.length
  rw [ofAll_length] at l1 l2
  rw [← l1, ← l2] at q
  refine call_meets PySem.F.slot_list_le ⟨_, ho, rfl⟩ PySem.F.entry_list_le (PySem.F.args_list_le_2 _ _) (S := fun A' R s' => A' = A ∧ s' = s ∧ OutR s R (loopOut po (decide (vs.length ≤ ws.length)) xs ys)) ?_ ⟨rfl, rfl, OutR.of_Q (fun _ _ h => h) (fun _ _ h => h) q⟩
  rintro prog' w' A' R s' ⟨rfl, rfl, h⟩
  have hp2 := hp prog' w'
  obtain ⟨hp', g, d, tk, os⟩ := s'
  have f3 := AutoSeq1.sub_list_list
  wp_walk using AutoSeq1.wpAny_loadPart' ho, AutoSeq1.wpAny_loadPart' ho2
  exact ⟨plainId_quiet MeetsSeq3.plain_eq_loop _, codeAny_builtin MeetsSeq3.entry_eq_loop (by
    rw [Around.under_plainId MeetsSeq3.plain_eq_loop _]
    exact loop_le (i := 0) ho ho2 hu T hT po hp2 xs ys R (Nat.zero_le _) (Nat.zero_le _) t1 t2 r1 r2 h)⟩
set_option maxHeartbeats 2000000 in
theorem loop_gt {l b : Addr} {vs ws : List Value} {n m : Nat} {dd dd2 : Option Addr} {sl sl2 : Array (Option Value)} (hl : s.heap.get? l = some { cls := .type "list", dict := dd, data := .seq vs.toArray n, slots := sl }) (hb : s.heap.get? b = some { cls := .type "list", dict := dd2, data := .seq ws.toArray m, slots := sl2 }) (hu : A.units + 20 < cLine)
    (T : PyData → Prop) (hT : ∀ x, T x → PyData.canLay0 x = true ∧ PyData.depth x ≤ 2) (po : PyData → PyData → Out)
    (hp : ∀ (x y : PyData) (va vb : Value) (Q E : Value → Shared → Prop), T x → T y → PyData.eqv x y = false → Rp s.heap NoX va (D.of x) → Rp s.heap NoX vb (D.of y) → OutQ s Q E (po x y) → wpAny (model prog w) A.in1 (richCompare .Gt va vb) Q E s) :
    ∀ (xs ys : List PyData) (i : Nat) (R : Result → Shared → Prop), i ≤ vs.length → i ≤ ws.length → (∀ x ∈ xs, T x) → (∀ y ∈ ys, T y) → RpAll s.heap NoX (vs.drop i) (D.ofAll xs) → RpAll s.heap NoX (ws.drop i) (D.ofAll ys) → OutR s R (loopOut po (decide (vs.length > ws.length)) xs ys) →
      wpAny (model prog w) A.in1 (Builtin.«list.__eq__.loop» ⟨[.ref l, .ref b, rawInt i, rawInt 4], []⟩) (fun fin s' => match fin with | .done f => R (.ok f) s' | .again c' => c'.quiet = true ∧ codeAny (model prog w) A c' R s') (fun e s' => R (.error e) s') s := by
  intro xs
  induction xs with
  | nil =>
    intro ys i R h1 h2 t1 t2 r1 r2 q
    have e1 : vs.length = i := by have := r1.length; rw [ofAll_length] at this; simp at this; omega
    obtain ⟨hp', g, d, tk, os⟩ := s
    have hi1 : vs.toArray[((i : Nat) : Int).toNat]? = none := by simp; omega
    wp_walk using AutoSeq1.wpAny_loadPart' hl, AutoSeq1.wpAny_loadPart' hb
    rw [hi1]
    wp_walk using AutoSeq1.wpAny_loadPart' hl, AutoSeq1.wpAny_loadPart' hb
    show R (.ok (.ret (.bool (decide (vs.toArray.size > ws.toArray.size))))) _
    simp only [List.size_toArray]
    exact q
  | cons x xs ih =>
    intro ys i R h1 h2 t1 t2 r1 r2 q
    have e1 : vs.length = i + (xs.length + 1) := by have := r1.length; rw [ofAll_length] at this; simp at this; omega
    have e2 : ws.length = i + ys.length := by have := r2.length; rw [ofAll_length] at this; simp at this; omega
    have hc : ((i : Int) + 1) = ((i + 1 : Nat) : Int) := by push_cast; rfl
    have hi1 : vs.toArray[((i : Nat) : Int).toNat]? = some vs[i] := by simp
    cases ys with
    | nil =>
      have hi2 : ws.toArray[((i : Nat) : Int).toNat]? = none := by simp at e2 ⊢; omega
      obtain ⟨hp', g, d, tk, os⟩ := s
      wp_walk using AutoSeq1.wpAny_loadPart' hl, AutoSeq1.wpAny_loadPart' hb
      rw [hi1, hi2]
      wp_walk using AutoSeq1.wpAny_loadPart' hl, AutoSeq1.wpAny_loadPart' hb
      show R (.ok (.ret (.bool (decide (vs.toArray.size > ws.toArray.size))))) _
      simp only [List.size_toArray]
      exact q
    | cons y ys =>
      simp only [List.length_cons] at e2
      have hi2 : ws.toArray[((i : Nat) : Int).toNat]? = some ws[i] := by simp
      rw [List.drop_eq_getElem_cons (by omega)] at r1 r2
      rw [D.ofAll] at r1 r2
      cases r1 with | cons rx rxs =>
      cases r2 with | cons ry rys =>
      have tx := t1 x (List.mem_cons_self ..)
      have ty := t2 y (List.mem_cons_self ..)
      obtain ⟨as, ra⟩ := Rp.reads (hT x tx).1 rx
      obtain ⟨bs, rb⟩ := Rp.reads (hT y ty).1 ry
      have eqb : ∀ {Q' : Bool → Shared → Prop} {E' : Value → Shared → Prop}, Q' (PyData.eqv x y) s → wpAny (model prog w) A.in1 (eqBool vs[i] ws[i]) Q' E' s := fun {Q' E'} hq => SeqAt.eqBoolOverData prog w A.in1 E' s _ _ x y as bs Q' ra rb (hT x tx).1 (hT y ty).1 (by show A.units + 1 + min (PyData.depth x) (PyData.depth y) < cLine; have := (hT x tx).2; omega) hq
      have hpr : ∀ (Q E : Value → Shared → Prop), PyData.eqv x y = false → OutQ s Q E (po x y) → wpAny (model prog w) A.in1 (richCompare .Gt vs[i] ws[i]) Q E s := fun Q E h q => hp x y _ _ Q E tx ty h rx ry q
      obtain ⟨hp', g, d, tk, os⟩ := s
      wp_walk using AutoSeq1.wpAny_loadPart' hl, AutoSeq1.wpAny_loadPart' hb
      rw [hi1, hi2]
      refine wpAny_bind (eqb ?_)
      unfold loopOut at q
      cases hxy : PyData.eqv x y with
      | true =>
        rw [if_pos hxy] at q
        wp_walk
        rw [hc]
        exact ⟨plainId_quiet MeetsSeq3.plain_eq_loop _, codeAny_builtin MeetsSeq3.entry_eq_loop (by
          rw [Around.under_plainId MeetsSeq3.plain_eq_loop _]
          exact ih ys (i + 1) R (by omega) (by omega) (fun z hz => t1 z (List.mem_cons_of_mem _ hz)) (fun z hz => t2 z (List.mem_cons_of_mem _ hz)) rxs rys q)⟩
      | false =>
        rw [if_neg (by rw [hxy]; decide)] at q
        wp_walk using AutoSeq1.wpAny_loadPart' hl, AutoSeq1.wpAny_loadPart' hb
        rw [hi1, hi2]
        dsimp only
        refine wpAny_bind (hpr _ _ hxy ?_)
        cases ho : po x y with
        | val c => rw [ho] at q; exact wpAny_pure q
        | err msg => rw [ho] at q; exact q
set_option maxHeartbeats 2000000 in
theorem call_list_gt {l b : Addr} {vs ws : List Value} (hl : s.heap.IsList l vs.toArray) (hb : s.heap.IsList b ws.toArray) (hu : A.units + 20 < cLine) {Q : Value → Shared → Prop}
    (T : PyData → Prop) (hT : ∀ x, T x → PyData.canLay0 x = true ∧ PyData.depth x ≤ 2) (po : PyData → PyData → Out)
    (hp : ∀ (prog : Program) (w : World) (x y : PyData) (va vb : Value) (Q E : Value → Shared → Prop), T x → T y → PyData.eqv x y = false → Rp s.heap NoX va (D.of x) → Rp s.heap NoX vb (D.of y) → OutQ s Q E (po x y) → wpAny (model prog w) A.in1 (richCompare .Gt va vb) Q E s)
    {xs ys : List PyData} (t1 : ∀ x ∈ xs, T x) (t2 : ∀ y ∈ ys, T y) (r1 : RpAll s.heap NoX vs (D.ofAll xs)) (r2 : RpAll s.heap NoX ws (D.ofAll ys)) (q : OutQ s Q E (loopOut po (decide (xs.length > ys.length)) xs ys)) : wpAny (model prog w) A (call (.builtin "list.__gt__") [.ref l, .ref b]) Q E s := by
  obtain ⟨⟨cls, dd, data, sl⟩, ho, hc, k, hd⟩ := id hl
  simp only at hc hd; subst hc hd
  obtain ⟨⟨cls2, dd2, data2, sl2⟩, ho2, hc2, k2, hd2⟩ := id hb
  simp only at hc2 hd2; subst hc2 hd2
  have l1 := r1.length; have l2 := r2.length
  rw [ofAll_length] at l1 l2
  rw [← l1, ← l2] at q
  refine call_meets PySem.F.slot_list_gt ⟨_, ho, rfl⟩ PySem.F.entry_list_gt (PySem.F.args_list_gt_2 _ _) (S := fun A' R s' => A' = A ∧ s' = s ∧ OutR s R (loopOut po (decide (vs.length > ws.length)) xs ys)) ?_ ⟨rfl, rfl, OutR.of_Q (fun _ _ h => h) (fun _ _ h => h) q⟩
  rintro prog' w' A' R s' ⟨rfl, rfl, h⟩
  have hp2 := hp prog' w'
  obtain ⟨hp', g, d, tk, os⟩ := s'
  have f3 := AutoSeq1.sub_list_list
  wp_walk using AutoSeq1.wpAny_loadPart' ho, AutoSeq1.wpAny_loadPart' ho2
  exact ⟨plainId_quiet MeetsSeq3.plain_eq_loop _, codeAny_builtin MeetsSeq3.entry_eq_loop (by
    rw [Around.under_plainId MeetsSeq3.plain_eq_loop _]
    exact loop_gt (i := 0) ho ho2 hu T hT po hp2 xs ys R (Nat.zero_le _) (Nat.zero_le _) t1 t2 r1 r2 h)⟩
set_option maxHeartbeats 2000000 in
theorem loop_ge {l b : Addr} {vs ws : List Value} {n m : Nat} {dd dd2 : Option Addr} {sl sl2 : Array (Option Value)} (hl : s.heap.get? l = some { cls := .type "list", dict := dd, data := .seq vs.toArray n, slots := sl }) (hb : s.heap.get? b = some { cls := .type "list", dict := dd2, data := .seq ws.toArray m, slots := sl2 }) (hu : A.units + 20 < cLine)
    (T : PyData → Prop) (hT : ∀ x, T x → PyData.canLay0 x = true ∧ PyData.depth x ≤ 2) (po : PyData → PyData → Out)
    (hp : ∀ (x y : PyData) (va vb : Value) (Q E : Value → Shared → Prop), T x → T y → PyData.eqv x y = false → Rp s.heap NoX va (D.of x) → Rp s.heap NoX vb (D.of y) → OutQ s Q E (po x y) → wpAny (model prog w) A.in1 (richCompare .GtE va vb) Q E s) :
    ∀ (xs ys : List PyData) (i : Nat) (R : Result → Shared → Prop), i ≤ vs.length → i ≤ ws.length → (∀ x ∈ xs, T x) → (∀ y ∈ ys, T y) → RpAll s.heap NoX (vs.drop i) (D.ofAll xs) → RpAll s.heap NoX (ws.drop i) (D.ofAll ys) → OutR s R (loopOut po (decide (vs.length ≥ ws.length)) xs ys) →
      wpAny (model prog w) A.in1 (Builtin.«list.__eq__.loop» ⟨[.ref l, .ref b, rawInt i, rawInt 5], []⟩) (fun fin s' => match fin with | .done f => R (.ok f) s' | .again c' => c'.quiet = true ∧ codeAny (model prog w) A c' R s') (fun e s' => R (.error e) s') s := by
  intro xs
  induction xs with
  | nil =>
    intro ys i R h1 h2 t1 t2 r1 r2 q
    have e1 : vs.length = i := by have := r1.length; rw [ofAll_length] at this; simp at this; omega
    obtain ⟨hp', g, d, tk, os⟩ := s
    have hi1 : vs.toArray[((i : Nat) : Int).toNat]? = none := by simp; omega
    wp_walk using AutoSeq1.wpAny_loadPart' hl, AutoSeq1.wpAny_loadPart' hb
    rw [hi1]
    wp_walk using AutoSeq1.wpAny_loadPart' hl, AutoSeq1.wpAny_loadPart' hb
    show R (.ok (.ret (.bool (decide (vs.toArray.size ≥ ws.toArray.size))))) _
    simp only [List.size_toArray]
    exact q
  | cons x xs ih =>
    intro ys i R h1 h2 t1 t2 r1 r2 q
    have e1 : vs.length = i + (xs.length + 1) := by have := r1.length; rw [ofAll_length] at this; simp at this; omega
    have e2 : ws.length = i + ys.length := by have := r2.length; rw [ofAll_length] at this; simp at this; omega
    have hc : ((i : Int) + 1) = ((i + 1 : Nat) : Int) := by push_cast; rfl
    have hi1 : vs.toArray[((i : Nat) : Int).toNat]? = some vs[i] := by simp
    cases ys with
    | nil =>
      have hi2 : ws.toArray[((i : Nat) : Int).toNat]? = none := by simp at e2 ⊢; omega
      obtain ⟨hp', g, d, tk, os⟩ := s
      wp_walk using AutoSeq1.wpAny_loadPart' hl, AutoSeq1.wpAny_loadPart' hb
      rw [hi1, hi2]
      wp_walk using AutoSeq1.wpAny_loadPart' hl, AutoSeq1.wpAny_loadPart' hb
      show R (.ok (.ret (.bool (decide (vs.toArray.size ≥ ws.toArray.size))))) _
      simp only [List.size_toArray]
      exact q
    | cons y ys =>
      simp only [List.length_cons] at e2
      have hi2 : ws.toArray[((i : Nat) : Int).toNat]? = some ws[i] := by simp
      rw [List.drop_eq_getElem_cons (by omega)] at r1 r2
      rw [D.ofAll] at r1 r2
      cases r1 with | cons rx rxs =>
      cases r2 with | cons ry rys =>
      have tx := t1 x (List.mem_cons_self ..)
      have ty := t2 y (List.mem_cons_self ..)
      obtain ⟨as, ra⟩ := Rp.reads (hT x tx).1 rx
      obtain ⟨bs, rb⟩ := Rp.reads (hT y ty).1 ry
      have eqb : ∀ {Q' : Bool → Shared → Prop} {E' : Value → Shared → Prop}, Q' (PyData.eqv x y) s → wpAny (model prog w) A.in1 (eqBool vs[i] ws[i]) Q' E' s := fun {Q' E'} hq => SeqAt.eqBoolOverData prog w A.in1 E' s _ _ x y as bs Q' ra rb (hT x tx).1 (hT y ty).1 (by show A.units + 1 + min (PyData.depth x) (PyData.depth y) < cLine; have := (hT x tx).2; omega) hq
      have hpr : ∀ (Q E : Value → Shared → Prop), PyData.eqv x y = false → OutQ s Q E (po x y) → wpAny (model prog w) A.in1 (richCompare .GtE vs[i] ws[i]) Q E s := fun Q E h q => hp x y _ _ Q E tx ty h rx ry q
      obtain ⟨hp', g, d, tk, os⟩ := s
      wp_walk using AutoSeq1.wpAny_loadPart' hl, AutoSeq1.wpAny_loadPart' hb
      rw [hi1, hi2]
      refine wpAny_bind (eqb ?_)
      unfold loopOut at q
      cases hxy : PyData.eqv x y with
      | true =>
        rw [if_pos hxy] at q
        wp_walk
        rw [hc]
        exact ⟨plainId_quiet MeetsSeq3.plain_eq_loop _, codeAny_builtin MeetsSeq3.entry_eq_loop (by
          rw [Around.under_plainId MeetsSeq3.plain_eq_loop _]
          exact ih ys (i + 1) R (by omega) (by omega) (fun z hz => t1 z (List.mem_cons_of_mem _ hz)) (fun z hz => t2 z (List.mem_cons_of_mem _ hz)) rxs rys q)⟩
      | false =>
        rw [if_neg (by rw [hxy]; decide)] at q
        wp_walk using AutoSeq1.wpAny_loadPart' hl, AutoSeq1.wpAny_loadPart' hb
        rw [hi1, hi2]
        dsimp only
        refine wpAny_bind (hpr _ _ hxy ?_)
        cases ho : po x y with
        | val c => rw [ho] at q; exact wpAny_pure q
        | err msg => rw [ho] at q; exact q
set_option maxHeartbeats 2000000 in
theorem call_list_ge {l b : Addr} {vs ws : List Value} (hl : s.heap.IsList l vs.toArray) (hb : s.heap.IsList b ws.toArray) (hu : A.units + 20 < cLine) {Q : Value → Shared → Prop}
    (T : PyData → Prop) (hT : ∀ x, T x → PyData.canLay0 x = true ∧ PyData.depth x ≤ 2) (po : PyData → PyData → Out)
    (hp : ∀ (prog : Program) (w : World) (x y : PyData) (va vb : Value) (Q E : Value → Shared → Prop), T x → T y → PyData.eqv x y = false → Rp s.heap NoX va (D.of x) → Rp s.heap NoX vb (D.of y) → OutQ s Q E (po x y) → wpAny (model prog w) A.in1 (richCompare .GtE va vb) Q E s)
    {xs ys : List PyData} (t1 : ∀ x ∈ xs, T x) (t2 : ∀ y ∈ ys, T y) (r1 : RpAll s.heap NoX vs (D.ofAll xs)) (r2 : RpAll s.heap NoX ws (D.ofAll ys)) (q : OutQ s Q E (loopOut po (decide (xs.length ≥ ys.length)) xs ys)) : wpAny (model prog w) A (call (.builtin "list.__ge__") [.ref l, .ref b]) Q E s := by
  obtain ⟨⟨cls, dd, data, sl⟩, ho, hc, k, hd⟩ := id hl
  simp only at hc hd; subst hc hd
  obtain ⟨⟨cls2, dd2, data2, sl2⟩, ho2, hc2, k2, hd2⟩ := id hb
  simp only at hc2 hd2; subst hc2 hd2
  have l1 := r1.length; have l2 := r2.length
  rw [ofAll_length] at l1 l2
  rw [← l1, ← l2] at q
  refine call_meets PySem.F.slot_list_ge ⟨_, ho, rfl⟩ PySem.F.entry_list_ge (PySem.F.args_list_ge_2 _ _) (S := fun A' R s' => A' = A ∧ s' = s ∧ OutR s R (loopOut po (decide (vs.length ≥ ws.length)) xs ys)) ?_ ⟨rfl, rfl, OutR.of_Q (fun _ _ h => h) (fun _ _ h => h) q⟩
  rintro prog' w' A' R s' ⟨rfl, rfl, h⟩
  have hp2 := hp prog' w'
  obtain ⟨hp', g, d, tk, os⟩ := s'
  have f3 := AutoSeq1.sub_list_list
  wp_walk using AutoSeq1.wpAny_loadPart' ho, AutoSeq1.wpAny_loadPart' ho2
  exact ⟨plainId_quiet MeetsSeq3.plain_eq_loop _, codeAny_builtin MeetsSeq3.entry_eq_loop (by
    rw [Around.under_plainId MeetsSeq3.plain_eq_loop _]
    exact loop_ge (i := 0) ho ho2 hu T hT po hp2 xs ys R (Nat.zero_le _) (Nat.zero_le _) t1 t2 r1 r2 h)⟩
end

/-- an expression that raises TypeError with these words -/
def EvX (B : Bas) (n : Nat) (env : Env) (σ : Sto) (e : Expr) (m : Str) : Prop :=
  ∀ (h₀ : Heap) (P O : Addr → Prop) (A : Around) (s : Shared) (E : Value → Shared → Prop) (Q : Value → Shared → Prop), B.Ok → AOk n A → St B h₀ P env σ O s.heap →
    (∀ s₁ h' tk tk' x, Keeps s s₁ → Heap.MadeExc s₁.heap h' x "TypeError" [.str m tk'] → E (.ref x) { s₁ with heap := h', toks := tk }) → wpAny (model B.prog B.w) A (eval e env) Q E s
/-- a block that does -/
def ExX (B : Bas) (n : Nat) (env : Env) (σ : Sto) (ss : List Stmt) (m : Str) : Prop :=
  ∀ (h₀ : Heap) (P O : Addr → Prop) (A : Around) (s : Shared) (E : Value → Shared → Prop) (Q : Flow → Shared → Prop), B.Ok → AOk n A → St B h₀ P env σ O s.heap →
    (∀ s₁ h' tk tk' x, Keeps s s₁ → Heap.MadeExc s₁.heap h' x "TypeError" [.str m tk'] → E (.ref x) { s₁ with heap := h', toks := tk }) → wpAny (model B.prog B.w) A (execs ss env) Q E s
/-- a built-in that does -/
def BiX (B : Bas) (n : Nat) (f : Value) (ds : List D) (m : Str) : Prop :=
  ∀ (A : Around) (s : Shared) (E : Value → Shared → Prop) (Q : Value → Shared → Prop) (vs : List Value), B.Ok → AOk n A → B.Here s.heap → RpAll s.heap NoX vs ds →
    (∀ h' tk tk' x, Heap.MadeExc s.heap h' x "TypeError" [.str m tk'] → E (.ref x) { s with heap := h', toks := tk }) → wpAny (model B.prog B.w) A (call f vs) Q E s
section
variable {B : Bas} {n : Nat} {env : Env} {σ : Sto}
theorem exX_assign {x : String} {p p' : Pos} {e : Expr} {rest : List Stmt} {m : Str} (v : EvX B n env σ e m) (hs : swapsWith e (some (.Name (S x) p')) p.line env = pure false) : ExX B n env σ (.Assign [.Name (S x) p'] e p :: rest) m := by
  intro h₀ P O A s E Q b a T q
  exact wpAny_execs_cons (wpAny_Assign_Name (v h₀ P O A s E _ b a T q) hs)
/-- type(self).__op__(self, other) that raises -/
def DunX (B : Bas) (n : Nat) (attr : String) (dS dO : D) (m : Str) : Prop :=
  ∃ T id, Ty dS T ∧ (Value.type T == Value.type "builtin_function_or_method") = false ∧ typeOf (.type T) = pure (.type "type") ∧ Manifest.isStub T = false ∧ findCls [] (.type T) (.type "type") (S attr) = some (.val (.builtin id)) ∧ handedIn (.builtin id) = true ∧ BiX B n (.builtin id) [dS, dO] m
theorem ev_dunX (fr : Free B) {attr : String} {dS dO : D} {w : Str} {p1 p2 p3 p4 p5 p5' p6 : Pos} {pl : Sem Bool} (hk : env.kindOf (S "type") = some .globalImplicit) (hs : σ.get "self" = some (.val dS)) (ho : σ.get "other" = some (.val dO)) (x : DunX B n attr dS dO w)
    (he : eval (.Call (.Attribute (.Call (.Name (S "type") p1) [.Name (S "self") p2] [] p3) (S attr) p4) [.Name (S "self") p5, .Name (S "other") p5'] [] p6) env = (do
      let ov ← eval (.Call (.Name (S "type") p1) [.Name (S "self") p2] [] p3) env
      standAt p4.atName
      let (f, first) ← holding [ov] (getMethod ov (S attr) pl)
      callWith p6 f first (backTo p6 (starEach [.Name (S "self") p5, .Name (S "other") p5'] env)) (backToKw p6 (keywordEach [] env))) := by rfl) :
    EvX B n env σ (.Call (.Attribute (.Call (.Name (S "type") p1) [.Name (S "self") p2] [] p3) (S attr) p4) [.Name (S "self") p5, .Name (S "other") p5'] [] p6) w := by
  obtain ⟨T, id, h1, h2, h3, h4, h5, h6, f⟩ := x
  have x : EvW B n env σ (.Call (.Name (S "type") p1) [.Name (S "self") p2] [] p3) (.val (.type T)) := Ev.weak (ev_type fr hk (Ev.weak (ev_name hs)) h1 h2)
  have as : EvAsW B n env σ [.Name (S "self") p5, .Name (S "other") p5'] [dS, dO] := evasw_cons (Ev.weak (ev_name hs)) (evasw_cons (Ev.weak (ev_name ho)) evasw_nil)
  exact fun h₀ P O A s E Q bo ao T q => methodCall_KW (x h₀ P O A s E _ bo ao T fun v s₁ k₁ r₁ => by
    cases rp_val r₁
    obtain ⟨m, F⟩ := fr0 (T.kp k₁)
    refine method_type F (in0 _) h3 h4 h5 h6 ?_
    have k₂ := ktrans k₁ (ktok s₁ (s₁.toks + 1))
    refine callWith_builtin1 (as h₀ P O A _ E _ p6 bo ao (T.kp k₂) fun vs s₃ k₃ r₃ => ?_) rfl rfl
    exact f A s₃ E _ vs bo ao ((T.kp k₂).kp k₃).here r₃ fun h' tk tk' x mm => q s₃ h' tk tk' x (ktrans k₂ k₃) mm) he
end

abbrev hid (h : Heap) (l : List Env) : Heap := hideAll h (l.filterMap (·.frame))
/-- a def that raises -/
def FnX (B : Bas) (n : Nat) (a : Addr) (ds : List D) (m : Str) : Prop :=
  ∀ (P : Addr → Prop) (A : Around) (s : Shared) (E : Value → Shared → Prop) (Q : Value → Shared → Prop) (vs : List Value) (outer : List Env), B.Ok → AOk n A → B.Here s.heap → (∀ x, P x → (∃ o, s.heap.get? x = some o) ∧ B.hB.get? x = none) → RpAll s.heap P vs ds →
    A.frames = some outer → s.heap.FunFrames (hid s.heap outer) outer →
    (∀ h' tk tk' x t, Heap.FlyingW (hid s.heap outer) outer x (.type "TypeError") (.ref t) h' → h'.TupAt t [.str m tk'] → s.heap.UpToSlots h' → E (.ref x) { s with heap := h', toks := tk }) → wpAny (model B.prog B.w) A (call (.ref a) vs) Q E s

/-- what a call finds -/
theorem st_call {B : Bas} {a : Addr} {name : Str} {params : Arguments} {body : List Stmt} {scope : Scope} {xs : List String} {ds : List D} {P : Addr → Prop} {s s₁ : Shared} {vs : List Value} {pm cd doc} (hk : scope.kind = .function) (hlen : xs.length = ds.length) (hnd : xs.Nodup)
    (hkind : ∀ x ∈ xs, scope.names.lookup (S x) = some .local ∨ scope.names.lookup (S x) = some .cell) (hh : B.Here s.heap) (hP : ∀ x, P x → (∃ o, s.heap.get? x = some o) ∧ B.hB.get? x = none) (r : RpAll s.heap P vs ds)
    (C : InCallC s (callEnvC (docDef name params body scope pm cd doc) s.heap.objs.size a).locals (bindL (callEnvC (docDef name params body scope pm cd doc) s.heap.objs.size a).kindOf ((xs.map S).zip vs) fun _ => none) (callEnvC (docDef name params body scope pm cd doc) s.heap.objs.size a).cells (bindC (callEnvC (docDef name params body scope pm cd doc) s.heap.objs.size a).kindOf ((xs.map S).zip vs) fun _ => none) s₁) :
    ∃ env, callEnvC (docDef name params body scope pm cd doc) s.heap.objs.size a = env ∧ FEnv scope env ∧ env.frame = some env.locals ∧ Keeps s s₁ ∧ s.heap.get? env.locals = none ∧ St B s.heap P env (binds0 xs ds) (fun b => b = env.locals ∨ ∃ x, env.cells.lookup x = some b) s₁.heap := by
  have hvl : vs.length = xs.length := by rw [r.length, hlen]
  generalize henv : callEnvC (docDef name params body scope pm cd doc) s.heap.objs.size a = env at C
  have hsc : env.scope = scope := by rw [← henv]; rfl
  have hloc : env.locals = s.heap.objs.size := by rw [← henv]; rfl
  have hfrm : env.frame = some env.locals := by rw [← henv]; rfl
  have hfn : env.func.isSome = true := by rw [← henv]; rfl
  have hgl : env.globals = mainGlobals := by rw [← henv]; rfl
  have hbi : env.builtins = builtinsNs := by rw [← henv]; rfl
  have hcells : env.cells = cellsFrom (s.heap.objs.size + 1) scope.names [] := by rw [← henv]; rfl
  have fe : FEnv scope env := ⟨hsc, hfn, fun x hx => by rw [hcells]; exact cellsFrom_some _ _ _ _ (.inl hx)⟩
  have kK : Keeps s s₁ := C.toInCall.done
  have nodup : (((xs.map S).zip vs).map (·.1)).Nodup := by
    rw [List.map_fst_zip (by simp [hvl])]
    exact List.Pairwise.map S (fun a b ne e => ne (S_inj e)) hnd
  have notold : ∀ b, s.heap.objs.size ≤ b → s.heap.get? b = none := fun b hb => fresh_of hb
  have hnew : ∀ b, (b = env.locals ∨ ∃ x, env.cells.lookup x = some b) → s.heap.get? b = none := by
    rintro b (e | ⟨x, hx⟩)
    · subst e; exact notold _ (Nat.le_of_eq hloc.symm)
    · have := C.above x b (PySem.mem_of_lookup hx); exact notold _ (Nat.le_of_lt (by rw [hloc] at this; exact this))
  refine ⟨env, rfl, fe, hfrm, kK, hnew _ (.inl rfl), ?_⟩
  have rx : RpAll s₁.heap (fun b => P b ∨ (b = env.locals ∨ ∃ x, env.cells.lookup x = some b)) vs ds := r.mono (fun a o _ e => kheap kK a o e) fun a o np e => by
    rintro (q | q)
    · exact np q
    · rw [hnew a q] at e; cases e
  refine ⟨hh, C.toInCall.keep, hP, ?_, hnew, ⟨by rw [hsc]; exact hk, hgl, hbi, fun x y c h1 h2 => lookup_apart C.apart h1 h2⟩, .inl rfl, ⟨_, C.toInCall.ns⟩, fun x c l => ⟨⟨_, C.cell x c l⟩, fun _ => .inr ⟨x, l⟩⟩, fun x b hb => ?_, ?_⟩
  · rintro b (e | ⟨x, hx⟩)
    · subst e; obtain ⟨o, _, _, e, _⟩ := C.toInCall.ns; exact ⟨o, e⟩
    · obtain ⟨o, e, _⟩ := C.cell x b hx; exact ⟨o, e⟩
  · obtain ⟨d', v, rfl, rv, hm⟩ := binds0_get rx hlen hb
    refine ⟨v, ?_, rv⟩
    have hxm : x ∈ xs := by
      have := (List.of_mem_zip hm).1
      obtain ⟨y, hy, e⟩ := List.mem_map.mp this
      rwa [← S_inj e]
    rcases hkind x hxm with kx | kx
    · refine .inl ⟨by unfold Env.kindOf; rw [hsc]; exact kx, _, C.toInCall.ns, ?_⟩
      exact bindL_get (by unfold Env.kindOf; rw [hsc]; exact kx) _ _ nodup hm
    · obtain ⟨c, hc⟩ := Option.isSome_iff_exists.mp (fe.cells _ kx)
      refine .inr ⟨.inl (by unfold Env.kindOf; rw [hsc]; exact kx), c, hc, ?_⟩
      have := C.cell _ _ hc
      rwa [bindC_get (by unfold Env.kindOf; rw [hsc, kx]; intro q; cases q) _ _ nodup hm] at this
  · intro x y ds' es a' ne hx
    obtain ⟨_, _, e, _⟩ := binds0_get r hlen hx; cases e

theorem St.frame1 {B h₀ P env σ O h} (T : St B h₀ P env σ O h) (hf : env.frame = some env.locals) {base : Heap} (hb : base.get? env.locals = none) {outer} (hr : h.FunFrames base outer) : h.FunFrames base (env :: outer) := by
  obtain ⟨m, n⟩ := T.ns
  exact .cons (by rw [T.ok.kind]; decide) hf n hb hr

theorem fnsX_of {B : Bas} {n : Nat} {a : Addr} {name : Str} {params : Arguments} {body : List Stmt} {scope : Scope} {xs : List String} {ds : List D} {m : Str} (F : FnAt B a name params body scope) (hk : scope.kind = .function)
    (hbind : ∀ pm cd doc vs, vs.length = xs.length → bindArgs (docDef name params body scope pm cd doc) ⟨vs, []⟩ = pure ((xs.map S).zip vs)) (hlen : xs.length = ds.length) (hnd : xs.Nodup)
    (hkind : ∀ x ∈ xs, scope.names.lookup (S x) = some .local ∨ scope.names.lookup (S x) = some .cell)
    (h : ∀ env, FEnv scope env → ExX B n env (binds0 xs ds) body m)
    (hco : scope.isCoroutine = false := by rfl) (hgen : scope.isGenerator = false := by rfl) : FnX B (n + 1) a ds m := by
  intro P A s E Q vs outer bo ao hh hP r hfrs hff q
  obtain ⟨o, pm, cd, doc, ho, hd, hcd⟩ := F.at_
  have hvl : vs.length = xs.length := by rw [r.length, hlen]
  refine wpAny_call (codeAny_call_cells (by have := ao.depth; omega) (hh _ _ ho) hd (bo.nolimit.keeps hh) (hcd.keeps hh) rfl (hbind pm cd doc vs hvl) rfl ?_ ?_ hco hgen hk)
  · intro x hx
    obtain ⟨y, hy, e⟩ : ∃ y ∈ xs, x.1 = S y := by
      have := List.of_mem_zip hx
      obtain ⟨y, hy, e⟩ := List.mem_map.mp this.1
      exact ⟨y, hy, e.symm⟩
    rw [e]
    rcases hkind y hy with q | q
    · exact .inl q
    · exact .inr ⟨q, cellsFrom_some _ _ _ _ (.inl q)⟩
  · intro s₁ C
    obtain ⟨env, henv, fe, hfrm, kK, hnl, T⟩ := st_call hk hlen hnd hkind hh hP r C
    rw [henv]
    refine h env fe s.heap P _ _ s₁ _ _ bo ⟨ao.handled, by have := ao.depth; show A.depth + 1 + n < _; omega, by have := ao.units; show A.units + 3 + 5 * n + 100 < _; omega⟩ T ?_
    intro s₂ h' tk tk' x k₂ mk
    have k02 := ktrans kK k₂
    have T₂ := T.kp k₂
    refine wpAny_leaves_madeW (base := hid s.heap outer) (h := s₂.heap) (env := env) (outer := outer) (args := [.str m tk']) (by rw [Around.frames_deeper hfrs]) hfrm (fun b o e => kheap k02 b o (of_hideAll _ e)) (T₂.frame1 hfrm ?_ (hff.of_keeps fun b o e _ => ⟨o, kheap k02 b o e, rfl⟩)) (Heap.MadeExc.of mk) fun h'' t fl tp hn up => ?_
    · cases e : (hid s.heap outer).get? env.locals with
      | none => rfl
      | some o => have := of_hideAll _ e; rw [hnl] at this; cases this
    · obtain ⟨h1, tk1, rfl, k1⟩ := k02
      exact q h'' tk tk' x t fl tp (((Heap.UpToSlots.of_keeps k1).trans (Heap.UpToSlots.of_keeps mk.keeps)).trans up)

/-- the frame's own record changes, not what the known names hold -/
theorem St.loc' {B h₀ P env σ O h h'} (T : St B h₀ P env σ O h) (hk : ∀ b o, b ≠ env.locals → h.get? b = some o → h'.get? b = some o)
    (hm : ∀ m, h.Ns env.locals m → ∃ m', h'.Ns env.locals m' ∧ ∀ x b, σ.get x = some b → m' (S x) = m (S x)) : St B h₀ P env σ O h' := by
  obtain ⟨m, nn⟩ := T.ns
  obtain ⟨m', nn', hmm⟩ := hm m nn
  have hkX : ∀ a o, ¬ (P a ∨ O a) → h.get? a = some o → h'.get? a = some o := fun a o na e => hk a o (fun q => na (.inr (q ▸ T.loc))) e
  have hcell : ∀ {c v}, h.IsCell c v → h'.IsCell c v := fun {c v} e => by
    have hne := Ne.symm (ns_ne_cell nn e)
    obtain ⟨o, e1, e2⟩ := e
    exact ⟨o, hk _ _ hne e1, e2⟩
  have mvv : ∀ {x w b}, σ.get x = some b → VarIs env h (S x) w → VarIs env h' (S x) w := by
    rintro x w b hb (⟨kd, m1, n1, e⟩ | ⟨kd, k, l, e⟩)
    · refine .inl ⟨kd, m', nn', ?_⟩
      rw [hmm x b hb]
      rw [n1.eq_nsMap, ← nn.eq_nsMap] at e; exact e
    · exact .inr ⟨kd, k, l, hcell e⟩
  have bck : ∀ {x w b}, σ.get x = some b → VarIs env h' (S x) w → VarIs env h (S x) w := by
    intro x w b hb hw
    obtain ⟨w', hw'⟩ := (T.vars x b hb).var
    rw [hw.fn (mvv hb hw')]; exact hw'
  have mv : ∀ {v d}, Rp h (fun a => P a ∨ O a) v d → Rp h' (fun a => P a ∨ O a) v d := fun r => r.mono hkX fun _ _ n _ => n
  have mva : ∀ {v d}, RpAll h (fun a => P a ∨ O a) v d → RpAll h' (fun a => P a ∨ O a) v d := fun r => r.mono hkX fun _ _ n _ => n
  refine ⟨T.base, fun b o e => hk b o (fun q => by rw [q, T.new _ T.loc] at e; cases e) (T.keep b o e), T.plive, fun b q => ?_, T.new, T.ok, T.loc, ⟨m', nn'⟩, fun y k e => ?_, fun y b' e => ?_, fun y z ds₁ es₁ c ne hy hz vy vz => ?_⟩
  · by_cases q' : b = env.locals
    · subst q'; obtain ⟨o, _, _, e, _⟩ := nn'; exact ⟨_, e⟩
    · obtain ⟨o, e⟩ := T.live b q; exact ⟨o, hk b o q' e⟩
  · obtain ⟨⟨v, q⟩, f⟩ := T.cells y k e
    exact ⟨⟨v, hcell q⟩, f⟩
  · have := T.vars y b' e
    cases b' with
    | val d => obtain ⟨w, hw, r'⟩ := this; exact ⟨w, mvv e hw, mv r'⟩
    | own es =>
      obtain ⟨c, ws, hw, h1, h2, h3, h4⟩ := this
      exact ⟨c, ws, mvv e hw, h1, h2, h3.at fun o e => hk _ o h2 e, mva h4⟩
  · exact T.apart y z ds₁ es₁ c ne hy hz (bck hy vy) (bck hz vz)

/-- after a raise the frame stands as it stood -/
theorem St.raised {B h₀ P env σ O h h'} (T : St B h₀ P env σ O h) (hf : env.frame = some env.locals) (hs : (hid h [env]).StaysIn h') (hu : h.UpToSlots h') : St B h₀ P env σ O h' :=
  T.loc' (fun b o ne e => hs b o (hideAll_get _ e (by simp only [List.filterMap_cons, hf, List.filterMap_nil, List.mem_singleton]; exact ne))) fun m n => ⟨m, hu.ns n, fun _ _ _ => rfl⟩

/-- blocks where what stands around is known -/
def ExA (B : Bas) (n : Nat) (A : Around) (env : Env) (σ : Sto) (ss : List Stmt) (R : Fl → Sto → Prop) : Prop :=
  ∀ (h₀ : Heap) (P O : Addr → Prop) (s : Shared) (E : Value → Shared → Prop), B.Ok → AOk n A → St B h₀ P env σ O s.heap →
    wpAny (model B.prog B.w) A (execs ss env) (Post B h₀ P env O s R) E s
def Ex1A (B : Bas) (n : Nat) (A : Around) (env : Env) (σ : Sto) (st : Stmt) (R : Fl → Sto → Prop) : Prop :=
  ∀ (h₀ : Heap) (P O : Addr → Prop) (s : Shared) (E : Value → Shared → Prop), B.Ok → AOk n A → St B h₀ P env σ O s.heap →
    wpAny (model B.prog B.w) A (exec st env) (Post B h₀ P env O s R) E s
section
variable {B : Bas} {n : Nat} {A : Around} {env : Env} {σ τ : Sto} {R : Fl → Sto → Prop}
theorem Ex.toA {ss} (x : Ex B n env σ ss R) : ExA B n A env σ ss R := fun h₀ P O s E b a T => x h₀ P O A s E b a T
theorem Ex1.toA {ss} (x : Ex1 B n env σ ss R) : Ex1A B n A env σ ss R := fun h₀ P O s E b a T => x h₀ P O A s E b a T
theorem exA_sub {ss} (hs : SubL τ σ) (h : ExA B n A env τ ss R) : ExA B n A env σ ss R := fun h₀ P O s E b a T => h h₀ P O s E b a (T.forget hs.get)
theorem exA_nil (h : R .next σ) : ExA B n A env σ [] R := (ex_nil h).toA
theorem exA_cons {st rest} (x : Ex1A B n A env σ st fun fl σ' => match fl with | .next => ExA B n A env σ' rest R | f => R f σ') : ExA B n A env σ (st :: rest) R := by
  intro h₀ P O s E b a T
  refine wpAny_execs_cons (wpAny_mono (x h₀ P O s E b a T) (fun f s' q => ?_) fun _ _ q => q)
  obtain ⟨fl, σ', O', m, hf, hr, ho, T'⟩ := q
  cases f with
  | next =>
    cases fl <;> try exact hf.elim
    exact wpAny_mono (hr h₀ P O' s' E b a T') (fun _ _ q => q.trans m ho) fun _ _ q => q
  | brk => cases fl <;> first | exact hf.elim | exact ⟨_, σ', O', m, hf, hr, ho, T'⟩
  | cont => cases fl <;> first | exact hf.elim | exact ⟨_, σ', O', m, hf, hr, ho, T'⟩
  | ret v => cases fl <;> first | exact hf.elim | exact ⟨_, σ', O', m, hf, hr, ho, T'⟩
/-- the two branches end alike -/
theorem exA_ifJ {e : Expr} {p : Pos} {t : Bool} {body orelse rest : List Stmt} (τ : Sto) (x : Tst B n env σ e t) (y : t = true → Ex B n env σ body fun fl σ' => match fl with | .next => SubL τ σ' | f => R f σ') (z : t = false → Ex B n env σ orelse fun fl σ' => match fl with | .next => SubL τ σ' | f => R f σ') (w : ExA B n A env τ rest R) : ExA B n A env σ (.If e body orelse p :: rest) R := by
  have key : Ex1 B n env σ (.If e body orelse p) fun fl σ' => match fl with | .next => ExA B n A env σ' rest R | f => R f σ' := by
    refine ex_if x (fun h => (y h).mono fun fl σ' q => ?_) (fun h => (z h).mono fun fl σ' q => ?_)
    · cases fl <;> first | exact exA_sub q w | exact q
    · cases fl <;> first | exact exA_sub q w | exact q
  exact exA_cons key.toA

theorem ex1A_for {target iter : Expr} {body : List Stmt} {p : Pos} {ds : List D} (Inv : List D → Sto → Prop) (x : EvIt true B n env σ iter ds) (h0 : Inv [] σ)
    (turn : ∀ pre d post σ', ds = pre ++ d :: post → Inv pre σ' → ∃ σ'', Asg B n env σ' target d σ'' ∧
      ExA B n A env σ'' body (fun fl τ => match fl with | .next => Inv (pre ++ [d]) τ | .cont => Inv (pre ++ [d]) τ | .brk => R .next τ | .ret v => R (.ret v) τ))
    (done : ∀ σ', Inv ds σ' → R .next σ') (hs : ∀ x, foldedSetIterable iter env x = pure x := by intro _; rfl) : Ex1A B n A env σ (.For target iter body [] p) R := by
  intro h₀ P O s E bo ao T
  refine wpAny_For (x h₀ P O A s E _ bo ao T fun s₂ I fp wr Pv Si k it st hw hb hf hr => ?_) hs
  have hf := hf rfl
  have T₂ := T.kp k
  have hlive := it.live 0 _ st
  refine codeAny_forLoop_any (fun (kk : Nat) (s' : Shared) => ∃ i σ' O', kk = ds.length + 1 - i ∧ i ≤ ds.length ∧ (∃ h' tk, s' = { s₂ with heap := h', toks := tk }) ∧ Si i s'.heap ∧ St B h₀ P env σ' O' s'.heap ∧ Inv (ds.take i) σ' ∧
      (∀ b o, ¬ O b → b ∉ wr → s₂.heap.get? b = some o → s'.heap.get? b = some o) ∧ (∀ b, O' b → O b ∨ s₂.heap.get? b = none)) ?_ (ds.length + 1)
    ⟨0, σ, O, rfl, Nat.zero_le _, ⟨s₂.heap, s₂.toks, rfl⟩, st, T₂, by simpa using h0, fun _ _ _ _ e => e, fun _ q => .inl q⟩
  rintro kk s' ⟨i, σ', O', rfl, hi, ⟨hh, tk, rfl⟩, st', T', hI, hk, hO⟩
  have fpO : ∀ b ∈ fp, ¬ O' b := fun b hbf q => by
    rcases hO b q with q | q
    · exact hf b hbf (.inr q)
    · obtain ⟨o, e⟩ := hlive b hbf; rw [q] at e; cases e
  have wrO : ∀ b ∈ wr, ¬ O' b := fun b hbw => fpO b (it.W.sub b hbw)
  have fin : ∀ (O'' : Addr → Prop) (s'' : Shared), (∃ h' tk, s'' = { s₂ with heap := h', toks := tk }) → (∀ b o, ¬ O b → b ∉ wr → s₂.heap.get? b = some o → s''.heap.get? b = some o) → (∀ b, O'' b → O b ∨ s₂.heap.get? b = none) →
      Mov O s s'' ∧ ∀ b, O'' b → O b ∨ s.heap.get? b = none := by
    rintro O'' s'' ⟨h', tk', rfl⟩ hk' hO'
    obtain ⟨h2, tk2, rfl, k2⟩ := k
    refine ⟨⟨h', tk', rfl, fun b o nb e => hk' b o nb (fun hbw => by rw [hw b hbw] at e; cases e) (k2 b o e)⟩, fun b q => (hO' b q).imp id fun q => ?_⟩
    cases e : s.heap.get? b with
    | none => rfl
    | some o => rw [k2 b o e] at q; cases q
  have stepSt : ∀ h₁ : Heap, (∀ b o, b ∉ wr → hh.get? b = some o → h₁.get? b = some o) → St B h₀ P env σ' O' h₁ := fun h₁ hk₁ =>
    T'.step (fun a o ni e => hk₁ a o (fun hbw => by obtain ⟨o', e', q⟩ := it.kind i _ st' a hbw; rw [e] at e'; cases e'; exact ni q) e)
      (fun b o e => hk₁ b o (fun hbw => by have := hw b hbw; rw [T.keep b o e] at this; cases this) (T'.keep b o e))
      (fun a q => by obtain ⟨o, e⟩ := T'.live a q; exact ⟨o, hk₁ a o (fun hbw => wrO a hbw q) e⟩)
  by_cases hlt : i < ds.length
  · refine it.W.item i _ _ _ hlt st' fun v h₁ tk₁ hPv st₁ hk₁ => ?_
    obtain ⟨d, hd, rd⟩ := hr i v hPv
    obtain ⟨e1, e2⟩ := take_split hd
    have T₁ := stepSt h₁ hk₁
    refine it.go _ _ _ _ _ _ st₁ ?_
    obtain ⟨σ'', hasg, hex⟩ := turn _ d _ σ' e1 hI
    have rd' : Rp h₁ (fun a => P a ∨ O' a) v d := by
      refine Rp.step (fun a o ni e => hk₁ a o (fun hbw => by obtain ⟨o', e', q⟩ := it.kind i _ st' a hbw; rw [e] at e'; cases e'; exact ni q) e) (rd.stepX (h' := hh) (X' := fun a => P a ∨ O' a) (fun a o na ni e => ?_) (fun a o na e q => ?_))
      · exact hk a o (fun q => na (.inr q)) (fun haw => by obtain ⟨o', e', q⟩ := it.kind 0 _ st a haw; rw [e] at e'; cases e'; exact ni q) e
      · rcases q with q | q
        · exact na (.inl q)
        · rcases hO a q with q | q
          · exact na (.inr q)
          · rw [q] at e; cases e
    refine hasg h₀ P O' A _ _ _ v bo ao T₁ rd' fun s₃ m₃ T₃ => ?_
    refine wpAny_mono (hex h₀ P O' s₃ _ bo ao T₃) (fun f s₄ q => ?_) fun _ _ q => q
    obtain ⟨fl, τ, O₄, m₄, hfl, hR, hO₄, T₄⟩ := q
    obtain ⟨h3, tk3, rfl, k3⟩ := m₃.names T₁
    obtain ⟨h4, tk4, rfl, k4⟩ := m₄
    have keepAll : ∀ b o, ¬ O' b → h₁.get? b = some o → h4.get? b = some o := fun b o nb e => k4 b o nb (k3 b o nb e)
    have hk4 : ∀ b o, ¬ O b → b ∉ wr → s₂.heap.get? b = some o → h4.get? b = some o := fun b o nb nw e =>
      keepAll b o (fun q => (hO b q).elim nb fun q => by rw [q] at e; cases e) (hk₁ b o nw (hk b o nb nw e))
    have hO4 : ∀ b, O₄ b → O b ∨ s₂.heap.get? b = none := fun b q => by
      rcases hO₄ b q with q | q
      · exact hO b q
      · by_cases hOb : O b
        · exact .inl hOb
        · by_cases hbw : b ∈ wr
          · obtain ⟨o, e⟩ := it.live _ _ st₁ b (it.W.sub b hbw)
            have : h3.get? b = some o := k3 b o (wrO b hbw) e
            rw [this] at q; cases q
          · refine .inr ?_
            cases e : s₂.heap.get? b with
            | none => rfl
            | some o =>
              have h5 := hk₁ b o hbw (hk b o hOb hbw e)
              by_cases ho' : O' b
              · rcases hO b ho' with z | z
                · exact absurd z hOb
                · rw [z] at e; cases e
              · have := k3 b o ho' h5
                rw [this] at q; cases q
    have stN : Si (i + 1) h4 := it.W.frame _ _ _ st₁ fun b hbf o e => keepAll b o (fpO b hbf) e
    obtain ⟨mv, mo⟩ := fin O₄ _ ⟨h4, tk4, rfl⟩ hk4 hO4
    cases f with
    | next =>
      cases fl <;> try exact hfl.elim
      exact ⟨_, by omega, i + 1, τ, O₄, rfl, hlt, ⟨h4, tk4, rfl⟩, stN, T₄, e2 ▸ hR, hk4, hO4⟩
    | cont =>
      cases fl <;> try exact hfl.elim
      exact ⟨_, by omega, i + 1, τ, O₄, rfl, hlt, ⟨h4, tk4, rfl⟩, stN, T₄, e2 ▸ hR, hk4, hO4⟩
    | brk =>
      cases fl <;> try exact hfl.elim
      exact ⟨.next, τ, O₄, mv, trivial, hR, mo, T₄⟩
    | ret w =>
      cases fl <;> try exact hfl.elim
      exact ⟨.ret _, τ, O₄, mv, hfl, hR, mo, T₄⟩
  · have hi' : i = ds.length := by omega
    subst hi'
    rw [List.take_length] at hI
    refine it.W.done _ _ _ st' fun h₁ tk₁ hk₁ => ?_
    have hk1 : ∀ b o, ¬ O b → b ∉ wr → s₂.heap.get? b = some o → h₁.get? b = some o := fun b o nb nw e => hk₁ b o nw (hk b o nb nw e)
    obtain ⟨mv, mo⟩ := fin O' { s₂ with heap := h₁, toks := tk₁ } ⟨h₁, tk₁, rfl⟩ hk1 hO
    exact wpAny_execs_nil ⟨.next, σ', O', mv, trivial, done _ hI, mo, stepSt h₁ hk₁⟩
theorem ex1A_forS {target iter : Expr} {body : List Stmt} {p : Pos} {ds : List D} (τ : List D → Sto) (x : EvIt true B n env σ iter ds) (h0 : SubL (τ []) σ)
    (turn : ∀ pre d post, ds = pre ++ d :: post → ∃ τ', Asg B n env (τ pre) target d τ' ∧
      ExA B n A env τ' body (fun fl υ => match fl with | .next => SubL (τ (pre ++ [d])) υ | .cont => SubL (τ (pre ++ [d])) υ | .brk => R .next υ | .ret v => R (.ret v) υ))
    (done : ∀ υ, SubL (τ ds) υ → R .next υ) (hs : ∀ x, foldedSetIterable iter env x = pure x := by intro _; rfl) : Ex1A B n A env σ (.For target iter body [] p) R :=
  ex1A_for (fun pre υ => SubL (τ pre) υ) x h0 (fun pre d post σ' e hs' => by
    obtain ⟨τ', ha, hex⟩ := turn pre d post e
    exact ⟨τ', asg_sub hs' ha, hex⟩) done hs

theorem ex_try_val {body : List Stmt} {h₀ : ExceptHandler} {hs : List ExceptHandler} {p : Pos} (x : Ex B n env σ body R) : Ex1 B n env σ (.Try body (h₀ :: hs) [] [] p) R := by
  intro h₀ P O A s E b a T
  refine wpAny_Try_except (wpAny_mono (x h₀ P O A s _ b a T) (fun f s' q => ?_) fun _ _ q => q)
  cases f <;> first | exact wpAny_execs_nil q | exact q

theorem excTE1 : isSubtype (.type "TypeError") (.type "BaseException") = pure true := by rw [isSubtype_type]; kernel_rfl
theorem excTE2 : isSubtype (.type ((Manifest.find? "TypeError").elim "type" fun x => x.metatype)) (.type "tuple") = pure false := by
  have e : ((Manifest.find? "TypeError").elim "type" fun x => x.metatype) = "type" := by kernel_rfl
  rw [e, isSubtype_type]; kernel_rfl
theorem excTE3 : isSubtype (.type "TypeError") (.type "TypeError") = pure true := by rw [isSubtype_type]; kernel_rfl

theorem Mov.own {O : Addr → Prop} {s s' : Shared} {h' tk} (e : s' = { s with heap := h', toks := tk }) {L : Addr} (hL : O L) (k : ∀ b o, b ≠ L → s.heap.get? b = some o → h'.get? b = some o) : Mov O s s' :=
  ⟨h', tk, e, fun b o nb q => k b o (fun z => nb (z ▸ hL)) q⟩

set_option maxHeartbeats 1000000 in
theorem ex_try_err {p1 p2 p3 p4 p5 p6 p7 p8 p9 p10 p11 p12 p13 p14 : Pos} {a : Addr} {d₁ d₂ : D} {w : Str} (fr : Free B) (hA : A.frames = some [env]) (hf : env.frame = some env.locals)
    (hmk : σ.get "make" = some (.val (.val (.ref a)))) (h1 : σ.get "one" = some (.val d₁)) (h2 : σ.get "two" = some (.val d₂)) (hst : σ.get "stop" = none) (hsl : env.kindOf (S "stop") = some .local) (han : Storable env "answer")
    (hkT : env.kindOf (S "TypeError") = some .globalImplicit) (hkS : env.kindOf (S "str") = some .globalImplicit)
    (f : FnX B n a [d₁, d₂] w) (h : R .next (σ.put "answer" (.val (.str w)))) :
    Ex1A B n A env σ (.Try [.Assign [.Name (S "answer") p1] (.Call (.Name (S "make") p2) [.Name (S "one") p3, .Name (S "two") p4] [] p5) p6] [.ExceptHandler (some (.Name (S "TypeError") p7)) (some (S "stop")) [.Assign [.Name (S "answer") p8] (.Call (.Name (S "str") p9) [.Name (S "stop") p10] [] p11) p12] p13] [] [] p14) R := by
  intro h₀ P O s E bo ao T
  refine wpAny_Try_except (wpAny_execs_cons (wpAny_Assign_Name (Call_ ?_ rfl) rfl))
  obtain ⟨v, hv, r⟩ := T.vars _ _ hmk
  cases r with
  | val _ e => cases e
  | fn a o fd ho hd hn =>
  have as : EvAs B n env σ [.Name (S "one") p3, .Name (S "two") p4] [d₁, d₂] := evas_cons (ev_name h1) (evas_cons (ev_name h2) evas_nil)
  refine wp_name T hv (callWith_def hd (as h₀ P O A s _ _ p5 bo ao T fun vs s₁ k r => ⟨kheap k _ _ ho, ?_⟩) rfl) (plainName (by decide)) (plainName (by decide))
  have T₁ := T.kp k
  have hhn : (hid s₁.heap [env]).get? env.locals = none := hideAll_none _ (by simp [hf])
  refine f _ A s₁ _ _ vs [env] bo ao T₁.here (fun b z => T₁.xlive z) r hA (T₁.frame1 hf hhn trivial) fun h' tk tk' x t fl tp up => ?_
  refine wpAny_looks_onW hA hf fl fun h₄ hh₄ u₄ => ?_
  refine wpAny_landsW hh₄ fun h₅ fl₅ u₅ => ?_
  have T₅ : St B h₀ P env σ O h₅ := T₁.raised hf fl₅.1 ((up.trans u₄).trans u₅)
  obtain ⟨ob, hob, hobc⟩ := fl₅.there
  refine wpAny_handleBy_builtin_as (X := "TypeError") (T := "TypeError") (b := true) excTE1 excTE2 excTE3 (wp_boot bo T₅ hkT (fr _ (by decide)) (by decide +kernel) ⟨rfl, ⟨ob, hob, hobc⟩, ?_⟩ (by decide) (by decide))
  simp only [if_true]
  refine lands_againW fl₅ fun h₆ fl₆ u₆ => ?_
  have U₆ := ((up.trans u₄).trans u₅).trans u₆
  have T₆ : St B h₀ P env σ O h₆ := T₁.raised hf fl₆.1 U₆
  have tp₆ := ((tp.of_slots u₄).of_slots u₅).of_slots u₆
  obtain ⟨oe, ws, hoe, hoec, hoed, hoe0⟩ := fl₆.first
  obtain ⟨ot, nt, hot, hotc, hotd⟩ := tp₆
  obtain ⟨m₆, n₆⟩ := T₆.ns
  have hkd : (env.scope.kind == .class || (env.scope.kind == .module && env.locals != env.globals)) = false := by rw [T.ok.kind]; rfl
  have nel : ∀ {b o}, h₆.get? b = some o → (∀ es ep, o.data ≠ .dict es ep) → b ≠ env.locals := fun {b o} e hnd q => by
    subst q
    obtain ⟨o', es, ep, e', d', _⟩ := n₆
    rw [e] at e'; cases e'; exact hnd _ _ d'
  refine wpAny_storeName_local hsl n₆ (fun h₇ n₇ s₇ => ?_) hkd
  have keep67 : ∀ b o, b ≠ env.locals → h₆.get? b = some o → h₇.get? b = some o := fun b o ne e => (s₇.2 b ne).trans e
  have noStop : ∀ x b, σ.get x = some b → S x ≠ S "stop" := fun x b e q => by rw [S_inj q, hst] at e; cases e
  have T₇ : St B h₀ P env σ O h₇ := T₆.loc' keep67 fun m n => ⟨_, n₇, fun x b e => by
    rw [if_neg (noStop x b e)]; rw [n.eq_nsMap, n₆.eq_nsMap]⟩
  have keep17 : ∀ b o, b ≠ env.locals → s₁.heap.get? b = some o → h₇.get? b = some o := fun b o ne e => keep67 b o ne (fl₆.1 b o (hideAll_get _ e (by simp only [List.filterMap_cons, hf, List.filterMap_nil, List.mem_singleton]; exact ne)))
  refine wpAny_execs_cons (wpAny_Assign_Name (Call_ (wp_boot (v := .type "str") bo T₇ hkS (fr _ (by decide)) (by decide +kernel) (PyProof.Rows.callWith_type1 ?_ rfl rfl) (by decide) (by decide)) rfl) rfl)
  refine args_cons (wp_name (v := .ref x) T₇ (.inl ⟨hsl, _, n₇, by simp⟩) (args_nil ?_) (plainName (by decide)) (plainName (by decide))) rfl
  refine PySem.P.str_of_exc_one PySem.F.excStr_TypeError (by have := ao.units; show A.units + 2 < cLine; omega) (m := w) (tk := tk') (t0 := t) ⟨oe, ws, keep67 _ _ (nel hoe (fun es ep q => by rw [hoed] at q; cases q)) hoe, hoec, hoed, hoe0⟩ ⟨ot, nt, keep67 _ _ (nel hot (fun es ep q => by rw [hotd] at q; cases q)) hot, hotc, hotd⟩ ?_
  refine wp_store (b := .val (.str w)) T₇ han (.str _ _) fun s₈ mv₈ T₈ => wpAny_execs_nil ?_
  obtain ⟨m₈, n₈⟩ := T₈.ns
  refine wpAny_nameGoes_keeps hsl n₈ hkd fun h₉ v n₉ s₉ => ?_
  have noStop' : ∀ x b, (σ.put "answer" (.val (.str w))).get x = some b → S x ≠ S "stop" := fun x b e q => by
    rw [Sto.get_put, S_inj q, if_neg (by decide), hst] at e; cases e
  have T₉ : St B h₀ P env (σ.put "answer" (.val (.str w))) O h₉ := T₈.loc' (fun b o ne e => (s₉.2 b ne).trans e) fun m n => ⟨_, n₉, fun x b e => by
    rw [if_neg (noStop' x b e)]; rw [n.eq_nsMap, n₈.eq_nsMap]⟩
  have mv₈' := mv₈.names T₇
  obtain ⟨h8, tk8, rfl, k8⟩ := mv₈'
  refine ⟨.next, _, O, ?_, trivial, h, fun _ q => .inl q, T₉⟩
  obtain ⟨h1', tk1', rfl, k1'⟩ := k
  refine ⟨h₉, _, rfl, fun b o nb e => ?_⟩
  have ne : b ≠ env.locals := fun q => nb (q ▸ T.loc)
  exact (s₉.2 b ne).trans (k8 b o nb (keep17 b o ne (k1' b o e)))
end

open Classical in
/-- the heap without what the frame may change -/
noncomputable def hidO (h : Heap) (O : Addr → Prop) : Heap := hideAll h ((List.range h.objs.size).filter fun a => decide (O a))
theorem hidO_get {h : Heap} {O : Addr → Prop} {b : Addr} {o : Obj} (e : h.get? b = some o) (n : ¬ O b) : (hidO h O).get? b = some o := hideAll_get _ e (by simp [n])
theorem hidO_of {h : Heap} {O : Addr → Prop} {b : Addr} {o : Obj} (e : (hidO h O).get? b = some o) : h.get? b = some o := of_hideAll _ e
theorem hidO_none {h : Heap} {O : Addr → Prop} {b : Addr} (n : O b) : (hidO h O).get? b = none := by
  cases e : (hidO h O).get? b with
  | none => rfl
  | some o =>
    have hl := Heap.lt_size (hidO_of e)
    have : (hidO h O).get? b = none := hideAll_none _ (by simp [n, hl])
    rw [this] at e; cases e
section
variable {B : Bas} {n : Nat} {env : Env} {σ : Sto} {P O W : Addr → Prop} {h₀ h h₁ : Heap}
/-- what a walk changes is turned over; a frame of a def -/
theorem St.turn (T : St B h₀ P env σ O h) (hf : env.func.isSome = true) (hW : ∀ b, W b → P b) (hk : ∀ b o, ¬ W b → h.get? b = some o → h₁.get? b = some o) (hl : ∀ b, W b → ∃ o, h₁.get? b = some o) : St B (hidO h₁ O) P env σ O h₁ := by
  have PO : ∀ b, P b → ¬ O b := fun b p q => by obtain ⟨⟨o, e⟩, _⟩ := T.plive b p; rw [T.new b q] at e; cases e
  have WO : ∀ b, O b → ¬ W b := fun b q w => PO b (hW b w) q
  have hB : ∀ b o, B.hB.get? b = some o → h₁.get? b = some o ∧ ¬ O b := fun b o e => by
    refine ⟨hk b o (fun w => by rw [(T.plive b (hW b w)).2] at e; cases e) (T.keep b o (T.base b o e)), fun q => ?_⟩
    have := T.new b q; rw [T.base b o e] at this; cases this
  have hcell : ∀ {y c v}, env.cells.lookup y = some c → h.IsCell c v → h₁.IsCell c v := fun {y c v} l e => by
    obtain ⟨o, e1, e2⟩ := e
    exact ⟨o, hk _ _ (WO _ ((T.cells y c l).2 hf)) e1, e2⟩
  have ns : ∀ {m}, h.Ns env.locals m → h₁.Ns env.locals m := fun nn => nn.at' fun o e => hk _ o (WO _ T.loc) e
  have mvv : ∀ {x w}, VarIs env h x w → VarIs env h₁ x w := by
    rintro x w (⟨kd, m, nn, e⟩ | ⟨kd, k, l, e⟩)
    · exact .inl ⟨kd, m, ns nn, e⟩
    · exact .inr ⟨kd, k, l, hcell l e⟩
  have bck : ∀ {x w b}, σ.get x = some b → VarIs env h₁ (S x) w → VarIs env h (S x) w := by
    intro x w b hb hw
    obtain ⟨w', hw'⟩ := (T.vars x b hb).var
    rw [hw.fn (mvv hw')]; exact hw'
  have hkX : ∀ a o, ¬ (P a ∨ O a) → h.get? a = some o → h₁.get? a = some o := fun a o na e => hk a o (fun w => na (.inl (hW a w))) e
  refine ⟨fun b o e => hidO_get (hB b o e).1 (hB b o e).2, fun b o e => hidO_of e, fun a p => ?_, fun a q => ?_, fun a q => hidO_none q, T.ok, T.loc, let ⟨m, nn⟩ := T.ns; ⟨m, ns nn⟩, fun y k l => ?_, fun y b e => ?_, fun y z ds es c ne hy hz vy vz => T.apart y z ds es c ne hy hz (bck hy vy) (bck hz vz)⟩
  · refine ⟨?_, (T.plive a p).2⟩
    obtain ⟨⟨o, e⟩, _⟩ := T.plive a p
    by_cases w : W a
    · obtain ⟨o', e'⟩ := hl a w; exact ⟨o', hidO_get e' (PO a p)⟩
    · exact ⟨o, hidO_get (hk a o w (T.keep a o e)) (PO a p)⟩
  · obtain ⟨o, e⟩ := T.live a q; exact ⟨o, hk a o (WO a q) e⟩
  · obtain ⟨⟨v, q⟩, f⟩ := T.cells y k l
    exact ⟨⟨v, hcell l q⟩, f⟩
  · have := T.vars y b e
    cases b with
    | val d => obtain ⟨w, hw, r⟩ := this; exact ⟨w, mvv hw, r.mono hkX fun _ _ n _ => n⟩
    | own es =>
      obtain ⟨c, ws, hw, h1, h2, h3, h4⟩ := this
      exact ⟨c, ws, mvv hw, h1, h2, h3.at fun o e => hk _ o (WO _ h1) e, h4.mono hkX fun _ _ n _ => n⟩
/-- what is new is held back -/
theorem St.enter (T : St B h₀ P env σ O h) (hk : ∀ b o, h.get? b = some o → h₁.get? b = some o) (hW : ∀ b, W b → h.get? b = none) (hl : ∀ b, W b → ∃ o, h₁.get? b = some o) : St B (hidO h₁ O) (fun b => P b ∨ W b) env σ O h₁ := by
  have T' := T.keeps hk
  have WO : ∀ b, O b → ¬ W b := fun b q w => by obtain ⟨o, e⟩ := T.live b q; rw [hW b w] at e; cases e
  have hB : ∀ b o, B.hB.get? b = some o → h₁.get? b = some o ∧ ¬ O b := fun b o e => by
    refine ⟨T'.keep b o (T.base b o e), fun q => ?_⟩
    have := T.new b q; rw [T.base b o e] at this; cases this
  have mvx : ∀ b o, ¬ (P b ∨ O b) → h.get? b = some o → ¬ ((P b ∨ W b) ∨ O b) := by
    rintro b o n e ((q | q) | q)
    · exact n (.inl q)
    · rw [hW b q] at e; cases e
    · exact n (.inr q)
  refine ⟨fun b o e => hidO_get (hB b o e).1 (hB b o e).2, fun b o e => hidO_of e, ?_, T'.live, fun a q => hidO_none q, T.ok, T.loc, T'.ns, T'.cells, fun x b e => ?_, T'.apart⟩
  · rintro a (p | w)
    · obtain ⟨⟨o, e⟩, z⟩ := T.plive a p
      exact ⟨⟨o, hidO_get (T'.keep a o e) (fun q => by rw [T.new a q] at e; cases e)⟩, z⟩
    · obtain ⟨o, e⟩ := hl a w
      refine ⟨⟨o, hidO_get e fun q => WO a q w⟩, ?_⟩
      cases e' : B.hB.get? a with
      | none => rfl
      | some o' => have := T.keep a o' (T.base a o' e'); rw [hW a w] at this; cases this
  · have := T.vars x b e
    cases b with
    | val d => obtain ⟨v, hv, r⟩ := this; exact ⟨v, hv.keeps hk, r.mono (fun b o _ e => hk b o e) mvx⟩
    | own ds => obtain ⟨a', vs, hv, h1, h2, h3, h4⟩ := this; exact ⟨a', vs, hv.keeps hk, h1, h2, h3.at fun o e => hk _ o e, h4.mono (fun b o _ e => hk b o e) mvx⟩
/-- and let go -/
theorem St.out {hb h₂ : Heap} {σ' : Sto} {O' : Addr → Prop} (T : St B h₀ P env σ O h) (T' : St B hb (fun b => P b ∨ W b) env σ' O' h₁) (hf : env.func.isSome = true) (hk₂ : ∀ b o, ¬ W b → h₁.get? b = some o → h₂.get? b = some o) (hk : ∀ b o, h₀.get? b = some o → h₂.get? b = some o) (hO : ∀ b, O' b → O b ∨ h.get? b = none) : St B h₀ P env σ' O' h₂ := by
  have sub : ∀ a, (P a ∨ O' a) → ((P a ∨ W a) ∨ O' a) := fun a q => q.imp .inl id
  have WO : ∀ b, O' b → ¬ W b := fun b q w => by obtain ⟨⟨o, e⟩, _⟩ := T'.plive b (.inr w); rw [T'.new b q] at e; cases e
  have hcell : ∀ {y c v}, env.cells.lookup y = some c → h₁.IsCell c v → h₂.IsCell c v := fun {y c v} l e => by
    obtain ⟨o, e1, e2⟩ := e
    exact ⟨o, hk₂ _ _ (WO _ ((T'.cells y c l).2 hf)) e1, e2⟩
  have ns : ∀ {m}, h₁.Ns env.locals m → h₂.Ns env.locals m := fun nn => nn.at' fun o e => hk₂ _ o (WO _ T'.loc) e
  have mvv : ∀ {x w}, VarIs env h₁ x w → VarIs env h₂ x w := by
    rintro x w (⟨kd, m, nn, e⟩ | ⟨kd, k, l, e⟩)
    · exact .inl ⟨kd, m, ns nn, e⟩
    · exact .inr ⟨kd, k, l, hcell l e⟩
  have bck : ∀ {x w b}, σ'.get x = some b → VarIs env h₂ (S x) w → VarIs env h₁ (S x) w := by
    intro x w b hb hw
    obtain ⟨w', hw'⟩ := (T'.vars x b hb).var
    rw [hw.fn (mvv hw')]; exact hw'
  have hkX : ∀ a o, ¬ ((P a ∨ W a) ∨ O' a) → h₁.get? a = some o → h₂.get? a = some o := fun a o na e => hk₂ a o (fun w => na (.inl (.inr w))) e
  have hkn : ∀ a o, ¬ ((P a ∨ W a) ∨ O' a) → h₁.get? a = some o → ¬ (P a ∨ O' a) := fun a o na _ q => na (sub a q)
  refine ⟨T.base, hk, T.plive, fun a q => ?_, fun a q => ?_, T'.ok, T'.loc, let ⟨m, nn⟩ := T'.ns; ⟨m, ns nn⟩, fun y k l => ?_, fun x b e => ?_, fun y z ds es c ne hy hz vy vz => T'.apart y z ds es c ne hy hz (bck hy vy) (bck hz vz)⟩
  · obtain ⟨o, e⟩ := T'.live a q; exact ⟨o, hk₂ a o (WO a q) e⟩
  · rcases hO a q with q | q
    · exact T.new a q
    · cases e : h₀.get? a with
      | none => rfl
      | some o => rw [T.keep a o e] at q; cases q
  · obtain ⟨⟨v, q⟩, f⟩ := T'.cells y k l
    exact ⟨⟨v, hcell l q⟩, f⟩
  · have := T'.vars x b e
    cases b with
    | val d => obtain ⟨v, hv, r⟩ := this; exact ⟨v, mvv hv, r.mono hkX hkn⟩
    | own ds => obtain ⟨a', vs, hv, h1, h2, h3, h4⟩ := this; exact ⟨a', vs, mvv hv, h1, h2, h3.at fun o e => hk₂ _ o (WO _ h1) e, h4.mono hkX hkn⟩
end
section
variable {B : Bas} {n : Nat} {env : Env} {σ : Sto} {R : Fl → Sto → Prop}
set_option maxHeartbeats 1000000 in
theorem ex_forZ {ts : List Expr} {k : Nat} {pt p pz pc : Pos} {e₁ e₂ : Expr} {body : List Stmt} {ds es : List D} (fr : Free B) (hkz : env.kindOf (S "zip") = some .globalImplicit) (hfun : env.func.isSome = true) (x : Ev B n env σ e₁ (.list ds)) (y : Ev B n env σ e₂ (.list es))
    (Inv : Nat → Sto → Prop) (h0 : Inv 0 σ)
    (turn : ∀ i d e σ', ds[i]? = some d → es[i]? = some e → Inv i σ' → ∃ τ', Asg B n env σ' (.Tuple ts k pt) (.tuple [d, e]) τ' ∧
      Ex B n env τ' body (fun fl υ => match fl with | .next => Inv (i + 1) υ | .cont => Inv (i + 1) υ | .brk => R .next υ | .ret v => R (.ret v) υ))
    (done : ∀ υ, Inv (min ds.length es.length) υ → R .next υ)
    (hst : starEach [e₁, e₂] env = (false, eval e₁ env) :: starEach [e₂] env := by rfl) (hst' : starEach [e₂] env = (false, eval e₂ env) :: starEach [] env := by rfl) (hpl : (backTo pc (starEach [e₂] env)).any (·.1) = false := by rfl)
    (hc : eval (.Call (.Name (S "zip") pz) [e₁, e₂] [] pc) env = (do callWith pc (← eval (.Name (S "zip") pz) env) [] (backTo pc (starEach [e₁, e₂] env)) (backToKw pc (keywordEach [] env))) := by rfl)
    (hs : ∀ x, foldedSetIterable (.Call (.Name (S "zip") pz) [e₁, e₂] [] pc) env x = pure x := by intro _; rfl) : Ex1 B n env σ (.For (.Tuple ts k pt) (.Call (.Name (S "zip") pz) [e₁, e₂] [] pc) body [] p) R := by
  intro h₀ P O A s E bo ao T
  have as : EvAs B n env σ [e₁, e₂] [.list ds, .list es] := evas_cons x (evas_cons y evas_nil hst') hst
  refine wpAny_For (Call_ (wp_boot (v := .type "zip") bo T hkz (fr _ (by decide)) (by decide +kernel) (PyProof.Rows.callWith_type1 (as h₀ P O A s E _ pc bo ao T fun vs s₁ k₁ r₁ => ?_) hst hpl) (by decide) (by decide)) hc) hs
  cases r₁ with | cons ra r₁ =>
  cases r₁ with | cons rb r₁ =>
  cases r₁
  obtain ⟨l1, xs, rfl, hl1, nl1, rxs⟩ := rp_list ra
  obtain ⟨l2, ys, rfl, hl2, nl2, rys⟩ := rp_list rb
  have T₁ := T.kp k₁
  have lx := rxs.length
  have ly := rys.length
  have a1 : l1 < s₁.heap.objs.size := by obtain ⟨_, e, _⟩ := hl1; exact Heap.lt_size e
  have a2 : l2 < s₁.heap.objs.size := by obtain ⟨_, e, _⟩ := hl2; exact Heap.lt_size e
  refine call_zip_2 hl1 hl2 fun h₂ hz hTI hTO hi1 hi2 hsz hk₂ => ?_
  refine wpAny_pyIter_zip hz ?_
  have WW := WalksT.zip2 (prog := B.prog) (w := B.w) (A := A) ao.handled _ _ _ _ _ l1 l2 (zipApart_new a1 a2) xs.toArray ys.toArray
  generalize hZ : s₁.heap.objs.size + 4 = z at *
  generalize hZI : s₁.heap.objs.size + 2 = TI at *
  generalize hZO : s₁.heap.objs.size + 3 = TO at *
  generalize hZ2 : s₁.heap.objs.size + 1 = i2 at *
  generalize hZ1 : s₁.heap.objs.size = i1 at *
  have newW : ∀ b ∈ [z, TO, i1, i2], s₁.heap.get? b = none := by
    intro b hb
    refine fresh_of ?_
    simp only [List.mem_cons, List.not_mem_nil, or_false] at hb
    rcases hb with rfl | rfl | rfl | rfl <;> omega
  generalize hst0 : (fun (i : Nat) (h : Heap) => IsZip h z TI TO .none ∧ IsPair h TI (.ref i1) (.ref i2) ∧ (∃ a b, IsPair h TO a b) ∧ h.IsListIter i1 l1 i ∧ h.IsListIter i2 l2 i ∧ h.IsList l1 xs.toArray ∧ h.IsList l2 ys.toArray) = Si at WW
  have st0 : Si 0 h₂ := by rw [← hst0]; exact ⟨hz, hTI, ⟨_, _, hTO⟩, hi1, hi2, hl1.at fun o e => hk₂ _ o e, hl2.at fun o e => hk₂ _ o e⟩
  have live : ∀ i h, Si i h → ∀ b ∈ [z, TI, TO, i1, i2, l1, l2], ∃ o, h.get? b = some o := by
    intro i h hh b hb
    rw [← hst0] at hh
    obtain ⟨q1, q2, ⟨_, _, q3⟩, ⟨_, q4, _⟩, ⟨_, q5, _⟩, ⟨_, q6, _⟩, ⟨_, q7, _⟩⟩ := hh
    simp only [List.mem_cons, List.not_mem_nil, or_false] at hb
    rcases hb with rfl | rfl | rfl | rfl | rfl | rfl | rfl
    · exact ⟨_, q1⟩
    · exact ⟨_, q2⟩
    · exact ⟨_, q3⟩
    · exact ⟨_, q4⟩
    · exact ⟨_, q5⟩
    · exact ⟨_, q6⟩
    · exact ⟨_, q7⟩
  generalize hmid : (fun (i : Nat) (T : Addr) (h : Heap) => IsZip h z TI TO (rawInt T) ∧ IsPair h TI (.ref i1) (.ref i2) ∧ (∃ a b, IsPair h TO a b) ∧ h.IsListIter i1 l1 (i + 1) ∧ h.IsListIter i2 l2 (i + 1) ∧ h.IsList l1 xs.toArray ∧ h.IsList l2 ys.toArray ∧ T ≠ z ∧ T ≠ TO ∧ T ≠ i1 ∧ T ≠ i2) = Mid at WW
  have fpO : ∀ b ∈ [z, TI, TO, i1, i2, l1, l2], ¬ O b := by
    intro b hb q
    simp only [List.mem_cons, List.not_mem_nil, or_false] at hb
    obtain ⟨o, e⟩ := T₁.live b q
    have := Heap.lt_size e
    rw [hZ1] at this
    have hge : ∀ c : Nat, i1 ≤ c → b = c → False := fun c hc e => Nat.lt_irrefl _ (Nat.lt_of_lt_of_le this (e ▸ hc))
    rcases hb with e1 | e1 | e1 | e1 | e1 | e1 | e1
    · exact hge _ (by rw [← hZ]; exact Nat.le_add_right _ _) e1
    · exact hge _ (by rw [← hZI]; exact Nat.le_add_right _ _) e1
    · exact hge _ (by rw [← hZO]; exact Nat.le_add_right _ _) e1
    · exact hge _ (Nat.le_refl _) e1
    · exact hge _ (by rw [← hZ2]; exact Nat.le_add_right _ _) e1
    · exact nl1 (.inr (e1 ▸ q))
    · exact nl2 (.inr (e1 ▸ q))
  generalize hwr : [z, TO, i1, i2] = wr at WW newW
  generalize hfp : [z, TI, TO, i1, i2, l1, l2] = fp at WW live fpO
  have k₂ : Keeps s { s₁ with heap := h₂ } := ktrans k₁ ⟨h₂, _, rfl, hk₂⟩
  have T₂ : St B (hidO h₂ O) (fun b => P b ∨ b ∈ wr) env σ O h₂ := T₁.enter hk₂ newW fun b hb => live 0 h₂ st0 b (WW.sub b hb)
  have rdx : ∀ (i : Nat) (x y : Value), xs.toArray[i]? = some x → ys.toArray[i]? = some y → ∃ d e, ds[i]? = some d ∧ es[i]? = some e ∧ RpAll s₁.heap (fun a => P a ∨ O a) [x, y] [d, e] := by
    intro i x y hx hy
    simp only [List.getElem?_toArray] at hx hy
    obtain ⟨d, hd, r⟩ := rxs.get hx
    obtain ⟨e, he, r'⟩ := rys.get hy
    exact ⟨d, e, hd, he, .cons r (.cons r' .nil)⟩
  refine codeAny_forLoop_any (fun (kk : Nat) (s' : Shared) => ∃ i σ' O' hb, kk = (min ds.length es.length) + 1 - i ∧ i ≤ min ds.length es.length ∧ (∃ h' tk, s' = { s₁ with heap := h', toks := tk }) ∧ Si i s'.heap ∧ St B hb (fun b => P b ∨ b ∈ wr) env σ' O' s'.heap ∧ Inv i σ' ∧
      (∀ b o, ¬ O b → b ∉ wr → h₂.get? b = some o → s'.heap.get? b = some o) ∧ (∀ b, O' b → O b ∨ h₂.get? b = none)) ?_ (min ds.length es.length + 1)
    ⟨0, σ, O, _, rfl, Nat.zero_le _, ⟨h₂, _, rfl⟩, st0, T₂, h0, fun _ _ _ _ e => e, fun _ q => .inl q⟩
  rintro kk s' ⟨i, σ', O', hb, rfl, hi, ⟨hh, tk, rfl⟩, st', T', hI, hk, hO⟩
  have fpO' : ∀ b ∈ fp, ¬ O' b := fun b hbf q => by
    rcases hO b q with q | q
    · exact fpO b hbf q
    · obtain ⟨o, e⟩ := live 0 h₂ st0 b hbf; rw [q] at e; cases e
  have fin : ∀ (O'' : Addr → Prop) (σ'' : Sto) (hb' h'' h' : Heap) (tk' : Nat), (∀ b o, ¬ O b → b ∉ wr → h₂.get? b = some o → h'.get? b = some o) → (∀ b, O'' b → O b ∨ h₂.get? b = none) → St B hb' (fun b => P b ∨ b ∈ wr) env σ'' O'' h'' → (∀ b o, b ∉ wr → h''.get? b = some o → h'.get? b = some o) →
      Mov O s { s₁ with heap := h', toks := tk' } ∧ (∀ b, O'' b → O b ∨ s.heap.get? b = none) ∧ St B h₀ P env σ'' O'' h' := by
    intro O'' σ'' hb' h'' h' tk' hk' hO' TT hkw
    have kx' : ∀ b o, s.heap.get? b = some o → h₂.get? b = some o := fun b o q => kheap k₂ b o q
    have hwn : ∀ b o, s.heap.get? b = some o → b ∉ wr := fun b o e hbw => by have := newW b hbw; rw [kheap k₁ b o e] at this; cases this
    have hOs : ∀ b, O'' b → O b ∨ s.heap.get? b = none := fun b q => (hO' b q).imp id fun q => by
      cases e : s.heap.get? b with
      | none => rfl
      | some o => rw [kx' b o e] at q; cases q
    refine ⟨?_, hOs, T.out (W := fun b => b ∈ wr) TT hfun hkw (fun b o q => ?_) hOs⟩
    · obtain ⟨h1, tk1, rfl, k1⟩ := k₁
      exact ⟨h', tk', rfl, fun b o nb e => hk' b o nb (hwn b o e) (kx' b o e)⟩
    · have q' := T.keep b o q
      exact hk' b o (fun z => by rw [T.new b z] at q; cases q) (hwn b o q') (kx' b o q')
  by_cases hlt : i < min ds.length es.length
  · refine WW.item i _ _ _ (by simp only [List.size_toArray]; omega) st' fun Tt vals h₃ tk₃ hPt hTs hTt hMid hk₃ => ?_
    obtain ⟨vx, vy, hvx, hvy, rfl⟩ := hPt
    obtain ⟨d, e, hd, he, rde⟩ := rdx i vx vy hvx hvy
    refine WW.go _ _ _ _ _ _ _ _ hMid fun h₄ st₄ hk₄ => ?_
    have hkk : ∀ b o, b ∉ wr → hh.get? b = some o → h₄.get? b = some o := fun b o nb e => hk₄ b o nb (hk₃ b o nb e)
    have T₄ : St B (hidO h₄ O') (fun b => P b ∨ b ∈ wr) env σ' O' h₄ := T'.turn hfun (W := fun b => b ∈ wr) (fun b q => .inr q) hkk fun b q => live _ _ st₄ b (WW.sub b q)
    obtain ⟨τ', hasg, hex⟩ := turn i d e σ' hd he hI
    have Tnew : hh.get? Tt = none := fresh_of hTs
    have Tw := WW.apart _ _ _ hMid
    have T4t : h₄.IsTuple Tt #[vx, vy] := by obtain ⟨o, ho, r⟩ := hTt; exact ⟨o, hk₄ _ _ Tw ho, r⟩
    have nX : ∀ {a o}, ¬ (P a ∨ O a) → s₁.heap.get? a = some o → ¬ ((P a ∨ a ∈ wr) ∨ O' a) := fun {a o} na e => by
      rintro ((q | q) | q)
      · exact na (.inl q)
      · rw [newW a q] at e; cases e
      · rcases hO a q with q | q
        · exact na (.inr q)
        · rw [hk₂ a o e] at q; cases q
    have rr : RpAll h₄ (fun a => (P a ∨ a ∈ wr) ∨ O' a) [vx, vy] [d, e] := rde.mono (fun a o na e => hkk a o (fun q => by rw [newW a q] at e; cases e) (hk a o (fun q => na (.inr q)) (fun q => by rw [newW a q] at e; cases e) (hk₂ a o e))) fun a o na e => nX na e
    have rt : Rp h₄ (fun a => (P a ∨ a ∈ wr) ∨ O' a) (.ref Tt) (.tuple [d, e]) := by
      refine .tuple (vs := [vx, vy]) T4t ?_ rr
      rintro ((q | q) | q)
      · obtain ⟨⟨o, e⟩, _⟩ := T'.plive Tt (.inl q); rw [T'.keep _ _ e] at Tnew; cases Tnew
      · exact Tw q
      · obtain ⟨o, e⟩ := T'.live Tt q; rw [e] at Tnew; cases Tnew
    refine hasg _ _ O' A _ _ _ _ bo ao T₄ rt fun s₅ m₅ T₅ => ?_
    refine wpAny_mono (hex _ _ O' A s₅ _ bo ao T₅) (fun f s₆ q => ?_) fun _ _ q => q
    obtain ⟨fl, υ, O₆, m₆, hfl, hR, hO₆, T₆⟩ := q
    obtain ⟨h5, tk5, rfl, k5⟩ := m₅.names T₄
    obtain ⟨h6, tk6, rfl, k6⟩ := m₆
    have keepAll : ∀ b o, ¬ O' b → h₄.get? b = some o → h6.get? b = some o := fun b o nb e => k6 b o nb (k5 b o nb e)
    have hk6 : ∀ b o, ¬ O b → b ∉ wr → h₂.get? b = some o → h6.get? b = some o := fun b o nb nw e =>
      keepAll b o (fun q => (hO b q).elim nb fun q => by rw [q] at e; cases e) (hkk b o nw (hk b o nb nw e))
    have hO6 : ∀ b, O₆ b → O b ∨ h₂.get? b = none := fun b q => by
      rcases hO₆ b q with q | q
      · exact hO b q
      · by_cases hOb : O b
        · exact .inl hOb
        · refine .inr ?_
          cases e : h₂.get? b with
          | none => rfl
          | some o =>
            have h4b : ∃ o', h₄.get? b = some o' := by
              by_cases hbw : b ∈ wr
              · exact live _ _ st₄ b (WW.sub b hbw)
              · exact ⟨o, hkk b o hbw (hk b o hOb hbw e)⟩
            obtain ⟨o', e'⟩ := h4b
            by_cases ho' : O' b
            · rcases hO b ho' with z | z
              · exact absurd z hOb
              · rw [z] at e; cases e
            · have := k5 b o' ho' e'
              rw [this] at q; cases q
    have stN : Si (i + 1) h6 := WW.frame _ _ _ st₄ fun b hbf o e => keepAll b o (fpO' b hbf) e
    obtain ⟨mv, mo, TT⟩ := fin O₆ υ _ h6 h6 tk6 hk6 hO6 T₆ fun _ _ _ e => e
    have sub : ∀ a, P a → (P a ∨ a ∈ wr) := fun a q => .inl q
    cases f with
    | next =>
      cases fl <;> try exact hfl.elim
      exact ⟨_, by omega, i + 1, υ, O₆, _, rfl, hlt, ⟨h6, tk6, rfl⟩, stN, T₆, hR, hk6, hO6⟩
    | cont =>
      cases fl <;> try exact hfl.elim
      exact ⟨_, by omega, i + 1, υ, O₆, _, rfl, hlt, ⟨h6, tk6, rfl⟩, stN, T₆, hR, hk6, hO6⟩
    | brk =>
      cases fl <;> try exact hfl.elim
      exact ⟨.next, υ, O₆, mv, trivial, hR, mo, TT⟩
    | ret w =>
      cases fl <;> try exact hfl.elim
      exact ⟨.ret _, υ, O₆, mv, Rp.sub sub hfl, hR, mo, TT⟩
  · have hi' : i = min ds.length es.length := by omega
    subst hi'
    have st'' : Si (min xs.toArray.size ys.toArray.size) hh := by simp only [List.size_toArray, lx, ly]; exact st'
    refine WW.done _ _ _ st'' fun h₃ tk₃ hk₃ => ?_
    have hk3 : ∀ b o, ¬ O b → b ∉ wr → h₂.get? b = some o → h₃.get? b = some o := fun b o nb nw e => hk₃ b o nw (hk b o nb nw e)
    obtain ⟨mv, mo, T₃⟩ := fin O' σ' hb hh h₃ tk₃ hk3 hO T' hk₃
    exact wpAny_execs_nil ⟨.next, σ', O', mv, trivial, done _ hI, mo, T₃⟩
end

/-- the things -/
def isThing : PyData → Prop
  | .int _ => True
  | .bool _ => True
  | .none => True
  | .str x => ∃ c : Int, (97 ≤ c ∧ c ≤ 122) ∧ x = ltr c
  | .list l => ∃ i, l = [.int i]
  | _ => False
def nmT : PyData → String
  | .int _ => "int"
  | .bool _ => "bool"
  | .str _ => "str"
  | .none => "NoneType"
  | .list _ => "list"
  | _ => ""
def clT : PyData → Int
  | .int _ => 0
  | .bool _ => 0
  | .str _ => 1
  | .none => 2
  | .list _ => 3
  | _ => 4
def numT : PyData → Int
  | .int i => i
  | .bool b => b2i b
  | .str x => ((x.cps.toList.headD 0 : Nat) : Int)
  | .list [.int i] => i
  | _ => 0
def opI : CmpOp → Int → Int → Bool
  | .Lt, i, j => decide (i < j)
  | .LtE, i, j => decide (i ≤ j)
  | .Gt, i, j => decide (i > j)
  | .GtE, i, j => decide (i ≥ j)
  | _, _, _ => false
def symT : CmpOp → String
  | .Lt => "<"
  | .LtE => "<="
  | .Gt => ">"
  | .GtE => ">="
  | _ => ""
def poT (op : CmpOp) (x y : PyData) : Out := if clT x = clT y then .val (opI op (numT x) (numT y)) else .err (Str.ofString (cmpMsg (symT op) (nmT x) (nmT y)))
theorem numT_ltr {c : Int} (h : 0 ≤ c) : numT (.str (ltr c)) = c := by unfold numT ltr; simp; omega
theorem ltr_inj {c d : Int} (h : 0 ≤ c) (h' : 0 ≤ d) : (ltr c == ltr d) = (c == d) := by
  rw [Bool.eq_iff_iff, beq_iff_eq, beq_iff_eq]
  constructor
  · intro e; have := congrArg (fun x => numT (.str x)) e; simpa [numT_ltr h, numT_ltr h'] using this
  · intro e; rw [e]
theorem eqvT : ∀ {x y : PyData}, isThing x → isThing y → PyData.eqv x y = (clT x == clT y && numT x == numT y)
  | .int i, .int j, _, _ => by simp [PyData.eqv, clT, numT]
  | .int i, .bool j, _, _ => by cases j <;> simp [PyData.eqv, clT, numT, b2i]
  | .bool i, .int j, _, _ => by cases i <;> simp [PyData.eqv, clT, numT, b2i]
  | .bool i, .bool j, _, _ => by cases i <;> cases j <;> rfl
  | .int i, .str j, _, _ => by simp [PyData.eqv, clT]
  | .int i, .none, _, _ => by simp [PyData.eqv, clT]
  | .int i, .list j, _, _ => by simp [PyData.eqv, clT]
  | .bool i, .str j, _, _ => by simp [PyData.eqv, clT]
  | .bool i, .none, _, _ => by simp [PyData.eqv, clT]
  | .bool i, .list j, _, _ => by simp [PyData.eqv, clT]
  | .str i, .int j, _, _ => by simp [PyData.eqv, clT]
  | .str i, .bool j, _, _ => by simp [PyData.eqv, clT]
  | .str i, .str j, ⟨c, hc, e⟩, ⟨d, hd, e'⟩ => by
    subst e; subst e'
    have hc : 0 ≤ c := by omega
    have hd : 0 ≤ d := by omega
    rw [numT_ltr hc, numT_ltr hd]
    simp only [PyData.eqv, clT]
    rw [ltr_inj hc hd]; simp
  | .str i, .none, _, _ => by simp [PyData.eqv, clT]
  | .str i, .list j, _, _ => by simp [PyData.eqv, clT]
  | .none, .int j, _, _ => by simp [PyData.eqv, clT]
  | .none, .bool j, _, _ => by simp [PyData.eqv, clT]
  | .none, .str j, _, _ => by simp [PyData.eqv, clT]
  | .none, .none, _, _ => by simp [PyData.eqv, clT, numT]
  | .none, .list j, _, _ => by simp [PyData.eqv, clT]
  | .list i, .int j, _, _ => by simp [PyData.eqv, clT]
  | .list i, .bool j, _, _ => by simp [PyData.eqv, clT]
  | .list i, .str j, _, _ => by simp [PyData.eqv, clT]
  | .list i, .none, _, _ => by simp [PyData.eqv, clT]
  | .list i, .list j, ⟨c, e⟩, ⟨d, e'⟩ => by subst e; subst e'; simp [PyData.eqv, PyData.eqvAll, clT, numT]
theorem thing_lay : ∀ {x : PyData}, isThing x → PyData.canLay0 x = true ∧ PyData.depth x ≤ 2
  | .int i, _ => ⟨rfl, by simp [PyData.depth]⟩
  | .bool i, _ => ⟨rfl, by simp [PyData.depth]⟩
  | .none, _ => ⟨rfl, by simp [PyData.depth]⟩
  | .str i, ⟨c, hc, e⟩ => by
    subst e
    refine ⟨?_, by simp [PyData.depth]⟩
    unfold PyData.canLay0 PyData.strOk ltr
    simp
    omega
  | .list i, ⟨c, e⟩ => by subst e; exact ⟨rfl, by simp [PyData.depth, PyData.depthAll]⟩
section
variable {prog : Program} {w : World} {A : Around} {E : Value → Shared → Prop} {s : Shared}
theorem thing_cases {x : PyData} (tx : isThing x) : (∃ i, x = .int i) ∨ (∃ b, x = .bool b) ∨ (∃ c : Int, 0 ≤ c ∧ x = .str (ltr c)) ∨ x = .none ∨ ∃ i, x = .list [.int i] := by
  cases x with
  | int i => exact .inl ⟨i, rfl⟩
  | bool i => exact .inr (.inl ⟨i, rfl⟩)
  | str i => obtain ⟨c, hc, rfl⟩ := tx; exact .inr (.inr (.inl ⟨c, by omega, rfl⟩))
  | none => exact .inr (.inr (.inr (.inl rfl)))
  | list l => obtain ⟨i, rfl⟩ := tx; exact .inr (.inr (.inr (.inr ⟨i, rfl⟩)))
  | _ => exact tx.elim
theorem thing_ty {x : PyData} {v : Value} (tx : isThing x) (r : Rp s.heap NoX v (D.of x)) : s.TypeIs v (nmT x) := by
  rcases thing_cases tx with ⟨i, rfl⟩ | ⟨b, rfl⟩ | ⟨c, h0, rfl⟩ | rfl | ⟨i, rfl⟩ <;> simp only [D.of] at r
  · exact ty_int s _ _ r
  · exact ty_bool s _ _ r
  · exact ty_str s _ _ r
  · exact ty_none s _ _ r
  · exact ty_list s _ _ r
theorem thing_nonI {x : PyData} (tx : isThing x) (h : clT x ≠ 0) : NonI (D.of x) := by
  rcases thing_cases tx with ⟨i, rfl⟩ | ⟨b, rfl⟩ | ⟨c, h0, rfl⟩ | rfl | ⟨i, rfl⟩ <;> simp only [D.of]
  · exact absurd rfl h
  · exact absurd rfl h
  · exact nonI_str
  · exact nonI_none
  · exact nonI_list
theorem thing_nonS {x : PyData} (tx : isThing x) (h : clT x ≠ 1) : NonS (D.of x) := by
  rcases thing_cases tx with ⟨i, rfl⟩ | ⟨b, rfl⟩ | ⟨c, h0, rfl⟩ | rfl | ⟨i, rfl⟩ <;> simp only [D.of]
  · exact nonS_int
  · exact nonS_bool
  · exact absurd rfl h
  · exact nonS_none
  · exact nonS_list
inductive Nm : String → Int → Prop
  | int : Nm "int" 0
  | bool : Nm "bool" 0
  | str : Nm "str" 1
  | none : Nm "NoneType" 2
  | list : Nm "list" 3
theorem thing_nm {x : PyData} (tx : isThing x) : Nm (nmT x) (clT x) := by
  rcases thing_cases tx with ⟨i, rfl⟩ | ⟨b, rfl⟩ | ⟨c, h0, rfl⟩ | rfl | ⟨i, rfl⟩ <;> constructor
theorem nm_sub {a b : String} {i j : Int} (x : Nm a i) (y : Nm b j) (h : i ≠ j) : isSubtype (.type b) (.type a) = pure false ∧ (Value.type a != Value.type b) = true := by
  cases x <;> cases y <;> first | exact absurd rfl h | (refine ⟨?_, by decide⟩; assumption) | exact ⟨sb_int_str, by decide⟩ | exact ⟨sb_int_NoneType, by decide⟩ | exact ⟨sb_int_list, by decide⟩ | exact ⟨sb_bool_str, by decide⟩ | exact ⟨sb_bool_NoneType, by decide⟩ | exact ⟨sb_bool_list, by decide⟩ | exact ⟨sb_str_int, by decide⟩ | exact ⟨sb_str_bool, by decide⟩ | exact ⟨sb_str_NoneType, by decide⟩ | exact ⟨sb_str_list, by decide⟩ | exact ⟨sb_NoneType_int, by decide⟩ | exact ⟨sb_NoneType_bool, by decide⟩ | exact ⟨sb_NoneType_str, by decide⟩ | exact ⟨sb_NoneType_list, by decide⟩ | exact ⟨sb_list_int, by decide⟩ | exact ⟨sb_list_bool, by decide⟩ | exact ⟨sb_list_str, by decide⟩ | exact ⟨sb_list_NoneType, by decide⟩
theorem nm_plain {a : String} {i : Int} (x : Nm a i) : (Value.type a == Value.type "builtin_function_or_method") = false ∧ shownName a = a ∧ (S a).length ≤ 20 := by
  cases x <;> exact ⟨by decide, by decide +kernel, by decide +kernel⟩
theorem str_ext {x y : Str} (h : x.cps = y.cps) : x = y := by cases x; cases y; simp_all
theorem strLen (a b : Str) : (a ++ b).length = a.length + b.length := by
  show (a.cps ++ b.cps).size = a.cps.size + b.cps.size
  simp
theorem S_append (a b : String) : S (a ++ b) = S a ++ S b := by
  have hx : ∀ s : String, S s = Str.ofStringByList s := fun s => by unfold S; rw [Str.ofString_eq_byList]
  rw [hx, hx, hx]
  apply str_ext
  show _ = (Str.ofStringByList a).cps ++ (Str.ofStringByList b).cps
  unfold Str.ofStringByList
  simp
theorem strA (a b c : Str) : a ++ b ++ c = a ++ (b ++ c) := by
  apply str_ext
  show (a.cps ++ b.cps) ++ c.cps = a.cps ++ (b.cps ++ c.cps)
  simp
def sayW (a b : String) : Str := S " not supported between instances of '" ++ S a ++ S "' and '" ++ S b ++ S "'"
def quoteS (op : CmpOp) : Str := S "'" ++ S (symT op) ++ S "'"
theorem msg_eq (op : CmpOp) (a b : String) : Str.ofString (cmpMsg (symT op) a b) = quoteS op ++ sayW a b := by
  show S (cmpMsg (symT op) a b) = _
  have e : cmpMsg (symT op) a b = "'" ++ (symT op ++ ("'" ++ (" not supported between instances of '" ++ (a ++ ("' and '" ++ (b ++ "'")))))) := by
    unfold cmpMsg
    show toString "'" ++ toString (symT op) ++ toString "' not supported between instances of '" ++ toString a ++ toString "' and '" ++ toString b ++ toString "'" = _
    simp only [toString, String.append_assoc]
    have e1 : "' not supported between instances of '" = "'" ++ " not supported between instances of '" := rfl
    rw [e1]
    simp only [String.append_assoc]
  rw [e]
  simp only [S_append, quoteS, sayW, strA]
theorem sayW_len {a b : String} (ha : (S a).length ≤ 20) (hb : (S b).length ≤ 20) : (sayW a b).length ≤ 100 := by
  have : (S " not supported between instances of '").length = 37 := by decide +kernel
  have : (S "' and '").length = 7 := by decide +kernel
  have : (S "'").length = 1 := by decide +kernel
  unfold sayW
  rw [strLen, strLen, strLen, strLen]; omega
theorem sym_len (op : CmpOp) : (S (symT op)).length ≤ 2 := by cases op <;> decide +kernel
theorem msg_len {op : CmpOp} {a b : String} (ha : (S a).length ≤ 20) (hb : (S b).length ≤ 20) : (Str.ofString (cmpMsg (symT op) a b)).length ≤ sizeLine := by
  have h1 := sayW_len ha hb
  have h2 := sym_len op
  have : (S "'").length = 1 := by decide +kernel
  rw [msg_eq, strLen]
  unfold quoteS
  rw [strLen, strLen]
  exact szLine (by omega)
theorem cn_lt_str {i j : Int} {t u : Tok} {Q : Value → Shared → Prop} (h0 : 0 ≤ i) (h1 : 0 ≤ j) (q : Q (.bool (decide (i < j))) s) : wpAny (model prog w) A (call (.builtin "str.__lt__") [.str (ltr i) t, .str (ltr j) u]) Q E s := by
  have e : decide ((ltr i).cps.toList < (ltr j).cps.toList) = decide (i < j) := by rw [ltr_lt h0 h1]
  rw [← e] at q
  exact wpAny_call_entry PySem.F.slot_str_lt (typeIs_str s (ltr i) t) PySem.F.entry_str_lt (show wpAny _ _ (ret (.bool _)) _ _ s from wpAny_pure ⟨_, rfl, q⟩) (PySem.F.args_str_lt_2 _ _)
theorem dcl_lt {x y : PyData} {va vb : Value} (tx : isThing x) (ty : isThing y) (h : clT x ≠ clT y) (r : Rp s.heap NoX va (D.of x)) (r' : Rp s.heap NoX vb (D.of y)) : ∃ id, Slot (nmT x) (cmpInfo .Lt).2.1 id ∧ ∀ Q' : Value → Shared → Prop, Q' .notImplemented s → wpAny (model prog w) A (call (.builtin id) [va, vb]) Q' E s := by
  rcases thing_cases tx with ⟨i, rfl⟩ | ⟨b, rfl⟩ | ⟨c, h0, rfl⟩ | rfl | ⟨i, rfl⟩ <;> simp only [D.of] at r
  · obtain ⟨t, rfl⟩ := rp_int r; exact ⟨_, PySem.F.slot_int_lt, fun Q' q' => dc_int_lt (thing_nonI ty (Ne.symm h)) r' q'⟩
  · cases rp_val r; exact ⟨_, PySem.F.slot_bool_lt, fun Q' q' => dc_bool_lt (thing_nonI ty (Ne.symm h)) r' q'⟩
  · obtain ⟨t, rfl⟩ := rp_str r; exact ⟨_, PySem.F.slot_str_lt, fun Q' q' => dc_str_lt (thing_nonS ty (Ne.symm h)) r' q'⟩
  · cases rp_val r; exact ⟨_, PySem.F.slot_NoneType_lt, fun Q' q' => dc_NoneType_lt q'⟩
  · obtain ⟨l, vs, rfl, hl, _, rl⟩ := rp_list r; exact ⟨_, PySem.F.slot_list_lt, fun Q' q' => dc_list_lt hl.typeIs (thing_ty ty r') (nm_sub .list (thing_nm ty) h).1 q'⟩
theorem cn_le_str {i j : Int} {t u : Tok} {Q : Value → Shared → Prop} (h0 : 0 ≤ i) (h1 : 0 ≤ j) (q : Q (.bool (decide (i ≤ j))) s) : wpAny (model prog w) A (call (.builtin "str.__le__") [.str (ltr i) t, .str (ltr j) u]) Q E s := by
  have e : (!decide ((ltr j).cps.toList < (ltr i).cps.toList)) = decide (i ≤ j) := by rw [ltr_lt h1 h0, Bool.eq_iff_iff]; simp
  rw [← e] at q
  exact wpAny_call_entry PySem.F.slot_str_le (typeIs_str s (ltr i) t) PySem.F.entry_str_le (show wpAny _ _ (ret (.bool _)) _ _ s from wpAny_pure ⟨_, rfl, q⟩) (PySem.F.args_str_le_2 _ _)
theorem dcl_le {x y : PyData} {va vb : Value} (tx : isThing x) (ty : isThing y) (h : clT x ≠ clT y) (r : Rp s.heap NoX va (D.of x)) (r' : Rp s.heap NoX vb (D.of y)) : ∃ id, Slot (nmT x) (cmpInfo .LtE).2.1 id ∧ ∀ Q' : Value → Shared → Prop, Q' .notImplemented s → wpAny (model prog w) A (call (.builtin id) [va, vb]) Q' E s := by
  rcases thing_cases tx with ⟨i, rfl⟩ | ⟨b, rfl⟩ | ⟨c, h0, rfl⟩ | rfl | ⟨i, rfl⟩ <;> simp only [D.of] at r
  · obtain ⟨t, rfl⟩ := rp_int r; exact ⟨_, PySem.F.slot_int_le, fun Q' q' => dc_int_le (thing_nonI ty (Ne.symm h)) r' q'⟩
  · cases rp_val r; exact ⟨_, PySem.F.slot_bool_le, fun Q' q' => dc_bool_le (thing_nonI ty (Ne.symm h)) r' q'⟩
  · obtain ⟨t, rfl⟩ := rp_str r; exact ⟨_, PySem.F.slot_str_le, fun Q' q' => dc_str_le (thing_nonS ty (Ne.symm h)) r' q'⟩
  · cases rp_val r; exact ⟨_, PySem.F.slot_NoneType_le, fun Q' q' => dc_NoneType_le q'⟩
  · obtain ⟨l, vs, rfl, hl, _, rl⟩ := rp_list r; exact ⟨_, PySem.F.slot_list_le, fun Q' q' => dc_list_le hl.typeIs (thing_ty ty r') (nm_sub .list (thing_nm ty) h).1 q'⟩
theorem cn_gt_str {i j : Int} {t u : Tok} {Q : Value → Shared → Prop} (h0 : 0 ≤ i) (h1 : 0 ≤ j) (q : Q (.bool (decide (i > j))) s) : wpAny (model prog w) A (call (.builtin "str.__gt__") [.str (ltr i) t, .str (ltr j) u]) Q E s := by
  have e : decide ((ltr j).cps.toList < (ltr i).cps.toList) = decide (i > j) := by rw [ltr_lt h1 h0]
  rw [← e] at q
  exact wpAny_call_entry PySem.F.slot_str_gt (typeIs_str s (ltr i) t) PySem.F.entry_str_gt (show wpAny _ _ (ret (.bool _)) _ _ s from wpAny_pure ⟨_, rfl, q⟩) (PySem.F.args_str_gt_2 _ _)
theorem dcl_gt {x y : PyData} {va vb : Value} (tx : isThing x) (ty : isThing y) (h : clT x ≠ clT y) (r : Rp s.heap NoX va (D.of x)) (r' : Rp s.heap NoX vb (D.of y)) : ∃ id, Slot (nmT x) (cmpInfo .Gt).2.1 id ∧ ∀ Q' : Value → Shared → Prop, Q' .notImplemented s → wpAny (model prog w) A (call (.builtin id) [va, vb]) Q' E s := by
  rcases thing_cases tx with ⟨i, rfl⟩ | ⟨b, rfl⟩ | ⟨c, h0, rfl⟩ | rfl | ⟨i, rfl⟩ <;> simp only [D.of] at r
  · obtain ⟨t, rfl⟩ := rp_int r; exact ⟨_, PySem.F.slot_int_gt, fun Q' q' => dc_int_gt (thing_nonI ty (Ne.symm h)) r' q'⟩
  · cases rp_val r; exact ⟨_, PySem.F.slot_bool_gt, fun Q' q' => dc_bool_gt (thing_nonI ty (Ne.symm h)) r' q'⟩
  · obtain ⟨t, rfl⟩ := rp_str r; exact ⟨_, PySem.F.slot_str_gt, fun Q' q' => dc_str_gt (thing_nonS ty (Ne.symm h)) r' q'⟩
  · cases rp_val r; exact ⟨_, PySem.F.slot_NoneType_gt, fun Q' q' => dc_NoneType_gt q'⟩
  · obtain ⟨l, vs, rfl, hl, _, rl⟩ := rp_list r; exact ⟨_, PySem.F.slot_list_gt, fun Q' q' => dc_list_gt hl.typeIs (thing_ty ty r') (nm_sub .list (thing_nm ty) h).1 q'⟩
theorem cn_ge_str {i j : Int} {t u : Tok} {Q : Value → Shared → Prop} (h0 : 0 ≤ i) (h1 : 0 ≤ j) (q : Q (.bool (decide (i ≥ j))) s) : wpAny (model prog w) A (call (.builtin "str.__ge__") [.str (ltr i) t, .str (ltr j) u]) Q E s := by
  have e : (!decide ((ltr i).cps.toList < (ltr j).cps.toList)) = decide (i ≥ j) := by rw [ltr_lt h0 h1, Bool.eq_iff_iff]; simp
  rw [← e] at q
  exact wpAny_call_entry PySem.F.slot_str_ge (typeIs_str s (ltr i) t) PySem.F.entry_str_ge (show wpAny _ _ (ret (.bool _)) _ _ s from wpAny_pure ⟨_, rfl, q⟩) (PySem.F.args_str_ge_2 _ _)
theorem dcl_ge {x y : PyData} {va vb : Value} (tx : isThing x) (ty : isThing y) (h : clT x ≠ clT y) (r : Rp s.heap NoX va (D.of x)) (r' : Rp s.heap NoX vb (D.of y)) : ∃ id, Slot (nmT x) (cmpInfo .GtE).2.1 id ∧ ∀ Q' : Value → Shared → Prop, Q' .notImplemented s → wpAny (model prog w) A (call (.builtin id) [va, vb]) Q' E s := by
  rcases thing_cases tx with ⟨i, rfl⟩ | ⟨b, rfl⟩ | ⟨c, h0, rfl⟩ | rfl | ⟨i, rfl⟩ <;> simp only [D.of] at r
  · obtain ⟨t, rfl⟩ := rp_int r; exact ⟨_, PySem.F.slot_int_ge, fun Q' q' => dc_int_ge (thing_nonI ty (Ne.symm h)) r' q'⟩
  · cases rp_val r; exact ⟨_, PySem.F.slot_bool_ge, fun Q' q' => dc_bool_ge (thing_nonI ty (Ne.symm h)) r' q'⟩
  · obtain ⟨t, rfl⟩ := rp_str r; exact ⟨_, PySem.F.slot_str_ge, fun Q' q' => dc_str_ge (thing_nonS ty (Ne.symm h)) r' q'⟩
  · cases rp_val r; exact ⟨_, PySem.F.slot_NoneType_ge, fun Q' q' => dc_NoneType_ge q'⟩
  · obtain ⟨l, vs, rfl, hl, _, rl⟩ := rp_list r; exact ⟨_, PySem.F.slot_list_ge, fun Q' q' => dc_list_ge hl.typeIs (thing_ty ty r') (nm_sub .list (thing_nm ty) h).1 q'⟩
theorem rcT_lt (hu : A.units + 24 < cLine) (hh : A.handled = none) {x y : PyData} {va vb : Value} {Q : Value → Shared → Prop} (tx : isThing x) (ty : isThing y) (hne : PyData.eqv x y = false) (r : Rp s.heap NoX va (D.of x)) (r' : Rp s.heap NoX vb (D.of y)) (q : OutQ s Q E (poT .Lt x y)) : wpAny (model prog w) A (richCompare .Lt va vb) Q E s := by
  unfold poT at q
  by_cases h : clT x = clT y
  · rw [if_pos h] at q
    rcases thing_cases tx with ⟨i, rfl⟩ | ⟨b, rfl⟩ | ⟨c, h0, rfl⟩ | rfl | ⟨i, rfl⟩ <;> rcases thing_cases ty with ⟨j, rfl⟩ | ⟨d, rfl⟩ | ⟨e, h1, rfl⟩ | rfl | ⟨j, rfl⟩ <;> first | (simp [clT] at h; done) | skip
    all_goals simp only [D.of] at r r'
    · obtain ⟨t, rfl⟩ := rp_int r; obtain ⟨u, rfl⟩ := rp_int r'; exact rn_lt_int_int (by omega) q
    · obtain ⟨t, rfl⟩ := rp_int r; cases rp_val r'; exact rn_lt_int_bool (by omega) q
    · cases rp_val r; obtain ⟨u, rfl⟩ := rp_int r'; exact rn_lt_bool_int (by omega) q
    · cases rp_val r; cases rp_val r'; exact rn_lt_bool_bool (by omega) q
    · obtain ⟨t, rfl⟩ := rp_str r; obtain ⟨u, rfl⟩ := rp_str r'
      rw [numT_ltr h0, numT_ltr h1] at q
      exact wpAny_richCompare_same_room (op := .Lt) (typeIs_str s _ t) (typeIs_str s _ u) PySem.F.slot_str_lt (cn_lt_str h0 h1 ⟨by simp, q⟩) (by omega)
    · simp [PyData.eqv] at hne
    · obtain ⟨l, vs, rfl, hl, _, rl⟩ := rp_list r; obtain ⟨l', ws, rfl, hl', _, rl'⟩ := rp_list r'
      refine wpAny_richCompare_same_room (op := .Lt) hl.typeIs hl'.typeIs PySem.F.slot_list_lt (call_list_lt hl hl' (by omega) (fun x => ∃ i, x = PyData.int i) (fun x hx => by obtain ⟨i, rfl⟩ := hx; exact ⟨rfl, by simp [PyData.depth]⟩) (fun x y => .val (opI .Lt (numT x) (numT y))) ?_ (xs := [.int i]) (ys := [.int j]) (fun x hx => ⟨i, by simpa using hx⟩) (fun x hx => ⟨j, by simpa using hx⟩) rl rl' ?_) (by omega)
      · rintro prog w x y va vb Q E ⟨i, rfl⟩ ⟨j, rfl⟩ hne r r' q
        simp only [D.of] at r r'
        obtain ⟨t, rfl⟩ := rp_int r; obtain ⟨u, rfl⟩ := rp_int r'
        exact rn_lt_int_int (by show A.units + 1 < cLine; omega) q
      · have e : PyData.eqv (.int i) (.int j) = false := by rw [← hne]; simp [PyData.eqv, PyData.eqvAll]
        unfold loopOut
        rw [if_neg (by rw [e]; decide)]
        exact ⟨by simp, q⟩
  · rw [if_neg h] at q
    obtain ⟨ida, s1, c1⟩ := dcl_lt (prog := prog) (w := w) (A := A) (E := E) tx ty h r r'
    obtain ⟨idb, s2, c2⟩ := dcl_gt (prog := prog) (w := w) (A := A) (E := E) ty tx (Ne.symm h) r' r
    obtain ⟨a1, a2, a3⟩ := nm_plain (thing_nm tx)
    obtain ⟨b1, b2, b3⟩ := nm_plain (thing_nm ty)
    obtain ⟨hs, hn⟩ := nm_sub (thing_nm tx) (thing_nm ty) h
    exact rc_declined (op := .Lt) rfl (by decide) (by decide) hh (thing_ty tx r) (thing_ty ty r') hn hs s1 s2 a1 b1 a2 b2 c1 c2 (by omega) (msg_len (op := .Lt) a3 b3) q
theorem rcT_le (hu : A.units + 24 < cLine) (hh : A.handled = none) {x y : PyData} {va vb : Value} {Q : Value → Shared → Prop} (tx : isThing x) (ty : isThing y) (hne : PyData.eqv x y = false) (r : Rp s.heap NoX va (D.of x)) (r' : Rp s.heap NoX vb (D.of y)) (q : OutQ s Q E (poT .LtE x y)) : wpAny (model prog w) A (richCompare .LtE va vb) Q E s := by
  unfold poT at q
  by_cases h : clT x = clT y
  · rw [if_pos h] at q
    rcases thing_cases tx with ⟨i, rfl⟩ | ⟨b, rfl⟩ | ⟨c, h0, rfl⟩ | rfl | ⟨i, rfl⟩ <;> rcases thing_cases ty with ⟨j, rfl⟩ | ⟨d, rfl⟩ | ⟨e, h1, rfl⟩ | rfl | ⟨j, rfl⟩ <;> first | (simp [clT] at h; done) | skip
    all_goals simp only [D.of] at r r'
    · obtain ⟨t, rfl⟩ := rp_int r; obtain ⟨u, rfl⟩ := rp_int r'; exact rn_le_int_int (by omega) q
    · obtain ⟨t, rfl⟩ := rp_int r; cases rp_val r'; exact rn_le_int_bool (by omega) q
    · cases rp_val r; obtain ⟨u, rfl⟩ := rp_int r'; exact rn_le_bool_int (by omega) q
    · cases rp_val r; cases rp_val r'; exact rn_le_bool_bool (by omega) q
    · obtain ⟨t, rfl⟩ := rp_str r; obtain ⟨u, rfl⟩ := rp_str r'
      rw [numT_ltr h0, numT_ltr h1] at q
      exact wpAny_richCompare_same_room (op := .LtE) (typeIs_str s _ t) (typeIs_str s _ u) PySem.F.slot_str_le (cn_le_str h0 h1 ⟨by simp, q⟩) (by omega)
    · simp [PyData.eqv] at hne
    · obtain ⟨l, vs, rfl, hl, _, rl⟩ := rp_list r; obtain ⟨l', ws, rfl, hl', _, rl'⟩ := rp_list r'
      refine wpAny_richCompare_same_room (op := .LtE) hl.typeIs hl'.typeIs PySem.F.slot_list_le (call_list_le hl hl' (by omega) (fun x => ∃ i, x = PyData.int i) (fun x hx => by obtain ⟨i, rfl⟩ := hx; exact ⟨rfl, by simp [PyData.depth]⟩) (fun x y => .val (opI .LtE (numT x) (numT y))) ?_ (xs := [.int i]) (ys := [.int j]) (fun x hx => ⟨i, by simpa using hx⟩) (fun x hx => ⟨j, by simpa using hx⟩) rl rl' ?_) (by omega)
      · rintro prog w x y va vb Q E ⟨i, rfl⟩ ⟨j, rfl⟩ hne r r' q
        simp only [D.of] at r r'
        obtain ⟨t, rfl⟩ := rp_int r; obtain ⟨u, rfl⟩ := rp_int r'
        exact rn_le_int_int (by show A.units + 1 < cLine; omega) q
      · have e : PyData.eqv (.int i) (.int j) = false := by rw [← hne]; simp [PyData.eqv, PyData.eqvAll]
        unfold loopOut
        rw [if_neg (by rw [e]; decide)]
        exact ⟨by simp, q⟩
  · rw [if_neg h] at q
    obtain ⟨ida, s1, c1⟩ := dcl_le (prog := prog) (w := w) (A := A) (E := E) tx ty h r r'
    obtain ⟨idb, s2, c2⟩ := dcl_ge (prog := prog) (w := w) (A := A) (E := E) ty tx (Ne.symm h) r' r
    obtain ⟨a1, a2, a3⟩ := nm_plain (thing_nm tx)
    obtain ⟨b1, b2, b3⟩ := nm_plain (thing_nm ty)
    obtain ⟨hs, hn⟩ := nm_sub (thing_nm tx) (thing_nm ty) h
    exact rc_declined (op := .LtE) rfl (by decide) (by decide) hh (thing_ty tx r) (thing_ty ty r') hn hs s1 s2 a1 b1 a2 b2 c1 c2 (by omega) (msg_len (op := .LtE) a3 b3) q
theorem rcT_gt (hu : A.units + 24 < cLine) (hh : A.handled = none) {x y : PyData} {va vb : Value} {Q : Value → Shared → Prop} (tx : isThing x) (ty : isThing y) (hne : PyData.eqv x y = false) (r : Rp s.heap NoX va (D.of x)) (r' : Rp s.heap NoX vb (D.of y)) (q : OutQ s Q E (poT .Gt x y)) : wpAny (model prog w) A (richCompare .Gt va vb) Q E s := by
  unfold poT at q
  by_cases h : clT x = clT y
  · rw [if_pos h] at q
    rcases thing_cases tx with ⟨i, rfl⟩ | ⟨b, rfl⟩ | ⟨c, h0, rfl⟩ | rfl | ⟨i, rfl⟩ <;> rcases thing_cases ty with ⟨j, rfl⟩ | ⟨d, rfl⟩ | ⟨e, h1, rfl⟩ | rfl | ⟨j, rfl⟩ <;> first | (simp [clT] at h; done) | skip
    all_goals simp only [D.of] at r r'
    · obtain ⟨t, rfl⟩ := rp_int r; obtain ⟨u, rfl⟩ := rp_int r'; exact rn_gt_int_int (by omega) q
    · obtain ⟨t, rfl⟩ := rp_int r; cases rp_val r'; exact rn_gt_int_bool (by omega) q
    · cases rp_val r; obtain ⟨u, rfl⟩ := rp_int r'; exact rn_gt_bool_int (by omega) q
    · cases rp_val r; cases rp_val r'; exact rn_gt_bool_bool (by omega) q
    · obtain ⟨t, rfl⟩ := rp_str r; obtain ⟨u, rfl⟩ := rp_str r'
      rw [numT_ltr h0, numT_ltr h1] at q
      exact wpAny_richCompare_same_room (op := .Gt) (typeIs_str s _ t) (typeIs_str s _ u) PySem.F.slot_str_gt (cn_gt_str h0 h1 ⟨by simp, q⟩) (by omega)
    · simp [PyData.eqv] at hne
    · obtain ⟨l, vs, rfl, hl, _, rl⟩ := rp_list r; obtain ⟨l', ws, rfl, hl', _, rl'⟩ := rp_list r'
      refine wpAny_richCompare_same_room (op := .Gt) hl.typeIs hl'.typeIs PySem.F.slot_list_gt (call_list_gt hl hl' (by omega) (fun x => ∃ i, x = PyData.int i) (fun x hx => by obtain ⟨i, rfl⟩ := hx; exact ⟨rfl, by simp [PyData.depth]⟩) (fun x y => .val (opI .Gt (numT x) (numT y))) ?_ (xs := [.int i]) (ys := [.int j]) (fun x hx => ⟨i, by simpa using hx⟩) (fun x hx => ⟨j, by simpa using hx⟩) rl rl' ?_) (by omega)
      · rintro prog w x y va vb Q E ⟨i, rfl⟩ ⟨j, rfl⟩ hne r r' q
        simp only [D.of] at r r'
        obtain ⟨t, rfl⟩ := rp_int r; obtain ⟨u, rfl⟩ := rp_int r'
        exact rn_gt_int_int (by show A.units + 1 < cLine; omega) q
      · have e : PyData.eqv (.int i) (.int j) = false := by rw [← hne]; simp [PyData.eqv, PyData.eqvAll]
        unfold loopOut
        rw [if_neg (by rw [e]; decide)]
        exact ⟨by simp, q⟩
  · rw [if_neg h] at q
    obtain ⟨ida, s1, c1⟩ := dcl_gt (prog := prog) (w := w) (A := A) (E := E) tx ty h r r'
    obtain ⟨idb, s2, c2⟩ := dcl_lt (prog := prog) (w := w) (A := A) (E := E) ty tx (Ne.symm h) r' r
    obtain ⟨a1, a2, a3⟩ := nm_plain (thing_nm tx)
    obtain ⟨b1, b2, b3⟩ := nm_plain (thing_nm ty)
    obtain ⟨hs, hn⟩ := nm_sub (thing_nm tx) (thing_nm ty) h
    exact rc_declined (op := .Gt) rfl (by decide) (by decide) hh (thing_ty tx r) (thing_ty ty r') hn hs s1 s2 a1 b1 a2 b2 c1 c2 (by omega) (msg_len (op := .Gt) a3 b3) q
theorem rcT_ge (hu : A.units + 24 < cLine) (hh : A.handled = none) {x y : PyData} {va vb : Value} {Q : Value → Shared → Prop} (tx : isThing x) (ty : isThing y) (hne : PyData.eqv x y = false) (r : Rp s.heap NoX va (D.of x)) (r' : Rp s.heap NoX vb (D.of y)) (q : OutQ s Q E (poT .GtE x y)) : wpAny (model prog w) A (richCompare .GtE va vb) Q E s := by
  unfold poT at q
  by_cases h : clT x = clT y
  · rw [if_pos h] at q
    rcases thing_cases tx with ⟨i, rfl⟩ | ⟨b, rfl⟩ | ⟨c, h0, rfl⟩ | rfl | ⟨i, rfl⟩ <;> rcases thing_cases ty with ⟨j, rfl⟩ | ⟨d, rfl⟩ | ⟨e, h1, rfl⟩ | rfl | ⟨j, rfl⟩ <;> first | (simp [clT] at h; done) | skip
    all_goals simp only [D.of] at r r'
    · obtain ⟨t, rfl⟩ := rp_int r; obtain ⟨u, rfl⟩ := rp_int r'; exact rn_ge_int_int (by omega) q
    · obtain ⟨t, rfl⟩ := rp_int r; cases rp_val r'; exact rn_ge_int_bool (by omega) q
    · cases rp_val r; obtain ⟨u, rfl⟩ := rp_int r'; exact rn_ge_bool_int (by omega) q
    · cases rp_val r; cases rp_val r'; exact rn_ge_bool_bool (by omega) q
    · obtain ⟨t, rfl⟩ := rp_str r; obtain ⟨u, rfl⟩ := rp_str r'
      rw [numT_ltr h0, numT_ltr h1] at q
      exact wpAny_richCompare_same_room (op := .GtE) (typeIs_str s _ t) (typeIs_str s _ u) PySem.F.slot_str_ge (cn_ge_str h0 h1 ⟨by simp, q⟩) (by omega)
    · simp [PyData.eqv] at hne
    · obtain ⟨l, vs, rfl, hl, _, rl⟩ := rp_list r; obtain ⟨l', ws, rfl, hl', _, rl'⟩ := rp_list r'
      refine wpAny_richCompare_same_room (op := .GtE) hl.typeIs hl'.typeIs PySem.F.slot_list_ge (call_list_ge hl hl' (by omega) (fun x => ∃ i, x = PyData.int i) (fun x hx => by obtain ⟨i, rfl⟩ := hx; exact ⟨rfl, by simp [PyData.depth]⟩) (fun x y => .val (opI .GtE (numT x) (numT y))) ?_ (xs := [.int i]) (ys := [.int j]) (fun x hx => ⟨i, by simpa using hx⟩) (fun x hx => ⟨j, by simpa using hx⟩) rl rl' ?_) (by omega)
      · rintro prog w x y va vb Q E ⟨i, rfl⟩ ⟨j, rfl⟩ hne r r' q
        simp only [D.of] at r r'
        obtain ⟨t, rfl⟩ := rp_int r; obtain ⟨u, rfl⟩ := rp_int r'
        exact rn_ge_int_int (by show A.units + 1 < cLine; omega) q
      · have e : PyData.eqv (.int i) (.int j) = false := by rw [← hne]; simp [PyData.eqv, PyData.eqvAll]
        unfold loopOut
        rw [if_neg (by rw [e]; decide)]
        exact ⟨by simp, q⟩
  · rw [if_neg h] at q
    obtain ⟨ida, s1, c1⟩ := dcl_ge (prog := prog) (w := w) (A := A) (E := E) tx ty h r r'
    obtain ⟨idb, s2, c2⟩ := dcl_le (prog := prog) (w := w) (A := A) (E := E) ty tx (Ne.symm h) r' r
    obtain ⟨a1, a2, a3⟩ := nm_plain (thing_nm tx)
    obtain ⟨b1, b2, b3⟩ := nm_plain (thing_nm ty)
    obtain ⟨hs, hn⟩ := nm_sub (thing_nm tx) (thing_nm ty) h
    exact rc_declined (op := .GtE) rfl (by decide) (by decide) hh (thing_ty tx r) (thing_ty ty r') hn hs s1 s2 a1 b1 a2 b2 c1 c2 (by omega) (msg_len (op := .GtE) a3 b3) q
end
theorem lT_lt {B : Bas} {n : Nat} {A : Around} {s : Shared} {E : Value → Shared → Prop} {xs ys : List PyData} {va vb : Value} {Q : Value → Shared → Prop} (ao : AOk n A) (tx : ∀ x ∈ xs, isThing x) (ty : ∀ y ∈ ys, isThing y) (r : Rp s.heap NoX va (.list (D.ofAll xs))) (r' : Rp s.heap NoX vb (.list (D.ofAll ys))) (q : OutQ s Q E (loopOut (poT .Lt) (decide (xs.length < ys.length)) xs ys)) : wpAny (model B.prog B.w) A (call (.builtin "list.__lt__") [va, vb]) Q E s := by
  obtain ⟨l, vs, rfl, hl, _, rl⟩ := rp_list r; obtain ⟨l', ws, rfl, hl', _, rl'⟩ := rp_list r'
  have hu := ao.units
  exact call_list_lt hl hl' (by omega) isThing (fun x hx => thing_lay hx) (poT .Lt) (fun prog w x y va vb Q E a b c d e f => rcT_lt (A := A.in1) (by show A.units + 1 + 24 < cLine; omega) ao.handled a b c d e f) tx ty rl rl' q
theorem bi_lT_lt {B : Bas} {n : Nat} {xs ys : List PyData} {t : Bool} (tx : ∀ x ∈ xs, isThing x) (ty : ∀ y ∈ ys, isThing y) (h : loopOut (poT .Lt) (decide (xs.length < ys.length)) xs ys = .val t) : Bi B n (.builtin "list.__lt__") [.list (D.ofAll xs), .list (D.ofAll ys)] (.bool t) := fun A s E Q vs bo ao hh r q => by
  cases r with | cons r rn =>
  cases rn with | cons r' rn =>
  cases rn
  refine lT_lt ao tx ty r r' ?_
  rw [h]; exact q _ _ (krefl s) fun _ _ => .val _ rfl
theorem biX_lT_lt {B : Bas} {n : Nat} {xs ys : List PyData} {m : Str} (tx : ∀ x ∈ xs, isThing x) (ty : ∀ y ∈ ys, isThing y) (h : loopOut (poT .Lt) (decide (xs.length < ys.length)) xs ys = .err m) : BiX B n (.builtin "list.__lt__") [.list (D.ofAll xs), .list (D.ofAll ys)] m := fun A s E Q vs bo ao hh r q => by
  cases r with | cons r rn =>
  cases rn with | cons r' rn =>
  cases rn
  refine lT_lt ao tx ty r r' ?_
  rw [h]; exact fun h' tk tk' e mk => q h' tk tk' e mk
theorem fc_list_lt : findCls [] (.type "list") (.type "type") (S "__lt__") = some (.val (.builtin "list.__lt__")) := by kernel_rfl
theorem dun_lT_lt {B : Bas} {n : Nat} {xs ys : List PyData} {t : Bool} (tx : ∀ x ∈ xs, isThing x) (ty : ∀ y ∈ ys, isThing y) (h : loopOut (poT .Lt) (decide (xs.length < ys.length)) xs ys = .val t) : Dun B n "__lt__" (.list (D.ofAll xs)) (.list (D.ofAll ys)) (.bool t) :=
  ⟨"list", _, ty_list, by decide, typeOf_list, by decide +kernel, fc_list_lt, by decide +kernel, bi_lT_lt tx ty h⟩
theorem dunX_lT_lt {B : Bas} {n : Nat} {xs ys : List PyData} {m : Str} (tx : ∀ x ∈ xs, isThing x) (ty : ∀ y ∈ ys, isThing y) (h : loopOut (poT .Lt) (decide (xs.length < ys.length)) xs ys = .err m) : DunX B n "__lt__" (.list (D.ofAll xs)) (.list (D.ofAll ys)) m :=
  ⟨"list", _, ty_list, by decide, typeOf_list, by decide +kernel, fc_list_lt, by decide +kernel, biX_lT_lt tx ty h⟩
theorem lT_le {B : Bas} {n : Nat} {A : Around} {s : Shared} {E : Value → Shared → Prop} {xs ys : List PyData} {va vb : Value} {Q : Value → Shared → Prop} (ao : AOk n A) (tx : ∀ x ∈ xs, isThing x) (ty : ∀ y ∈ ys, isThing y) (r : Rp s.heap NoX va (.list (D.ofAll xs))) (r' : Rp s.heap NoX vb (.list (D.ofAll ys))) (q : OutQ s Q E (loopOut (poT .LtE) (decide (xs.length ≤ ys.length)) xs ys)) : wpAny (model B.prog B.w) A (call (.builtin "list.__le__") [va, vb]) Q E s := by
  obtain ⟨l, vs, rfl, hl, _, rl⟩ := rp_list r; obtain ⟨l', ws, rfl, hl', _, rl'⟩ := rp_list r'
  have hu := ao.units
  exact call_list_le hl hl' (by omega) isThing (fun x hx => thing_lay hx) (poT .LtE) (fun prog w x y va vb Q E a b c d e f => rcT_le (A := A.in1) (by show A.units + 1 + 24 < cLine; omega) ao.handled a b c d e f) tx ty rl rl' q
theorem bi_lT_le {B : Bas} {n : Nat} {xs ys : List PyData} {t : Bool} (tx : ∀ x ∈ xs, isThing x) (ty : ∀ y ∈ ys, isThing y) (h : loopOut (poT .LtE) (decide (xs.length ≤ ys.length)) xs ys = .val t) : Bi B n (.builtin "list.__le__") [.list (D.ofAll xs), .list (D.ofAll ys)] (.bool t) := fun A s E Q vs bo ao hh r q => by
  cases r with | cons r rn =>
  cases rn with | cons r' rn =>
  cases rn
  refine lT_le ao tx ty r r' ?_
  rw [h]; exact q _ _ (krefl s) fun _ _ => .val _ rfl
theorem biX_lT_le {B : Bas} {n : Nat} {xs ys : List PyData} {m : Str} (tx : ∀ x ∈ xs, isThing x) (ty : ∀ y ∈ ys, isThing y) (h : loopOut (poT .LtE) (decide (xs.length ≤ ys.length)) xs ys = .err m) : BiX B n (.builtin "list.__le__") [.list (D.ofAll xs), .list (D.ofAll ys)] m := fun A s E Q vs bo ao hh r q => by
  cases r with | cons r rn =>
  cases rn with | cons r' rn =>
  cases rn
  refine lT_le ao tx ty r r' ?_
  rw [h]; exact fun h' tk tk' e mk => q h' tk tk' e mk
theorem fc_list_le : findCls [] (.type "list") (.type "type") (S "__le__") = some (.val (.builtin "list.__le__")) := by kernel_rfl
theorem dun_lT_le {B : Bas} {n : Nat} {xs ys : List PyData} {t : Bool} (tx : ∀ x ∈ xs, isThing x) (ty : ∀ y ∈ ys, isThing y) (h : loopOut (poT .LtE) (decide (xs.length ≤ ys.length)) xs ys = .val t) : Dun B n "__le__" (.list (D.ofAll xs)) (.list (D.ofAll ys)) (.bool t) :=
  ⟨"list", _, ty_list, by decide, typeOf_list, by decide +kernel, fc_list_le, by decide +kernel, bi_lT_le tx ty h⟩
theorem dunX_lT_le {B : Bas} {n : Nat} {xs ys : List PyData} {m : Str} (tx : ∀ x ∈ xs, isThing x) (ty : ∀ y ∈ ys, isThing y) (h : loopOut (poT .LtE) (decide (xs.length ≤ ys.length)) xs ys = .err m) : DunX B n "__le__" (.list (D.ofAll xs)) (.list (D.ofAll ys)) m :=
  ⟨"list", _, ty_list, by decide, typeOf_list, by decide +kernel, fc_list_le, by decide +kernel, biX_lT_le tx ty h⟩
theorem lT_gt {B : Bas} {n : Nat} {A : Around} {s : Shared} {E : Value → Shared → Prop} {xs ys : List PyData} {va vb : Value} {Q : Value → Shared → Prop} (ao : AOk n A) (tx : ∀ x ∈ xs, isThing x) (ty : ∀ y ∈ ys, isThing y) (r : Rp s.heap NoX va (.list (D.ofAll xs))) (r' : Rp s.heap NoX vb (.list (D.ofAll ys))) (q : OutQ s Q E (loopOut (poT .Gt) (decide (xs.length > ys.length)) xs ys)) : wpAny (model B.prog B.w) A (call (.builtin "list.__gt__") [va, vb]) Q E s := by
  obtain ⟨l, vs, rfl, hl, _, rl⟩ := rp_list r; obtain ⟨l', ws, rfl, hl', _, rl'⟩ := rp_list r'
  have hu := ao.units
  exact call_list_gt hl hl' (by omega) isThing (fun x hx => thing_lay hx) (poT .Gt) (fun prog w x y va vb Q E a b c d e f => rcT_gt (A := A.in1) (by show A.units + 1 + 24 < cLine; omega) ao.handled a b c d e f) tx ty rl rl' q
theorem bi_lT_gt {B : Bas} {n : Nat} {xs ys : List PyData} {t : Bool} (tx : ∀ x ∈ xs, isThing x) (ty : ∀ y ∈ ys, isThing y) (h : loopOut (poT .Gt) (decide (xs.length > ys.length)) xs ys = .val t) : Bi B n (.builtin "list.__gt__") [.list (D.ofAll xs), .list (D.ofAll ys)] (.bool t) := fun A s E Q vs bo ao hh r q => by
  cases r with | cons r rn =>
  cases rn with | cons r' rn =>
  cases rn
  refine lT_gt ao tx ty r r' ?_
  rw [h]; exact q _ _ (krefl s) fun _ _ => .val _ rfl
theorem biX_lT_gt {B : Bas} {n : Nat} {xs ys : List PyData} {m : Str} (tx : ∀ x ∈ xs, isThing x) (ty : ∀ y ∈ ys, isThing y) (h : loopOut (poT .Gt) (decide (xs.length > ys.length)) xs ys = .err m) : BiX B n (.builtin "list.__gt__") [.list (D.ofAll xs), .list (D.ofAll ys)] m := fun A s E Q vs bo ao hh r q => by
  cases r with | cons r rn =>
  cases rn with | cons r' rn =>
  cases rn
  refine lT_gt ao tx ty r r' ?_
  rw [h]; exact fun h' tk tk' e mk => q h' tk tk' e mk
theorem fc_list_gt : findCls [] (.type "list") (.type "type") (S "__gt__") = some (.val (.builtin "list.__gt__")) := by kernel_rfl
theorem dun_lT_gt {B : Bas} {n : Nat} {xs ys : List PyData} {t : Bool} (tx : ∀ x ∈ xs, isThing x) (ty : ∀ y ∈ ys, isThing y) (h : loopOut (poT .Gt) (decide (xs.length > ys.length)) xs ys = .val t) : Dun B n "__gt__" (.list (D.ofAll xs)) (.list (D.ofAll ys)) (.bool t) :=
  ⟨"list", _, ty_list, by decide, typeOf_list, by decide +kernel, fc_list_gt, by decide +kernel, bi_lT_gt tx ty h⟩
theorem dunX_lT_gt {B : Bas} {n : Nat} {xs ys : List PyData} {m : Str} (tx : ∀ x ∈ xs, isThing x) (ty : ∀ y ∈ ys, isThing y) (h : loopOut (poT .Gt) (decide (xs.length > ys.length)) xs ys = .err m) : DunX B n "__gt__" (.list (D.ofAll xs)) (.list (D.ofAll ys)) m :=
  ⟨"list", _, ty_list, by decide, typeOf_list, by decide +kernel, fc_list_gt, by decide +kernel, biX_lT_gt tx ty h⟩
theorem lT_ge {B : Bas} {n : Nat} {A : Around} {s : Shared} {E : Value → Shared → Prop} {xs ys : List PyData} {va vb : Value} {Q : Value → Shared → Prop} (ao : AOk n A) (tx : ∀ x ∈ xs, isThing x) (ty : ∀ y ∈ ys, isThing y) (r : Rp s.heap NoX va (.list (D.ofAll xs))) (r' : Rp s.heap NoX vb (.list (D.ofAll ys))) (q : OutQ s Q E (loopOut (poT .GtE) (decide (xs.length ≥ ys.length)) xs ys)) : wpAny (model B.prog B.w) A (call (.builtin "list.__ge__") [va, vb]) Q E s := by
  obtain ⟨l, vs, rfl, hl, _, rl⟩ := rp_list r; obtain ⟨l', ws, rfl, hl', _, rl'⟩ := rp_list r'
  have hu := ao.units
  exact call_list_ge hl hl' (by omega) isThing (fun x hx => thing_lay hx) (poT .GtE) (fun prog w x y va vb Q E a b c d e f => rcT_ge (A := A.in1) (by show A.units + 1 + 24 < cLine; omega) ao.handled a b c d e f) tx ty rl rl' q
theorem bi_lT_ge {B : Bas} {n : Nat} {xs ys : List PyData} {t : Bool} (tx : ∀ x ∈ xs, isThing x) (ty : ∀ y ∈ ys, isThing y) (h : loopOut (poT .GtE) (decide (xs.length ≥ ys.length)) xs ys = .val t) : Bi B n (.builtin "list.__ge__") [.list (D.ofAll xs), .list (D.ofAll ys)] (.bool t) := fun A s E Q vs bo ao hh r q => by
  cases r with | cons r rn =>
  cases rn with | cons r' rn =>
  cases rn
  refine lT_ge ao tx ty r r' ?_
  rw [h]; exact q _ _ (krefl s) fun _ _ => .val _ rfl
theorem biX_lT_ge {B : Bas} {n : Nat} {xs ys : List PyData} {m : Str} (tx : ∀ x ∈ xs, isThing x) (ty : ∀ y ∈ ys, isThing y) (h : loopOut (poT .GtE) (decide (xs.length ≥ ys.length)) xs ys = .err m) : BiX B n (.builtin "list.__ge__") [.list (D.ofAll xs), .list (D.ofAll ys)] m := fun A s E Q vs bo ao hh r q => by
  cases r with | cons r rn =>
  cases rn with | cons r' rn =>
  cases rn
  refine lT_ge ao tx ty r r' ?_
  rw [h]; exact fun h' tk tk' e mk => q h' tk tk' e mk
theorem fc_list_ge : findCls [] (.type "list") (.type "type") (S "__ge__") = some (.val (.builtin "list.__ge__")) := by kernel_rfl
theorem dun_lT_ge {B : Bas} {n : Nat} {xs ys : List PyData} {t : Bool} (tx : ∀ x ∈ xs, isThing x) (ty : ∀ y ∈ ys, isThing y) (h : loopOut (poT .GtE) (decide (xs.length ≥ ys.length)) xs ys = .val t) : Dun B n "__ge__" (.list (D.ofAll xs)) (.list (D.ofAll ys)) (.bool t) :=
  ⟨"list", _, ty_list, by decide, typeOf_list, by decide +kernel, fc_list_ge, by decide +kernel, bi_lT_ge tx ty h⟩
theorem dunX_lT_ge {B : Bas} {n : Nat} {xs ys : List PyData} {m : Str} (tx : ∀ x ∈ xs, isThing x) (ty : ∀ y ∈ ys, isThing y) (h : loopOut (poT .GtE) (decide (xs.length ≥ ys.length)) xs ys = .err m) : DunX B n "__ge__" (.list (D.ofAll xs)) (.list (D.ofAll ys)) m :=
  ⟨"list", _, ty_list, by decide, typeOf_list, by decide +kernel, fc_list_ge, by decide +kernel, biX_lT_ge tx ty h⟩

/-- what a def gives back, at what stands around it -/
theorem fnsA_of {B : Bas} {n : Nat} {A : Around} {a : Addr} {name : Str} {params : Arguments} {body : List Stmt} {scope : Scope} {xs : List String} {ds : List D} {d : D} (F : FnAt B a name params body scope) (hk : scope.kind = .function)
    (hbind : ∀ pm cd doc vs, vs.length = xs.length → bindArgs (docDef name params body scope pm cd doc) ⟨vs, []⟩ = pure ((xs.map S).zip vs)) (hlen : xs.length = ds.length) (hnd : xs.Nodup)
    (hkind : ∀ x ∈ xs, scope.names.lookup (S x) = some .local ∨ scope.names.lookup (S x) = some .cell) (hA : A.frames = some [])
    (h : ∀ env, FEnv scope env → env.frame = some env.locals → (A.deeper env).frames = some [env] → ExA B n (A.deeper env) env (binds0 xs ds) body fun fl _ => match fl with | .ret e => e = d | .next => d = .none | _ => False)
    (hco : scope.isCoroutine = false := by rfl) (hgen : scope.isGenerator = false := by rfl) (P : Addr → Prop) (s : Shared) (E : Value → Shared → Prop) (Q : Value → Shared → Prop) (vs : List Value) (bo : B.Ok) (ao : AOk (n + 1) A) (hh : B.Here s.heap) (hP : ∀ x, P x → (∃ o, s.heap.get? x = some o) ∧ B.hB.get? x = none) (r : RpAll s.heap P vs ds)
    (q : ∀ v s', Keeps s s' → Rp s'.heap P v d → Q v s') : wpAny (model B.prog B.w) A (call (.ref a) vs) Q E s := by
  obtain ⟨o, pm, cd, doc, ho, hd, hcd⟩ := F.at_
  have hvl : vs.length = xs.length := by rw [r.length, hlen]
  refine wpAny_call (codeAny_mono (codeAny_call_cells (R := fun res s' => ∃ v, res = .ok (.ret v) ∧ Keeps s s' ∧ Rp s'.heap P v d) (by have := ao.depth; omega) (hh _ _ ho) hd (bo.nolimit.keeps hh) (hcd.keeps hh) rfl (hbind pm cd doc vs hvl) rfl ?_ ?_ hco hgen hk) ?_)
  · intro x hx
    obtain ⟨y, hy, e⟩ : ∃ y ∈ xs, x.1 = S y := by
      have := List.of_mem_zip hx
      obtain ⟨y, hy, e⟩ := List.mem_map.mp this.1
      exact ⟨y, hy, e.symm⟩
    rw [e]
    rcases hkind y hy with q | q
    · exact .inl q
    · exact .inr ⟨q, cellsFrom_some _ _ _ _ (.inl q)⟩
  · intro s₁ C
    obtain ⟨env, henv, fe, hfrm, kK, hnl, T⟩ := st_call hk hlen hnd hkind hh hP r C
    rw [henv]
    refine wpAny_mono (h env fe hfrm (Around.frames_deeper hA) s.heap P _ s₁ _ bo ⟨ao.handled, by have := ao.depth; show A.depth + 1 + n < _; omega, by have := ao.units; show A.units + 3 + 5 * n + 100 < _; omega⟩ T) (fun f s' z => ?_) fun _ _ z => z
    obtain ⟨fl, σ', O', mv, hfl, hR, hO, T'⟩ := z
    have kk : Keeps s s' := by
      obtain ⟨h', tk', rfl, k'⟩ := mv
      obtain ⟨h1, tk1, rfl, k1⟩ := kK
      exact ⟨h', tk', rfl, T'.keep⟩
    cases f with
    | ret v =>
      cases fl <;> try exact hfl.elim
      cases hR
      exact ⟨v, rfl, kk, hfl⟩
    | next =>
      cases fl <;> try exact hfl.elim
      cases hR
      exact ⟨.none, rfl, kk, .val _ rfl⟩
    | brk => cases fl <;> first | exact hfl.elim | exact hR.elim
    | cont => cases fl <;> first | exact hfl.elim | exact hR.elim
  · rintro res s' ⟨v, rfl, kk, rv⟩
    exact q v s' kk rv
theorem boot_str : bootBuiltins (S "str") = some (.type "str") := by decide +kernel
theorem boot_list : bootBuiltins (S "list") = some (.type "list") := by decide +kernel
section
variable {B : Bas} {n : Nat} {env : Env} {σ : Sto}
theorem bin_addS {x y : Str} (h : x.length + y.length ≤ 1000000) : Bin B n .Add (.str x) (.str y) (.str (x ++ y)) := fun A s E Q va vb bo ao hh r r' q => by
  obtain ⟨t, rfl⟩ := rp_str r; obtain ⟨u, rfl⟩ := rp_str r'
  exact PyProof.Rows.add_str (fun t' tk => q _ _ (ktok _ _) fun _ _ => .str _ _) (szLine h)
theorem cmp_ne_sameS {x : Str} : Cmp B n .NotEq (.str x) (.str x) false := fun A s E Q va vb bo ao hh r r' q => by
  obtain ⟨t, rfl⟩ := rp_str r; obtain ⟨u, rfl⟩ := rp_str r'
  refine PySem.P.ne_str ?_
  have e : (x.cps.toList != x.cps.toList) = false := by simp
  rw [e]; exact q s (krefl s)
/-- list(range(i)) -/
theorem ev_listrange {e : Expr} {p p' : Pos} {i : Int} (fr : Free B) (hk : env.kindOf (S "list") = some .globalImplicit) (x : Ev B n env σ e (.range 0 i)) (h0 : 0 ≤ i) (h1 : i ≤ 1000)
    (he : starEach [e] env = (false, eval e env) :: starEach [] env := by rfl) (hp : (backTo p (starEach [] env)).any (·.1) = false := by rfl)
    (hc : eval (.Call (.Name (S "list") p') [e] [] p) env = (do callWith p (← eval (.Name (S "list") p') env) [] (backTo p (starEach [e] env)) (backToKw p (keywordEach [] env))) := by rfl) : Ev B n env σ (.Call (.Name (S "list") p') [e] [] p) (.list (rngD 0 i)) := by
  have as : EvAs B n env σ [e] [.range 0 i] := evas_cons x evas_nil he
  refine fun h₀ P O A s E Q bo ao T q => Call_ (wp_boot (v := .type "list") bo T hk (fr _ (by decide)) boot_list (PyProof.Rows.callWith_type1 (as h₀ P O A s E _ p bo ao T fun vs s₁ k r => ?_) he hp) (by decide) (by decide)) hc
  cases r with | cons r rn =>
  cases rn
  obtain ⟨r, t, u, w, rfl, hr, hx⟩ := rp_range r
  have hsz : Builtin.Range.rangeSize 0 i 1 = (((i - 0).toNat : Nat) : Int) := by rw [rangeSize_one]; split <;> omega
  refine call_list_range ao.handled hr (small_one (by omega) (by omega) (by omega) (by omega)) (n := (i - 0).toNat) hsz (by omega) fun h' tk acc c hk' hS hacc => ?_
  refine q _ _ (ktrans k ⟨h', tk, rfl, hk'⟩) (.list (vs := acc.toList) ⟨_, hS, rfl, c, by simp⟩ ((T.kp k).notX' (Nat.le_refl _)) ?_)
  obtain ⟨hs1, hs2⟩ := hacc
  have key : ∀ (l : List Value) (j : Nat), (∀ (m : Nat) (v : Value), l[m]? = some v → ∃ t, v = .int (((j + m : Nat)) : Int) t) → RpAll h' (fun a => P a ∨ O a) l ((List.range l.length).map fun (m : Nat) => D.int (((j + m : Nat)) : Int)) := by
    intro l
    induction l with
    | nil => intro j _; exact .nil
    | cons v l ih =>
      intro j hj
      rw [List.length_cons, List.range_succ_eq_map, List.map_cons, List.map_map]
      obtain ⟨t, e⟩ := hj 0 v rfl
      subst e
      refine .cons (.int _ _) ?_
      have := ih (j + 1) fun m v hv => by
        obtain ⟨t, e⟩ := hj (m + 1) v (by simpa using hv)
        exact ⟨t, by rw [e]; congr 1; omega⟩
      have e2 : (fun (m : Nat) => D.int (((j + 1 + m : Nat)) : Int)) = ((fun (m : Nat) => D.int (((j + m : Nat)) : Int)) ∘ Nat.succ) := by
        funext m; show D.int _ = D.int _; congr 1; omega
      rw [e2] at this; exact this
  have := key acc.toList 0 fun m v hv => by
    obtain ⟨t, e⟩ := hs2 m v (by simpa using hv)
    exact ⟨t, by rw [e]; congr 1; omega⟩
  have e3 : rngD 0 i = (List.range acc.toList.length).map fun (m : Nat) => D.int (((0 + m : Nat)) : Int) := by
    unfold rngD; rw [Array.length_toList, hs1]
    refine List.map_congr_left fun m _ => ?_
    congr 1
  rw [e3]; exact this
/-- a table of texts -/
def tabD (B : Bas) (kvs : List (Str × Value)) : D := .abs fun v F => ∃ a o, v = .ref a ∧ F = [(a, o)] ∧ (a == sysModules) = false ∧ o.IsDictOf (strKind B.prog B.w) kvs
theorem rp_tab {h X v kvs} (r : Rp h X v (tabD B kvs)) : ∃ a, v = .ref a ∧ (a == sysModules) = false ∧ h.DictOf (strKind B.prog B.w) a kvs := by
  cases r with
  | abs F hp hq =>
    obtain ⟨a, o, rfl, rfl, hs, hd⟩ := hp
    exact ⟨a, rfl, hs, Heap.dictOf_iff.mpr ⟨o, (hq _ (List.mem_singleton.mpr rfl)).1, hd⟩⟩
theorem tab_rp {h₀ h h' : Heap} {P O : Addr → Prop} {kvs} (T : St B h₀ P env σ O h) (bo : B.Ok) {a : Addr} (ha : h.objs.size ≤ a) (hd : h'.DictOf (strKind B.prog B.w) a kvs) : Rp h' (fun a => P a ∨ O a) (.ref a) (tabD B kvs) := by
  obtain ⟨o, ho, hx⟩ := Heap.dictOf_iff.mp hd
  have hg : (3 : Nat) < h.objs.size := by obtain ⟨og, _, _, e, _⟩ := bo.g.keeps T.here; exact Heap.lt_size e
  refine .abs [(a, o)] ⟨a, o, rfl, rfl, ?_, hx⟩ fun q hq => ?_
  · rw [beq_eq_false_iff_ne]; intro e; subst e; have ha' : h.objs.size ≤ (1 : Nat) := ha; omega
  · rw [List.mem_singleton.mp hq]
    refine ⟨ho, ?_, T.notX' ha⟩
    rintro ⟨nm, vs, _, e, _⟩
    obtain ⟨es, ep, _, hdd, _⟩ := hx
    rw [hdd] at e; cases e
theorem ev_tab0 {p : Pos} : Ev B n env σ (.Dict [] [] p) (tabD B []) := fun h₀ P O A s E Q bo ao T q =>
  wpAny_Dict_empty (q _ _ (kpush' _ _) (tab_rp T bo (Nat.le_refl _) (Heap.DictOf.new (knd := strKind B.prog B.w) s.heap)))
theorem ev_tab4 {k₁ k₂ k₃ k₄ v₁ v₂ v₃ v₄ : Expr} {pos : Pos} {a₁ a₂ a₃ a₄ : Str} {b₁ b₂ b₃ b₄ : Bool} (x₁ : EvW B n env σ k₁ (.str a₁)) (y₁ : EvW B n env σ v₁ (.bool b₁)) (x₂ : EvW B n env σ k₂ (.str a₂)) (y₂ : EvW B n env σ v₂ (.bool b₂)) (x₃ : EvW B n env σ k₃ (.str a₃)) (y₃ : EvW B n env σ v₃ (.bool b₃)) (x₄ : EvW B n env σ k₄ (.str a₄)) (y₄ : EvW B n env σ v₄ (.bool b₄)) (hnd : [a₁, a₂, a₃, a₄].Nodup) :
    Ev B n env σ (.Dict [some k₁, some k₂, some k₃, some k₄] [v₁, v₂, v₃, v₄] pos) (tabD B [(a₁, .bool b₁), (a₂, .bool b₂), (a₃, .bool b₃), (a₄, .bool b₄)]) := fun h₀ P O A s E Q bo ao T q => by
  refine wpAny_Dict_walk (knd := strKind B.prog B.w) rfl rfl (by simp) (by show 4 ≤ 15; decide) ?_
  have k0 : Keeps s { s with heap := s.heap.push { cls := .type "dict", data := .dict #[] } } := kpush' _ _
  have T0 := T.kp k0
  have hnew : s.heap.get? s.heap.objs.size = none := fresh_of (Nat.le_refl _)
  refine pairTrees_cons_walk (x₁ h₀ P O A _ E _ bo ao T0 fun kv₁ s₁ k₁ r₁ => y₁ h₀ P O A s₁ E _ bo ao (T0.kp k₁) fun vv₁ t₁ l₁ z₁ => ?_)
  have T1 := (T0.kp k₁).kp l₁
  refine pairTrees_cons_walk (x₂ h₀ P O A _ E _ bo ao T1 fun kv₂ s₂ k₂ r₂ => y₂ h₀ P O A s₂ E _ bo ao (T1.kp k₂) fun vv₂ t₂ l₂ z₂ => ?_)
  have T2 := (T1.kp k₂).kp l₂
  refine pairTrees_cons_walk (x₃ h₀ P O A _ E _ bo ao T2 fun kv₃ s₃ k₃ r₃ => y₃ h₀ P O A s₃ E _ bo ao (T2.kp k₃) fun vv₃ t₃ l₃ z₃ => ?_)
  have T3 := (T2.kp k₃).kp l₃
  refine pairTrees_cons_walk (x₄ h₀ P O A _ E _ bo ao T3 fun kv₄ s₄ k₄ r₄ => y₄ h₀ P O A s₄ E _ bo ao (T3.kp k₄) fun vv₄ t₄ l₄ z₄ => ?_)
  obtain ⟨u₁, rfl⟩ := rp_str r₁; obtain ⟨u₂, rfl⟩ := rp_str r₂; obtain ⟨u₃, rfl⟩ := rp_str r₃; obtain ⟨u₄, rfl⟩ := rp_str r₄
  cases rp_val z₁; cases rp_val z₂; cases rp_val z₃; cases rp_val z₄
  have kk : Keeps _ t₄ := ktrans (ktrans (ktrans k₁ l₁) (ktrans k₂ l₂)) (ktrans (ktrans k₃ l₃) (ktrans k₄ l₄))
  refine pairTrees_nil_walk (display_done_str (vs := [(.str a₁ u₁, .bool b₁), (.str a₂ u₂, .bool b₂), (.str a₃ u₃, .bool b₃), (.str a₄ u₄, .bool b₄)]) rfl (by simpa [strPairs] using hnd) ?_ fun h' hd hs => ?_)
  · exact Heap.DictOf.at (Heap.DictOf.new (knd := strKind B.prog B.w) s.heap) fun o e => kheap kk _ o e
  · have kall := ktrans k0 kk
    refine q _ _ ?_ (tab_rp T bo (Nat.le_refl _) hd)
    obtain ⟨h2, tk2, rfl, k2⟩ := kall
    exact ⟨h', _, rfl, fun b o e => (hs.2 b (fun z => by rw [z, hnew] at e; cases e)).trans (k2 b o e)⟩
theorem cmp_in_tab {x : Str} {kvs} : Cmp B n .In (.str x) (tabD B kvs) (valueAt kvs x).isSome := fun A s E Q va vb bo ao hh r r' q => by
  obtain ⟨t, rfl⟩ := rp_str r
  obtain ⟨a, rfl, hs, hd⟩ := rp_tab r'
  exact wpAny_in_of (strKind_is B.prog B.w x t) hs hd.mapOf (q _ (ktok _ _))
theorem ev_itemTab {l i : Expr} {p : Pos} {x : Str} {kvs} {b : Bool} (h : Ev B n env σ l (tabD B kvs)) (y : EvW B n env σ i (.str x)) (hv : valueAt kvs x = some (.bool b))
    (hs : ∀ a u, subscripted i false (.ref a) (.str x u) = operate [.ref a, .str x u] (getItem (.ref a) (.str x u)) := by intro _ _; with_unfolding_all rfl) : Ev B n env σ (.Subscript l i p) (.bool b) :=
  fun h₀ P O A s E Q bo ao T q => Subscript_ (h h₀ P O A s E _ bo ao T fun v s₁ k₁ r₁ => y h₀ P O A s₁ E _ bo ao (T.kp k₁) fun w s₂ k₂ r₂ => by
    obtain ⟨t, rfl⟩ := rp_str r₂
    obtain ⟨a, rfl, _, hd⟩ := rp_tab (r₁.keeps (kheap k₂))
    exact tail_any hd.typeIs slot_dict_getitem.lookup (wpAny_getItem_of (strKind_is B.prog B.w x t) hd.mapOf hv (q _ _ (ktrans (ktrans k₁ k₂) (ktok _ _)) (.val _ rfl))) (hs _ _))
end

def kd6 (n : Int) : Nat := (n.fmod 6).toNat
theorem kd6_lt (n : Int) : kd6 n = 0 ∨ kd6 n = 1 ∨ kd6 n = 2 ∨ kd6 n = 3 ∨ kd6 n = 4 ∨ kd6 n = 5 := by
  have h1 : 0 ≤ n.fmod 6 := Int.fmod_nonneg_of_pos n (by decide)
  have h2 : n.fmod 6 < 6 := Int.fmod_lt_of_pos n (by decide)
  unfold kd6; omega
theorem kd6b (n : Int) (k : Nat) : (n.fmod 6 == (k : Int)) = (kd6 n == k) := by
  have h1 : 0 ≤ n.fmod 6 := Int.fmod_nonneg_of_pos n (by decide)
  rw [Bool.eq_iff_iff, beq_iff_eq, beq_iff_eq]; unfold kd6; omega
def thingP (n : Int) : PyData := match kd6 n with
  | 2 => .str (ltr (97 + (n.fdiv 6).fmod 26))
  | 3 => .none
  | 4 => .bool ((n.fdiv 6).fmod 2 == 1)
  | 5 => .list [.int ((n.fdiv 6).fmod 3)]
  | _ => .int (n.fdiv 6)
def kindP (n : Int) : String × Int × Int := match kd6 n with
  | 2 => ("str", 1, (n.fdiv 6).fmod 26)
  | 3 => ("NoneType", 2, 0)
  | 4 => ("bool", 0, (n.fdiv 6).fmod 2)
  | 5 => ("list", 3, (n.fdiv 6).fmod 3)
  | _ => ("int", 0, n.fdiv 6)
theorem thing_is (n : Int) : isThing (thingP n) := by
  unfold thingP
  rcases kd6_lt n with h | h | h | h | h | h <;> rw [h] <;> simp only [isThing]
  · have h1 : 0 ≤ (n.fdiv 6).fmod 26 := Int.fmod_nonneg_of_pos _ (by decide)
    have h2 : (n.fdiv 6).fmod 26 < 26 := Int.fmod_lt_of_pos _ (by decide)
    exact ⟨_, ⟨by omega, by omega⟩, rfl⟩
  · exact ⟨_, rfl⟩
def shiftK (c : Int) : Int := if c = 1 then 97 else 0
theorem kind_thing (n : Int) : nmT (thingP n) = (kindP n).1 ∧ clT (thingP n) = (kindP n).2.1 ∧ numT (thingP n) = shiftK (kindP n).2.1 + (kindP n).2.2 := by
  unfold thingP kindP
  rcases kd6_lt n with h | h | h | h | h | h <;> rw [h]
  · exact ⟨rfl, rfl, by simp [numT, shiftK]⟩
  · exact ⟨rfl, rfl, by simp [numT, shiftK]⟩
  · have h1 : 0 ≤ (n.fdiv 6).fmod 26 := Int.fmod_nonneg_of_pos _ (by decide)
    exact ⟨rfl, rfl, (numT_ltr (c := 97 + (n.fdiv 6).fmod 26) (by omega)).trans rfl⟩
  · exact ⟨rfl, rfl, by simp [numT, shiftK]⟩
  · have h1 : 0 ≤ (n.fdiv 6).fmod 2 := Int.fmod_nonneg_of_pos _ (by decide)
    have h2 : (n.fdiv 6).fmod 2 < 2 := Int.fmod_lt_of_pos _ (by decide)
    refine ⟨rfl, rfl, ?_⟩
    generalize (n.fdiv 6).fmod 2 = z at *
    have : z = 0 ∨ z = 1 := by omega
    rcases this with rfl | rfl <;> rfl
  · exact ⟨rfl, rfl, by simp [numT, shiftK]⟩
/-- words, or a difference -/
inductive Told where
  | words (w : Str)
  | diff (d : Int)
def told : List (String × Int × Int) → List (String × Int × Int) → Told
  | x :: xs, y :: ys => if x.2.1 ≠ y.2.1 then .words (sayW x.1 y.1) else if x.2.2 ≠ y.2.2 then .diff (x.2.2 - y.2.2) else told xs ys
  | xs, ys => .diff (xs.length - ys.length)
def outOf (op : CmpOp) : Told → Out
  | .words w => .err (quoteS op ++ w)
  | .diff d => .val (opI op d 0)
theorem opI_sub {op : CmpOp} {a b : Int} : opI op a b = opI op (a - b) 0 := by
  cases op <;> simp only [opI] <;> rw [Bool.eq_iff_iff] <;> simp <;> omega
theorem opI_add {op : CmpOp} {a b c : Int} : opI op (c + a) (c + b) = opI op (a - b) 0 := by
  rw [opI_sub]; congr 1; omega
theorem loop_told {op : CmpOp} : ∀ (xs ys : List Int) (a b : Int), a - b = (xs.length : Int) - ys.length → loopOut (poT op) (opI op a b) (xs.map thingP) (ys.map thingP) = outOf op (told (xs.map kindP) (ys.map kindP))
  | [], ys, a, b, h => by
    simp only [List.map_nil, loopOut, told, outOf]
    rw [opI_sub, h]; simp
  | x :: xs, [], a, b, h => by
    simp only [List.map_nil, List.map_cons, loopOut, told, outOf]
    rw [opI_sub, h]; simp
  | x :: xs, y :: ys, a, b, h => by
    simp only [List.map_cons, loopOut, told]
    obtain ⟨x1, x2, x3⟩ := kind_thing x
    obtain ⟨y1, y2, y3⟩ := kind_thing y
    rw [eqvT (thing_is x) (thing_is y)]
    by_cases hc : (kindP x).2.1 = (kindP y).2.1
    · by_cases hn : (kindP x).2.2 = (kindP y).2.2
      · have e : (clT (thingP x) == clT (thingP y) && numT (thingP x) == numT (thingP y)) = true := by rw [x2, y2, x3, y3, hc, hn]; simp
        rw [if_pos e, if_neg (by simp [hc]), if_neg (by simp [hn])]
        exact loop_told xs ys a b (by rw [h]; simp; omega)
      · have e : (clT (thingP x) == clT (thingP y) && numT (thingP x) == numT (thingP y)) = false := by
          rw [x2, y2, x3, y3, hc]; simp; omega
        rw [if_neg (by rw [e]; decide), if_neg (by simp [hc]), if_pos hn]
        unfold poT
        rw [if_pos (by rw [x2, y2, hc]), x3, y3, hc, opI_add]
        rfl
    · have e : (clT (thingP x) == clT (thingP y) && numT (thingP x) == numT (thingP y)) = false := by
        rw [x2, y2]; simp [hc]
      rw [if_neg (by rw [e]; decide), if_pos hc]
      unfold poT
      rw [if_neg (by rw [x2, y2]; exact hc), x1, y1, msg_eq]
      rfl
theorem eqv_told : ∀ (xs ys : List Int), PyData.eqvAll (xs.map thingP) (ys.map thingP) = (match told (xs.map kindP) (ys.map kindP) with | .diff d => d == 0 | .words _ => false)
  | [], [] => rfl
  | [], y :: ys => by simp [PyData.eqvAll, told]; omega
  | x :: xs, [] => by simp [PyData.eqvAll, told]; omega
  | x :: xs, y :: ys => by
    simp only [List.map_cons, PyData.eqvAll, told]
    obtain ⟨x1, x2, x3⟩ := kind_thing x
    obtain ⟨y1, y2, y3⟩ := kind_thing y
    rw [eqvT (thing_is x) (thing_is y), eqv_told xs ys]
    by_cases hc : (kindP x).2.1 = (kindP y).2.1
    · by_cases hn : (kindP x).2.2 = (kindP y).2.2
      · have e : (clT (thingP x) == clT (thingP y) && numT (thingP x) == numT (thingP y)) = true := by rw [x2, y2, x3, y3, hc, hn]; simp
        rw [e, if_neg (by simp [hc]), if_neg (by simp [hn])]; simp
      · have e : (clT (thingP x) == clT (thingP y) && numT (thingP x) == numT (thingP y)) = false := by
          rw [x2, y2, x3, y3, hc]; simp; omega
        rw [e, if_neg (by simp [hc]), if_pos hn]; simp; omega
    · have e : (clT (thingP x) == clT (thingP y) && numT (thingP x) == numT (thingP y)) = false := by
        rw [x2, y2]; simp [hc]
      rw [e, if_pos hc]; simp
theorem lay_things : ∀ xs : List Int, PyData.canLayAll0 (xs.map thingP) = true ∧ PyData.depthAll (xs.map thingP) ≤ 2
  | [] => ⟨rfl, by simp [PyData.depthAll]⟩
  | x :: xs => by
    obtain ⟨a, b⟩ := lay_things xs
    obtain ⟨c, d⟩ := thing_lay (thing_is x)
    simp only [List.map_cons, PyData.canLayAll0, PyData.depthAll, Bool.and_eq_true]
    exact ⟨⟨c, a⟩, by omega⟩
theorem shaped_things (xs : List Int) : SeqAt.shaped (.list (xs.map thingP)) = true := by
  obtain ⟨a, b⟩ := lay_things xs
  unfold SeqAt.shaped
  rw [Bool.and_eq_true, decide_eq_true_eq]
  refine ⟨a, ?_⟩
  show PyData.depthAll (xs.map thingP) + 1 ≤ 64
  omega
def lD (xs : List Int) : D := .list (D.ofAll (xs.map thingP))
theorem cmpT_ne {B : Bas} {n : Nat} (xs ys : List Int) {d : Int} (h : told (xs.map kindP) (ys.map kindP) = .diff d) : Cmp B n .NotEq (lD xs) (lD ys) (!(d == 0)) := by
  have := cmp_ne_data (B := B) (n := n) (shaped_things xs) (shaped_things ys)
  rw [PyData.eqv, eqv_told, h] at this
  simp only [D.of] at this
  exact this
theorem cmpT_eq {B : Bas} {n : Nat} (xs ys : List Int) {d : Int} (h : told (xs.map kindP) (ys.map kindP) = .diff d) : Cmp B n .Eq (lD xs) (lD ys) (d == 0) := by
  have := cmp_eq_data (B := B) (n := n) (shaped_things xs) (shaped_things ys)
  rw [PyData.eqv, eqv_told, h] at this
  simp only [D.of] at this
  exact this
theorem all_things (xs : List Int) : ∀ x ∈ xs.map thingP, isThing x := by
  intro x hx
  obtain ⟨n, _, rfl⟩ := List.mem_map.mp hx
  exact thing_is n

abbrev pw := PySem.Challenge.pw_dm0115_08
local macro_rules | `(tactic| walk_at "lk") => `(tactic| rfl)
local macro_rules | `(tactic| walk_at "gk") => `(tactic| first | exact FEnv.glob (by assumption) (by decide +kernel) | exact CEnv.glob (by assumption) _ (by decide +kernel))
local macro_rules | `(tactic| walk_at "st") => `(tactic| first | exact FEnv.sl (by assumption) (by decide +kernel) | exact FEnv.sc (by assumption) (by decide +kernel) | exact CEnv.sl (by assumption) (by decide +kernel))
local macro_rules | `(tactic| walk_at "ty") => `(tactic| first | exact ty_int | exact ty_bool | exact ty_list | exact ty_tuple | exact ty_str)
local macro_rules | `(tactic| walk_at "w") => `(tactic| first | ((with_reducible show EvW _ _ _ _ (Expr.Name _ _) _); exact Ev.weak (ev_name (by walk_at "lk"))) | ((with_reducible show EvW _ _ _ _ (Expr.Name _ _) _); exact evw_own (by walk_at "lk")) | exact Ev.weak (by walk_at "ev"))
local macro_rules | `(tactic| walk_at "aw") => `(tactic| first | ((with_reducible show EvAsW _ _ _ _ [] _); exact evasw_nil) | exact evasw_cons (by walk_at "w") (by walk_at "aw"))
local macro_rules | `(tactic| walk_at "as") => `(tactic| first | ((with_reducible show EvAs _ _ _ _ [] _); exact evas_nil) | exact evas_cons (by walk_at "ev") (by walk_at "as"))
local macro_rules | `(tactic| walk_at "ar") => `(tactic| first | assumption | decide | omega | (simp; done) | (simp; omega))
local macro_rules | `(tactic| walk_at "n") => `(tactic| first | ((with_reducible show EvN _ _ _ _ (Expr.List _ _) _); exact evn_list (by walk_at "as") (by walk_at "ar")) | ((with_reducible show EvN _ _ _ _ (Expr.BinOp _ Operator.Add _ _) _); exact evn_add (by walk_at "ev") (by walk_at "ev") (by walk_at "ar")))
local macro_rules | `(tactic| walk_at "tr") => `(tactic| first | exact tru_bool | exact tru_int)
local macro_rules | `(tactic| walk_at "t") => `(tactic| first | ((with_reducible show Tst _ _ _ _ (Expr.Compare _ [_] [_] _) _); exact tst_cmp (by walk_at "w") (by walk_at "w") (by walk_at "cmp")) | ((with_reducible show Tst _ _ _ _ (Expr.UnaryOp UnaryOp.Not _ _) _); exact tst_not (by walk_at "t")) | exact tst_ev (by walk_at "w") (by walk_at "tr"))
local macro_rules | `(tactic| walk_at "cmp") => `(tactic| first | ((with_reducible show Cmp _ _ CmpOp.Eq _ _ _); exact cmp_eq) | ((with_reducible show Cmp _ _ CmpOp.NotEq _ _ _); exact cmp_ne) | ((with_reducible show Cmp _ _ CmpOp.Lt _ _ _); exact cmp_lt) | ((with_reducible show Cmp _ _ CmpOp.LtE _ _ _); exact cmp_le) | ((with_reducible show Cmp _ _ CmpOp.Gt _ _ _); exact cmp_gt) | ((with_reducible show Cmp _ _ CmpOp.GtE _ _ _); exact cmp_ge) | ((with_reducible show Cmp _ _ CmpOp.Is _ _ _); exact cmp_is_bool_ni) | ((with_reducible show Cmp _ _ CmpOp.Is _ _ _); exact cmp_is_ni_ni))
local macro_rules | `(tactic| walk_at "ev") => `(tactic| first
  | ((with_reducible show Ev _ _ _ _ (Expr.Constant (Const.int _) _ _) _); exact ev_int)
  | ((with_reducible show Ev _ _ _ _ (Expr.Constant (Const.bool _) _ _) _); exact ev_bool)
  | ((with_reducible show Ev _ _ _ _ (Expr.Constant Const.none _ _) _); exact ev_none)
  | ((with_reducible show Ev _ _ _ _ (Expr.Constant (Const.str _) _ _) _); exact ev_str)
  | ((with_reducible show Ev _ _ _ _ (Expr.Name (S "NotImplemented") _) _); exact ev_ni (by assumption) (by walk_at "gk"))
  | ((with_reducible show Ev _ _ _ _ (Expr.Name _ _) _); exact ev_name (by walk_at "lk"))
  | ((with_reducible show Ev _ _ _ _ (Expr.Call (Expr.Name (S "type") _) _ _ _) _); exact ev_type (by assumption) (by walk_at "gk") (by walk_at "w") (by walk_at "ty"))
  | ((with_reducible show Ev _ _ _ _ (Expr.Call (Expr.Name (S "len") _) _ _ _) _); exact ev_len (by assumption) (by walk_at "gk") (by walk_at "w") (by walk_at "ar"))
  | ((with_reducible show Ev _ _ _ _ (Expr.Call (Expr.Name (S "abs") _) _ _ _) _); exact ev_abs (by assumption) (by walk_at "gk") (by walk_at "w"))
  | ((with_reducible show Ev _ _ _ _ (Expr.Call (Expr.Name (S "range") _) [_] _ _) _); exact ev_rng1 (by assumption) (by walk_at "gk") (by walk_at "w"))
  | ((with_reducible show Ev _ _ _ _ (Expr.Call (Expr.Name (S "range") _) [_, _] _ _) _); exact ev_rng2 (by assumption) (by walk_at "gk") (by walk_at "w") (by walk_at "w"))
  | ((with_reducible show Ev _ _ _ _ (Expr.Call (Expr.Name (S "min") _) [_, _] _ _) _); exact ev_min2 (by assumption) (by walk_at "gk") (by walk_at "w") (by walk_at "w"))
  | ((with_reducible show Ev _ _ _ _ (Expr.Call (Expr.Name (S "max") _) [_, _] _ _) _); exact ev_max2 (by assumption) (by walk_at "gk") (by walk_at "w") (by walk_at "w"))
  | ((with_reducible show Ev _ _ _ _ (Expr.UnaryOp UnaryOp.USub _ _) _); exact ev_neg (by walk_at "w"))
  | ((with_reducible show Ev _ _ _ _ (Expr.UnaryOp UnaryOp.Not _ _) _); exact ev_not (by walk_at "w") (by walk_at "tr"))
  | ((with_reducible show Ev _ _ _ _ (Expr.BinOp _ Operator.Add _ _) _); exact ev_bin (by walk_at "w") (by walk_at "w") bin_add)
  | ((with_reducible show Ev _ _ _ _ (Expr.BinOp _ Operator.Sub _ _) _); exact ev_bin (by walk_at "w") (by walk_at "w") bin_sub)
  | ((with_reducible show Ev _ _ _ _ (Expr.BinOp _ Operator.BitAnd _ _) _); exact ev_bin (by walk_at "w") (by walk_at "w") bin_and)
  | ((with_reducible show Ev _ _ _ _ (Expr.BinOp _ Operator.FloorDiv _ _) _); exact ev_bin (by walk_at "w") (by walk_at "w") (bin_div (by walk_at "ar") (by walk_at "ar")))
  | ((with_reducible show Ev _ _ _ _ (Expr.UnaryOp UnaryOp.Invert _ _) _); exact ev_inv (by walk_at "w"))
  | ((with_reducible show Ev _ _ _ _ (Expr.BinOp _ Operator.Mod _ _) _); exact ev_bin (by walk_at "w") (by walk_at "w") (bin_mod (by walk_at "ar")))
  | ((with_reducible show Ev _ _ _ _ (Expr.BinOp _ Operator.RShift _ _) _); exact ev_bin (by walk_at "w") (by walk_at "w") (bin_shr (by walk_at "ar")))
  | ((with_reducible show Ev _ _ _ _ (Expr.BinOp _ Operator.Pow _ _) _); exact ev_bin (by walk_at "w") (by walk_at "w") (bin_pow (by walk_at "ar") (by walk_at "ar") (by walk_at "ar")))
  | ((with_reducible show Ev _ _ _ _ (Expr.Compare _ [_] [_] _) _); exact ev_cmp (by walk_at "w") (by walk_at "w") (by walk_at "cmp"))
  | ((with_reducible show Ev _ _ _ _ (Expr.Tuple _ _ _) _); exact ev_tuple (by walk_at "as") (by walk_at "ar"))
  | exact EvN.ev (by walk_at "n"))
theorem made_gt_lt {B : Bas} (fr : Free B) {n : Nat} {a : Addr} (F : HasDef B "_gt_from_lt" a (defAt pw 1)) {dS dO : D} {t u : Bool} (x : Dun B n "__lt__" dS dO (.bool t)) (c : Cmp B n .NotEq dS dO u) : FnS B (n + 1) a [dS, dO] (.bool (!t && u)) := by
  refine fns_of (xs := ["self", "other"]) F.fn rfl (fun pm cd doc vs hvs => ?_) rfl (by decide) (by decide +kernel) fun env fe => ?_
  · match vs, hvs with
    | [v, w], _ => rfl
  · show Ex B n env [("self", .val dS), ("other", .val dO)] _ _
    refine ex_cons (ex_assign (d := .val (.bool t)) (by walk_at "st") (ev_dun fr (by walk_at "gk") rfl rfl x) ?_ (by rfl))
    refine ex_cons (ex_if (t := false) (tst_cmp (by walk_at "w") (by walk_at "w") cmp_is_bool_ni) (fun h => nomatch h) fun _ => ex_nil ?_)
    refine ex_cons (ex_return (Ev.ret (ev_and (ev_not (by walk_at "w") tru_bool) fun _ => ev_cmp (by walk_at "w") (by walk_at "w") c)) ?_)
    rfl
theorem made_le_lt {B : Bas} (fr : Free B) {n : Nat} {a : Addr} (F : HasDef B "_le_from_lt" a (defAt pw 2)) {dS dO : D} {t u : Bool} (x : Dun B n "__lt__" dS dO (.bool t)) (c : Cmp B n .Eq dS dO u) : FnS B (n + 1) a [dS, dO] (.bool (t || u)) := by
  refine fns_of (xs := ["self", "other"]) F.fn rfl (fun pm cd doc vs hvs => ?_) rfl (by decide) (by decide +kernel) fun env fe => ?_
  · match vs, hvs with
    | [v, w], _ => rfl
  · show Ex B n env [("self", .val dS), ("other", .val dO)] _ _
    refine ex_cons (ex_assign (d := .val (.bool t)) (by walk_at "st") (ev_dun fr (by walk_at "gk") rfl rfl x) ?_ (by rfl))
    refine ex_cons (ex_if (t := false) (tst_cmp (by walk_at "w") (by walk_at "w") cmp_is_bool_ni) (fun h => nomatch h) fun _ => ex_nil ?_)
    refine ex_cons (ex_return (Ev.ret (ev_or (by walk_at "ev") fun _ => ev_cmp (by walk_at "w") (by walk_at "w") c)) ?_)
    rfl
theorem made_ge_lt {B : Bas} (fr : Free B) {n : Nat} {a : Addr} (F : HasDef B "_ge_from_lt" a (defAt pw 3)) {dS dO : D} {t : Bool} (x : Dun B n "__lt__" dS dO (.bool t)) : FnS B (n + 1) a [dS, dO] (.bool (!t)) := by
  refine fns_of (xs := ["self", "other"]) F.fn rfl (fun pm cd doc vs hvs => ?_) rfl (by decide) (by decide +kernel) fun env fe => ?_
  · match vs, hvs with
    | [v, w], _ => rfl
  · show Ex B n env [("self", .val dS), ("other", .val dO)] _ _
    refine ex_cons (ex_assign (d := .val (.bool t)) (by walk_at "st") (ev_dun fr (by walk_at "gk") rfl rfl x) ?_ (by rfl))
    refine ex_cons (ex_if (t := false) (tst_cmp (by walk_at "w") (by walk_at "w") cmp_is_bool_ni) (fun h => nomatch h) fun _ => ex_nil ?_)
    refine ex_cons (ex_return (Ev.ret (ev_not (by walk_at "w") tru_bool)) ?_)
    rfl
theorem made_ge_le {B : Bas} (fr : Free B) {n : Nat} {a : Addr} (F : HasDef B "_ge_from_le" a (defAt pw 4)) {dS dO : D} {t u : Bool} (x : Dun B n "__le__" dS dO (.bool t)) (c : Cmp B n .Eq dS dO u) : FnS B (n + 1) a [dS, dO] (.bool (!t || u)) := by
  refine fns_of (xs := ["self", "other"]) F.fn rfl (fun pm cd doc vs hvs => ?_) rfl (by decide) (by decide +kernel) fun env fe => ?_
  · match vs, hvs with
    | [v, w], _ => rfl
  · show Ex B n env [("self", .val dS), ("other", .val dO)] _ _
    refine ex_cons (ex_assign (d := .val (.bool t)) (by walk_at "st") (ev_dun fr (by walk_at "gk") rfl rfl x) ?_ (by rfl))
    refine ex_cons (ex_if (t := false) (tst_cmp (by walk_at "w") (by walk_at "w") cmp_is_bool_ni) (fun h => nomatch h) fun _ => ex_nil ?_)
    refine ex_cons (ex_return (Ev.ret (ev_or (ev_not (by walk_at "w") tru_bool) fun _ => ev_cmp (by walk_at "w") (by walk_at "w") c)) ?_)
    rfl
theorem made_lt_le {B : Bas} (fr : Free B) {n : Nat} {a : Addr} (F : HasDef B "_lt_from_le" a (defAt pw 5)) {dS dO : D} {t u : Bool} (x : Dun B n "__le__" dS dO (.bool t)) (c : Cmp B n .NotEq dS dO u) : FnS B (n + 1) a [dS, dO] (.bool (t && u)) := by
  refine fns_of (xs := ["self", "other"]) F.fn rfl (fun pm cd doc vs hvs => ?_) rfl (by decide) (by decide +kernel) fun env fe => ?_
  · match vs, hvs with
    | [v, w], _ => rfl
  · show Ex B n env [("self", .val dS), ("other", .val dO)] _ _
    refine ex_cons (ex_assign (d := .val (.bool t)) (by walk_at "st") (ev_dun fr (by walk_at "gk") rfl rfl x) ?_ (by rfl))
    refine ex_cons (ex_if (t := false) (tst_cmp (by walk_at "w") (by walk_at "w") cmp_is_bool_ni) (fun h => nomatch h) fun _ => ex_nil ?_)
    refine ex_cons (ex_return (Ev.ret (ev_and (by walk_at "ev") fun _ => ev_cmp (by walk_at "w") (by walk_at "w") c)) ?_)
    rfl
theorem made_gt_le {B : Bas} (fr : Free B) {n : Nat} {a : Addr} (F : HasDef B "_gt_from_le" a (defAt pw 6)) {dS dO : D} {t : Bool} (x : Dun B n "__le__" dS dO (.bool t)) : FnS B (n + 1) a [dS, dO] (.bool (!t)) := by
  refine fns_of (xs := ["self", "other"]) F.fn rfl (fun pm cd doc vs hvs => ?_) rfl (by decide) (by decide +kernel) fun env fe => ?_
  · match vs, hvs with
    | [v, w], _ => rfl
  · show Ex B n env [("self", .val dS), ("other", .val dO)] _ _
    refine ex_cons (ex_assign (d := .val (.bool t)) (by walk_at "st") (ev_dun fr (by walk_at "gk") rfl rfl x) ?_ (by rfl))
    refine ex_cons (ex_if (t := false) (tst_cmp (by walk_at "w") (by walk_at "w") cmp_is_bool_ni) (fun h => nomatch h) fun _ => ex_nil ?_)
    refine ex_cons (ex_return (Ev.ret (ev_not (by walk_at "w") tru_bool)) ?_)
    rfl
theorem made_lt_gt {B : Bas} (fr : Free B) {n : Nat} {a : Addr} (F : HasDef B "_lt_from_gt" a (defAt pw 7)) {dS dO : D} {t u : Bool} (x : Dun B n "__gt__" dS dO (.bool t)) (c : Cmp B n .NotEq dS dO u) : FnS B (n + 1) a [dS, dO] (.bool (!t && u)) := by
  refine fns_of (xs := ["self", "other"]) F.fn rfl (fun pm cd doc vs hvs => ?_) rfl (by decide) (by decide +kernel) fun env fe => ?_
  · match vs, hvs with
    | [v, w], _ => rfl
  · show Ex B n env [("self", .val dS), ("other", .val dO)] _ _
    refine ex_cons (ex_assign (d := .val (.bool t)) (by walk_at "st") (ev_dun fr (by walk_at "gk") rfl rfl x) ?_ (by rfl))
    refine ex_cons (ex_if (t := false) (tst_cmp (by walk_at "w") (by walk_at "w") cmp_is_bool_ni) (fun h => nomatch h) fun _ => ex_nil ?_)
    refine ex_cons (ex_return (Ev.ret (ev_and (ev_not (by walk_at "w") tru_bool) fun _ => ev_cmp (by walk_at "w") (by walk_at "w") c)) ?_)
    rfl
theorem made_ge_gt {B : Bas} (fr : Free B) {n : Nat} {a : Addr} (F : HasDef B "_ge_from_gt" a (defAt pw 8)) {dS dO : D} {t u : Bool} (x : Dun B n "__gt__" dS dO (.bool t)) (c : Cmp B n .Eq dS dO u) : FnS B (n + 1) a [dS, dO] (.bool (t || u)) := by
  refine fns_of (xs := ["self", "other"]) F.fn rfl (fun pm cd doc vs hvs => ?_) rfl (by decide) (by decide +kernel) fun env fe => ?_
  · match vs, hvs with
    | [v, w], _ => rfl
  · show Ex B n env [("self", .val dS), ("other", .val dO)] _ _
    refine ex_cons (ex_assign (d := .val (.bool t)) (by walk_at "st") (ev_dun fr (by walk_at "gk") rfl rfl x) ?_ (by rfl))
    refine ex_cons (ex_if (t := false) (tst_cmp (by walk_at "w") (by walk_at "w") cmp_is_bool_ni) (fun h => nomatch h) fun _ => ex_nil ?_)
    refine ex_cons (ex_return (Ev.ret (ev_or (by walk_at "ev") fun _ => ev_cmp (by walk_at "w") (by walk_at "w") c)) ?_)
    rfl
theorem made_le_gt {B : Bas} (fr : Free B) {n : Nat} {a : Addr} (F : HasDef B "_le_from_gt" a (defAt pw 9)) {dS dO : D} {t : Bool} (x : Dun B n "__gt__" dS dO (.bool t)) : FnS B (n + 1) a [dS, dO] (.bool (!t)) := by
  refine fns_of (xs := ["self", "other"]) F.fn rfl (fun pm cd doc vs hvs => ?_) rfl (by decide) (by decide +kernel) fun env fe => ?_
  · match vs, hvs with
    | [v, w], _ => rfl
  · show Ex B n env [("self", .val dS), ("other", .val dO)] _ _
    refine ex_cons (ex_assign (d := .val (.bool t)) (by walk_at "st") (ev_dun fr (by walk_at "gk") rfl rfl x) ?_ (by rfl))
    refine ex_cons (ex_if (t := false) (tst_cmp (by walk_at "w") (by walk_at "w") cmp_is_bool_ni) (fun h => nomatch h) fun _ => ex_nil ?_)
    refine ex_cons (ex_return (Ev.ret (ev_not (by walk_at "w") tru_bool)) ?_)
    rfl
theorem made_le_ge {B : Bas} (fr : Free B) {n : Nat} {a : Addr} (F : HasDef B "_le_from_ge" a (defAt pw 10)) {dS dO : D} {t u : Bool} (x : Dun B n "__ge__" dS dO (.bool t)) (c : Cmp B n .Eq dS dO u) : FnS B (n + 1) a [dS, dO] (.bool (!t || u)) := by
  refine fns_of (xs := ["self", "other"]) F.fn rfl (fun pm cd doc vs hvs => ?_) rfl (by decide) (by decide +kernel) fun env fe => ?_
  · match vs, hvs with
    | [v, w], _ => rfl
  · show Ex B n env [("self", .val dS), ("other", .val dO)] _ _
    refine ex_cons (ex_assign (d := .val (.bool t)) (by walk_at "st") (ev_dun fr (by walk_at "gk") rfl rfl x) ?_ (by rfl))
    refine ex_cons (ex_if (t := false) (tst_cmp (by walk_at "w") (by walk_at "w") cmp_is_bool_ni) (fun h => nomatch h) fun _ => ex_nil ?_)
    refine ex_cons (ex_return (Ev.ret (ev_or (ev_not (by walk_at "w") tru_bool) fun _ => ev_cmp (by walk_at "w") (by walk_at "w") c)) ?_)
    rfl
theorem made_gt_ge {B : Bas} (fr : Free B) {n : Nat} {a : Addr} (F : HasDef B "_gt_from_ge" a (defAt pw 11)) {dS dO : D} {t u : Bool} (x : Dun B n "__ge__" dS dO (.bool t)) (c : Cmp B n .NotEq dS dO u) : FnS B (n + 1) a [dS, dO] (.bool (t && u)) := by
  refine fns_of (xs := ["self", "other"]) F.fn rfl (fun pm cd doc vs hvs => ?_) rfl (by decide) (by decide +kernel) fun env fe => ?_
  · match vs, hvs with
    | [v, w], _ => rfl
  · show Ex B n env [("self", .val dS), ("other", .val dO)] _ _
    refine ex_cons (ex_assign (d := .val (.bool t)) (by walk_at "st") (ev_dun fr (by walk_at "gk") rfl rfl x) ?_ (by rfl))
    refine ex_cons (ex_if (t := false) (tst_cmp (by walk_at "w") (by walk_at "w") cmp_is_bool_ni) (fun h => nomatch h) fun _ => ex_nil ?_)
    refine ex_cons (ex_return (Ev.ret (ev_and (by walk_at "ev") fun _ => ev_cmp (by walk_at "w") (by walk_at "w") c)) ?_)
    rfl
theorem made_lt_ge {B : Bas} (fr : Free B) {n : Nat} {a : Addr} (F : HasDef B "_lt_from_ge" a (defAt pw 12)) {dS dO : D} {t : Bool} (x : Dun B n "__ge__" dS dO (.bool t)) : FnS B (n + 1) a [dS, dO] (.bool (!t)) := by
  refine fns_of (xs := ["self", "other"]) F.fn rfl (fun pm cd doc vs hvs => ?_) rfl (by decide) (by decide +kernel) fun env fe => ?_
  · match vs, hvs with
    | [v, w], _ => rfl
  · show Ex B n env [("self", .val dS), ("other", .val dO)] _ _
    refine ex_cons (ex_assign (d := .val (.bool t)) (by walk_at "st") (ev_dun fr (by walk_at "gk") rfl rfl x) ?_ (by rfl))
    refine ex_cons (ex_if (t := false) (tst_cmp (by walk_at "w") (by walk_at "w") cmp_is_bool_ni) (fun h => nomatch h) fun _ => ex_nil ?_)
    refine ex_cons (ex_return (Ev.ret (ev_not (by walk_at "w") tru_bool)) ?_)
    rfl
/-- the twelve, by their addresses -/
structure Twelve (B : Bas) (a1 a2 a3 a4 a5 a6 a7 a8 a9 a10 a11 a12 : Addr) : Prop where
  f1 : HasDef B "_gt_from_lt" a1 (defAt pw 1)
  f2 : HasDef B "_le_from_lt" a2 (defAt pw 2)
  f3 : HasDef B "_ge_from_lt" a3 (defAt pw 3)
  f4 : HasDef B "_ge_from_le" a4 (defAt pw 4)
  f5 : HasDef B "_lt_from_le" a5 (defAt pw 5)
  f6 : HasDef B "_gt_from_le" a6 (defAt pw 6)
  f7 : HasDef B "_lt_from_gt" a7 (defAt pw 7)
  f8 : HasDef B "_ge_from_gt" a8 (defAt pw 8)
  f9 : HasDef B "_le_from_gt" a9 (defAt pw 9)
  f10 : HasDef B "_le_from_ge" a10 (defAt pw 10)
  f11 : HasDef B "_gt_from_ge" a11 (defAt pw 11)
  f12 : HasDef B "_lt_from_ge" a12 (defAt pw 12)

theorem heaps_spec {B : Bas} (fr : Free B) {n : Nat} {a : Addr} (F : HasDef B "_law_heaps" a (defAt pw 14)) {l : List Int} (hl : l.length ≤ 63) : FnS B (n + 1) a [.list (D.ofInts l)] (.list (D.ofInts (heapsI 3 l))) := by
  refine fns_of (xs := ["script"]) F.fn rfl (fun pm cd doc vs hvs => ?_) rfl (by decide) (by decide +kernel) fun env fe => ?_
  · match vs, hvs with
    | [v], _ => rfl
  · show Ex B n env [("script", .val (.list (D.ofInts l)))] _ _
    have hlen : (D.ofInts l).length = l.length := ofInts_length l
    have hmin : minI (((D.ofInts l).length : Nat) : Int) [3] = ((min l.length 3 : Nat) : Int) := by rw [hlen]; unfold minI minI; split <;> omega
    refine ex_cons (ex_assignN (by walk_at "st") (evn_mul (ds := [.int 0]) (i := minI (((D.ofInts l).length : Nat) : Int) [3]) (by walk_at "ev") (Ev.weak (ev_min2 fr (by walk_at "gk") (by walk_at "w") (by walk_at "w"))) (by rw [hmin]; omega) (by rw [hmin]; omega) (by rw [hmin]; simp; omega) (by simp)) ?_ (by rfl))
    have e0 : (List.replicate (minI (((D.ofInts l).length : Nat) : Int) [3]).toNat [D.int 0]).flatten = D.ofInts (heapsTo 3 l 0) := by
      rw [hmin]; simp [heapsTo, D.ofInts]
    show Ex B n env [("script", .val (.list (D.ofInts l))), ("heaps", .own (List.replicate (minI (((D.ofInts l).length : Nat) : Int) [3]).toNat [D.int 0]).flatten)] _ _
    rw [e0]
    refine ex_cons (ex_forS (fun pre => [("script", .val (.list (D.ofInts l))), ("heaps", .own (D.ofInts (heapsTo 3 l pre.length)))]) (evit_range (ev_rng1 fr (by walk_at "gk") (by walk_at "w")) (by omega) (by omega) (by omega) (by omega)) ⟨rfl, rfl, trivial⟩ ?_ ?_)
    · intro pre d post e
      obtain ⟨rfl, hk⟩ := rngD_split e
      refine ⟨_, asg_name (by walk_at "st"), ?_⟩
      have hk' : pre.length < l.length := by rw [hlen] at hk; omega
      refine ex_cons (ex_augitem (k := ((pre.length % 3 : Nat) : Int)) (j := l.getD pre.length 0) rfl (evw_eq (by walk_at "w") ?_) (Ev.weak (ev_item (k := 0 + (pre.length : Int)) (by walk_at "ev") (by walk_at "w") ?_ ?_ ?_ ?_)) ?_ ?_ ?_ (ex_nil ?_))
      · rw [Int.zero_add, show (3 : Int) = ((3 : Nat) : Int) from rfl, fmod_nat]
      · rw [hlen]; omega
      · rw [hlen]; omega
      · rw [hlen]; omega
      · rw [Int.zero_add, place_nat]; exact ofInts_get hk'
      · omega
      · rw [heapsTo_length]; omega
      · rw [heapsTo_length]; omega
      · refine ⟨rfl, ?_, trivial⟩
        show some (Bnd.own (D.ofInts _)) = _
        simp only [Int.toNat_natCast, heapsTo, heapStep, List.length_append, List.length_cons, List.length_nil]
    · intro υ hυ
      refine ex_sub hυ (ex_cons (ex_return (evr_own rfl) ?_))
      show D.list _ = _
      rw [rngD_length, hlen]; simp [heapsI]

theorem ofInts_append (a b : List Int) : D.ofInts a ++ D.ofInts b = D.ofInts (a ++ b) := by simp [D.ofInts]
theorem rngD0 (m : Nat) : rngD 0 (m : Int) = (List.range m).map fun (k : Nat) => D.int (0 + (k : Int)) := by
  unfold rngD; rw [show ((m : Int) - 0).toNat = m by omega]
theorem fns_eq {B n a ds d d'} (x : FnS B n a ds d) (h : d = d') : FnS B n a ds d' := h ▸ x
theorem ev_chr {B : Bas} {n : Nat} {env : Env} {σ : Sto} {e : Expr} {p p' : Pos} {i : Int} (fr : Free B) (hk : env.kindOf (S "chr") = some .globalImplicit) (v : EvW B n env σ e (.int i)) (h0 : 0 ≤ i) (h1 : i ≤ 1114111) (he : starEach [e] env = (false, eval e env) :: starEach [] env := by rfl) : Ev B n env σ (.Call (.Name (S "chr") p') [e] [] p) (.str (ltr i)) :=
  ev_builtin (bn fr hk boot_chr) (evasw_cons v evasw_nil he) (bi_chr h0 h1) he
def kD (k : String × Int × Int) : D := .tuple [.str (S k.1), .int k.2.1, .int k.2.2]
set_option maxHeartbeats 1000000 in
theorem thing_spec {B : Bas} (fr : Free B) {n : Nat} {a : Addr} (F : HasDef B "_law_thing" a (defAt pw 15)) {m : Int} : FnS B (n + 1) a [.int m] (D.of (thingP m)) := by
  refine fns_of (xs := ["n"]) F.fn rfl (fun pm cd doc vs hvs => ?_) rfl (by decide) (by decide +kernel) fun env fe => ?_
  · match vs, hvs with
    | [v], _ => rfl
  · show Ex B n env [("n", .val (.int m))] _ _
    have h26 := Int.fmod_nonneg_of_pos (m.fdiv 6) (b := 26) (by decide)
    have h26' := Int.fmod_lt_of_pos (m.fdiv 6) (b := 26) (by decide)
    unfold thingP
    rcases kd6_lt m with h | h | h | h | h | h <;> rw [h]
    · refine ex_cons (ex_if (t := false) (tst_eq (tst_cmp (by walk_at "w") (by walk_at "w") cmp_eq) ((kd6b m 2).trans (by rw [h]; rfl))) (fun h => nomatch h) fun _ => ex_nil ?_)
      refine ex_cons (ex_if (t := false) (tst_eq (tst_cmp (by walk_at "w") (by walk_at "w") cmp_eq) ((kd6b m 3).trans (by rw [h]; rfl))) (fun h => nomatch h) fun _ => ex_nil ?_)
      refine ex_cons (ex_if (t := false) (tst_eq (tst_cmp (by walk_at "w") (by walk_at "w") cmp_eq) ((kd6b m 4).trans (by rw [h]; rfl))) (fun h => nomatch h) fun _ => ex_nil ?_)
      refine ex_cons (ex_if (t := false) (tst_eq (tst_cmp (by walk_at "w") (by walk_at "w") cmp_eq) ((kd6b m 5).trans (by rw [h]; rfl))) (fun h => nomatch h) fun _ => ex_nil ?_)
      refine ex_cons (ex_return (Ev.ret (by walk_at "ev")) ?_)
      rfl
    · refine ex_cons (ex_if (t := false) (tst_eq (tst_cmp (by walk_at "w") (by walk_at "w") cmp_eq) ((kd6b m 2).trans (by rw [h]; rfl))) (fun h => nomatch h) fun _ => ex_nil ?_)
      refine ex_cons (ex_if (t := false) (tst_eq (tst_cmp (by walk_at "w") (by walk_at "w") cmp_eq) ((kd6b m 3).trans (by rw [h]; rfl))) (fun h => nomatch h) fun _ => ex_nil ?_)
      refine ex_cons (ex_if (t := false) (tst_eq (tst_cmp (by walk_at "w") (by walk_at "w") cmp_eq) ((kd6b m 4).trans (by rw [h]; rfl))) (fun h => nomatch h) fun _ => ex_nil ?_)
      refine ex_cons (ex_if (t := false) (tst_eq (tst_cmp (by walk_at "w") (by walk_at "w") cmp_eq) ((kd6b m 5).trans (by rw [h]; rfl))) (fun h => nomatch h) fun _ => ex_nil ?_)
      refine ex_cons (ex_return (Ev.ret (by walk_at "ev")) ?_)
      rfl
    · refine ex_cons (ex_if (t := true) (tst_eq (tst_cmp (by walk_at "w") (by walk_at "w") cmp_eq) ((kd6b m 2).trans (by rw [h]; rfl))) (fun _ => ex_cons (ex_return (Ev.ret (ev_chr fr (by walk_at "gk") (by walk_at "w") (by omega) (by omega))) ?_)) fun h => nomatch h)
      rfl
    · refine ex_cons (ex_if (t := false) (tst_eq (tst_cmp (by walk_at "w") (by walk_at "w") cmp_eq) ((kd6b m 2).trans (by rw [h]; rfl))) (fun h => nomatch h) fun _ => ex_nil ?_)
      refine ex_cons (ex_if (t := true) (tst_eq (tst_cmp (by walk_at "w") (by walk_at "w") cmp_eq) ((kd6b m 3).trans (by rw [h]; rfl))) (fun _ => ex_cons (ex_return (Ev.ret (by walk_at "ev")) ?_)) fun h => nomatch h)
      rfl
    · refine ex_cons (ex_if (t := false) (tst_eq (tst_cmp (by walk_at "w") (by walk_at "w") cmp_eq) ((kd6b m 2).trans (by rw [h]; rfl))) (fun h => nomatch h) fun _ => ex_nil ?_)
      refine ex_cons (ex_if (t := false) (tst_eq (tst_cmp (by walk_at "w") (by walk_at "w") cmp_eq) ((kd6b m 3).trans (by rw [h]; rfl))) (fun h => nomatch h) fun _ => ex_nil ?_)
      refine ex_cons (ex_if (t := true) (tst_eq (tst_cmp (by walk_at "w") (by walk_at "w") cmp_eq) ((kd6b m 4).trans (by rw [h]; rfl))) (fun _ => ex_cons (ex_return (Ev.ret (by walk_at "ev")) ?_)) fun h => nomatch h)
      rfl
    · refine ex_cons (ex_if (t := false) (tst_eq (tst_cmp (by walk_at "w") (by walk_at "w") cmp_eq) ((kd6b m 2).trans (by rw [h]; rfl))) (fun h => nomatch h) fun _ => ex_nil ?_)
      refine ex_cons (ex_if (t := false) (tst_eq (tst_cmp (by walk_at "w") (by walk_at "w") cmp_eq) ((kd6b m 3).trans (by rw [h]; rfl))) (fun h => nomatch h) fun _ => ex_nil ?_)
      refine ex_cons (ex_if (t := false) (tst_eq (tst_cmp (by walk_at "w") (by walk_at "w") cmp_eq) ((kd6b m 4).trans (by rw [h]; rfl))) (fun h => nomatch h) fun _ => ex_nil ?_)
      refine ex_cons (ex_if (t := true) (tst_eq (tst_cmp (by walk_at "w") (by walk_at "w") cmp_eq) ((kd6b m 5).trans (by rw [h]; rfl))) (fun _ => ex_cons (ex_return (Ev.ret (by walk_at "ev")) ?_)) fun h => nomatch h)
      rfl
set_option maxHeartbeats 1000000 in
theorem kind_spec {B : Bas} (fr : Free B) {n : Nat} {a : Addr} (F : HasDef B "_law_kind" a (defAt pw 16)) {m : Int} : FnS B (n + 1) a [.int m] (kD (kindP m)) := by
  refine fns_of (xs := ["n"]) F.fn rfl (fun pm cd doc vs hvs => ?_) rfl (by decide) (by decide +kernel) fun env fe => ?_
  · match vs, hvs with
    | [v], _ => rfl
  · show Ex B n env [("n", .val (.int m))] _ _
    have h26 := Int.fmod_nonneg_of_pos (m.fdiv 6) (b := 26) (by decide)
    have h26' := Int.fmod_lt_of_pos (m.fdiv 6) (b := 26) (by decide)
    unfold kindP
    rcases kd6_lt m with h | h | h | h | h | h <;> rw [h]
    · refine ex_cons (ex_if (t := false) (tst_eq (tst_cmp (by walk_at "w") (by walk_at "w") cmp_eq) ((kd6b m 2).trans (by rw [h]; rfl))) (fun h => nomatch h) fun _ => ex_nil ?_)
      refine ex_cons (ex_if (t := false) (tst_eq (tst_cmp (by walk_at "w") (by walk_at "w") cmp_eq) ((kd6b m 3).trans (by rw [h]; rfl))) (fun h => nomatch h) fun _ => ex_nil ?_)
      refine ex_cons (ex_if (t := false) (tst_eq (tst_cmp (by walk_at "w") (by walk_at "w") cmp_eq) ((kd6b m 4).trans (by rw [h]; rfl))) (fun h => nomatch h) fun _ => ex_nil ?_)
      refine ex_cons (ex_if (t := false) (tst_eq (tst_cmp (by walk_at "w") (by walk_at "w") cmp_eq) ((kd6b m 5).trans (by rw [h]; rfl))) (fun h => nomatch h) fun _ => ex_nil ?_)
      refine ex_cons (ex_return (Ev.ret (by walk_at "ev")) ?_)
      rfl
    · refine ex_cons (ex_if (t := false) (tst_eq (tst_cmp (by walk_at "w") (by walk_at "w") cmp_eq) ((kd6b m 2).trans (by rw [h]; rfl))) (fun h => nomatch h) fun _ => ex_nil ?_)
      refine ex_cons (ex_if (t := false) (tst_eq (tst_cmp (by walk_at "w") (by walk_at "w") cmp_eq) ((kd6b m 3).trans (by rw [h]; rfl))) (fun h => nomatch h) fun _ => ex_nil ?_)
      refine ex_cons (ex_if (t := false) (tst_eq (tst_cmp (by walk_at "w") (by walk_at "w") cmp_eq) ((kd6b m 4).trans (by rw [h]; rfl))) (fun h => nomatch h) fun _ => ex_nil ?_)
      refine ex_cons (ex_if (t := false) (tst_eq (tst_cmp (by walk_at "w") (by walk_at "w") cmp_eq) ((kd6b m 5).trans (by rw [h]; rfl))) (fun h => nomatch h) fun _ => ex_nil ?_)
      refine ex_cons (ex_return (Ev.ret (by walk_at "ev")) ?_)
      rfl
    · refine ex_cons (ex_if (t := true) (tst_eq (tst_cmp (by walk_at "w") (by walk_at "w") cmp_eq) ((kd6b m 2).trans (by rw [h]; rfl))) (fun _ => ex_cons (ex_return (Ev.ret (by walk_at "ev")) ?_)) fun h => nomatch h)
      rfl
    · refine ex_cons (ex_if (t := false) (tst_eq (tst_cmp (by walk_at "w") (by walk_at "w") cmp_eq) ((kd6b m 2).trans (by rw [h]; rfl))) (fun h => nomatch h) fun _ => ex_nil ?_)
      refine ex_cons (ex_if (t := true) (tst_eq (tst_cmp (by walk_at "w") (by walk_at "w") cmp_eq) ((kd6b m 3).trans (by rw [h]; rfl))) (fun _ => ex_cons (ex_return (Ev.ret (by walk_at "ev")) ?_)) fun h => nomatch h)
      rfl
    · refine ex_cons (ex_if (t := false) (tst_eq (tst_cmp (by walk_at "w") (by walk_at "w") cmp_eq) ((kd6b m 2).trans (by rw [h]; rfl))) (fun h => nomatch h) fun _ => ex_nil ?_)
      refine ex_cons (ex_if (t := false) (tst_eq (tst_cmp (by walk_at "w") (by walk_at "w") cmp_eq) ((kd6b m 3).trans (by rw [h]; rfl))) (fun h => nomatch h) fun _ => ex_nil ?_)
      refine ex_cons (ex_if (t := true) (tst_eq (tst_cmp (by walk_at "w") (by walk_at "w") cmp_eq) ((kd6b m 4).trans (by rw [h]; rfl))) (fun _ => ex_cons (ex_return (Ev.ret (by walk_at "ev")) ?_)) fun h => nomatch h)
      rfl
    · refine ex_cons (ex_if (t := false) (tst_eq (tst_cmp (by walk_at "w") (by walk_at "w") cmp_eq) ((kd6b m 2).trans (by rw [h]; rfl))) (fun h => nomatch h) fun _ => ex_nil ?_)
      refine ex_cons (ex_if (t := false) (tst_eq (tst_cmp (by walk_at "w") (by walk_at "w") cmp_eq) ((kd6b m 3).trans (by rw [h]; rfl))) (fun h => nomatch h) fun _ => ex_nil ?_)
      refine ex_cons (ex_if (t := false) (tst_eq (tst_cmp (by walk_at "w") (by walk_at "w") cmp_eq) ((kd6b m 4).trans (by rw [h]; rfl))) (fun h => nomatch h) fun _ => ex_nil ?_)
      refine ex_cons (ex_if (t := true) (tst_eq (tst_cmp (by walk_at "w") (by walk_at "w") cmp_eq) ((kd6b m 5).trans (by rw [h]; rfl))) (fun _ => ex_cons (ex_return (Ev.ret (by walk_at "ev")) ?_)) fun h => nomatch h)
      rfl
theorem kind_len (n : Int) : (S (kindP n).1).length ≤ 20 := by
  unfold kindP
  rcases kd6_lt n with h | h | h | h | h | h <;> rw [h]
  · show (S "int").length ≤ 20; decide +kernel
  · show (S "int").length ≤ 20; decide +kernel
  · show (S "str").length ≤ 20; decide +kernel
  · show (S "NoneType").length ≤ 20; decide +kernel
  · show (S "bool").length ≤ 20; decide +kernel
  · show (S "list").length ≤ 20; decide +kernel
def toldD : Told → D
  | .words w => .str w
  | .diff d => .int d
set_option maxHeartbeats 1000000 in
theorem told_spec {B : Bas} (fr : Free B) {n : Nat} {a : Addr} (F : HasDef B "_law_told" a (defAt pw 17)) {ks js : List (String × Int × Int)} (hk1 : ∀ k ∈ ks, (S k.1).length ≤ 20) (hk2 : ∀ k ∈ js, (S k.1).length ≤ 20) (hl1 : ks.length ≤ 100) (hl2 : js.length ≤ 100) : FnS B (n + 1) a [.list (ks.map kD), .list (js.map kD)] (toldD (told ks js)) := by
  refine fns_of (xs := ["a", "b"]) F.fn rfl (fun pm cd doc vs hvs => ?_) rfl (by decide) (by decide +kernel) fun env fe => ?_
  · match vs, hvs with
    | [v, w], _ => rfl
  · show Ex B n env [("a", .val (.list (ks.map kD))), ("b", .val (.list (js.map kD)))] _ _
    refine ex_cons (ex_forZ (ds := ks.map kD) (es := js.map kD) fr (by walk_at "gk") fe.func (by walk_at "ev") (by walk_at "ev") (fun i υ => SubL [("a", .val (.list (ks.map kD))), ("b", .val (.list (js.map kD)))] υ ∧ told (ks.drop i) (js.drop i) = told ks js) ⟨⟨rfl, rfl, trivial⟩, rfl⟩ ?_ ?_)
    · rintro i d e σ' hd he ⟨hs, ht⟩
      rw [List.getElem?_map] at hd he
      obtain ⟨x, hx, rfl⟩ := Option.map_eq_some_iff.mp hd
      obtain ⟨y, hy, rfl⟩ := Option.map_eq_some_iff.mp he
      obtain ⟨hxl, hx'⟩ := List.getElem?_eq_some_iff.mp hx
      obtain ⟨hyl, hy'⟩ := List.getElem?_eq_some_iff.mp hy
      rw [List.drop_eq_getElem_cons hxl, List.drop_eq_getElem_cons hyl, hx', hy', told] at ht
      have lx := hk1 x (hx' ▸ List.getElem_mem hxl)
      have ly := hk2 y (hy' ▸ List.getElem_mem hyl)
      obtain ⟨x1, x2, x3⟩ := x
      obtain ⟨y1, y2, y3⟩ := y
      refine ⟨_, asg_sub hs (asg_tuple (ds := [kD (x1, x2, x3), kD (y1, y2, y3)]) (asgs_cons (asg_name (by walk_at "st")) (asgs_cons (asg_name (by walk_at "st")) asgs_nil))), ?_⟩
      have it : ∀ {e : Expr} {p : Pos} {z : String × Int × Int} (k : Nat) (d : D) {σ : Sto} {pn pk : Pos} {nm : String} {j : Nat}, σ.get nm = some (.val (kD z)) → nm ≠ "__debug__" → nm ≠ "__classdict__" → [D.str (S z.1), D.int z.2.1, D.int z.2.2][k]? = some d → k < 3 → Ev B n env σ (.Subscript (.Name (S nm) pn) (.Constant (.int k) j pk) p) d := fun {e p z} k d {σ pn pk nm j} hσ h1 h2 hd hk => ev_itemT (ds := [.str (S z.1), .int z.2.1, .int z.2.2]) (k := (k : Int)) (ev_name hσ h1 h2) (Ev.weak ev_int) (by simp only [List.length_cons, List.length_nil]; omega) (by simp only [List.length_cons, List.length_nil]; omega) (by simp) (by rw [place_nat]; exact hd)
      by_cases hc : x2 = y2
      · subst hc
        rw [if_neg (by simp)] at ht
        refine ex_cons (ex_if (t := false) (tst_eq (tst_cmp (Ev.weak (it (e := .Constant .none 0 default) (z := (x1, x2, x3)) 1 _ rfl (by decide) (by decide) rfl (by decide))) (Ev.weak (it (e := .Constant .none 0 default) (z := (y1, x2, y3)) 1 _ rfl (by decide) (by decide) rfl (by decide))) cmp_ne) (by simp)) (fun h => nomatch h) fun _ => ex_nil ?_)
        by_cases hn : x3 = y3
        · subst hn
          rw [if_neg (by simp)] at ht
          refine ex_cons (ex_if (t := false) (tst_eq (tst_cmp (Ev.weak (it (e := .Constant .none 0 default) (z := (x1, x2, x3)) 2 _ rfl (by decide) (by decide) rfl (by decide))) (Ev.weak (it (e := .Constant .none 0 default) (z := (y1, x2, x3)) 2 _ rfl (by decide) (by decide) rfl (by decide))) cmp_ne) (by simp)) (fun h => nomatch h) fun _ => ex_nil (ex_nil ?_))
          exact ⟨⟨rfl, rfl, trivial⟩, ht⟩
        · rw [if_pos hn] at ht
          refine ex_cons (ex_if (t := true) (tst_eq (tst_cmp (Ev.weak (it (e := .Constant .none 0 default) (z := (x1, x2, x3)) 2 _ rfl (by decide) (by decide) rfl (by decide))) (Ev.weak (it (e := .Constant .none 0 default) (z := (y1, x2, y3)) 2 _ rfl (by decide) (by decide) rfl (by decide))) cmp_ne) (by simpa using hn)) (fun _ => ex_cons (ex_return (Ev.ret (ev_bin (Ev.weak (it (e := .Constant .none 0 default) (z := (x1, x2, x3)) 2 _ rfl (by decide) (by decide) rfl (by decide))) (Ev.weak (it (e := .Constant .none 0 default) (z := (y1, x2, y3)) 2 _ rfl (by decide) (by decide) rfl (by decide))) bin_sub)) ?_)) fun h => nomatch h)
          rw [← ht]; rfl
      · rw [if_pos hc] at ht
        refine ex_cons (ex_if (t := true) (tst_eq (tst_cmp (Ev.weak (it (e := .Constant .none 0 default) (z := (x1, x2, x3)) 1 _ rfl (by decide) (by decide) rfl (by decide))) (Ev.weak (it (e := .Constant .none 0 default) (z := (y1, y2, y3)) 1 _ rfl (by decide) (by decide) rfl (by decide))) cmp_ne) (by simpa using hc)) (fun _ => ex_cons (ex_return (Ev.ret (ev_bin (Ev.weak (ev_bin (Ev.weak (ev_bin (Ev.weak (ev_bin (Ev.weak ev_str) (Ev.weak (it (e := .Constant .none 0 default) (z := (x1, x2, x3)) 0 _ rfl (by decide) (by decide) rfl (by decide))) (bin_addS ?_))) (Ev.weak ev_str) (bin_addS ?_))) (Ev.weak (it (e := .Constant .none 0 default) (z := (y1, y2, y3)) 0 _ rfl (by decide) (by decide) rfl (by decide))) (bin_addS ?_))) (Ev.weak ev_str) (bin_addS ?_))) ?_)) fun h => nomatch h)
        · have : (Str.ofString " not supported between instances of '").length = 37 := by decide +kernel
          omega
        · have : (Str.ofString " not supported between instances of '").length = 37 := by decide +kernel
          have : (Str.ofString "' and '").length = 7 := by decide +kernel
          rw [strLen]; omega
        · have : (Str.ofString " not supported between instances of '").length = 37 := by decide +kernel
          have : (Str.ofString "' and '").length = 7 := by decide +kernel
          rw [strLen, strLen]; omega
        · have : (Str.ofString " not supported between instances of '").length = 37 := by decide +kernel
          have : (Str.ofString "' and '").length = 7 := by decide +kernel
          have : (Str.ofString "'").length = 1 := by decide +kernel
          rw [strLen, strLen, strLen]; omega
        · rw [← ht]; rfl
    · rintro υ ⟨hυ, ht⟩
      refine ex_sub hυ ?_
      rw [List.length_map, List.length_map] at ht
      refine ex_cons (ex_return (Ev.ret (ev_bin (Ev.weak (ev_len fr (by walk_at "gk") (by walk_at "w") (by simp; omega))) (Ev.weak (ev_len fr (by walk_at "gk") (by walk_at "w") (by simp; omega))) bin_sub)) ?_)
      rw [← ht]
      have e : told (ks.drop (min ks.length js.length)) (js.drop (min ks.length js.length)) = .diff ((ks.length : Int) - js.length) := by
        rcases Nat.le_total ks.length js.length with h | h
        · rw [Nat.min_eq_left h, List.drop_length, told]
          · congr 1; simp; omega
          · simp
        · rw [Nat.min_eq_right h, List.drop_length]
          cases hks : ks.drop js.length with
          | nil => rw [told]; have := congrArg List.length hks; simp at this; congr 1; simp; omega; simp
          | cons z zs => rw [told]; have := congrArg List.length hks; simp at this; congr 1; simp; omega; simp
      rw [e]
      show D.int _ = D.int _
      simp
theorem len_lt (xs ys : List Int) : decide ((xs.map thingP).length < (ys.map thingP).length) = opI .Lt (xs.length : Int) (ys.length : Int) := by
  simp only [opI, List.length_map]; rw [Bool.eq_iff_iff]; simp
theorem loopL_lt (xs ys : List Int) : loopOut (poT .Lt) (decide ((xs.map thingP).length < (ys.map thingP).length)) (xs.map thingP) (ys.map thingP) = outOf .Lt (told (xs.map kindP) (ys.map kindP)) := by
  rw [len_lt, loop_told xs ys _ _ rfl]
theorem len_le (xs ys : List Int) : decide ((xs.map thingP).length ≤ (ys.map thingP).length) = opI .LtE (xs.length : Int) (ys.length : Int) := by
  simp only [opI, List.length_map]; rw [Bool.eq_iff_iff]; simp
theorem loopL_le (xs ys : List Int) : loopOut (poT .LtE) (decide ((xs.map thingP).length ≤ (ys.map thingP).length)) (xs.map thingP) (ys.map thingP) = outOf .LtE (told (xs.map kindP) (ys.map kindP)) := by
  rw [len_le, loop_told xs ys _ _ rfl]
theorem len_gt (xs ys : List Int) : decide ((xs.map thingP).length > (ys.map thingP).length) = opI .Gt (xs.length : Int) (ys.length : Int) := by
  simp only [opI, List.length_map]; rw [Bool.eq_iff_iff]; simp
theorem loopL_gt (xs ys : List Int) : loopOut (poT .Gt) (decide ((xs.map thingP).length > (ys.map thingP).length)) (xs.map thingP) (ys.map thingP) = outOf .Gt (told (xs.map kindP) (ys.map kindP)) := by
  rw [len_gt, loop_told xs ys _ _ rfl]
theorem len_ge (xs ys : List Int) : decide ((xs.map thingP).length ≥ (ys.map thingP).length) = opI .GtE (xs.length : Int) (ys.length : Int) := by
  simp only [opI, List.length_map]; rw [Bool.eq_iff_iff]; simp
theorem loopL_ge (xs ys : List Int) : loopOut (poT .GtE) (decide ((xs.map thingP).length ≥ (ys.map thingP).length)) (xs.map thingP) (ys.map thingP) = outOf .GtE (told (xs.map kindP) (ys.map kindP)) := by
  rw [len_ge, loop_told xs ys _ _ rfl]
section
variable {B : Bas} (fr : Free B) {n : Nat} {a1 a2 a3 a4 a5 a6 a7 a8 a9 a10 a11 a12 : Addr} (F : Twelve B a1 a2 a3 a4 a5 a6 a7 a8 a9 a10 a11 a12) {xs ys : List Int}
include fr F
theorem m8_gt_lt {d : Int} (h : told (xs.map kindP) (ys.map kindP) = .diff d) : FnS B (n + 1) a1 [lD xs, lD ys] (.bool (opI .Gt d 0)) := by
  have x : Dun B n "__lt__" (lD xs) (lD ys) (.bool (opI .Lt d 0)) := dun_lT_lt (all_things xs) (all_things ys) (by rw [loopL_lt, h]; rfl)
  refine fns_eq (made_gt_lt fr F.f1 x (cmpT_ne xs ys h)) ?_
  show D.val (.bool _) = D.val (.bool _)
  congr 2
  simp only [opI]
  rw [Bool.eq_iff_iff]; simp <;> omega
theorem m8X_gt_lt {w : Str} (h : told (xs.map kindP) (ys.map kindP) = .words w) : FnX B (n + 1) a1 [lD xs, lD ys] (quoteS .Lt ++ w) := by
  have x : DunX B n "__lt__" (lD xs) (lD ys) (quoteS .Lt ++ w) := dunX_lT_lt (all_things xs) (all_things ys) (by rw [loopL_lt, h]; rfl)
  refine fnsX_of (xs := ["self", "other"]) F.f1.fn rfl (fun pm cd doc vs hvs => ?_) rfl (by decide) (by decide +kernel) fun env fe => ?_
  · match vs, hvs with
    | [v, w], _ => rfl
  · exact exX_assign (ev_dunX fr (by walk_at "gk") rfl rfl x) (by rfl)
theorem m8_le_lt {d : Int} (h : told (xs.map kindP) (ys.map kindP) = .diff d) : FnS B (n + 1) a2 [lD xs, lD ys] (.bool (opI .LtE d 0)) := by
  have x : Dun B n "__lt__" (lD xs) (lD ys) (.bool (opI .Lt d 0)) := dun_lT_lt (all_things xs) (all_things ys) (by rw [loopL_lt, h]; rfl)
  refine fns_eq (made_le_lt fr F.f2 x (cmpT_eq xs ys h)) ?_
  show D.val (.bool _) = D.val (.bool _)
  congr 2
  simp only [opI]
  rw [Bool.eq_iff_iff]; simp <;> omega
theorem m8X_le_lt {w : Str} (h : told (xs.map kindP) (ys.map kindP) = .words w) : FnX B (n + 1) a2 [lD xs, lD ys] (quoteS .Lt ++ w) := by
  have x : DunX B n "__lt__" (lD xs) (lD ys) (quoteS .Lt ++ w) := dunX_lT_lt (all_things xs) (all_things ys) (by rw [loopL_lt, h]; rfl)
  refine fnsX_of (xs := ["self", "other"]) F.f2.fn rfl (fun pm cd doc vs hvs => ?_) rfl (by decide) (by decide +kernel) fun env fe => ?_
  · match vs, hvs with
    | [v, w], _ => rfl
  · exact exX_assign (ev_dunX fr (by walk_at "gk") rfl rfl x) (by rfl)
theorem m8_ge_lt {d : Int} (h : told (xs.map kindP) (ys.map kindP) = .diff d) : FnS B (n + 1) a3 [lD xs, lD ys] (.bool (opI .GtE d 0)) := by
  have x : Dun B n "__lt__" (lD xs) (lD ys) (.bool (opI .Lt d 0)) := dun_lT_lt (all_things xs) (all_things ys) (by rw [loopL_lt, h]; rfl)
  refine fns_eq (made_ge_lt fr F.f3 x) ?_
  show D.val (.bool _) = D.val (.bool _)
  congr 2
  simp only [opI]
  rw [Bool.eq_iff_iff]; simp <;> omega
theorem m8X_ge_lt {w : Str} (h : told (xs.map kindP) (ys.map kindP) = .words w) : FnX B (n + 1) a3 [lD xs, lD ys] (quoteS .Lt ++ w) := by
  have x : DunX B n "__lt__" (lD xs) (lD ys) (quoteS .Lt ++ w) := dunX_lT_lt (all_things xs) (all_things ys) (by rw [loopL_lt, h]; rfl)
  refine fnsX_of (xs := ["self", "other"]) F.f3.fn rfl (fun pm cd doc vs hvs => ?_) rfl (by decide) (by decide +kernel) fun env fe => ?_
  · match vs, hvs with
    | [v, w], _ => rfl
  · exact exX_assign (ev_dunX fr (by walk_at "gk") rfl rfl x) (by rfl)
theorem m8_ge_le {d : Int} (h : told (xs.map kindP) (ys.map kindP) = .diff d) : FnS B (n + 1) a4 [lD xs, lD ys] (.bool (opI .GtE d 0)) := by
  have x : Dun B n "__le__" (lD xs) (lD ys) (.bool (opI .LtE d 0)) := dun_lT_le (all_things xs) (all_things ys) (by rw [loopL_le, h]; rfl)
  refine fns_eq (made_ge_le fr F.f4 x (cmpT_eq xs ys h)) ?_
  show D.val (.bool _) = D.val (.bool _)
  congr 2
  simp only [opI]
  rw [Bool.eq_iff_iff]; simp <;> omega
theorem m8X_ge_le {w : Str} (h : told (xs.map kindP) (ys.map kindP) = .words w) : FnX B (n + 1) a4 [lD xs, lD ys] (quoteS .LtE ++ w) := by
  have x : DunX B n "__le__" (lD xs) (lD ys) (quoteS .LtE ++ w) := dunX_lT_le (all_things xs) (all_things ys) (by rw [loopL_le, h]; rfl)
  refine fnsX_of (xs := ["self", "other"]) F.f4.fn rfl (fun pm cd doc vs hvs => ?_) rfl (by decide) (by decide +kernel) fun env fe => ?_
  · match vs, hvs with
    | [v, w], _ => rfl
  · exact exX_assign (ev_dunX fr (by walk_at "gk") rfl rfl x) (by rfl)
theorem m8_lt_le {d : Int} (h : told (xs.map kindP) (ys.map kindP) = .diff d) : FnS B (n + 1) a5 [lD xs, lD ys] (.bool (opI .Lt d 0)) := by
  have x : Dun B n "__le__" (lD xs) (lD ys) (.bool (opI .LtE d 0)) := dun_lT_le (all_things xs) (all_things ys) (by rw [loopL_le, h]; rfl)
  refine fns_eq (made_lt_le fr F.f5 x (cmpT_ne xs ys h)) ?_
  show D.val (.bool _) = D.val (.bool _)
  congr 2
  simp only [opI]
  rw [Bool.eq_iff_iff]; simp <;> omega
theorem m8X_lt_le {w : Str} (h : told (xs.map kindP) (ys.map kindP) = .words w) : FnX B (n + 1) a5 [lD xs, lD ys] (quoteS .LtE ++ w) := by
  have x : DunX B n "__le__" (lD xs) (lD ys) (quoteS .LtE ++ w) := dunX_lT_le (all_things xs) (all_things ys) (by rw [loopL_le, h]; rfl)
  refine fnsX_of (xs := ["self", "other"]) F.f5.fn rfl (fun pm cd doc vs hvs => ?_) rfl (by decide) (by decide +kernel) fun env fe => ?_
  · match vs, hvs with
    | [v, w], _ => rfl
  · exact exX_assign (ev_dunX fr (by walk_at "gk") rfl rfl x) (by rfl)
theorem m8_gt_le {d : Int} (h : told (xs.map kindP) (ys.map kindP) = .diff d) : FnS B (n + 1) a6 [lD xs, lD ys] (.bool (opI .Gt d 0)) := by
  have x : Dun B n "__le__" (lD xs) (lD ys) (.bool (opI .LtE d 0)) := dun_lT_le (all_things xs) (all_things ys) (by rw [loopL_le, h]; rfl)
  refine fns_eq (made_gt_le fr F.f6 x) ?_
  show D.val (.bool _) = D.val (.bool _)
  congr 2
  simp only [opI]
  rw [Bool.eq_iff_iff]; simp <;> omega
theorem m8X_gt_le {w : Str} (h : told (xs.map kindP) (ys.map kindP) = .words w) : FnX B (n + 1) a6 [lD xs, lD ys] (quoteS .LtE ++ w) := by
  have x : DunX B n "__le__" (lD xs) (lD ys) (quoteS .LtE ++ w) := dunX_lT_le (all_things xs) (all_things ys) (by rw [loopL_le, h]; rfl)
  refine fnsX_of (xs := ["self", "other"]) F.f6.fn rfl (fun pm cd doc vs hvs => ?_) rfl (by decide) (by decide +kernel) fun env fe => ?_
  · match vs, hvs with
    | [v, w], _ => rfl
  · exact exX_assign (ev_dunX fr (by walk_at "gk") rfl rfl x) (by rfl)
theorem m8_lt_gt {d : Int} (h : told (xs.map kindP) (ys.map kindP) = .diff d) : FnS B (n + 1) a7 [lD xs, lD ys] (.bool (opI .Lt d 0)) := by
  have x : Dun B n "__gt__" (lD xs) (lD ys) (.bool (opI .Gt d 0)) := dun_lT_gt (all_things xs) (all_things ys) (by rw [loopL_gt, h]; rfl)
  refine fns_eq (made_lt_gt fr F.f7 x (cmpT_ne xs ys h)) ?_
  show D.val (.bool _) = D.val (.bool _)
  congr 2
  simp only [opI]
  rw [Bool.eq_iff_iff]; simp <;> omega
theorem m8X_lt_gt {w : Str} (h : told (xs.map kindP) (ys.map kindP) = .words w) : FnX B (n + 1) a7 [lD xs, lD ys] (quoteS .Gt ++ w) := by
  have x : DunX B n "__gt__" (lD xs) (lD ys) (quoteS .Gt ++ w) := dunX_lT_gt (all_things xs) (all_things ys) (by rw [loopL_gt, h]; rfl)
  refine fnsX_of (xs := ["self", "other"]) F.f7.fn rfl (fun pm cd doc vs hvs => ?_) rfl (by decide) (by decide +kernel) fun env fe => ?_
  · match vs, hvs with
    | [v, w], _ => rfl
  · exact exX_assign (ev_dunX fr (by walk_at "gk") rfl rfl x) (by rfl)
theorem m8_ge_gt {d : Int} (h : told (xs.map kindP) (ys.map kindP) = .diff d) : FnS B (n + 1) a8 [lD xs, lD ys] (.bool (opI .GtE d 0)) := by
  have x : Dun B n "__gt__" (lD xs) (lD ys) (.bool (opI .Gt d 0)) := dun_lT_gt (all_things xs) (all_things ys) (by rw [loopL_gt, h]; rfl)
  refine fns_eq (made_ge_gt fr F.f8 x (cmpT_eq xs ys h)) ?_
  show D.val (.bool _) = D.val (.bool _)
  congr 2
  simp only [opI]
  rw [Bool.eq_iff_iff]; simp <;> omega
theorem m8X_ge_gt {w : Str} (h : told (xs.map kindP) (ys.map kindP) = .words w) : FnX B (n + 1) a8 [lD xs, lD ys] (quoteS .Gt ++ w) := by
  have x : DunX B n "__gt__" (lD xs) (lD ys) (quoteS .Gt ++ w) := dunX_lT_gt (all_things xs) (all_things ys) (by rw [loopL_gt, h]; rfl)
  refine fnsX_of (xs := ["self", "other"]) F.f8.fn rfl (fun pm cd doc vs hvs => ?_) rfl (by decide) (by decide +kernel) fun env fe => ?_
  · match vs, hvs with
    | [v, w], _ => rfl
  · exact exX_assign (ev_dunX fr (by walk_at "gk") rfl rfl x) (by rfl)
theorem m8_le_gt {d : Int} (h : told (xs.map kindP) (ys.map kindP) = .diff d) : FnS B (n + 1) a9 [lD xs, lD ys] (.bool (opI .LtE d 0)) := by
  have x : Dun B n "__gt__" (lD xs) (lD ys) (.bool (opI .Gt d 0)) := dun_lT_gt (all_things xs) (all_things ys) (by rw [loopL_gt, h]; rfl)
  refine fns_eq (made_le_gt fr F.f9 x) ?_
  show D.val (.bool _) = D.val (.bool _)
  congr 2
  simp only [opI]
  rw [Bool.eq_iff_iff]; simp <;> omega
theorem m8X_le_gt {w : Str} (h : told (xs.map kindP) (ys.map kindP) = .words w) : FnX B (n + 1) a9 [lD xs, lD ys] (quoteS .Gt ++ w) := by
  have x : DunX B n "__gt__" (lD xs) (lD ys) (quoteS .Gt ++ w) := dunX_lT_gt (all_things xs) (all_things ys) (by rw [loopL_gt, h]; rfl)
  refine fnsX_of (xs := ["self", "other"]) F.f9.fn rfl (fun pm cd doc vs hvs => ?_) rfl (by decide) (by decide +kernel) fun env fe => ?_
  · match vs, hvs with
    | [v, w], _ => rfl
  · exact exX_assign (ev_dunX fr (by walk_at "gk") rfl rfl x) (by rfl)
theorem m8_le_ge {d : Int} (h : told (xs.map kindP) (ys.map kindP) = .diff d) : FnS B (n + 1) a10 [lD xs, lD ys] (.bool (opI .LtE d 0)) := by
  have x : Dun B n "__ge__" (lD xs) (lD ys) (.bool (opI .GtE d 0)) := dun_lT_ge (all_things xs) (all_things ys) (by rw [loopL_ge, h]; rfl)
  refine fns_eq (made_le_ge fr F.f10 x (cmpT_eq xs ys h)) ?_
  show D.val (.bool _) = D.val (.bool _)
  congr 2
  simp only [opI]
  rw [Bool.eq_iff_iff]; simp <;> omega
theorem m8X_le_ge {w : Str} (h : told (xs.map kindP) (ys.map kindP) = .words w) : FnX B (n + 1) a10 [lD xs, lD ys] (quoteS .GtE ++ w) := by
  have x : DunX B n "__ge__" (lD xs) (lD ys) (quoteS .GtE ++ w) := dunX_lT_ge (all_things xs) (all_things ys) (by rw [loopL_ge, h]; rfl)
  refine fnsX_of (xs := ["self", "other"]) F.f10.fn rfl (fun pm cd doc vs hvs => ?_) rfl (by decide) (by decide +kernel) fun env fe => ?_
  · match vs, hvs with
    | [v, w], _ => rfl
  · exact exX_assign (ev_dunX fr (by walk_at "gk") rfl rfl x) (by rfl)
theorem m8_gt_ge {d : Int} (h : told (xs.map kindP) (ys.map kindP) = .diff d) : FnS B (n + 1) a11 [lD xs, lD ys] (.bool (opI .Gt d 0)) := by
  have x : Dun B n "__ge__" (lD xs) (lD ys) (.bool (opI .GtE d 0)) := dun_lT_ge (all_things xs) (all_things ys) (by rw [loopL_ge, h]; rfl)
  refine fns_eq (made_gt_ge fr F.f11 x (cmpT_ne xs ys h)) ?_
  show D.val (.bool _) = D.val (.bool _)
  congr 2
  simp only [opI]
  rw [Bool.eq_iff_iff]; simp <;> omega
theorem m8X_gt_ge {w : Str} (h : told (xs.map kindP) (ys.map kindP) = .words w) : FnX B (n + 1) a11 [lD xs, lD ys] (quoteS .GtE ++ w) := by
  have x : DunX B n "__ge__" (lD xs) (lD ys) (quoteS .GtE ++ w) := dunX_lT_ge (all_things xs) (all_things ys) (by rw [loopL_ge, h]; rfl)
  refine fnsX_of (xs := ["self", "other"]) F.f11.fn rfl (fun pm cd doc vs hvs => ?_) rfl (by decide) (by decide +kernel) fun env fe => ?_
  · match vs, hvs with
    | [v, w], _ => rfl
  · exact exX_assign (ev_dunX fr (by walk_at "gk") rfl rfl x) (by rfl)
theorem m8_lt_ge {d : Int} (h : told (xs.map kindP) (ys.map kindP) = .diff d) : FnS B (n + 1) a12 [lD xs, lD ys] (.bool (opI .Lt d 0)) := by
  have x : Dun B n "__ge__" (lD xs) (lD ys) (.bool (opI .GtE d 0)) := dun_lT_ge (all_things xs) (all_things ys) (by rw [loopL_ge, h]; rfl)
  refine fns_eq (made_lt_ge fr F.f12 x) ?_
  show D.val (.bool _) = D.val (.bool _)
  congr 2
  simp only [opI]
  rw [Bool.eq_iff_iff]; simp <;> omega
theorem m8X_lt_ge {w : Str} (h : told (xs.map kindP) (ys.map kindP) = .words w) : FnX B (n + 1) a12 [lD xs, lD ys] (quoteS .GtE ++ w) := by
  have x : DunX B n "__ge__" (lD xs) (lD ys) (quoteS .GtE ++ w) := dunX_lT_ge (all_things xs) (all_things ys) (by rw [loopL_ge, h]; rfl)
  refine fnsX_of (xs := ["self", "other"]) F.f12.fn rfl (fun pm cd doc vs hvs => ?_) rfl (by decide) (by decide +kernel) fun env fe => ?_
  · match vs, hvs with
    | [v, w], _ => rfl
  · exact exX_assign (ev_dunX fr (by walk_at "gk") rfl rfl x) (by rfl)
end
def mades (a1 a2 a3 a4 a5 a6 a7 a8 a9 a10 a11 a12 : Addr) : List (CmpOp × CmpOp × Addr) := [(.Lt, .Gt, a1), (.Lt, .LtE, a2), (.Lt, .GtE, a3), (.LtE, .Lt, a5), (.LtE, .Gt, a6), (.LtE, .GtE, a4), (.Gt, .Lt, a7), (.Gt, .LtE, a9), (.Gt, .GtE, a8), (.GtE, .Lt, a12), (.GtE, .LtE, a10), (.GtE, .Gt, a11)]
theorem all8 {B : Bas} (fr : Free B) {n : Nat} {a1 a2 a3 a4 a5 a6 a7 a8 a9 a10 a11 a12 : Addr} (F : Twelve B a1 a2 a3 a4 a5 a6 a7 a8 a9 a10 a11 a12) (xs ys : List Int) : ∀ z ∈ mades a1 a2 a3 a4 a5 a6 a7 a8 a9 a10 a11 a12, (∀ d, told (xs.map kindP) (ys.map kindP) = .diff d → FnS B (n + 1) z.2.2 [lD xs, lD ys] (.bool (opI z.2.1 d 0))) ∧ (∀ w, told (xs.map kindP) (ys.map kindP) = .words w → FnX B (n + 1) z.2.2 [lD xs, lD ys] (quoteS z.1 ++ w)) := by
  intro z hz
  simp only [mades, List.mem_cons, List.not_mem_nil, or_false] at hz
  rcases hz with rfl | rfl | rfl | rfl | rfl | rfl | rfl | rfl | rfl | rfl | rfl | rfl
  · exact ⟨fun d h => m8_gt_lt fr F h, fun w h => m8X_gt_lt fr F h⟩
  · exact ⟨fun d h => m8_le_lt fr F h, fun w h => m8X_le_lt fr F h⟩
  · exact ⟨fun d h => m8_ge_lt fr F h, fun w h => m8X_ge_lt fr F h⟩
  · exact ⟨fun d h => m8_lt_le fr F h, fun w h => m8X_lt_le fr F h⟩
  · exact ⟨fun d h => m8_gt_le fr F h, fun w h => m8X_gt_le fr F h⟩
  · exact ⟨fun d h => m8_ge_le fr F h, fun w h => m8X_ge_le fr F h⟩
  · exact ⟨fun d h => m8_lt_gt fr F h, fun w h => m8X_lt_gt fr F h⟩
  · exact ⟨fun d h => m8_le_gt fr F h, fun w h => m8X_le_gt fr F h⟩
  · exact ⟨fun d h => m8_ge_gt fr F h, fun w h => m8X_ge_gt fr F h⟩
  · exact ⟨fun d h => m8_lt_ge fr F h, fun w h => m8X_lt_ge fr F h⟩
  · exact ⟨fun d h => m8_le_ge fr F h, fun w h => m8X_le_ge fr F h⟩
  · exact ⟨fun d h => m8_gt_ge fr F h, fun w h => m8X_gt_ge fr F h⟩

theorem exA_freeze {B : Bas} {n : Nat} {A : Around} {env : Env} {σ : Sto} {R : Fl → Sto → Prop} {ss} {x : String} {ds : List D} {d : D} (hx : σ.get x = some (.own ds)) (he : D.list ds = d) (h : ExA B n A env (σ.put x (.val d)) ss R) : ExA B n A env σ ss R := by
  subst he
  intro h₀ P O s E b a T
  obtain ⟨a0, vs, hv, ho, hne, hp, r⟩ := T.vars x _ hx
  -- the list's address may change no more
  have hcell : ∀ y c, env.cells.lookup y = some c → a0 ≠ c := fun y c l => by obtain ⟨⟨v, e⟩, _⟩ := T.cells y c l; exact plain_ne_cell hp.isList e
  have T1 : St B h₀ P env (σ.put x (.val (.list ds))) (fun b => O b ∧ b ≠ a0) s.heap := by
    have sub : ∀ b, (P b ∨ (O b ∧ b ≠ a0)) → (P b ∨ O b) := fun b q => q.imp id And.left
    refine ⟨T.base, T.keep, T.plive, fun b q => T.live b q.1, fun b q => T.new b q.1, T.ok, ⟨T.loc, Ne.symm hne⟩, T.ns, fun y c l => ⟨(T.cells y c l).1, fun f => ⟨(T.cells y c l).2 f, Ne.symm (hcell y c l)⟩⟩, ?_, ?_⟩
    · intro y b' e
      rw [Sto.get_put] at e
      by_cases q : x = y
      · subst q; simp only [if_true] at e; cases e
        refine ⟨_, hv, .list hp.isList ?_ (r.sub sub)⟩
        rintro (q | q)
        · obtain ⟨⟨o, e⟩, _⟩ := T.plive _ q; rw [T.new _ ho] at e; cases e
        · exact q.2 rfl
      · rw [if_neg q] at e
        have := T.vars y b' e
        cases b' with
        | val d => obtain ⟨v, hv', r'⟩ := this; exact ⟨v, hv', r'.sub sub⟩
        | own es =>
          obtain ⟨a', vs', hv', h1, h2, h3, h4⟩ := this
          refine ⟨a', vs', hv', ⟨h1, fun e' => ?_⟩, h2, h3, h4.sub sub⟩
          subst e'; exact T.apart x y ds es _ q hx e hv hv'
    · intro y z ds' es' a' ne hy hz vy vz
      rw [Sto.get_put] at hy hz
      by_cases q : x = y
      · subst q; simp only [if_true] at hy; cases hy
      · by_cases q' : x = z
        · subst q'; simp only [if_true] at hz; cases hz
        · rw [if_neg q] at hy; rw [if_neg q'] at hz
          exact T.apart y z ds' es' a' ne hy hz vy vz
  refine wpAny_mono (h h₀ P _ s E b a T1) (fun f s' q => ?_) fun _ _ q => q
  obtain ⟨fl, σ', O', m, hf, hr, ho', T'⟩ := q
  refine ⟨fl, σ', O', ?_, hf, hr, fun b hb => (ho' b hb).imp And.left id, T'⟩
  obtain ⟨h', tk, e, k⟩ := m
  exact ⟨h', tk, e, fun b o nb => k b o fun q => nb q.1⟩
theorem ofAll_map : ∀ xs : List PyData, D.ofAll xs = xs.map D.of
  | [] => rfl
  | x :: xs => by rw [D.ofAll, ofAll_map xs]; rfl
theorem told_len : ∀ (ks js : List (String × Int × Int)) (w : Str), (∀ k ∈ ks, (S k.1).length ≤ 20) → (∀ k ∈ js, (S k.1).length ≤ 20) → told ks js = .words w → w.length ≤ 100
  | [], js, w, _, _, h => by simp [told] at h
  | x :: xs, [], w, _, _, h => by simp [told] at h
  | x :: xs, y :: ys, w, h1, h2, h => by
    rw [told] at h
    split at h
    · injection h with h
      subst h
      have lx := h1 x (by simp)
      have ly := h2 y (by simp)
      have : (S " not supported between instances of '").length = 37 := by decide +kernel
      have : (S "' and '").length = 7 := by decide +kernel
      have : (S "'").length = 1 := by decide +kernel
      unfold sayW
      rw [strLen, strLen, strLen, strLen]; omega
    · split at h
      · cases h
      · exact told_len xs ys w (fun k hk => h1 k (by simp [hk])) (fun k hk => h2 k (by simp [hk])) h
def rowD (z : CmpOp × CmpOp × Addr) : D := .tuple [.str (S (symT z.1)), .str (S (symT z.2.1)), .val (.ref z.2.2)]
def saysV (d : Int) : List (Str × Value) := [(S "<", .bool (decide (d < 0))), (S "<=", .bool (decide (d ≤ 0))), (S ">", .bool (decide (0 < d))), (S ">=", .bool (decide (0 ≤ d)))]
theorem says_at (d : Int) : ∀ op : CmpOp, op = .Lt ∨ op = .LtE ∨ op = .Gt ∨ op = .GtE → valueAt (saysV d) (S (symT op)) = some (.bool (opI op d 0)) := by
  have a1 : (S "<" == S "<=") = false := by decide +kernel
  rintro op (rfl | rfl | rfl | rfl)
  · rfl
  · rfl
  · rfl
  · rfl
theorem mades_op {a1 a2 a3 a4 a5 a6 a7 a8 a9 a10 a11 a12 : Addr} : ∀ z ∈ mades a1 a2 a3 a4 a5 a6 a7 a8 a9 a10 a11 a12, (z.2.1 = .Lt ∨ z.2.1 = .LtE ∨ z.2.1 = .Gt ∨ z.2.1 = .GtE) ∧ (S (symT z.1)).length ≤ 2 := by
  have hs : ∀ op, (S (symT op)).length ≤ 2 := fun op => by cases op <;> decide +kernel
  intro z hz
  simp only [mades, List.mem_cons, List.not_mem_nil, or_false] at hz
  rcases hz with rfl | rfl | rfl | rfl | rfl | rfl | rfl | rfl | rfl | rfl | rfl | rfl <;> refine ⟨?_, hs _⟩ <;> first | exact .inl rfl | exact .inr (.inl rfl) | exact .inr (.inr (.inl rfl)) | exact .inr (.inr (.inr rfl))
def numI (nb : List Int) (k : Int) : Int := nb.getD (place k nb.length) 0
def headI (c : Nat) : List Int := (List.range (c % 3)).map fun (k : Nat) => (k : Int)
theorem headI_D (c : Nat) : rngD 0 ((c : Int).fmod 3) = D.ofInts (headI c) := by
  have e : (c : Int).fmod 3 = ((c % 3 : Nat) : Int) := by
    rw [Int.fmod_eq_emod_of_nonneg _ (by decide)]; omega
  rw [e, rngD0]
  unfold headI D.ofInts
  rw [List.map_map]
  refine List.map_congr_left fun k _ => ?_
  show D.int ((0 : Int) + (k : Int)) = D.int (k : Int)
  rw [Int.zero_add]
theorem headI_len (c : Nat) : (headI c).length ≤ 2 := by unfold headI; simp; omega
theorem headI_in (c : Nat) (m : Nat) (hm : 3 ≤ m) : ∀ k ∈ headI c, -(m : Int) ≤ k ∧ k < m := by
  intro k hk
  obtain ⟨j, hj, rfl⟩ := List.mem_map.mp hk
  have := List.mem_range.mp hj
  omega
def lr (c : Nat) : List (List Int × List Int) := [(headI c ++ [(c : Int)], headI c ++ [(c : Int) - 1]), (headI c ++ [(c : Int)], headI c ++ [(c : Int), (c : Int) - 1]), (headI c ++ [(c : Int), (c : Int) - 1], headI c ++ [(c : Int), (c : Int) - 1])]
def lrD (z : List Int × List Int) : D := .tuple [.list (D.ofInts z.1), .list (D.ofInts z.2)]
theorem lr_in (c m : Nat) (hm : 3 ≤ m) (hc : c < m) : ∀ z ∈ lr c, (∀ k ∈ z.1, -(m : Int) ≤ k ∧ k < m) ∧ (∀ k ∈ z.2, -(m : Int) ≤ k ∧ k < m) ∧ z.1.length ≤ 4 ∧ z.2.length ≤ 4 := by
  have hh := headI_in c m hm
  have hl := headI_len c
  have ap : ∀ (l : List Int), (∀ k ∈ l, -(m : Int) ≤ k ∧ k < m) → ∀ k ∈ headI c ++ l, -(m : Int) ≤ k ∧ k < m := fun l h k hk => by
    rcases List.mem_append.mp hk with q | q
    · exact hh k q
    · exact h k q
  intro z hz
  simp only [lr, List.mem_cons, List.not_mem_nil, or_false] at hz
  rcases hz with rfl | rfl | rfl <;> refine ⟨ap _ ?_, ap _ ?_, by simp; omega, by simp; omega⟩ <;> simp <;> omega
theorem place_lt {k : Int} {m : Nat} (h : -(m : Int) ≤ k ∧ k < m) : place k m < m := by unfold place; split <;> omega
theorem get_map {α : Type} (nb : List Int) (f : Int → α) {j : Nat} (hj : j < nb.length) : (nb.map f)[j]? = some (f (nb.getD j 0)) := by
  rw [List.getElem?_map, List.getElem?_eq_getElem hj, List.getD_eq_getElem?_getD, List.getElem?_eq_getElem hj]; rfl

set_option maxHeartbeats 4000000 in
theorem law_spec {B : Bas} (fr : Free B) {n : Nat} {A : Around} (hA : A.frames = some []) {a1 a2 a3 a4 a5 a6 a7 a8 a9 a10 a11 a12 ah at' ak ad a : Addr} (F : Twelve B a1 a2 a3 a4 a5 a6 a7 a8 a9 a10 a11 a12) (Fh : HasDef B "_law_heaps" ah (defAt pw 14)) (Ft : HasDef B "_law_thing" at' (defAt pw 15)) (Fk : HasDef B "_law_kind" ak (defAt pw 16)) (Fd : HasDef B "_law_told" ad (defAt pw 17)) (FF : FnAt B a (defAt pw 18).name (defAt pw 18).params (defAt pw 18).body (defAt pw 18).scope) {l : List Int} (hl : l.length ≤ 63)
    (P : Addr → Prop) (s : Shared) (E : Value → Shared → Prop) (Q : Value → Shared → Prop) (vs : List Value) (bo : B.Ok) (ao : AOk (n + 3) A) (hh : B.Here s.heap) (hP : ∀ x, P x → (∃ o, s.heap.get? x = some o) ∧ B.hB.get? x = none) (r : RpAll s.heap P vs [.list (D.ofInts l)])
    (q : ∀ v s', Keeps s s' → Rp s'.heap P v (.bool true) → Q v s') : wpAny (model B.prog B.w) A (call (.ref a) vs) Q E s := by
  refine fnsA_of (n := n + 2) (xs := ["script"]) FF rfl (fun pm cd doc vs hvs => ?_) rfl (by decide) (by decide +kernel) hA (fun env fe hf hfr => ?_) rfl rfl P s E Q vs bo ao hh hP r q
  · match vs, hvs with
    | [v], _ => rfl
  · show ExA B (n + 2) _ env [("script", .val (.list (D.ofInts l)))] _ _
    generalize A.deeper env = A' at hfr ⊢
    generalize hnb : heapsI 3 l ++ [12, 8, 3, 10, 6, 11] = nb
    have hlen : nb.length ≤ 10 ∧ 6 ≤ nb.length := by rw [← hnb]; simp [heapsI_length]; omega
    have hln : (D.ofInts nb).length = nb.length := ofInts_length nb
    refine exA_cons (Ex1.toA (ex_assign (d := .list [rowD (.Lt, .Gt, a1), rowD (.Lt, .LtE, a2), rowD (.Lt, .GtE, a3)]) (by walk_at "st") (EvN.ev (evn_list (evas_cons (ev_tuple (evas_cons ev_str (evas_cons ev_str (evas_cons (ev_gfn F.f1 (by walk_at "gk")) evas_nil))) (by simp)) (evas_cons (ev_tuple (evas_cons ev_str (evas_cons ev_str (evas_cons (ev_gfn F.f2 (by walk_at "gk")) evas_nil))) (by simp)) (evas_cons (ev_tuple (evas_cons ev_str (evas_cons ev_str (evas_cons (ev_gfn F.f3 (by walk_at "gk")) evas_nil))) (by simp)) evas_nil))) (by simp))) ?_ (by rfl)))
    refine exA_cons (Ex1.toA (ex_assign (d := .list ([rowD (.Lt, .Gt, a1), rowD (.Lt, .LtE, a2), rowD (.Lt, .GtE, a3)] ++ [rowD (.LtE, .Lt, a5), rowD (.LtE, .Gt, a6), rowD (.LtE, .GtE, a4)])) (by walk_at "st") (EvN.ev (evn_add (ds := [rowD (.Lt, .Gt, a1), rowD (.Lt, .LtE, a2), rowD (.Lt, .GtE, a3)]) (es := [rowD (.LtE, .Lt, a5), rowD (.LtE, .Gt, a6), rowD (.LtE, .GtE, a4)]) (by walk_at "ev") (EvN.ev (evn_list (evas_cons (ev_tuple (evas_cons ev_str (evas_cons ev_str (evas_cons (ev_gfn F.f5 (by walk_at "gk")) evas_nil))) (by simp)) (evas_cons (ev_tuple (evas_cons ev_str (evas_cons ev_str (evas_cons (ev_gfn F.f6 (by walk_at "gk")) evas_nil))) (by simp)) (evas_cons (ev_tuple (evas_cons ev_str (evas_cons ev_str (evas_cons (ev_gfn F.f4 (by walk_at "gk")) evas_nil))) (by simp)) evas_nil))) (by simp))) (by simp))) ?_ (by rfl)))
    refine exA_cons (Ex1.toA (ex_assign (d := .list (([rowD (.Lt, .Gt, a1), rowD (.Lt, .LtE, a2), rowD (.Lt, .GtE, a3)] ++ [rowD (.LtE, .Lt, a5), rowD (.LtE, .Gt, a6), rowD (.LtE, .GtE, a4)]) ++ [rowD (.Gt, .Lt, a7), rowD (.Gt, .LtE, a9), rowD (.Gt, .GtE, a8)])) (by walk_at "st") (EvN.ev (evn_add (ds := ([rowD (.Lt, .Gt, a1), rowD (.Lt, .LtE, a2), rowD (.Lt, .GtE, a3)] ++ [rowD (.LtE, .Lt, a5), rowD (.LtE, .Gt, a6), rowD (.LtE, .GtE, a4)])) (es := [rowD (.Gt, .Lt, a7), rowD (.Gt, .LtE, a9), rowD (.Gt, .GtE, a8)]) (by walk_at "ev") (EvN.ev (evn_list (evas_cons (ev_tuple (evas_cons ev_str (evas_cons ev_str (evas_cons (ev_gfn F.f7 (by walk_at "gk")) evas_nil))) (by simp)) (evas_cons (ev_tuple (evas_cons ev_str (evas_cons ev_str (evas_cons (ev_gfn F.f9 (by walk_at "gk")) evas_nil))) (by simp)) (evas_cons (ev_tuple (evas_cons ev_str (evas_cons ev_str (evas_cons (ev_gfn F.f8 (by walk_at "gk")) evas_nil))) (by simp)) evas_nil))) (by simp))) (by simp))) ?_ (by rfl)))
    refine exA_cons (Ex1.toA (ex_assign (d := .list ((([rowD (.Lt, .Gt, a1), rowD (.Lt, .LtE, a2), rowD (.Lt, .GtE, a3)] ++ [rowD (.LtE, .Lt, a5), rowD (.LtE, .Gt, a6), rowD (.LtE, .GtE, a4)]) ++ [rowD (.Gt, .Lt, a7), rowD (.Gt, .LtE, a9), rowD (.Gt, .GtE, a8)]) ++ [rowD (.GtE, .Lt, a12), rowD (.GtE, .LtE, a10), rowD (.GtE, .Gt, a11)])) (by walk_at "st") (EvN.ev (evn_add (ds := (([rowD (.Lt, .Gt, a1), rowD (.Lt, .LtE, a2), rowD (.Lt, .GtE, a3)] ++ [rowD (.LtE, .Lt, a5), rowD (.LtE, .Gt, a6), rowD (.LtE, .GtE, a4)]) ++ [rowD (.Gt, .Lt, a7), rowD (.Gt, .LtE, a9), rowD (.Gt, .GtE, a8)])) (es := [rowD (.GtE, .Lt, a12), rowD (.GtE, .LtE, a10), rowD (.GtE, .Gt, a11)]) (by walk_at "ev") (EvN.ev (evn_list (evas_cons (ev_tuple (evas_cons ev_str (evas_cons ev_str (evas_cons (ev_gfn F.f12 (by walk_at "gk")) evas_nil))) (by simp)) (evas_cons (ev_tuple (evas_cons ev_str (evas_cons ev_str (evas_cons (ev_gfn F.f10 (by walk_at "gk")) evas_nil))) (by simp)) (evas_cons (ev_tuple (evas_cons ev_str (evas_cons ev_str (evas_cons (ev_gfn F.f11 (by walk_at "gk")) evas_nil))) (by simp)) evas_nil))) (by simp))) (by simp))) ?_ (by rfl)))
    refine exA_cons (Ex1.toA (ex_assign (d := .list (D.ofInts nb)) (by walk_at "st") (ev_eq (EvN.ev (evn_add (ev_calld Fh (by walk_at "gk") (ds := [.list (D.ofInts l)]) (by walk_at "as") (heaps_spec fr Fh hl)) (ds := D.ofInts (heapsI 3 l)) (es := D.ofInts [12, 8, 3, 10, 6, 11]) (EvN.ev (evn_list (by walk_at "as") (by decide))) (by simp [ofInts_length, heapsI_length]; omega))) (by rw [ofInts_append, hnb])) ?_ (by rfl)))
    refine exA_cons (Ex1.toA (ex_assign (d := .list (nb.map fun n => D.of (thingP n))) (by walk_at "st") (ev_eq (EvN.ev (evn_comp (ds := nb) [] D.int (fun _ => true) (fun n => D.of (thingP n)) (compOk_of fe rfl (by decide +kernel) (by decide +kernel) (by decide +kernel) (by decide +kernel)) (by omega) (evit_list (by walk_at "ev")) ?_)) ?_) ?_ (swaps_false (fe.cell (by decide +kernel)))))
    · intro cenv ce k hk
      exact ⟨_, asg_name (by walk_at "st"), SubL.get (τ := []) trivial, tsts_nil, fun _ => ev_calld Ft (by walk_at "gk") (ds := [.int k]) (by walk_at "as") (thing_spec fr Ft)⟩
    · rw [filt_true]
    refine exA_cons (Ex1.toA (ex_assign (d := .list (nb.map fun n => kD (kindP n))) (by walk_at "st") (ev_eq (EvN.ev (evn_comp (ds := nb) [] D.int (fun _ => true) (fun n => kD (kindP n)) (compOk_of fe rfl (by decide +kernel) (by decide +kernel) (by decide +kernel) (by decide +kernel)) (by omega) (evit_list (by walk_at "ev")) ?_)) ?_) ?_ (swaps_false (fe.cell (by decide +kernel)))))
    · intro cenv ce k hk
      exact ⟨_, asg_name (by walk_at "st"), SubL.get (τ := []) trivial, tsts_nil, fun _ => ev_calld Fk (by walk_at "gk") (ds := [.int k]) (by walk_at "as") (kind_spec fr Fk)⟩
    · rw [filt_true]
    refine exA_sub (τ := [("made", .val (.list ((mades a1 a2 a3 a4 a5 a6 a7 a8 a9 a10 a11 a12).map rowD))), ("numbers", .val (.list (D.ofInts nb))), ("things", .val (.list (nb.map fun n => D.of (thingP n)))), ("kinds", .val (.list (nb.map fun n => kD (kindP n))))]) ⟨rfl, rfl, rfl, rfl, trivial⟩ ?_
    refine exA_cons (ex1A_forS (fun _ => [("made", .val (.list ((mades a1 a2 a3 a4 a5 a6 a7 a8 a9 a10 a11 a12).map rowD))), ("numbers", .val (.list (D.ofInts nb))), ("things", .val (.list (nb.map fun n => D.of (thingP n)))), ("kinds", .val (.list (nb.map fun n => kD (kindP n))))]) (evit_range (a := 0) (b := ((D.ofInts nb).length : Int)) (ev_rng1 fr (by walk_at "gk") (by walk_at "w")) (by omega) (by omega) (by omega) (by omega)) ⟨rfl, rfl, rfl, rfl, trivial⟩ ?_ ?_)
    rotate_left
    · intro υ hυ
      refine (exA_sub hυ (Ex.toA (ex_cons (ex_return (Ev.ret (by walk_at "ev")) ?_))))
      rfl
    intro pre d post e
    obtain ⟨rfl, hk⟩ := rngD_split e
    refine ⟨_, asg_name (by walk_at "st"), ?_⟩
    generalize hc0 : pre.length = c at hk ⊢
    have hc : c < nb.length := by omega
    rw [Int.zero_add]
    refine exA_cons (Ex1.toA (ex_assign (d := .list (D.ofInts (headI c))) (by walk_at "st") (ev_eq (ev_listrange fr (by walk_at "gk") (ev_rng1 fr (by walk_at "gk") (by walk_at "w")) (Int.fmod_nonneg_of_pos _ (by decide)) (by have := Int.fmod_lt_of_pos (c : Int) (b := 3) (by decide); omega)) (by rw [headI_D])) ?_ (by rfl)))
    have hhl := headI_len c
    have hhd : (D.ofInts (headI c)).length ≤ 2 := by rw [ofInts_length]; exact hhl
    refine exA_cons (Ex1.toA (ex_assign (d := .list (D.ofInts (headI c ++ [(c : Int), (c : Int) - 1]))) (by walk_at "st") (ev_eq (EvN.ev (evn_add (es := D.ofInts [(c : Int), (c : Int) - 1]) (by walk_at "ev") (EvN.ev (evn_list (by walk_at "as") (by simp [D.ofInts]))) (by simp [ofInts_length]; omega))) (by rw [ofInts_append])) ?_ (by rfl)))
    refine exA_cons (ex1A_forS (ds := (lr c).map lrD) (fun _ => [("made", .val (.list ((mades a1 a2 a3 a4 a5 a6 a7 a8 a9 a10 a11 a12).map rowD))), ("numbers", .val (.list (D.ofInts nb))), ("things", .val (.list (nb.map fun n => D.of (thingP n)))), ("kinds", .val (.list (nb.map fun n => kD (kindP n))))]) (evit_list (EvN.ev (evn_list (evas_cons (ev_tuple (evas_cons (ev_eq (EvN.ev (evn_add (es := D.ofInts [(c : Int)]) (by walk_at "ev") (EvN.ev (evn_list (by walk_at "as") (by simp [D.ofInts]))) (by simp [ofInts_length]; omega))) (by rw [ofInts_append])) (evas_cons (ev_eq (EvN.ev (evn_add (es := D.ofInts [(c : Int) - 1]) (by walk_at "ev") (EvN.ev (evn_list (by walk_at "as") (by simp [D.ofInts]))) (by simp [ofInts_length]; omega))) (by rw [ofInts_append])) evas_nil)) (by simp)) (evas_cons (ev_tuple (evas_cons (ev_eq (EvN.ev (evn_add (es := D.ofInts [(c : Int)]) (by walk_at "ev") (EvN.ev (evn_list (by walk_at "as") (by simp [D.ofInts]))) (by simp [ofInts_length]; omega))) (by rw [ofInts_append])) (evas_cons (by walk_at "ev") evas_nil)) (by simp)) (evas_cons (ev_tuple (evas_cons (by walk_at "ev") (evas_cons (by walk_at "ev") evas_nil)) (by simp)) evas_nil))) (by simp [lr])))) ⟨rfl, rfl, rfl, rfl, trivial⟩ ?_ ?_)
    rotate_left
    · intro υ hυ
      exact exA_sub hυ (exA_nil ⟨rfl, rfl, rfl, rfl, trivial⟩)
    intro pre d post e
    obtain ⟨z, hz, rfl, ht⟩ := map_split e
    obtain ⟨hin1, hin2, hl1, hl2⟩ := lr_in c nb.length (by omega) hc z (List.mem_of_getElem? hz)
    obtain ⟨li, ri⟩ := z
    dsimp only at hin1 hin2 hl1 hl2
    refine ⟨_, asg_tuple (ds := [.list (D.ofInts li), .list (D.ofInts ri)]) (asgs_cons (asg_name (by walk_at "st")) (asgs_cons (asg_name (by walk_at "st")) asgs_nil)), ?_⟩
    have hone : ∀ {e₁ e₂ : Expr}, True := trivial
    generalize hxs : li.map (numI nb) = xs
    generalize hys : ri.map (numI nb) = ys
    have hxl : xs.length ≤ 4 := by rw [← hxs, List.length_map]; exact hl1
    have hyl : ys.length ≤ 4 := by rw [← hys, List.length_map]; exact hl2
    have kln : ∀ zs : List Int, ∀ k ∈ zs.map kindP, (S k.1).length ≤ 20 := fun zs k hk => by
      obtain ⟨n, _, rfl⟩ := List.mem_map.mp hk
      exact kind_len n
    refine exA_cons (Ex1.toA (ex_assign (d := toldD (told (xs.map kindP) (ys.map kindP))) (by walk_at "st") (ev_calld Fd (by walk_at "gk") (ds := [.list ((xs.map kindP).map kD), .list ((ys.map kindP).map kD)]) (evas_cons (ev_eq (EvN.ev (evn_comp (ds := li) ["kinds"] D.int (fun _ => true) (fun k => kD (kindP (numI nb k))) (compOk_of fe rfl (by decide +kernel) (by decide +kernel) (by decide +kernel) (by decide +kernel)) (by omega) (evit_list (by walk_at "ev")) ?_)) ?_) (evas_cons (ev_eq (EvN.ev (evn_comp (ds := ri) ["kinds"] D.int (fun _ => true) (fun k => kD (kindP (numI nb k))) (compOk_of fe rfl (by decide +kernel) (by decide +kernel) (by decide +kernel) (by decide +kernel)) (by omega) (evit_list (by walk_at "ev")) ?_)) ?_) evas_nil)) (told_spec fr Fd (kln xs) (kln ys) (by simp; omega) (by simp; omega))) ?_ (by rfl)))
    · intro cenv ce k hk
      refine ⟨_, asg_name (by walk_at "st"), SubL.get (τ := [("kinds", .val (.list (nb.map fun n => kD (kindP n))))]) ⟨rfl, trivial⟩, tsts_nil, fun _ => ev_item (ds := nb.map fun n => kD (kindP n)) (k := k) (by walk_at "ev") (by walk_at "w") (by rw [List.length_map]; exact (hin1 k hk).1) (by rw [List.length_map]; exact (hin1 k hk).2) (by rw [List.length_map]; omega) ?_⟩
      rw [List.length_map]; exact get_map nb (fun n => kD (kindP n)) (place_lt (hin1 k hk))
    · rw [filt_true, ← hxs, List.map_map, List.map_map]; rfl
    · intro cenv ce k hk
      refine ⟨_, asg_name (by walk_at "st"), SubL.get (τ := [("kinds", .val (.list (nb.map fun n => kD (kindP n))))]) ⟨rfl, trivial⟩, tsts_nil, fun _ => ev_item (ds := nb.map fun n => kD (kindP n)) (k := k) (by walk_at "ev") (by walk_at "w") (by rw [List.length_map]; exact (hin2 k hk).1) (by rw [List.length_map]; exact (hin2 k hk).2) (by rw [List.length_map]; omega) ?_⟩
      rw [List.length_map]; exact get_map nb (fun n => kD (kindP n)) (place_lt (hin2 k hk))
    · rw [filt_true, ← hys, List.map_map, List.map_map]; rfl
    refine exA_cons (Ex1.toA (ex_assign_comp (ds := li) ["things"] D.int (fun _ => true) (fun k => D.of (thingP (numI nb k))) (compOk_of fe rfl (by decide +kernel) (by decide +kernel) (by decide +kernel) (by decide +kernel)) (by omega) (evit_list (by walk_at "ev")) ?_ (fe.loc (by decide +kernel)) (swaps_true (by rw [fe.scope]; rfl) (fe.loc (by decide +kernel)) (by decide) (by decide +kernel)) ?_))
    · intro cenv ce k hk
      refine ⟨_, asg_name (by walk_at "st"), SubL.get (τ := [("things", .val (.list (nb.map fun n => D.of (thingP n))))]) ⟨rfl, trivial⟩, tsts_nil, fun _ => ev_item (ds := nb.map fun n => D.of (thingP n)) (k := k) (by walk_at "ev") (by walk_at "w") (by rw [List.length_map]; exact (hin1 k hk).1) (by rw [List.length_map]; exact (hin1 k hk).2) (by rw [List.length_map]; omega) ?_⟩
      rw [List.length_map]; exact get_map nb (fun n => D.of (thingP n)) (place_lt (hin1 k hk))
    refine exA_freeze (x := "one") (d := lD xs) rfl (by rw [filt_true, ← hxs, lD, ofAll_map, List.map_map, List.map_map]; rfl) ?_
    refine exA_cons (Ex1.toA (ex_assign_comp (ds := ri) ["things"] D.int (fun _ => true) (fun k => D.of (thingP (numI nb k))) (compOk_of fe rfl (by decide +kernel) (by decide +kernel) (by decide +kernel) (by decide +kernel)) (by omega) (evit_list (by walk_at "ev")) ?_ (fe.loc (by decide +kernel)) (swaps_true (by rw [fe.scope]; rfl) (fe.loc (by decide +kernel)) (by decide) (by decide +kernel)) ?_))
    · intro cenv ce k hk
      refine ⟨_, asg_name (by walk_at "st"), SubL.get (τ := [("things", .val (.list (nb.map fun n => D.of (thingP n))))]) ⟨rfl, trivial⟩, tsts_nil, fun _ => ev_item (ds := nb.map fun n => D.of (thingP n)) (k := k) (by walk_at "ev") (by walk_at "w") (by rw [List.length_map]; exact (hin2 k hk).1) (by rw [List.length_map]; exact (hin2 k hk).2) (by rw [List.length_map]; omega) ?_⟩
      rw [List.length_map]; exact get_map nb (fun n => D.of (thingP n)) (place_lt (hin2 k hk))
    refine exA_freeze (x := "two") (d := lD ys) rfl (by rw [filt_true, ← hys, lD, ofAll_map, List.map_map, List.map_map]; rfl) ?_
    refine exA_cons (Ex1.toA (ex_assign (d := tabD B []) (by walk_at "st") ev_tab0 ?_ (by rfl)))
    have h8 := all8 fr (n := n + 1) F xs ys
    have hw := told_len (xs.map kindP) (ys.map kindP)
    generalize told (xs.map kindP) (ys.map kindP) = tl at h8 hw ⊢
    cases tl with
    | words w =>
      have hwl := hw w (kln xs) (kln ys) rfl
      refine exA_ifJ (t := false) [("made", .val (.list ((mades a1 a2 a3 a4 a5 a6 a7 a8 a9 a10 a11 a12).map rowD))), ("numbers", .val (.list (D.ofInts nb))), ("things", .val (.list (nb.map fun n => D.of (thingP n)))), ("kinds", .val (.list (nb.map fun n => kD (kindP n)))), ("one", .val (lD xs)), ("two", .val (lD ys)), ("told", .val (.str w)), ("says", .val (tabD B []))] (tst_eq (tst_cmp (Ev.weak (ev_type fr (by walk_at "gk") (by walk_at "w") ty_str)) (Ev.weak (ev_boot (bn fr (by walk_at "gk") boot_str) rfl)) cmp_isnot_type) (by decide +kernel)) (fun h => nomatch h) (fun _ => ex_nil ⟨rfl, rfl, rfl, rfl, rfl, rfl, rfl, rfl, trivial⟩) ?_
      refine exA_cons (ex1A_forS (fun _ => [("made", .val (.list ((mades a1 a2 a3 a4 a5 a6 a7 a8 a9 a10 a11 a12).map rowD))), ("numbers", .val (.list (D.ofInts nb))), ("things", .val (.list (nb.map fun n => D.of (thingP n)))), ("kinds", .val (.list (nb.map fun n => kD (kindP n)))), ("one", .val (lD xs)), ("two", .val (lD ys)), ("told", .val (.str w)), ("says", .val (tabD B []))]) (evit_list (by walk_at "ev")) ⟨rfl, rfl, rfl, rfl, rfl, rfl, rfl, rfl, trivial⟩ ?_ ?_)
      rotate_left
      · intro υ hυ
        exact exA_sub hυ (exA_nil ⟨rfl, rfl, rfl, rfl, trivial⟩)
      intro pre d post e
      obtain ⟨z, hz, rfl, ht⟩ := map_split e
      have hzm := List.mem_of_getElem? hz
      have hmo := mades_op z hzm
      have hz8 := (h8 z hzm).2 w rfl
      obtain ⟨ro, so, za⟩ := z
      dsimp only at hmo hz8
      refine ⟨_, asg_tuple (ds := [.str (S (symT ro)), .str (S (symT so)), .val (.ref za)]) (asgs_cons (asg_name (by walk_at "st")) (asgs_cons (asg_name (by walk_at "st")) (asgs_cons (asg_name (by walk_at "st")) asgs_nil))), ?_⟩
      refine exA_cons (Ex1.toA (ex_assign (d := .str (quoteS ro ++ w)) (by walk_at "st") (ev_ifexp (t := false) (tst_eq (tst_cmp (by walk_at "w") (by walk_at "w") cmp_in_tab) rfl) (fun h => nomatch h) fun _ => ev_bin (Ev.weak (ev_bin (Ev.weak (ev_bin (by walk_at "w") (by walk_at "w") (bin_addS ?_))) (by walk_at "w") (bin_addS ?_))) (by walk_at "w") (bin_addS ?_)) ?_ (by rfl)))
      · have : (S "'").length = 1 := by decide +kernel
        omega
      · have : (S "'").length = 1 := by decide +kernel
        rw [strLen]; omega
      · have : (S "'").length = 1 := by decide +kernel
        rw [strLen, strLen]; omega
      refine exA_cons (ex_try_err fr hfr hf rfl rfl rfl rfl (fe.loc (by decide +kernel)) (by walk_at "st") (by walk_at "gk") (by walk_at "gk") hz8 ?_)
      refine exA_ifJ (t := false) [("made", .val (.list ((mades a1 a2 a3 a4 a5 a6 a7 a8 a9 a10 a11 a12).map rowD))), ("numbers", .val (.list (D.ofInts nb))), ("things", .val (.list (nb.map fun n => D.of (thingP n)))), ("kinds", .val (.list (nb.map fun n => kD (kindP n)))), ("one", .val (lD xs)), ("two", .val (lD ys)), ("told", .val (.str w)), ("says", .val (tabD B []))] (tst_or (t := false) (u := false) (tst_cmp (by walk_at "w") (by walk_at "w") cmp_ne_sameS) fun _ => tst_eq (tst_cmp (Ev.weak (ev_type fr (by walk_at "gk") (by walk_at "w") ty_str)) (Ev.weak (ev_type fr (by walk_at "gk") (by walk_at "w") ty_str)) cmp_isnot_type) (by decide +kernel)) (fun h => nomatch h) (fun _ => ex_nil ⟨rfl, rfl, rfl, rfl, rfl, rfl, rfl, rfl, trivial⟩) (exA_nil ⟨rfl, rfl, rfl, rfl, rfl, rfl, rfl, rfl, trivial⟩)
    | diff d =>
      refine exA_ifJ (t := true) [("made", .val (.list ((mades a1 a2 a3 a4 a5 a6 a7 a8 a9 a10 a11 a12).map rowD))), ("numbers", .val (.list (D.ofInts nb))), ("things", .val (.list (nb.map fun n => D.of (thingP n)))), ("kinds", .val (.list (nb.map fun n => kD (kindP n)))), ("one", .val (lD xs)), ("two", .val (lD ys)), ("says", .val (tabD B (saysV d)))] (tst_eq (tst_cmp (Ev.weak (ev_type fr (by walk_at "gk") (by walk_at "w") ty_int)) (Ev.weak (ev_boot (bn fr (by walk_at "gk") boot_str) rfl)) cmp_isnot_type) (by decide +kernel)) (fun _ => ex_cons (ex_assign (d := tabD B (saysV d)) (by walk_at "st") (ev_tab4 (by walk_at "w") (by walk_at "w") (by walk_at "w") (by walk_at "w") (by walk_at "w") (by walk_at "w") (by walk_at "w") (by walk_at "w") (by decide +kernel)) (ex_nil ⟨rfl, rfl, rfl, rfl, rfl, rfl, rfl, trivial⟩) (by rfl))) (fun h => nomatch h) ?_
      refine exA_cons (ex1A_forS (fun _ => [("made", .val (.list ((mades a1 a2 a3 a4 a5 a6 a7 a8 a9 a10 a11 a12).map rowD))), ("numbers", .val (.list (D.ofInts nb))), ("things", .val (.list (nb.map fun n => D.of (thingP n)))), ("kinds", .val (.list (nb.map fun n => kD (kindP n)))), ("one", .val (lD xs)), ("two", .val (lD ys)), ("says", .val (tabD B (saysV d)))]) (evit_list (by walk_at "ev")) ⟨rfl, rfl, rfl, rfl, rfl, rfl, rfl, trivial⟩ ?_ ?_)
      rotate_left
      · intro υ hυ
        exact exA_sub hυ (exA_nil ⟨rfl, rfl, rfl, rfl, trivial⟩)
      intro pre d' post e
      obtain ⟨z, hz, rfl, ht⟩ := map_split e
      have hzm := List.mem_of_getElem? hz
      have hmo := mades_op z hzm
      have hz8 := (h8 z hzm).1 d rfl
      obtain ⟨ro, so, za⟩ := z
      dsimp only at hmo hz8
      have hsa := says_at d so hmo.1
      refine ⟨_, asg_tuple (ds := [.str (S (symT ro)), .str (S (symT so)), .val (.ref za)]) (asgs_cons (asg_name (by walk_at "st")) (asgs_cons (asg_name (by walk_at "st")) (asgs_cons (asg_name (by walk_at "st")) asgs_nil))), ?_⟩
      refine exA_cons (Ex1.toA (ex_assign (d := .bool (opI so d 0)) (by walk_at "st") (ev_ifexp (t := true) (tst_eq (tst_cmp (by walk_at "w") (by walk_at "w") cmp_in_tab) (by rw [hsa]; rfl)) (fun _ => ev_itemTab (by walk_at "ev") (by walk_at "w") hsa) fun h => nomatch h) ?_ (by rfl)))
      refine exA_cons (Ex1.toA (ex_try_val (ex_cons (ex_assign (d := .bool (opI so d 0)) (by walk_at "st") (ev_callv (a := za) rfl (ds := [lD xs, lD ys]) (by walk_at "as") hz8) (ex_nil ?_) (by rfl)))))
      refine exA_ifJ (t := false) [("made", .val (.list ((mades a1 a2 a3 a4 a5 a6 a7 a8 a9 a10 a11 a12).map rowD))), ("numbers", .val (.list (D.ofInts nb))), ("things", .val (.list (nb.map fun n => D.of (thingP n)))), ("kinds", .val (.list (nb.map fun n => kD (kindP n)))), ("one", .val (lD xs)), ("two", .val (lD ys)), ("says", .val (tabD B (saysV d)))] (tst_or (t := false) (u := false) (tst_eq (tst_cmp (by walk_at "w") (by walk_at "w") cmp_ne_bool) (by simp)) fun _ => tst_eq (tst_cmp (Ev.weak (ev_type fr (by walk_at "gk") (by walk_at "w") ty_bool)) (Ev.weak (ev_type fr (by walk_at "gk") (by walk_at "w") ty_bool)) cmp_isnot_type) (by decide +kernel)) (fun h => nomatch h) (fun _ => ex_nil ⟨rfl, rfl, rfl, rfl, rfl, rfl, rfl, trivial⟩) (exA_nil ⟨rfl, rfl, rfl, rfl, rfl, rfl, rfl, trivial⟩)

theorem ints_rp {h : Heap} {X : Addr → Prop} : ∀ {vs : List Value} {ns : List Int}, IntsAre vs ns → RpAll h X vs (D.ofInts ns)
  | _, _, .nil => .nil
  | _, _, .cons n t r => .cons (.int n t) (ints_rp r)

theorem has_of {p : Program} {loose : List Str} {mean : ExcName → Option Value} {mg mb : Str → Option Value} {h : Heap} (prog : Program) (w : World) (T : Top p loose mean mg mb h) (x : String) (i : Nat) (f : Def)
    (hd : (recsOf p)[i]?.map (fun d => (d.name, d.params, d.body, d.scope)) = some (f.name, f.params, f.body, f.scope)) (hn : f.name = S x) : ∃ a, HasDef ⟨prog, w, h, mg, mb⟩ x a f := by
  obtain ⟨d, hd1, hd2⟩ := Option.map_eq_some_iff.mp hd
  simp only [Prod.mk.injEq] at hd2
  obtain ⟨h1, h2, h3, h4⟩ := hd2
  obtain ⟨a, o, pm, code, doc, e1, e2, e3, e4⟩ := T.fn d (List.mem_of_getElem? hd1)
  refine ⟨a, ⟨by rw [← hn, ← h1]; exact e1, ⟨o, pm, code, doc, e2, ?_, ?_⟩⟩⟩
  · rw [e3, h1, h2, h3, h4]
  · rw [← h1]; exact e4
theorem free_of {p : Program} {loose : List Str} {mean : ExcName → Option Value} {mg mb : Str → Option Value} {h : Heap} (prog : Program) (w : World) (T : Top p loose mean mg mb h)
    (hc : (bnames.all fun x => !(startupNames.contains (S x) || loose.contains (S x) || ((recsOf p).map (·.name)).contains (S x) || ((litsOf p).map (·.1)).contains (S x) || ((clssOf p loose).map (·.name)).contains (S x))) = true) : Free ⟨prog, w, h, mg, mb⟩ := by
  intro x hx
  have := List.all_eq_true.mp hc x hx
  simp only [Bool.not_eq_true', Bool.or_eq_false_iff] at this
  obtain ⟨⟨⟨⟨a, b⟩, c⟩, d⟩, e⟩ := this
  have nc : ∀ {l : List Str}, l.contains (S x) = false → S x ∉ l := fun h hm => by rw [List.contains_iff_mem.mpr hm] at h; cases h
  exact T.free (S x) (nc a) (nc b) (nc c) (nc d) (nc e)

end Mine
open Mine
set_option maxHeartbeats 8000000 in
theorem PySem.Challenge.cw_dm0115_08_holds : PySem.Challenge.rw_dm0115_08.Holds := by
  w_on; o_law; k_head; (case hw => w_witness2)
  k_fill
  intro w s₀ s₁ mg mb G Y fa o pm cd doc dV kV ho hd hcd hD hmg hg args vals aas hpre hlay hrd hwl hlo
  refine Ground.open G ?_
  intro T B D TE TW
  wrow_args hpre hlay hrd hwl hlo
  rename_i ns _ _ _ _ _ _ _ la vs _ hl _ _ _ hI _ hlen _
  have e1 := Dflts.none hD rfl
  have e2 := Dflts.noKw hD
  subst e1; subst e2
  obtain ⟨a1, H1⟩ := has_of PySem.Challenge.rw_dm0115_08.row.prog w T "_gt_from_lt" 0 (defAt pw 1) (by kernel_rfl) rfl
  obtain ⟨a2, H2⟩ := has_of PySem.Challenge.rw_dm0115_08.row.prog w T "_le_from_lt" 1 (defAt pw 2) (by kernel_rfl) rfl
  obtain ⟨a3, H3⟩ := has_of PySem.Challenge.rw_dm0115_08.row.prog w T "_ge_from_lt" 2 (defAt pw 3) (by kernel_rfl) rfl
  obtain ⟨a4, H4⟩ := has_of PySem.Challenge.rw_dm0115_08.row.prog w T "_ge_from_le" 3 (defAt pw 4) (by kernel_rfl) rfl
  obtain ⟨a5, H5⟩ := has_of PySem.Challenge.rw_dm0115_08.row.prog w T "_lt_from_le" 4 (defAt pw 5) (by kernel_rfl) rfl
  obtain ⟨a6, H6⟩ := has_of PySem.Challenge.rw_dm0115_08.row.prog w T "_gt_from_le" 5 (defAt pw 6) (by kernel_rfl) rfl
  obtain ⟨a7, H7⟩ := has_of PySem.Challenge.rw_dm0115_08.row.prog w T "_lt_from_gt" 6 (defAt pw 7) (by kernel_rfl) rfl
  obtain ⟨a8, H8⟩ := has_of PySem.Challenge.rw_dm0115_08.row.prog w T "_ge_from_gt" 7 (defAt pw 8) (by kernel_rfl) rfl
  obtain ⟨a9, H9⟩ := has_of PySem.Challenge.rw_dm0115_08.row.prog w T "_le_from_gt" 8 (defAt pw 9) (by kernel_rfl) rfl
  obtain ⟨a10, H10⟩ := has_of PySem.Challenge.rw_dm0115_08.row.prog w T "_le_from_ge" 9 (defAt pw 10) (by kernel_rfl) rfl
  obtain ⟨a11, H11⟩ := has_of PySem.Challenge.rw_dm0115_08.row.prog w T "_gt_from_ge" 10 (defAt pw 11) (by kernel_rfl) rfl
  obtain ⟨a12, H12⟩ := has_of PySem.Challenge.rw_dm0115_08.row.prog w T "_lt_from_ge" 11 (defAt pw 12) (by kernel_rfl) rfl
  obtain ⟨x0, X0⟩ := has_of PySem.Challenge.rw_dm0115_08.row.prog w T "_law_heaps" 12 (defAt pw 14) (by kernel_rfl) rfl
  obtain ⟨x1, X1⟩ := has_of PySem.Challenge.rw_dm0115_08.row.prog w T "_law_thing" 13 (defAt pw 15) (by kernel_rfl) rfl
  obtain ⟨x2, X2⟩ := has_of PySem.Challenge.rw_dm0115_08.row.prog w T "_law_kind" 14 (defAt pw 16) (by kernel_rfl) rfl
  obtain ⟨x3, X3⟩ := has_of PySem.Challenge.rw_dm0115_08.row.prog w T "_law_told" 15 (defAt pw 17) (by kernel_rfl) rfl
  have fr := free_of PySem.Challenge.rw_dm0115_08.row.prog w T (by decide +kernel)
  have bo : Bas.Ok ⟨PySem.Challenge.rw_dm0115_08.row.prog, w, s₁.heap, mg, mb⟩ := ⟨T.g, T.b, T.builtins, T.nolimit⟩
  refine law_spec fr (n := 3) (A := callerA) rfl ⟨H1, H2, H3, H4, H5, H6, H7, H8, H9, H10, H11, H12⟩ X0 X1 X2 X3 (a := fa) ⟨o, pm, cd, doc, ho, hd, hcd⟩ (l := ns) (by omega) (fun _ => False) s₁ _ _ [.ref la] bo ⟨rfl, by decide, by decide⟩ (fun _ _ e => e) (fun _ q => q.elim) (.cons (.list hl id (ints_rp hI)) .nil) fun v s' k r => ?_
  cases rp_val r
  obtain ⟨h', tk, rfl, k⟩ := k
  exact GoodW.toG ⟨.inl ⟨.bool true, .bool true, [], rfl, (fun cls => by rfl), ReadsW.bool true, (postW_of (by rfl) (w_eq_bool (w_res rfl) w_lit) (by rfl)), unshared_nil⟩, k, rfl, hg⟩

